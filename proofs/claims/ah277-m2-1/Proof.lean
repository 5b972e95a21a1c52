import JvmDerived
import JvmDerived.Pilot.@@N@@Statement
import JvmDerived.Pilot.@@N@@Code
set_option linter.unusedVariables false
set_option linter.unusedSimpArgs false
@@BLOCK:LamKit.lean.txt@@
namespace Jvm.RoadKit
open Sem ClassFile Op Lib Jvm.Stand Jvm.Free Jvm.LawKit
section Own
variable {p : Program} {l : Launch} {e : Env} {R : Room} {s : State} {m : MethodId} {args : Array Value} {below : List Frame} {meth : Method} {c : Code} {T : State} {locs : List Loc} {cells slots : Nat} {Z : State} {h : Heap} {a : Addr} {k : ClassId} {n j : Int32} {vs : List Value} {dv : Value} {ty : FieldType}
theorem own_retI (X : Stand p l e R s m args below meth c T locs cells slots) (hx : p.tables.exec = Jvm.exec) {pc : Nat} {Ls : Array Slot} {z : Int32} {rest : List Value} (hret : meth.sig.returnType = some .int) (hd : decode c.code pc = .ok (.ireturn, 1)) {fs : List Frame}
    (hl : ∀ (f : JFrame) (acts : List Action), f.method = m → f.locked = none → f.entered = [] → (doReturn e (T.setTop f) acts (some (.int z))).1 = T.setFrames fs) : Steps p.tables e below (T.setTop (mkF m pc Ls (.int z :: rest))) (T.setFrames fs) :=
  retOut X hx hret rfl (Or.inl ⟨rfl, Or.inl rfl, _, rfl⟩) hd hl
/-- the run from st ends as the contract says -/
def own_Ends (p : Program) (e : Env) (below : List Frame) (s : State) (C S : Nat) (Q : Option Value → Heap → List Loc → Prop) (st : State) : Prop :=
  ∃ s₂ o, Steps p.tables e below st s₂ ∧ s₂.status = .running ∧ Ended s₂ below o ∧ ∃ v L, o = .returned v ∧ Q v s₂.heap L ∧ FrameEnd s o s₂ L C S
theorem own_step {C S : Nat} {Q : Option Value → Heap → List Loc → Prop} {st st' : State} (f : ∀ t, Steps p.tables e below st' t → Steps p.tables e below st t) (h : own_Ends p e below s C S Q st') : own_Ends p e below s C S Q st := by
  obtain ⟨s2, o, h1, h2⟩ := h
  exact ⟨s2, o, f _ h1, h2⟩
theorem own_sstep {st st' t : State} (f : ∀ t, Steps p.tables e below st' t → Steps p.tables e below st t) (h : Steps p.tables e below st' t) : Steps p.tables e below st t := f _ h
theorem own_ret (X : Stand p l e R s m args below meth c T locs cells slots) (hlocks : meth.locks = false) {C S : Nat} {Q : Option Value → Heap → List Loc → Prop} {g : JFrame} (v : Option Value) (hv : meth.sig.returnType = none → v = none)
    (st : ∀ fs, (∀ (f : JFrame) (acts : List Action), f.method = m → f.locked = none → f.entered = [] → (doReturn e (T.setTop f) acts v).1 = T.setFrames fs) → Steps p.tables e below (T.setTop g) (T.setFrames fs))
    (hQ : Q v T.heap locs) (hc : cells ≤ C) (hs : slots ≤ S) : own_Ends p e below s C S Q (T.setTop g) := by
  obtain ⟨fs, hr, hrun, hended, hW, hsame⟩ := X.leave (v := v) hv
  exact ⟨_, _, st fs hr, hrun, hended, _, _, rfl, hQ, ⟨_, rfl⟩, hW, hsame.mono hc hs⟩
theorem own_b1 {P : Prop} [Decidable P] (hp : P) : ¬ ((if P then (1 : Int32) else (0 : Int32)) = 0) := by rw [if_pos hp]; decide
theorem own_b1n {P : Prop} [Decidable P] (hp : ¬ P) : ¬ ((if P then (0 : Int32) else (1 : Int32)) = 0) := by rw [if_neg hp]; decide
theorem own_nar01 {P : Prop} [Decidable P] : nar .boolean (if P then (0 : Int32) else (1 : Int32)) = if P then (0 : Int32) else (1 : Int32) := by split <;> rfl
theorem own_nar10 {P : Prop} [Decidable P] : nar .boolean (if P then (1 : Int32) else (0 : Int32)) = if P then (1 : Int32) else (0 : Int32) := by split <;> rfl
theorem own_lrem {tb : Tables} [Ours tb] {target : State} {g : JFrame} (ha : At T m c below) (hx : tb.exec = Jvm.exec) (hg : g.method = m) {x y : Int64} {rest : List Value} (hd : decode c.code g.pc = .ok (.lrem, 1)) (hs : g.stack = .long y :: .long x :: rest) (hy : y ≠ 0) (hr : Steps tb e below (T.setTop { g with pc := g.pc + 1, stack := .long (x % y) :: rest }) target) : Steps tb e below (T.setTop g) target :=
  XS.lrem ha hx hg hd hs hy (by rw [lrem_mod]; exact hr)
theorem own_len (X : Stand p l e R s m args below meth c T locs cells slots) (hx : p.tables.exec = Jvm.exec) (hZ : Z.Warmed39 s.vm) (eT : T.heap = h) (A : Arv Z h a k ty n vs dv) {g : JFrame} (hg : g.method = m) {rest : List Value} (hs : g.stack = .ref a :: rest) (hd : decode c.code g.pc = .ok (.arraylength, 1)) :
    ∀ target, Steps p.tables e below (T.setTop { g with pc := g.pc + 1, stack := .int n :: rest }) target → Steps p.tables e below (T.setTop g) target := by
  obtain ⟨cl, Ar, -, S, N, -, -⟩ := A
  intro t k
  refine X.arraylength hx (by rw [eT]; exact Ar.1) (State.isArrayOf_alike hZ.alike Ar.2.1) hg hs hd t ?_
  rw [len_of S N]; exact k
theorem own_ldI (X : Stand p l e R s m args below meth c T locs cells slots) (hx : p.tables.exec = Jvm.exec) (hZ : Z.Warmed39 s.vm) (eT : T.heap = h) (A : Arv Z h a k .int n vs dv) {j : Int32} {v : Value} (hj : ¬ j < 0 ∧ j < n) (hv : vs.getD j.toNatClampNeg dv = v) {g : JFrame} (hg : g.method = m) {rest : List Value} (hs : g.stack = .int j :: .ref a :: rest) (hd : decode c.code g.pc = .ok (.iaload, 1)) :
    ∀ target, Steps p.tables e below (T.setTop { g with pc := g.pc + 1, stack := v :: rest }) target → Steps p.tables e below (T.setTop g) target := by
  obtain ⟨cl, Ar, -, S, N, H, -⟩ := A
  intro t k
  exact X.iaload hx (by rw [eT]; exact Ar.1) (State.isArrayOf_alike hZ.alike Ar.2.1) Ar.2.2 (inb_of S hj) (H.at (inb_of S hj) hv) hg hs hd t k
theorem own_ldJ (X : Stand p l e R s m args below meth c T locs cells slots) (hx : p.tables.exec = Jvm.exec) (hZ : Z.Warmed39 s.vm) (eT : T.heap = h) (A : Arv Z h a k .long n vs dv) {j : Int32} {v : Value} (hj : ¬ j < 0 ∧ j < n) (hv : vs.getD j.toNatClampNeg dv = v) {g : JFrame} (hg : g.method = m) {rest : List Value} (hs : g.stack = .int j :: .ref a :: rest) (hd : decode c.code g.pc = .ok (.laload, 1)) :
    ∀ target, Steps p.tables e below (T.setTop { g with pc := g.pc + 1, stack := v :: rest }) target → Steps p.tables e below (T.setTop g) target := by
  obtain ⟨cl, Ar, -, S, N, H, -⟩ := A
  intro t k
  exact X.laload hx (by rw [eT]; exact Ar.1) (State.isArrayOf_alike hZ.alike Ar.2.1) Ar.2.2 (inb_of S hj) (H.at (inb_of S hj) hv) hg hs hd t k
theorem own_ldC (X : Stand p l e R s m args below meth c T locs cells slots) (hx : p.tables.exec = Jvm.exec) (hZ : Z.Warmed39 s.vm) (eT : T.heap = h) (A : Arv Z h a k .char n vs dv) {j : Int32} {v : Value} (hj : ¬ j < 0 ∧ j < n) (hv : vs.getD j.toNatClampNeg dv = v) {g : JFrame} (hg : g.method = m) {rest : List Value} (hs : g.stack = .int j :: .ref a :: rest) (hd : decode c.code g.pc = .ok (.caload, 1)) :
    ∀ target, Steps p.tables e below (T.setTop { g with pc := g.pc + 1, stack := v :: rest }) target → Steps p.tables e below (T.setTop g) target := by
  obtain ⟨cl, Ar, -, S, N, H, -⟩ := A
  intro t k
  exact X.caload hx (by rw [eT]; exact Ar.1) (State.isArrayOf_alike hZ.alike Ar.2.1) Ar.2.2 (inb_of S hj) (H.at (inb_of S hj) hv) hg hs hd t k
theorem own_ldB (X : Stand p l e R s m args below meth c T locs cells slots) (hx : p.tables.exec = Jvm.exec) (hZ : Z.Warmed39 s.vm) (eT : T.heap = h) (A : Arv Z h a k .byte n vs dv) {j : Int32} {v : Value} (hj : ¬ j < 0 ∧ j < n) (hv : vs.getD j.toNatClampNeg dv = v) {g : JFrame} (hg : g.method = m) {rest : List Value} (hs : g.stack = .int j :: .ref a :: rest) (hd : decode c.code g.pc = .ok (.baload, 1)) :
    ∀ target, Steps p.tables e below (T.setTop { g with pc := g.pc + 1, stack := v :: rest }) target → Steps p.tables e below (T.setTop g) target := by
  obtain ⟨cl, Ar, -, S, N, H, -⟩ := A
  intro t k
  exact X.baloadBytes hx (by rw [eT]; exact Ar.1) (State.isArrayOf_alike hZ.alike Ar.2.1) Ar.2.2 (inb_of S hj) (H.at (inb_of S hj) hv) hg hs hd t k
theorem own_stI (X : Stand p l e R s m args below meth c T locs cells slots) (hx : p.tables.exec = Jvm.exec) (hZ : Z.Warmed39 s.vm) (eT : T.heap = h) (A : Arv Z h a k .int n vs dv) {j x : Int32} {i : Nat} (hj : ¬ j < 0 ∧ j < n) (hi : j.toNatClampNeg = i) (hl : i < vs.length) {g : JFrame} (hg : g.method = m) {rest : List Value} (hs : g.stack = .int x :: .int j :: .ref a :: rest) (hd : decode c.code g.pc = .ok (.iastore, 1)) :
    ∃ T' h', Stand p l e R s m args below meth c T' (locs ++ [⟨a, j.toNatClampNeg⟩]) cells slots ∧ T'.heap = h' ∧ Wr h h' a j.toNatClampNeg (.int x) ∧ Arv Z h' a k .int n (vs.set i (.int x)) dv ∧ ∀ target, Steps p.tables e below (T'.setTop { g with pc := g.pc + 1, stack := rest }) target → Steps p.tables e below (T.setTop g) target := by
  obtain ⟨cl, Ar, q, S, N, H, G⟩ := A
  obtain ⟨T', h', X', e', W, st⟩ := stI X hx hZ eT Ar (inb_of S hj) hg hs hd
  exact ⟨T', h', X', e', W, Arv.set Ar q S N H G rfl W i hi hl, st⟩
theorem own_stJ (X : Stand p l e R s m args below meth c T locs cells slots) (hx : p.tables.exec = Jvm.exec) (hZ : Z.Warmed39 s.vm) (eT : T.heap = h) (A : Arv Z h a k .long n vs dv) {j : Int32} {x : Int64} {i : Nat} (hj : ¬ j < 0 ∧ j < n) (hi : j.toNatClampNeg = i) (hl : i < vs.length) {g : JFrame} (hg : g.method = m) {rest : List Value} (hs : g.stack = .long x :: .int j :: .ref a :: rest) (hd : decode c.code g.pc = .ok (.lastore, 1)) :
    ∃ T' h', Stand p l e R s m args below meth c T' (locs ++ [⟨a, j.toNatClampNeg⟩]) cells slots ∧ T'.heap = h' ∧ Wr h h' a j.toNatClampNeg (.long x) ∧ Arv Z h' a k .long n (vs.set i (.long x)) dv ∧ ∀ target, Steps p.tables e below (T'.setTop { g with pc := g.pc + 1, stack := rest }) target → Steps p.tables e below (T.setTop g) target := by
  obtain ⟨cl, Ar, q, S, N, H, G⟩ := A
  obtain ⟨T', h', X', e', W, st⟩ := stJ X hx hZ eT Ar (inb_of S hj) hg hs hd
  exact ⟨T', h', X', e', W, Arv.set Ar q S N H G rfl W i hi hl, st⟩
theorem own_stB (X : Stand p l e R s m args below meth c T locs cells slots) (hx : p.tables.exec = Jvm.exec) (hZ : Z.Warmed39 s.vm) (eT : T.heap = h) (A : Arv Z h a k .byte n vs dv) {j x : Int32} {i : Nat} (hj : ¬ j < 0 ∧ j < n) (hi : j.toNatClampNeg = i) (hl : i < vs.length) {g : JFrame} (hg : g.method = m) {rest : List Value} (hs : g.stack = .int x :: .int j :: .ref a :: rest) (hd : decode c.code g.pc = .ok (.bastore, 1)) :
    ∃ T' h', Stand p l e R s m args below meth c T' (locs ++ [⟨a, j.toNatClampNeg⟩]) cells slots ∧ T'.heap = h' ∧ Wr h h' a j.toNatClampNeg (.int x.toInt8.toInt32) ∧ Arv Z h' a k .byte n (vs.set i (.int x.toInt8.toInt32)) dv ∧ ∀ target, Steps p.tables e below (T'.setTop { g with pc := g.pc + 1, stack := rest }) target → Steps p.tables e below (T.setTop g) target := by
  obtain ⟨cl, Ar, q, S, N, H, G⟩ := A
  obtain ⟨T', h', X', e', W, st⟩ := stB X hx hZ eT Ar (inb_of S hj) hg hs hd
  exact ⟨T', h', X', e', W, Arv.set Ar q S N H G (fits_nar_byte x) W i hi hl, st⟩
theorem own_stC (X : Stand p l e R s m args below meth c T locs cells slots) (hx : p.tables.exec = Jvm.exec) (hZ : Z.Warmed39 s.vm) (eT : T.heap = h) (A : Arv Z h a k .char n vs dv) {j x : Int32} {i : Nat} (hj : ¬ j < 0 ∧ j < n) (hi : j.toNatClampNeg = i) (hl : i < vs.length) {g : JFrame} (hg : g.method = m) {rest : List Value} (hs : g.stack = .int x :: .int j :: .ref a :: rest) (hd : decode c.code g.pc = .ok (.castore, 1)) :
    ∃ T' h', Stand p l e R s m args below meth c T' (locs ++ [⟨a, j.toNatClampNeg⟩]) cells slots ∧ T'.heap = h' ∧ Wr h h' a j.toNatClampNeg (.int x.toUInt32.toUInt16.toUInt32.toInt32) ∧ Arv Z h' a k .char n (vs.set i (.int x.toUInt32.toUInt16.toUInt32.toInt32)) dv ∧ ∀ target, Steps p.tables e below (T'.setTop { g with pc := g.pc + 1, stack := rest }) target → Steps p.tables e below (T.setTop g) target := by
  obtain ⟨cl, Ar, q, S, N, H, G⟩ := A
  obtain ⟨T', h', X', e', W, st⟩ := stC X hx hZ eT Ar (inb_of S hj) hg hs hd
  exact ⟨T', h', X', e', W, Arv.set Ar q S N H G (fits_nar_char x) W i hi hl, st⟩
theorem own_eqI {t : Term} {q : Int32} (hq : (Jvm.Cond.eq t (.int q)).value args s none s [] = some true) : t.eval args s none [] s = some (.int q) := by
  obtain ⟨x, y, ha, hb, k1, k2⟩ := cmp_v (Or.inl hq)
  rw [Term.int_eval] at hb
  cases hb
  obtain ⟨z, rfl⟩ := k2
  simp [Cond.value, ha, Term.eval] at hq
  rw [ha, hq]
theorem own_eqR {t u : Term} {b : Addr} (hq : (Jvm.Cond.eq t u).value args s none s [] = some true) (hu : u.eval args s none [] s = some (.ref b)) : t.eval args s none [] s = some (.ref b) := by
  obtain ⟨x, y, ha, hb, k1, k2⟩ := cmp_v (Or.inl hq)
  cases hu.symm.trans hb
  have q := gotT (eq_R ha hb k2.2 rfl) hq
  rw [ha, q]
theorem own_lenA {t : Term} {cl : Cell} {q : Int32} (ht : t.eval args s none [] s = some (.ref a)) (A : Arr s s.heap a cl ty) (hq : (Term.length t).eval args s none [] s = some (.int q)) : cl.slots.size < 2 ^ 31 ∧ cl.slots.size.toInt32 = q := by
  have ha := Arr.fin (U := s) (Vm.Alike.refl _) A
  by_cases hl : cl.slots.size < 2 ^ 31
  · rw [len_f ht ha hl] at hq
    exact ⟨hl, Value.int.inj (Option.some.inj hq)⟩
  · simp [Term.eval, ht, ha, hl] at hq
theorem own_ldR (X : Stand p l e R s m args below meth c T locs cells slots) (hx : p.tables.exec = Jvm.exec) (hZ : Z.Warmed39 s.vm) (eT : T.heap = h) (A : Arv Z h a k ty n vs dv) (hr : ty.isReference = true) {j : Int32} {v : Value} (hj : ¬ j < 0 ∧ j < n) (hv : vs.getD j.toNatClampNeg dv = v) {g : JFrame} (hg : g.method = m) {rest : List Value} (hs : g.stack = .int j :: .ref a :: rest) (hd : decode c.code g.pc = .ok (.aaload, 1)) :
    ∀ target, Steps p.tables e below (T.setTop { g with pc := g.pc + 1, stack := v :: rest }) target → Steps p.tables e below (T.setTop g) target := by
  obtain ⟨cl, Ar, -, S, N, H, -⟩ := A
  intro t k
  exact X.aaload hx (by rw [eT]; exact Ar.1) (State.isArrayOf_alike hZ.alike Ar.2.1) hr Ar.2.2 (inb_of S hj) (H.at (inb_of S hj) hv) hg hs hd t k
theorem own_nf {y y' : MethodName} (hc : y'.cls = y.cls) (w : (Jvm.Cond.instanceMethod y).before args s = true) (hn : NotFace s y) : NotFace s y' := fun r0 h0 => by
  obtain ⟨mk, methM, hnamed, -⟩ := Cond.instanceMethod_spec w
  obtain ⟨kr, h1, h2⟩ := hn mk hnamed
  have q1 := findClass_of_methodNamed hnamed
  have q2 := findClass_of_methodNamed h0
  rw [hc] at q2
  have q3 : mk.cls = r0.cls := Option.some.inj (q1.symm.trans q2)
  exact ⟨kr, q3 ▸ h1, h2⟩
theorem own_selp {y : MethodName} (w : (Jvm.Cond.instanceMethod y).before args s = true) (hn : NotFace s y) (hp : s.PrivateAt y) (hy : y.cls ≠ "java/lang/invoke/MethodHandle" ∧ y.cls ≠ "java/lang/invoke/VarHandle") : (Jvm.Cond.selects y.cls y y).before args s = true := by
  obtain ⟨mk, methM, hnamed, -⟩ := Cond.instanceMethod_spec w
  obtain ⟨kr, h1, h2⟩ := hn mk hnamed
  exact selects_self_of_private (findClass_of_methodNamed hnamed) h1 h2 hp w hy
theorem own_same {y : MethodName} (w : (Jvm.Cond.instanceMethod y).before args s = true) (hn : NotFace s y) (hy : y.cls ≠ "java/lang/invoke/MethodHandle" ∧ y.cls ≠ "java/lang/invoke/VarHandle") : (Jvm.Cond.sameMethod y.cls y.cls y.name y.desc).before args s = true := by
  obtain ⟨mk, methM, hnamed, -⟩ := Cond.instanceMethod_spec w
  obtain ⟨kr, h1, h2⟩ := hn mk hnamed
  have q1 := findClass_of_methodNamed hnamed
  have q2 := State.methodFound?_of_named hnamed hy
  have q3 : s.methodNamed? ⟨y.cls, y.name, y.desc⟩ = some mk := hnamed
  simp [Cond.before, Cond.holds, Cond.value, q1, q2, q3, h1, h2]
theorem own_stR (X : Stand p l e R s m args below meth c T locs cells slots) (hx : p.tables.exec = Jvm.exec) (hZ : Z.Warmed39 s.vm) (eT : T.heap = h) (A : Arv Z h a k ty n vs dv) (hr : ty.isReference = true) {j : Int32} {v : Value} {i : Nat} (F : Sto Z h a v) (hf : fits ty v = true) (hj : ¬ j < 0 ∧ j < n) (hi : j.toNatClampNeg = i) (hl : i < vs.length) {g : JFrame} (hg : g.method = m) {rest : List Value} (hs : g.stack = v :: .int j :: .ref a :: rest) (hd : decode c.code g.pc = .ok (.aastore, 1)) :
    ∃ T' h', Stand p l e R s m args below meth c T' (locs ++ [⟨a, j.toNatClampNeg⟩]) cells slots ∧ T'.heap = h' ∧ Wr h h' a j.toNatClampNeg v ∧ Arv Z h' a k ty n (vs.set i v) dv ∧ ∀ target, Steps p.tables e below (T'.setTop { g with pc := g.pc + 1, stack := rest }) target → Steps p.tables e below (T.setTop g) target := by
  obtain ⟨cl, Ar, q, S, N, H, G⟩ := A
  obtain ⟨T', h', X', e', W, st⟩ := stR X hx hZ eT Ar (inb_of S hj) hr F hg hs hd
  exact ⟨T', h', X', e', W, Arv.set Ar q S N H G hf W i hi hl, st⟩
theorem own_stoA {y : Addr} {C : String} {t0 : FieldType} (A : Arv Z h a k t0 n vs dv) (O : OvrA Z k ty C) (I : Ins Z h y C true) : Sto Z h a (.ref y) := by
  obtain ⟨cl, Ar, q, -⟩ := A
  exact Sto.ofVA Ar q O I
theorem own_stoV {y : Addr} {C : String} {t0 : FieldType} (A : Arv Z h a k t0 n vs dv) (O : Ovr Z k C) (I : Ins Z h y C true) : Sto Z h a (.ref y) := by
  obtain ⟨cl, Ar, q, -⟩ := A
  exact Sto.ofV Ar q O I
theorem own_getD_cp (vs vd : List Value) (dv dd : Value) (sp dp nn i : Nat) : ((vd ++ List.replicate (dp + nn) dd).take dp ++ ((List.range nn).map fun i => vs.getD (sp + i) dv) ++ (vd ++ List.replicate (dp + nn) dd).drop (dp + nn)).getD i dd = if dp ≤ i ∧ i < dp + nn then vs.getD (sp + (i - dp)) dv else vd.getD i dd := by
  have hlen : dp ≤ (vd ++ List.replicate (dp + nn) dd).length := by simp; omega
  have hpad := pad_rep vd dd (dp + nn) i
  by_cases h1 : i < dp
  · rw [if_neg (by omega), ← hpad]
    have e1 : ((vd ++ List.replicate (dp + nn) dd).take dp).length = dp := by rw [List.length_take]; omega
    rw [List.getD_eq_getElem?_getD, List.append_assoc, List.getElem?_append_left (by rw [e1]; exact h1), List.getElem?_take, if_pos h1, List.getD_eq_getElem?_getD]
  · by_cases h2 : i < dp + nn
    · rw [if_pos ⟨by omega, h2⟩]
      have e1 : ((vd ++ List.replicate (dp + nn) dd).take dp).length = dp := by rw [List.length_take]; omega
      rw [List.getD_eq_getElem?_getD, List.append_assoc, List.getElem?_append_right (by rw [e1]; omega), e1, List.getElem?_append_left (by simp; omega)]
      simp [show i - dp < nn by omega]
    · rw [if_neg (by omega), ← hpad]
      have e1 : ((vd ++ List.replicate (dp + nn) dd).take dp).length = dp := by rw [List.length_take]; omega
      rw [List.getD_eq_getElem?_getD, List.getElem?_append_right (by rw [List.length_append, e1]; simp; omega), List.getElem?_drop, List.getD_eq_getElem?_getD]
      congr 2
      rw [List.length_append, e1]; simp; omega
theorem own_cp {b : Addr} {a0 : Array Value} (X : Stand p l e R s m args below meth c T locs cells slots) (hx : p.tables.exec = Jvm.exec) (hZ : Z.Warmed39 s.vm) {own : String} {index : Nat} (hown : s.vm.findClass own = some m.cls)
    (w1 : (Cond.methodLink own index Jvm.Stand.acN).before a0 Z = true) (w2 : (Cond.native Jvm.Stand.acN).before a0 Z = true) (w3 : (Cond.static Jvm.Stand.acN).before a0 Z = true) (w4 : (Cond.initialized "java/lang/System").before a0 Z = true) (eT : T.heap = h)
    {k' : ClassId} {z z' sp dp nn : Int32} {vd : List Value} {dd : Value} (A : Arv Z h a k ty z vs dv) (B : Arv Z h b k' ty z' vd dd) (hty : refKind ty = false)
    (h1 : 0 ≤ sp.toInt) (h2 : 0 ≤ dp.toInt) (h3 : 0 ≤ nn.toInt) (h4 : sp.toInt + nn.toInt ≤ z.toInt) (h5 : dp.toInt + nn.toInt ≤ z'.toInt) {n0 : Nat} (N : Fr n0 locs) (ge : n0 ≤ b)
    {g : JFrame} (hg : g.method = m) (hsize : g.locals.size = c.maxLocals) {rest : List Value} (hs : g.stack = .int nn :: .int dp :: .ref b :: .int sp :: .ref a :: rest) (hd : decode c.code g.pc = .ok (.invokestatic index, 3))
    (hf : 1 ≤ R.frames) {W : Nat} (hW : 2 * g.monitorRoom + (rest.map fun v => v.category).sum ≤ W) (hlo : W + 18 ≤ R.locals) :
    ∃ T' h' L vd', Stand p l e R s m args below meth c T' L cells slots ∧ T'.heap = h' ∧ Fr n0 L ∧ Keep h h' [b] ∧ Arv Z h' b k' ty z' vd' dd ∧ (∀ i : Nat, vd'.getD i dd = if dp.toNatClampNeg ≤ i ∧ i < dp.toNatClampNeg + nn.toNatClampNeg then vs.getD (sp.toNatClampNeg + (i - dp.toNatClampNeg)) dv else vd.getD i dd) ∧
      ∀ target, Steps p.tables e below (T'.setTop { g with pc := g.pc + 3, stack := rest }) target → Steps p.tables e below (T.setTop g) target := by
  have e0 : (0 : Int32).toInt = 0 := by decide
  have lt : ∀ {x : Int32}, 0 ≤ x.toInt → ¬ x < 0 := fun q => by rw [Int32.lt_iff_toInt_lt]; omega
  have nz : ¬ z < 0 := lt (by omega)
  have nz' : ¬ z' < 0 := lt (by omega)
  have c1 := nat_of (lt h1); have c2 := nat_of (lt h2); have c3 := nat_of (lt h3); have c4 := nat_of nz; have c5 := nat_of nz'
  obtain ⟨T', h', L, X', e', N', K', V', st⟩ := cpA X hx hZ hown w1 w2 w3 w4 eT A (B.pad (pad_rep vd dd (dp.toNatClampNeg + nn.toNatClampNeg))) (us := _) (Or.inl ⟨rfl, hty⟩) (lt h1) (lt h2) (lt h3) (by omega) (by omega) rfl (by simp) N ge hg hsize hs hd hf hW (by exact hlo)
  exact ⟨T', h', L, _, X', e', N', K', V', fun i => own_getD_cp vs vd dv dd _ _ _ i, st⟩
/-- as backOf, the callee told besides that the tables are those of Z but warmer -/
theorem own_backH {a0 : Array Value} {y : MethodName} {bytes : ByteArray} {maxL : Nat} {ret : Option FieldType} {rm : Room} {len W : Nat} {as' : Array Value} {Q : Option Value → Heap → List Loc → Prop}
    (hM : MetFree l y (head1 [Cond.code y bytes maxL ret] rm) (fun a U => a = as' ∧ Z.WarmedH U.vm ∧ U.heap = h) (fun _ _ _ _ _ => True) (fun _ U o U' => ∃ v L, o = .returned v ∧ Q v U'.heap L ∧ FrameEnd U o U' L rm.cells rm.slots))
    (hZ : Z.WarmedH s.vm) (wc : (Cond.code y bytes maxL ret).before a0 Z = true) (wz : (Cond.initialized y.cls).before a0 Z = true) (hf : rm.frames + 1 ≤ R.frames) (hl : W + (maxL + 11) + rm.locals ≤ R.locals) :
    Back l R p e below s args y len W (fun A a => a = as' ∧ A.U.heap = h ∧ A.cells + rm.cells ≤ R.cells ∧ A.slots + rm.slots ≤ R.slots)
      (fun A _ v B => ∃ L, Q v B.U.heap L ∧ B.locs = A.locs ++ L ∧ B.cells = A.cells + rm.cells ∧ B.slots = A.slots + rm.slots) := by
  refine Back.of_free (bytes := bytes) (maxL := maxL) (ret := ret) (E := fun _ _ o t L k n => k = rm.cells ∧ n = rm.slots ∧ ∃ v, o = .returned v ∧ Q v t.heap L) hM hf hl ?_ ?_ (fun _ _ _ _ _ _ _ _ _ => trivial) ?_ ?_
  · intro m meth c A a Y hp
    have hU : Z.Warmed39 A.U.vm := wtrans hZ.wide Y.warmed
    exact ⟨by show (Cond.and _ .tt).before a A.U = true; rw [Cond.before_and, mv hU wc]; rfl, mv hU wc, mv hU wz, hp.2.2.1, hp.2.2.2⟩
  · intro m meth c A a g mk Y hp
    exact ⟨hp.1, hZ.trans Y.warmed, hp.2.1⟩
  · rintro _ _ _ _ ⟨v, L, h1, h2, h3⟩
    exact ⟨L, _, _, h3, rfl, rfl, v, h1, h2⟩
  · rintro m meth c A a g mk v t L k n Y hp _ _ ⟨e1, e2, v', e3, e4⟩
    cases e3; subst e1 e2; exact ⟨L, e4, rfl, rfl, rfl⟩
end Own
end Jvm.RoadKit
namespace Jvm.RoadKit
open Sem ClassFile Op Lib Jvm.Stand Jvm.Free Jvm.LawKit Jvm.Lambda Jvm.LamKit
section OwnLam
variable {p : Program} {l : Launch} {e : Env} {Z s : State} {h : Heap}
theorem own_made {host : String} {σ : Lambda.Shape} {cK : ClassId} (hW : Z.WarmedH s.vm) (hm : Jvm.LamKit.Made Z host σ cK) : Jvm.LamKit.Made s host σ cK := by
  obtain ⟨d, dk, h1, h2, h3, h4⟩ := hm
  obtain ⟨k', q1, q2⟩ := hW.alike.2.2 _ _ h1
  refine ⟨d, k', q1, by rw [q2]; exact h2, Lambda.isMade_warmer hW h3, ?_⟩
  have hA := hW.alike
  simp only [State.lambdaCallable, hA.findClass, hA.assignable, hA.superclasses, hA.declaredIn] at h4 ⊢
  exact h4
theorem own_met {y : MethodName} {c0 : Cond} {rm : Room} {P : Array Value → State → Prop} {Q : Option Value → Heap → List Loc → Prop} {n0 : Nat}
    (hM : MetFree l y (head1 [c0] rm) P (fun _ _ _ _ _ => True) (fun _ U o U' => ∃ v L, o = .returned v ∧ Q v U'.heap L ∧ FrameEnd U o U' L rm.cells rm.slots)) (hQ : ∀ v h L, Q v h L → Fr n0 L) :
    Met l y [c0] rm P (fun _ _ o t => ∃ v L, o = .returned v ∧ Q v t.heap L) rm.cells rm.slots (fun q => n0 ≤ q) := by
  intro p e ha hc hk s m args below hf happ hP hK
  obtain ⟨n, o, h1, h2, h3, v, L, rfl, hq, hF⟩ := hM p e ha hc hk s m args below hf happ hP hK
  exact ⟨n, _, h1, h2, h3, ⟨v, L, rfl, hq⟩, L, hF, hQ _ _ _ hq⟩
/-- the entry i of the made class's pool, a class's, is resolved -/
theorem own_ready {host : String} {σ : Lambda.Shape} {cK : ClassId} (hm : Jvm.LamKit.Made s host σ cK) {D : ClassFile} (hD : σ.file host = some D) {i n : Nat} {name : String} (hi : D.constantPool[i]? = some (.class_ n)) (hne : i ≠ D.thisClass) (hs : D.constantPool.string? n = some name) {x : ClassId} (hf : s.vm.findClass name = some x) : s.vm.classReady cK i x := by
  obtain ⟨d, dk, h1, h2, h3, h4⟩ := hm
  obtain ⟨dk', k, ok, tk, file, cf, object, iface, toy, lay, methods, target, found, hd', hk, hfile, hcf, -, -, -, -, hms, ht, htk, hg, -, hrec, -, -, -, -, hpool, hmeth, -, -, hres, -⟩ := Lambda.isMade_spec h3
  cases h1.symm.trans hd'
  rw [h2, hD] at hcf
  cases hcf
  exact ⟨k, hk, hres i _ (Lambda.resolvedOf_class hi hne hs hf)⟩
theorem own_siteC {R : Room} {m : MethodId} {args : Array Value} {below : List Frame} {meth : Method} {c : Code} {T : State} {locs : List Loc} {cells slots : Nat} (X : Stand p l e R s m args below meth c T locs cells slots) (hexec : p.tables.exec = Jvm.exec) {x : MethodName} {pc index : Nat} {σ : Lambda.Shape} (hW : Z.WarmedH s.vm) (hO : Ext Z.heap T.heap) (hnamed : s.methodNamed? x = some m) {a0 : Array Value}
    (hsite : (Cond.lambdaSite x pc index σ).before a0 Z = true) (hcap : σ.captured = []) {g : JFrame} (hg : g.method = m) (hpc : g.pc = pc) (hsize : g.locals.size = c.maxLocals)
    (hdg : decode c.code g.pc = .ok (.invokedynamic index, 5)) (hwords : 2 * g.monitorRoom + (g.stack.map fun v => v.category).sum + 3072 ≤ R.locals) :
    ∃ (a : Addr) (cK : ClassId), Jvm.LamKit.Made Z x.cls σ cK ∧ FnAt T.heap a cK ∧ ∀ target, Steps p.tables e below (T.setTop { g with pc := g.pc + 5, stack := .ref a :: g.stack }) target → Steps p.tables e below (T.setTop g) target := by
  obtain ⟨cK, one, hat⟩ := Cond.lambdaSite_spec hsite
  obtain ⟨mD, kD, cfD, i0, p0, lk, hmD, hkD, -, -, -, hfind, hmade, hcan, hl⟩ := State.lambdaAt?_spec hat
  have hm' : s.methodNamed? x = some mD := by
    have := State.methodNamed?_setVm (s := Z) hW.alike x
    rw [hmD] at this
    exact this
  cases hnamed.symm.trans hm'
  obtain ⟨kD', hkD', hnameD⟩ := className_of_methodNamed hmD
  cases hkD.symm.trans hkD'
  obtain ⟨kc', hk', he⟩ := hW.alike.2.2 _ _ hkD
  have hfind' : (kc'.callSites.find? fun y => y.1 == m.idx && y.2.1 == pc) = some (i0, p0, lk) := by rw [he]; exact hfind
  rcases hl with ⟨a, cell, rfl, -, -, hcell, hcls, hvm, -⟩ | ⟨-, -, hne⟩
  · have hw : e.platform.lambdaLinkWords = 3072 := by rw [X.admits.platform]
    subst hpc
    exact ⟨a, cK, ⟨_, kD, hkD, hnameD, hmade, hcan⟩, ⟨cell, hO.2 a cell hcell, hcls, hvm⟩, fun target h => X.lambdaConstant hexec hg hsize hdg hk' hfind' (by rw [hw]; exact hwords) h⟩
  · exact absurd hcap hne
end OwnLam
end Jvm.RoadKit

namespace Jvm.Pilot.@@N@@
open Jvm Jvm.ClassFile Sem Op Lib Jvm.Free Jvm.Stand Jvm.LawKit Jvm.RoadKit Bundle Jvm.LamKit Jvm.Pilot.@@N@@.Jvm.D
theorem pd_0 : parseMethodDescriptor "(I)I" = some ⟨[.int], some .int⟩ := by decide +kernel
theorem pd_1 : parseMethodDescriptor "()V" = some ⟨[], none⟩ := by decide +kernel
theorem pd_2 : parseMethodDescriptor "()Ljava/util/OptionalLong;" = some ⟨[], some (.object "java/util/OptionalLong")⟩ := by decide +kernel
theorem pd_3 : parseMethodDescriptor "([B)Lcom/example/aturan/aturan/rules/AraMRuleBuilder;" = some ⟨[(.array .byte)], some (.object "com/example/aturan/aturan/rules/AraMRuleBuilder")⟩ := by decide +kernel
theorem pd_4 : parseMethodDescriptor "()Ljava/lang/Object;" = some ⟨[], some (.object "java/lang/Object")⟩ := by decide +kernel
theorem pd_5 : parseMethodDescriptor "()Lcom/example/aturan/aturan/rules/AccessRule;" = some ⟨[], some (.object "com/example/aturan/aturan/rules/AccessRule")⟩ := by decide +kernel
theorem pd_6 : parseMethodDescriptor "([B[B)Lcom/example/aturan/aturan/rules/IgnoreReason;" = some ⟨[(.array .byte), (.array .byte)], some (.object "com/example/aturan/aturan/rules/IgnoreReason")⟩ := by decide +kernel
theorem pd_7 : parseMethodDescriptor "([B[BLjava/lang/String;Lcom/example/aturan/aturan/rules/ApduRule;Lcom/example/aturan/aturan/rules/Access;Ljava/util/OptionalLong;Lcom/example/aturan/aturan/rules/IgnoreReason;)V" = some ⟨[(.array .byte), (.array .byte), (.object "java/lang/String"), (.object "com/example/aturan/aturan/rules/ApduRule"), (.object "com/example/aturan/aturan/rules/Access"), (.object "java/util/OptionalLong"), (.object "com/example/aturan/aturan/rules/IgnoreReason")], none⟩ := by decide +kernel
theorem pd_8 : parseMethodDescriptor "()Ljava/util/Optional;" = some ⟨[], some (.object "java/util/Optional")⟩ := by decide +kernel
theorem pd_9 : parseMethodDescriptor "(Ljava/lang/Object;)Ljava/util/Optional;" = some ⟨[(.object "java/lang/Object")], some (.object "java/util/Optional")⟩ := by decide +kernel
theorem pd_10 : parseMethodDescriptor "(Ljava/lang/Object;)V" = some ⟨[(.object "java/lang/Object")], none⟩ := by decide +kernel
theorem pd_11 : parseMethodDescriptor "(Ljava/util/function/Function;)Ljava/util/Optional;" = some ⟨[(.object "java/util/function/Function")], some (.object "java/util/Optional")⟩ := by decide +kernel
theorem pd_12 : parseMethodDescriptor "(Ljava/lang/Object;)Ljava/lang/Object;" = some ⟨[(.object "java/lang/Object")], some (.object "java/lang/Object")⟩ := by decide +kernel
theorem pd_13 : parseMethodDescriptor "()Z" = some ⟨[], some .boolean⟩ := by decide +kernel
theorem pd_14 : parseMethodDescriptor "(Ljava/lang/Object;)[B" = some ⟨[(.object "java/lang/Object")], some (.array .byte)⟩ := by decide +kernel
theorem pd_15 : parseMethodDescriptor "(I)Ljava/util/Optional;" = some ⟨[.int], some (.object "java/util/Optional")⟩ := by decide +kernel
theorem pd_16 : parseMethodDescriptor "()[Lcom/example/aturan/aturan/rules/HashAlgorithm;" = some ⟨[], some (.array (.object "com/example/aturan/aturan/rules/HashAlgorithm"))⟩ := by decide +kernel
def own_sh : Lambda.Shape := Lambda.Shape.mk "java/util/function/Function" "apply" (MethodDescriptor.mk ([(FieldType.object "java/lang/Object")] : List FieldType) (Option.some (FieldType.object "java/lang/Object"))) ([] : List FieldType) 6 "com/example/aturan/aturan/rules/AccessRule" "lambda$getCertificateHash$1" (MethodDescriptor.mk ([(FieldType.object "java/lang/Object")] : List FieldType) (Option.some (FieldType.array FieldType.byte))) false (MethodDescriptor.mk ([(FieldType.array FieldType.byte)] : List FieldType) (Option.some (FieldType.array FieldType.byte)))
def own_fcode : ByteArray := ⟨#[0x2b, 0xc0, 0x00, 0x0e, 0xb8, 0x00, 0x14, 0xb0]⟩
theorem own_fwd : fwdOK own_sh "com/example/aturan/aturan/rules/AccessRule" own_fcode 2 (some (.object "java/lang/Object")) 20 16 = true := by decide +kernel
theorem own_f0 : decode own_fcode 0 = .ok (.aload_n 1, 1) := by decide +kernel
theorem own_f1 : decode own_fcode 1 = .ok (.checkcast 14, 3) := by decide +kernel
theorem own_f4 : decode own_fcode 4 = .ok (.invokestatic 20, 3) := by decide +kernel
theorem own_f7 : decode own_fcode 7 = .ok (.areturn, 1) := by decide +kernel
theorem own_D : ∃ D n, own_sh.file "com/example/aturan/aturan/rules/AccessRule" = some D ∧ D.constantPool[14]? = some (.class_ n) ∧ 14 ≠ D.thisClass ∧ D.constantPool.string? n = some "[B" := by
  have h : (match own_sh.file "com/example/aturan/aturan/rules/AccessRule" with | some D => (match (D.constantPool[14]? : Option CpInfo) with | some (CpInfo.class_ n) => decide (14 ≠ D.thisClass) && decide (D.constantPool.string? n = some "[B") | _ => false) | none => false) = true := by decide +kernel
  split at h
  · rename_i D hD
    split at h
    · rename_i n hn
      simp only [Bool.and_eq_true, decide_eq_true_eq] at h
      exact ⟨D, n, hD, hn, h.1, h.2⟩
    · cases h
  · cases h
theorem own_load {p : Program} {e : Env} {Z s : State} {v a : Addr} {cK : ClassId} (hx : p.tables.exec = Jvm.exec) (hm : Jvm.LamKit.Made s "com/example/aturan/aturan/rules/AccessRule" own_sh cK) (hZ : Z.Warmed39 s.vm) {h : Heap} (Ev : Exa Z h v "[B")
    (U : State) (ck : Code) (bl : List Frame) (target : State) (hU : At U ⟨cK, 1⟩ ck bl) (hck : ck.code = own_fcode) (hh : U.heap = h) (hW : s.WarmedH U.vm)
    (k : Steps p.tables e bl (U.setTop { method := ⟨cK, 1⟩, pc := 4, locals := #[.val (.ref a), .val (.ref v)], stack := [.ref v], locked := none }) target) :
    Steps p.tables e bl (U.setTop { method := ⟨cK, 1⟩, pc := 0, locals := #[.val (.ref a), .val (.ref v)], stack := [], locked := none }) target := by
  obtain ⟨D, n, d1, d2, d3, d4⟩ := own_D
  obtain ⟨cell, kc, e1, e2, e3, e4, -⟩ := Ev
  have hf : s.vm.findClass "[B" = some cell.cls := by rw [hZ.alike.findClass]; exact e2
  have hr := own_ready (own_made hW hm) d1 d2 d3 d4 (by rw [hW.alike.findClass]; exact hf)
  obtain ⟨k1, q1, -⟩ := hZ.alike.2.2 _ _ e3
  obtain ⟨k2, q2, -⟩ := hW.alike.2.2 _ _ q1
  refine XS.aloadN hU hx rfl (hb hck own_f0) rfl rfl ?_
  show Steps p.tables e bl (U.setTop (mkF ⟨cK, 1⟩ 1 #[.val (.ref a), .val (.ref v)] [.ref v])) target
  have hcell : U.heap[v]? = some cell := by rw [hh]; exact e1
  have hns : ∀ q, cell.vm ≠ .statics q := fun q hq => by rw [hq] at e4; cases e4
  have hd : decode ck.code 1 = .ok (.checkcast 14, 3) := hb hck own_f1
  jvm_step hU [hx, hd, checkcast.wp_ready (s := U) (f := mkF ⟨cK, 1⟩ 1 #[.val (.ref a), .val (.ref v)] [.ref v]) hU.top hr rfl, hcell, q2, Vm.assignable_self]
  exact ⟨hns, k⟩


theorem own_tab (i : Nat) : ∃ z : Int32, ([(.int (0 : Int32)), (.int (1 : Int32)), (.int (19 : Int32)), (.int (20 : Int32)), (.int (21 : Int32)), (.int (31 : Int32)), (.int (32 : Int32)), (.int (33 : Int32))] : List Value).getD i (.int (0 : Int32)) = .int z ∧ 0 ≤ z.toInt ∧ z.toInt ≤ 33 := by
  rcases i with _ | _ | _ | _ | _ | _ | _ | _ | i
  · exact ⟨0, rfl, by decide, by decide⟩
  · exact ⟨1, rfl, by decide, by decide⟩
  · exact ⟨19, rfl, by decide, by decide⟩
  · exact ⟨20, rfl, by decide, by decide⟩
  · exact ⟨21, rfl, by decide, by decide⟩
  · exact ⟨31, rfl, by decide, by decide⟩
  · exact ⟨32, rfl, by decide, by decide⟩
  · exact ⟨33, rfl, by decide, by decide⟩
  · exact ⟨0, by simp [List.getD], by decide, by decide⟩
theorem own_and7 (x : Int32) : ¬ (x &&& (7 : Int32)) < 0 ∧ (x &&& (7 : Int32)) < (8 : Int32) := by
  have a := c_mask x 7 3 (by decide) (by decide)
  rw [Int32.lt_iff_toInt_lt, Int32.lt_iff_toInt_lt]
  have d0 : (0 : Int32).toInt = 0 := by decide
  have d8 : (8 : Int32).toInt = 8 := by decide
  omega
theorem own_ofNeg {x : Int32} (h : 0 ≤ x.toInt) : ¬ x < 0 := by
  rw [Int32.lt_iff_toInt_lt]
  have : (0 : Int32).toInt = 0 := by decide
  omega
theorem own_le33 {x : Int32} (h : 0 ≤ x.toInt ∧ x.toInt ≤ 33) : x.toNatClampNeg ≤ 33 := by
  have := nat_of (own_ofNeg h.1)
  omega
theorem own_in {j n : Int32} (h : 0 ≤ j.toInt) (q : j.toInt < n.toInt) : ¬ j < 0 ∧ j < n := ⟨own_ofNeg h, by rw [Int32.lt_iff_toInt_lt]; exact q⟩
theorem own_nat {j : Int32} (h : 0 ≤ j.toInt ∧ j.toInt ≤ 32) : j.toNatClampNeg < 33 := by have := nat_of (own_ofNeg h.1); omega
theorem own_set {vs : List Value} {i j : Nat} {v d : Value} : (vs.set i v).getD j d = if i = j ∧ i < vs.length then v else vs.getD j d := by
  rw [List.getD_eq_getElem?_getD, List.getD_eq_getElem?_getD, List.getElem?_set]
  by_cases h : i = j
  · subst h
    by_cases q : i < vs.length
    · simp [q]
    · simp [q]
  · simp [h]
theorem own_one {len : Int32} (h : 0 < len.toInt ∧ len.toInt ≤ 33) : (len - (1 : Int32)).toInt = len.toInt - 1 := by
  have a := c_isub len 1
  have b := rng32 (len - 1)
  have d : (1 : Int32).toInt = 1 := by decide
  omega
theorem own_half {len : Int32} (h : 0 ≤ len.toInt ∧ len.toInt ≤ 33) : (len / (2 : Int32)).toInt = len.toInt / 2 := by
  exact (c_idiv len 2 2 (by decide) (by decide)).1 h.1
theorem own_idx {j k : Int32} (h : 0 ≤ j.toInt) (q : 0 ≤ k.toInt) : (j.toNatClampNeg = k.toNatClampNeg) ↔ j.toInt = k.toInt := by
  have a := nat_of (own_ofNeg h)
  have b := nat_of (own_ofNeg q)
  omega
theorem own_i8 (x : Int32) : x.toInt8.toInt32.toInt8.toInt32 = x.toInt8.toInt32 := by
  apply Int32.toInt_inj.mp
  have a := c_i2b x
  have b := c_i2b (x.toInt8.toInt32)
  omega
def own_first (len a b : Int32) : Int32 := if len = (0 : Int32) then (0 : Int32) else (if len = (1 : Int32) then (b.toInt8.toInt32) else (a.toInt8.toInt32))
def own_last (len b : Int32) : Int32 := if len = (0 : Int32) then (0 : Int32) else (b.toInt8.toInt32)
def own_mid (len q : Int32) : Int32 := if len < (3 : Int32) then (0 : Int32) else (q.toInt8.toInt32)
/-- what the array h holds -/
def own_Hold (len a b q : Int32) (vs : List Value) : Prop :=
  vs.length = 33 ∧ (0 < len.toInt → vs.getD (0 : Int32).toNatClampNeg (.int (0 : Int32)) = .int (own_first len a b) ∧ vs.getD (len - (1 : Int32)).toNatClampNeg (.int (0 : Int32)) = .int (own_last len b)) ∧
  (3 ≤ len.toInt → vs.getD (len / (2 : Int32)).toNatClampNeg (.int (0 : Int32)) = .int (own_mid len q))
theorem own_hold0 (len a b q : Int32) (h : ¬ (0 : Int32) < len) : own_Hold len a b q (List.replicate 33 (.int (0 : Int32))) := by
  rw [Int32.lt_iff_toInt_lt] at h
  have d0 : (0 : Int32).toInt = 0 := by decide
  exact ⟨by simp, fun k => by omega, fun k => by omega⟩
theorem own_eq0 {len : Int32} : len = (0 : Int32) ↔ len.toInt = 0 := ⟨fun h => by rw [h]; decide, fun h => Int32.toInt_inj.mp (by rw [h]; decide)⟩
theorem own_eq1 {len : Int32} : len = (1 : Int32) ↔ len.toInt = 1 := ⟨fun h => by rw [h]; decide, fun h => Int32.toInt_inj.mp (by rw [h]; decide)⟩
theorem own_hold1 (len a b q : Int32) (hl : 0 ≤ len.toInt ∧ len.toInt ≤ 33) (h : (0 : Int32) < len) : own_Hold len a b len (((List.replicate 33 (.int (0 : Int32))).set (0 : Int32).toNatClampNeg (.int ((a.toInt8.toInt32).toInt8.toInt32))).set (len - (1 : Int32)).toNatClampNeg (.int ((b.toInt8.toInt32).toInt8.toInt32))) ∨ 3 ≤ len.toInt := by
  rw [Int32.lt_iff_toInt_lt] at h
  have d0 : (0 : Int32).toInt = 0 := by decide
  by_cases h3 : 3 ≤ len.toInt
  · exact Or.inr h3
  left
  have e1 := own_one (len := len) ⟨by omega, hl.2⟩
  have n1 := own_nat (j := len - 1) ⟨by omega, by omega⟩
  have n0 := own_nat (j := 0) ⟨by omega, by omega⟩
  refine ⟨by simp, fun _ => ⟨?_, ?_⟩, fun k => absurd k h3⟩
  · have i1 := own_idx (j := len - 1) (k := 0) (by omega) (by omega)
    have c0 : ¬ len = (0 : Int32) := fun z => by rw [own_eq0] at z; omega
    unfold own_first
    rw [own_set, if_neg c0]
    by_cases c1 : len = (1 : Int32)
    · rw [if_pos c1, if_pos ⟨i1.mpr (by rw [own_eq1] at c1; omega), by simpa using n1⟩, own_i8]
    · rw [if_neg c1, if_neg (fun z => by have := i1.mp z.1; exact c1 (own_eq1.mpr (by omega))), own_set, if_pos ⟨rfl, by simpa using n0⟩, own_i8]
  · rw [own_set, if_pos ⟨rfl, by simpa using n1⟩, own_i8]
    unfold own_last
    rw [if_neg (fun z => by rw [own_eq0] at z; omega)]
theorem own_hold3 (len a b q : Int32) (hl : 0 ≤ len.toInt ∧ len.toInt ≤ 33) (h : ¬ len < (3 : Int32)) : own_Hold len a b q ((((List.replicate 33 (.int (0 : Int32))).set (0 : Int32).toNatClampNeg (.int ((a.toInt8.toInt32).toInt8.toInt32))).set (len - (1 : Int32)).toNatClampNeg (.int ((b.toInt8.toInt32).toInt8.toInt32))).set (len / (2 : Int32)).toNatClampNeg (.int ((q.toInt8.toInt32).toInt8.toInt32))) := by
  have h' := h
  rw [Int32.lt_iff_toInt_lt] at h'
  have d0 : (0 : Int32).toInt = 0 := by decide
  have d3 : (3 : Int32).toInt = 3 := by decide
  have e1 := own_one (len := len) ⟨by omega, hl.2⟩
  have e2 := own_half hl
  have n1 := own_nat (j := len - 1) ⟨by omega, by omega⟩
  have n0 := own_nat (j := 0) ⟨by omega, by omega⟩
  have n2 := own_nat (j := len / 2) ⟨by omega, by omega⟩
  have i1 := own_idx (j := len - 1) (k := 0) (by omega) (by omega)
  have i2 := own_idx (j := len / 2) (k := 0) (by omega) (by omega)
  have i3 := own_idx (j := len / 2) (k := len - 1) (by omega) (by omega)
  refine ⟨by simp, fun _ => ⟨?_, ?_⟩, fun _ => ?_⟩
  · rw [own_set, if_neg (fun z => by have := i2.mp z.1; omega), own_set, if_neg (fun z => by have := i1.mp z.1; omega), own_set, if_pos ⟨rfl, by simpa using n0⟩, own_i8]
    unfold own_first
    rw [if_neg (fun z => by rw [own_eq0] at z; omega), if_neg (fun z => by rw [own_eq1] at z; omega)]
  · rw [own_set, if_neg (fun z => by have := i3.mp z.1; omega), own_set, if_pos ⟨rfl, by simpa using n1⟩, own_i8]
    unfold own_last
    rw [if_neg (fun z => by rw [own_eq0] at z; omega)]
  · rw [own_set, if_pos ⟨rfl, by simpa using n2⟩, own_i8]
    unfold own_mid
    rw [if_neg h]
theorem own_hold1' (len a b q : Int32) (hl : 0 ≤ len.toInt ∧ len.toInt ≤ 33) (h : (0 : Int32) < len) (h3 : len < (3 : Int32)) : own_Hold len a b q (((List.replicate 33 (.int (0 : Int32))).set (0 : Int32).toNatClampNeg (.int ((a.toInt8.toInt32).toInt8.toInt32))).set (len - (1 : Int32)).toNatClampNeg (.int ((b.toInt8.toInt32).toInt8.toInt32))) := by
  rw [Int32.lt_iff_toInt_lt] at h3
  have d3 : (3 : Int32).toInt = 3 := by decide
  rcases own_hold1 len a b q hl h with ⟨h1, h2, -⟩ | k
  · exact ⟨h1, h2, fun k => by omega⟩
  · omega

theorem d1_0 : decode method_2_code 0 = .ok (.bipush 8, 2) := by decide +kernel
theorem d1_2 : decode method_2_code 2 = .ok (.newarray .int, 2) := by decide +kernel
theorem d1_4 : decode method_2_code 4 = .ok (.dup, 1) := by decide +kernel
theorem d1_5 : decode method_2_code 5 = .ok (.iconst 0, 1) := by decide +kernel
theorem d1_6 : decode method_2_code 6 = .ok (.iconst 0, 1) := by decide +kernel
theorem d1_7 : decode method_2_code 7 = .ok (.iastore, 1) := by decide +kernel
theorem d1_8 : decode method_2_code 8 = .ok (.dup, 1) := by decide +kernel
theorem d1_9 : decode method_2_code 9 = .ok (.iconst 1, 1) := by decide +kernel
theorem d1_10 : decode method_2_code 10 = .ok (.iconst 1, 1) := by decide +kernel
theorem d1_11 : decode method_2_code 11 = .ok (.iastore, 1) := by decide +kernel
theorem d1_12 : decode method_2_code 12 = .ok (.dup, 1) := by decide +kernel
theorem d1_13 : decode method_2_code 13 = .ok (.iconst 2, 1) := by decide +kernel
theorem d1_14 : decode method_2_code 14 = .ok (.bipush 19, 2) := by decide +kernel
theorem d1_16 : decode method_2_code 16 = .ok (.iastore, 1) := by decide +kernel
theorem d1_17 : decode method_2_code 17 = .ok (.dup, 1) := by decide +kernel
theorem d1_18 : decode method_2_code 18 = .ok (.iconst 3, 1) := by decide +kernel
theorem d1_19 : decode method_2_code 19 = .ok (.bipush 20, 2) := by decide +kernel
theorem d1_21 : decode method_2_code 21 = .ok (.iastore, 1) := by decide +kernel
theorem d1_22 : decode method_2_code 22 = .ok (.dup, 1) := by decide +kernel
theorem d1_23 : decode method_2_code 23 = .ok (.iconst 4, 1) := by decide +kernel
theorem d1_24 : decode method_2_code 24 = .ok (.bipush 21, 2) := by decide +kernel
theorem d1_26 : decode method_2_code 26 = .ok (.iastore, 1) := by decide +kernel
theorem d1_27 : decode method_2_code 27 = .ok (.dup, 1) := by decide +kernel
theorem d1_28 : decode method_2_code 28 = .ok (.iconst 5, 1) := by decide +kernel
theorem d1_29 : decode method_2_code 29 = .ok (.bipush 31, 2) := by decide +kernel
theorem d1_31 : decode method_2_code 31 = .ok (.iastore, 1) := by decide +kernel
theorem d1_32 : decode method_2_code 32 = .ok (.dup, 1) := by decide +kernel
theorem d1_33 : decode method_2_code 33 = .ok (.bipush 6, 2) := by decide +kernel
theorem d1_35 : decode method_2_code 35 = .ok (.bipush 32, 2) := by decide +kernel
theorem d1_37 : decode method_2_code 37 = .ok (.iastore, 1) := by decide +kernel
theorem d1_38 : decode method_2_code 38 = .ok (.dup, 1) := by decide +kernel
theorem d1_39 : decode method_2_code 39 = .ok (.bipush 7, 2) := by decide +kernel
theorem d1_41 : decode method_2_code 41 = .ok (.bipush 33, 2) := by decide +kernel
theorem d1_43 : decode method_2_code 43 = .ok (.iastore, 1) := by decide +kernel
theorem d1_44 : decode method_2_code 44 = .ok (.astore_n 1, 1) := by decide +kernel
theorem d1_45 : decode method_2_code 45 = .ok (.aload_n 1, 1) := by decide +kernel
theorem d1_46 : decode method_2_code 46 = .ok (.iload_n 0, 1) := by decide +kernel
theorem d1_47 : decode method_2_code 47 = .ok (.bipush 7, 2) := by decide +kernel
theorem d1_49 : decode method_2_code 49 = .ok (.iand, 1) := by decide +kernel
theorem d1_50 : decode method_2_code 50 = .ok (.iaload, 1) := by decide +kernel
theorem d1_51 : decode method_2_code 51 = .ok (.ireturn, 1) := by decide +kernel
theorem pn_2 : plainName "com/example/aturan/aturan/rules/AraMRuleBuilderCertificateHashPinLaw" = true := by first | (simp [plainName, overriddenIn]; done) | decide +kernel
theorem ef_1_I (m : MethodId) (x0 : Int32) : entryFrame m #[(.int x0)] 2 = mkF m 0 #[.val (.int x0), .unset] [] := by first | (simp [entryFrame, mkF, argsToLocals, Value.category]; done) | rfl
def Q_rm1 (Z : State) (x0 : Int32) (h0 : Heap) (n0 : Nat) (v : Option Value) (h : Heap) (L : List Loc) : Prop := ∃ z : Int32, v = some (.int z) ∧ Fr n0 L ∧ Keep h0 h [] ∧ (0 ≤ z.toInt ∧ z.toInt ≤ 33)
set_option maxRecDepth 65536 in
set_option maxHeartbeats 40000000 in
theorem rm1 (l : Launch) (Z : State) (a0 : Array Value) (hw : ∀ d ∈ tables_1, d.before a0 Z = true) (ws : List Jvm.Cond) (x0 : Int32) (h0 : Heap) (n0 : Nat) (Z0 : n0 ≤ h0.size) :
    MetFree l (⟨"com/example/aturan/aturan/rules/AraMRuleBuilderCertificateHashPinLaw", "lengthOf", "(I)I"⟩ : MethodName) (head1 (Jvm.Cond.code (⟨"com/example/aturan/aturan/rules/AraMRuleBuilderCertificateHashPinLaw", "lengthOf", "(I)I"⟩ : MethodName) method_2_code 2 (some .int) :: ws) ({ frames := 0, cells := 1, slots := 8, locals := 0 } : Room)) (fun a U => a = #[(.int x0)] ∧ Z.Warmed39 U.vm ∧ U.heap = h0) (fun _ _ _ _ _ => True) (fun _ U o U' => ∃ v L, o = .returned v ∧ Q_rm1 Z x0 h0 n0 v U'.heap L ∧ FrameEnd U o U' L ({ frames := 0, cells := 1, slots := 8, locals := 0 } : Room).cells ({ frames := 0, cells := 1, slots := 8, locals := 0 } : Room).slots) := by
  refine MetFree.of_bodySF (plainFor_of_name pn_2) hisR ?_
  intro p e s m args below meth c s₁ Bd hml0 hP hK
  obtain ⟨rfl, hZ, hh⟩ := hP
  have hx := Bd.exec
  have hby := Bd.bytes
  have hml : c.maxLocals = 2 := hml0
  have hown : s.vm.findClass "com/example/aturan/aturan/rules/AraMRuleBuilderCertificateHashPinLaw" = some m.cls := findClass_of_methodNamed Bd.named
  have hnm := (name_of_methodNamed Bd.named Bd.method).1
  have X0 : Stand p l e ({ frames := 0, cells := 1, slots := 8, locals := 0 } : Room) s m #[(.int x0)] below meth c s₁ [] 0 0 := Stand.of_body Bd
  have e0 : s₁.heap = h0 := by rw [← hh, Bd.state]; rfl
  have N0 := Fr.nil n0
  show own_Ends p e below s ({ frames := 0, cells := 1, slots := 8, locals := 0 } : Room).cells ({ frames := 0, cells := 1, slots := 8, locals := 0 } : Room).slots (Q_rm1 Z x0 h0 n0) (s₁.setTop (entryFrame m #[(.int x0)] 2))
  rw [ef_1_I]
  refine own_step (st' := s₁.setTop (mkF m 2 #[.val (.int x0), .unset] [(.int (8 : Int32))])) (fun t k => XS.bipush X0.here hx rfl (hb hby d1_0) k) ?_
  obtain ⟨T1, h1, k1, X1, e1, E1, A1, st1⟩ := newP X0 hx hZ (hw _ (List.mem_of_getElem? (i := 4) rfl)) e0 (g := (mkF m 2 #[.val (.int x0), .unset] [(.int (8 : Int32))])) rfl (hb hby d1_2) rfl (by decide) (cap := 8) (by decide) (by decide) (by decide) (by decide)
  obtain ⟨b1, g1⟩ : ∃ z, z = h0.size := ⟨_, rfl⟩
  rw [← g1] at A1 st1
  have g_b1 : n0 ≤ b1 := Nat.le_trans Z0 (Nat.le_of_eq g1.symm)
  have sz_b1 : h0.size ≤ b1 := Nat.le_trans (Keep.refl h0 []).1 (Nat.le_of_eq g1.symm)
  have K2 : Keep h0 h1 [] := (Keep.refl h0 []).ext E1
  have Z3 : n0 ≤ h1.size := Nat.le_trans Z0 E1.1
  have V1 : Arv Z h1 b1 k1 .int (8 : Int32) [(.int (0 : Int32)), (.int (0 : Int32)), (.int (0 : Int32)), (.int (0 : Int32)), (.int (0 : Int32)), (.int (0 : Int32)), (.int (0 : Int32)), (.int (0 : Int32))] (.int (0 : Int32)) := (Arv.new A1 (by decide)).pad (pad_rep [] (.int (0 : Int32)) 8)
  refine own_step (st' := T1.setTop (mkF m 4 #[.val (.int x0), .unset] [(.ref b1)])) st1 ?_
  refine own_step (st' := T1.setTop (mkF m 5 #[.val (.int x0), .unset] [(.ref b1), (.ref b1)])) (fun t k => XS.dup X1.here hx rfl (hb hby d1_4) rfl rfl k) ?_
  refine own_step (st' := T1.setTop (mkF m 6 #[.val (.int x0), .unset] [(.int (0 : Int32)), (.ref b1), (.ref b1)])) (fun t k => XS.iconst X1.here hx rfl (hb hby d1_5) k) ?_
  refine own_step (st' := T1.setTop (mkF m 7 #[.val (.int x0), .unset] [(.int (0 : Int32)), (.int (0 : Int32)), (.ref b1), (.ref b1)])) (fun t k => XS.iconst X1.here hx rfl (hb hby d1_6) k) ?_
  obtain ⟨T4, h4, X4, e4, W4, V4, st4⟩ := own_stI X1 hx hZ e1 V1 (j := (0 : Int32)) (i := 0) ⟨by decide, by decide⟩ rfl (Nat.le_of_ble_eq_true rfl) (g := (mkF m 7 #[.val (.int x0), .unset] [(.int (0 : Int32)), (.int (0 : Int32)), (.ref b1), (.ref b1)])) rfl rfl (hb hby d1_7)
  have V4 : Arv Z h4 b1 k1 .int (8 : Int32) [(.int (0 : Int32)), (.int (0 : Int32)), (.int (0 : Int32)), (.int (0 : Int32)), (.int (0 : Int32)), (.int (0 : Int32)), (.int (0 : Int32)), (.int (0 : Int32))] (.int (0 : Int32)) := V4
  have K5 : Keep h0 h4 [] := K2.wr W4 (Or.inr sz_b1)
  have Z6 : n0 ≤ h4.size := Nat.le_trans Z3 (Keep.of_wr W4).1
  have N7 := Fr.snoc X4 N0 g_b1
  refine own_step (st' := T4.setTop (mkF m 8 #[.val (.int x0), .unset] [(.ref b1)])) st4 ?_
  refine own_step (st' := T4.setTop (mkF m 9 #[.val (.int x0), .unset] [(.ref b1), (.ref b1)])) (fun t k => XS.dup X4.here hx rfl (hb hby d1_8) rfl rfl k) ?_
  refine own_step (st' := T4.setTop (mkF m 10 #[.val (.int x0), .unset] [(.int (1 : Int32)), (.ref b1), (.ref b1)])) (fun t k => XS.iconst X4.here hx rfl (hb hby d1_9) k) ?_
  refine own_step (st' := T4.setTop (mkF m 11 #[.val (.int x0), .unset] [(.int (1 : Int32)), (.int (1 : Int32)), (.ref b1), (.ref b1)])) (fun t k => XS.iconst X4.here hx rfl (hb hby d1_10) k) ?_
  obtain ⟨T8, h8, X8, e8, W8, V8, st8⟩ := own_stI X4 hx hZ e4 V4 (j := (1 : Int32)) (i := 1) ⟨by decide, by decide⟩ rfl (Nat.le_of_ble_eq_true rfl) (g := (mkF m 11 #[.val (.int x0), .unset] [(.int (1 : Int32)), (.int (1 : Int32)), (.ref b1), (.ref b1)])) rfl rfl (hb hby d1_11)
  have V8 : Arv Z h8 b1 k1 .int (8 : Int32) [(.int (0 : Int32)), (.int (1 : Int32)), (.int (0 : Int32)), (.int (0 : Int32)), (.int (0 : Int32)), (.int (0 : Int32)), (.int (0 : Int32)), (.int (0 : Int32))] (.int (0 : Int32)) := V8
  have K9 : Keep h0 h8 [] := K5.wr W8 (Or.inr sz_b1)
  have Z10 : n0 ≤ h8.size := Nat.le_trans Z6 (Keep.of_wr W8).1
  have N11 := Fr.snoc X8 N7 g_b1
  refine own_step (st' := T8.setTop (mkF m 12 #[.val (.int x0), .unset] [(.ref b1)])) st8 ?_
  refine own_step (st' := T8.setTop (mkF m 13 #[.val (.int x0), .unset] [(.ref b1), (.ref b1)])) (fun t k => XS.dup X8.here hx rfl (hb hby d1_12) rfl rfl k) ?_
  refine own_step (st' := T8.setTop (mkF m 14 #[.val (.int x0), .unset] [(.int (2 : Int32)), (.ref b1), (.ref b1)])) (fun t k => XS.iconst X8.here hx rfl (hb hby d1_13) k) ?_
  refine own_step (st' := T8.setTop (mkF m 16 #[.val (.int x0), .unset] [(.int (19 : Int32)), (.int (2 : Int32)), (.ref b1), (.ref b1)])) (fun t k => XS.bipush X8.here hx rfl (hb hby d1_14) k) ?_
  obtain ⟨T12, h12, X12, e12, W12, V12, st12⟩ := own_stI X8 hx hZ e8 V8 (j := (2 : Int32)) (i := 2) ⟨by decide, by decide⟩ rfl (Nat.le_of_ble_eq_true rfl) (g := (mkF m 16 #[.val (.int x0), .unset] [(.int (19 : Int32)), (.int (2 : Int32)), (.ref b1), (.ref b1)])) rfl rfl (hb hby d1_16)
  have V12 : Arv Z h12 b1 k1 .int (8 : Int32) [(.int (0 : Int32)), (.int (1 : Int32)), (.int (19 : Int32)), (.int (0 : Int32)), (.int (0 : Int32)), (.int (0 : Int32)), (.int (0 : Int32)), (.int (0 : Int32))] (.int (0 : Int32)) := V12
  have K13 : Keep h0 h12 [] := K9.wr W12 (Or.inr sz_b1)
  have Z14 : n0 ≤ h12.size := Nat.le_trans Z10 (Keep.of_wr W12).1
  have N15 := Fr.snoc X12 N11 g_b1
  refine own_step (st' := T12.setTop (mkF m 17 #[.val (.int x0), .unset] [(.ref b1)])) st12 ?_
  refine own_step (st' := T12.setTop (mkF m 18 #[.val (.int x0), .unset] [(.ref b1), (.ref b1)])) (fun t k => XS.dup X12.here hx rfl (hb hby d1_17) rfl rfl k) ?_
  refine own_step (st' := T12.setTop (mkF m 19 #[.val (.int x0), .unset] [(.int (3 : Int32)), (.ref b1), (.ref b1)])) (fun t k => XS.iconst X12.here hx rfl (hb hby d1_18) k) ?_
  refine own_step (st' := T12.setTop (mkF m 21 #[.val (.int x0), .unset] [(.int (20 : Int32)), (.int (3 : Int32)), (.ref b1), (.ref b1)])) (fun t k => XS.bipush X12.here hx rfl (hb hby d1_19) k) ?_
  obtain ⟨T16, h16, X16, e16, W16, V16, st16⟩ := own_stI X12 hx hZ e12 V12 (j := (3 : Int32)) (i := 3) ⟨by decide, by decide⟩ rfl (Nat.le_of_ble_eq_true rfl) (g := (mkF m 21 #[.val (.int x0), .unset] [(.int (20 : Int32)), (.int (3 : Int32)), (.ref b1), (.ref b1)])) rfl rfl (hb hby d1_21)
  have V16 : Arv Z h16 b1 k1 .int (8 : Int32) [(.int (0 : Int32)), (.int (1 : Int32)), (.int (19 : Int32)), (.int (20 : Int32)), (.int (0 : Int32)), (.int (0 : Int32)), (.int (0 : Int32)), (.int (0 : Int32))] (.int (0 : Int32)) := V16
  have K17 : Keep h0 h16 [] := K13.wr W16 (Or.inr sz_b1)
  have Z18 : n0 ≤ h16.size := Nat.le_trans Z14 (Keep.of_wr W16).1
  have N19 := Fr.snoc X16 N15 g_b1
  refine own_step (st' := T16.setTop (mkF m 22 #[.val (.int x0), .unset] [(.ref b1)])) st16 ?_
  refine own_step (st' := T16.setTop (mkF m 23 #[.val (.int x0), .unset] [(.ref b1), (.ref b1)])) (fun t k => XS.dup X16.here hx rfl (hb hby d1_22) rfl rfl k) ?_
  refine own_step (st' := T16.setTop (mkF m 24 #[.val (.int x0), .unset] [(.int (4 : Int32)), (.ref b1), (.ref b1)])) (fun t k => XS.iconst X16.here hx rfl (hb hby d1_23) k) ?_
  refine own_step (st' := T16.setTop (mkF m 26 #[.val (.int x0), .unset] [(.int (21 : Int32)), (.int (4 : Int32)), (.ref b1), (.ref b1)])) (fun t k => XS.bipush X16.here hx rfl (hb hby d1_24) k) ?_
  obtain ⟨T20, h20, X20, e20, W20, V20, st20⟩ := own_stI X16 hx hZ e16 V16 (j := (4 : Int32)) (i := 4) ⟨by decide, by decide⟩ rfl (Nat.le_of_ble_eq_true rfl) (g := (mkF m 26 #[.val (.int x0), .unset] [(.int (21 : Int32)), (.int (4 : Int32)), (.ref b1), (.ref b1)])) rfl rfl (hb hby d1_26)
  have V20 : Arv Z h20 b1 k1 .int (8 : Int32) [(.int (0 : Int32)), (.int (1 : Int32)), (.int (19 : Int32)), (.int (20 : Int32)), (.int (21 : Int32)), (.int (0 : Int32)), (.int (0 : Int32)), (.int (0 : Int32))] (.int (0 : Int32)) := V20
  have K21 : Keep h0 h20 [] := K17.wr W20 (Or.inr sz_b1)
  have Z22 : n0 ≤ h20.size := Nat.le_trans Z18 (Keep.of_wr W20).1
  have N23 := Fr.snoc X20 N19 g_b1
  refine own_step (st' := T20.setTop (mkF m 27 #[.val (.int x0), .unset] [(.ref b1)])) st20 ?_
  refine own_step (st' := T20.setTop (mkF m 28 #[.val (.int x0), .unset] [(.ref b1), (.ref b1)])) (fun t k => XS.dup X20.here hx rfl (hb hby d1_27) rfl rfl k) ?_
  refine own_step (st' := T20.setTop (mkF m 29 #[.val (.int x0), .unset] [(.int (5 : Int32)), (.ref b1), (.ref b1)])) (fun t k => XS.iconst X20.here hx rfl (hb hby d1_28) k) ?_
  refine own_step (st' := T20.setTop (mkF m 31 #[.val (.int x0), .unset] [(.int (31 : Int32)), (.int (5 : Int32)), (.ref b1), (.ref b1)])) (fun t k => XS.bipush X20.here hx rfl (hb hby d1_29) k) ?_
  obtain ⟨T24, h24, X24, e24, W24, V24, st24⟩ := own_stI X20 hx hZ e20 V20 (j := (5 : Int32)) (i := 5) ⟨by decide, by decide⟩ rfl (Nat.le_of_ble_eq_true rfl) (g := (mkF m 31 #[.val (.int x0), .unset] [(.int (31 : Int32)), (.int (5 : Int32)), (.ref b1), (.ref b1)])) rfl rfl (hb hby d1_31)
  have V24 : Arv Z h24 b1 k1 .int (8 : Int32) [(.int (0 : Int32)), (.int (1 : Int32)), (.int (19 : Int32)), (.int (20 : Int32)), (.int (21 : Int32)), (.int (31 : Int32)), (.int (0 : Int32)), (.int (0 : Int32))] (.int (0 : Int32)) := V24
  have K25 : Keep h0 h24 [] := K21.wr W24 (Or.inr sz_b1)
  have Z26 : n0 ≤ h24.size := Nat.le_trans Z22 (Keep.of_wr W24).1
  have N27 := Fr.snoc X24 N23 g_b1
  refine own_step (st' := T24.setTop (mkF m 32 #[.val (.int x0), .unset] [(.ref b1)])) st24 ?_
  refine own_step (st' := T24.setTop (mkF m 33 #[.val (.int x0), .unset] [(.ref b1), (.ref b1)])) (fun t k => XS.dup X24.here hx rfl (hb hby d1_32) rfl rfl k) ?_
  refine own_step (st' := T24.setTop (mkF m 35 #[.val (.int x0), .unset] [(.int (6 : Int32)), (.ref b1), (.ref b1)])) (fun t k => XS.bipush X24.here hx rfl (hb hby d1_33) k) ?_
  refine own_step (st' := T24.setTop (mkF m 37 #[.val (.int x0), .unset] [(.int (32 : Int32)), (.int (6 : Int32)), (.ref b1), (.ref b1)])) (fun t k => XS.bipush X24.here hx rfl (hb hby d1_35) k) ?_
  obtain ⟨T28, h28, X28, e28, W28, V28, st28⟩ := own_stI X24 hx hZ e24 V24 (j := (6 : Int32)) (i := 6) ⟨by decide, by decide⟩ rfl (Nat.le_of_ble_eq_true rfl) (g := (mkF m 37 #[.val (.int x0), .unset] [(.int (32 : Int32)), (.int (6 : Int32)), (.ref b1), (.ref b1)])) rfl rfl (hb hby d1_37)
  have V28 : Arv Z h28 b1 k1 .int (8 : Int32) [(.int (0 : Int32)), (.int (1 : Int32)), (.int (19 : Int32)), (.int (20 : Int32)), (.int (21 : Int32)), (.int (31 : Int32)), (.int (32 : Int32)), (.int (0 : Int32))] (.int (0 : Int32)) := V28
  have K29 : Keep h0 h28 [] := K25.wr W28 (Or.inr sz_b1)
  have Z30 : n0 ≤ h28.size := Nat.le_trans Z26 (Keep.of_wr W28).1
  have N31 := Fr.snoc X28 N27 g_b1
  refine own_step (st' := T28.setTop (mkF m 38 #[.val (.int x0), .unset] [(.ref b1)])) st28 ?_
  refine own_step (st' := T28.setTop (mkF m 39 #[.val (.int x0), .unset] [(.ref b1), (.ref b1)])) (fun t k => XS.dup X28.here hx rfl (hb hby d1_38) rfl rfl k) ?_
  refine own_step (st' := T28.setTop (mkF m 41 #[.val (.int x0), .unset] [(.int (7 : Int32)), (.ref b1), (.ref b1)])) (fun t k => XS.bipush X28.here hx rfl (hb hby d1_39) k) ?_
  refine own_step (st' := T28.setTop (mkF m 43 #[.val (.int x0), .unset] [(.int (33 : Int32)), (.int (7 : Int32)), (.ref b1), (.ref b1)])) (fun t k => XS.bipush X28.here hx rfl (hb hby d1_41) k) ?_
  obtain ⟨T32, h32, X32, e32, W32, V32, st32⟩ := own_stI X28 hx hZ e28 V28 (j := (7 : Int32)) (i := 7) ⟨by decide, by decide⟩ rfl (Nat.le_of_ble_eq_true rfl) (g := (mkF m 43 #[.val (.int x0), .unset] [(.int (33 : Int32)), (.int (7 : Int32)), (.ref b1), (.ref b1)])) rfl rfl (hb hby d1_43)
  have V32 : Arv Z h32 b1 k1 .int (8 : Int32) [(.int (0 : Int32)), (.int (1 : Int32)), (.int (19 : Int32)), (.int (20 : Int32)), (.int (21 : Int32)), (.int (31 : Int32)), (.int (32 : Int32)), (.int (33 : Int32))] (.int (0 : Int32)) := V32
  have K33 : Keep h0 h32 [] := K29.wr W32 (Or.inr sz_b1)
  have Z34 : n0 ≤ h32.size := Nat.le_trans Z30 (Keep.of_wr W32).1
  have N35 := Fr.snoc X32 N31 g_b1
  refine own_step (st' := T32.setTop (mkF m 44 #[.val (.int x0), .unset] [(.ref b1)])) st32 ?_
  refine own_step (st' := T32.setTop (mkF m 45 #[.val (.int x0), .val (.ref b1)] [])) (fun t k => XS.astoreN X32.here hx rfl (hb hby d1_44) rfl rfl (l' := #[.val (.int x0), .val (.ref b1)]) rfl k) ?_
  refine own_step (st' := T32.setTop (mkF m 46 #[.val (.int x0), .val (.ref b1)] [(.ref b1)])) (fun t k => XS.aloadN X32.here hx rfl (hb hby d1_45) rfl rfl k) ?_
  refine own_step (st' := T32.setTop (mkF m 47 #[.val (.int x0), .val (.ref b1)] [(.int x0), (.ref b1)])) (fun t k => XS.iloadN X32.here hx rfl (hb hby d1_46) rfl k) ?_
  refine own_step (st' := T32.setTop (mkF m 49 #[.val (.int x0), .val (.ref b1)] [(.int (7 : Int32)), (.int x0), (.ref b1)])) (fun t k => XS.bipush X32.here hx rfl (hb hby d1_47) k) ?_
  refine own_step (st' := T32.setTop (mkF m 50 #[.val (.int x0), .val (.ref b1)] [(.int (x0 &&& (7 : Int32))), (.ref b1)])) (fun t k => XS.iand X32.here hx rfl (hb hby d1_49) rfl k) ?_
  obtain ⟨zz, hzz, hzb⟩ := own_tab (x0 &&& (7 : Int32)).toNatClampNeg
  refine own_step (st' := T32.setTop (mkF m 51 #[.val (.int x0), .val (.ref b1)] [(.int zz)])) (fun t k => own_ldI X32 hx hZ e32 V32 (j := (x0 &&& (7 : Int32))) (v := (.int zz)) (own_and7 x0) hzz (g := (mkF m 50 #[.val (.int x0), .val (.ref b1)] [(.int (x0 &&& (7 : Int32))), (.ref b1)])) rfl rfl (hb hby d1_50) t k) ?_
  refine own_ret X32 Bd.notSynchronized (some (.int zz)) (fun h => by rw [Bd.returns] at h; cases h) (fun fs hr => own_retI X32 hx Bd.returns (hb hby d1_51) hr) ?_ (by decide) (by decide)
  rw [e32]
  exact ⟨zz, rfl, N35, K33, hzb⟩
theorem d4_0 : decode jdk_2650_method_2_code 0 = .ok (.getstatic 17, 3) := by decide +kernel
theorem d4_3 : decode jdk_2650_method_2_code 3 = .ok (.areturn, 1) := by decide +kernel
theorem pn_8 : plainName "java/util/OptionalLong" = true := by first | (simp [plainName, overriddenIn]; done) | decide +kernel
theorem ef_4_ (m : MethodId)  : entryFrame m #[] 0 = mkF m 0 #[] [] := by first | (simp [entryFrame, mkF, argsToLocals, Value.category]; done) | rfl
def Q_rm4 (Z : State) (oL : Addr) (h0 : Heap) (n0 : Nat) (v : Option Value) (h : Heap) (L : List Loc) : Prop := v = some (.ref oL) ∧ Fr n0 L ∧ h = h0
set_option maxRecDepth 65536 in
set_option maxHeartbeats 40000000 in
theorem rm4 (l : Launch) (Z : State) (a0 : Array Value) (hw : ∀ d ∈ tables_1, d.before a0 Z = true) (ws : List Jvm.Cond) (oL : Addr) (h0 : Heap) (n0 : Nat) (Z0 : n0 ≤ h0.size) (O0 : Old Z n0 h0) (p_0 : Sta Z Z.heap "java/util/OptionalLong" "EMPTY" "Ljava/util/OptionalLong;" (.ref oL)) (p_1 : Exa Z Z.heap oL "java/util/OptionalLong") (p_2 : Fld Z Z.heap oL "java/util/OptionalLong" "isPresent" "Z" (.int (0 : Int32))) :
    MetFree l (⟨"java/util/OptionalLong", "empty", "()Ljava/util/OptionalLong;"⟩ : MethodName) (head1 (Jvm.Cond.code (⟨"java/util/OptionalLong", "empty", "()Ljava/util/OptionalLong;"⟩ : MethodName) jdk_2650_method_2_code 0 (some (.object "java/util/OptionalLong")) :: ws) ({ frames := 0, cells := 0, slots := 0, locals := 0 } : Room)) (fun a U => a = #[] ∧ Z.Warmed39 U.vm ∧ U.heap = h0) (fun _ _ _ _ _ => True) (fun _ U o U' => ∃ v L, o = .returned v ∧ Q_rm4 Z oL h0 n0 v U'.heap L ∧ FrameEnd U o U' L ({ frames := 0, cells := 0, slots := 0, locals := 0 } : Room).cells ({ frames := 0, cells := 0, slots := 0, locals := 0 } : Room).slots) := by
  refine MetFree.of_bodySF (plainFor_of_name pn_8) hisR ?_
  intro p e s m args below meth c s₁ Bd hml0 hP hK
  obtain ⟨rfl, hZ, hh⟩ := hP
  have hx := Bd.exec
  have hby := Bd.bytes
  have hml : c.maxLocals = 0 := hml0
  have hown : s.vm.findClass "java/util/OptionalLong" = some m.cls := findClass_of_methodNamed Bd.named
  have hnm := (name_of_methodNamed Bd.named Bd.method).1
  have X0 : Stand p l e ({ frames := 0, cells := 0, slots := 0, locals := 0 } : Room) s m #[] below meth c s₁ [] 0 0 := Stand.of_body Bd
  have e0 : s₁.heap = h0 := by rw [← hh, Bd.state]; rfl
  have N0 := Fr.nil n0
  show own_Ends p e below s ({ frames := 0, cells := 0, slots := 0, locals := 0 } : Room).cells ({ frames := 0, cells := 0, slots := 0, locals := 0 } : Room).slots (Q_rm4 Z oL h0 n0) (s₁.setTop (entryFrame m #[] 0))
  rw [ef_4_]
  obtain ⟨T1, X1, e1, st1⟩ := getS2 X0 hx hZ hown (host := "") (Or.inl (hw _ (List.mem_of_getElem? (i := 19) rfl))) Via.refl e0 (p_0.ext O0.2) (g := (mkF m 0 #[] [])) rfl (hb hby d4_0)
  refine own_step (st' := T1.setTop (mkF m 3 #[] [(.ref oL)])) st1 ?_
  refine own_ret X1 Bd.notSynchronized (some (.ref oL)) (fun h => by rw [Bd.returns] at h; cases h) (fun fs hr => retOut X1 hx Bd.returns rfl (Or.inr (Or.inr (Or.inr (Or.inr ⟨rfl, rfl, rfl⟩)))) (hb hby d4_3) hr) ?_ (by decide) (by decide)
  rw [e1]
  exact ⟨rfl, N0, rfl⟩
theorem d2_0 : decode prog_37_method_1_code 0 = .ok (.aload_n 0, 1) := by decide +kernel
theorem d2_1 : decode prog_37_method_1_code 1 = .ok (.invokespecial 1, 3) := by decide +kernel
theorem d2_4 : decode prog_37_method_1_code 4 = .ok (.aload_n 0, 1) := by decide +kernel
theorem d2_5 : decode prog_37_method_1_code 5 = .ok (.invokestatic 7, 3) := by decide +kernel
theorem d2_8 : decode prog_37_method_1_code 8 = .ok (.putfield 13, 3) := by decide +kernel
theorem d2_11 : decode prog_37_method_1_code 11 = .ok (.return_, 1) := by decide +kernel
theorem pn_1 : plainName "com/example/aturan/aturan/rules/AraMRuleBuilder" = true := by first | (simp [plainName, overriddenIn]; done) | decide +kernel
theorem ef_2_R (m : MethodId) (x0 : Addr) : entryFrame m #[(.ref x0)] 1 = mkF m 0 #[.val (.ref x0)] [] := by first | (simp [entryFrame, mkF, argsToLocals, Value.category]; done) | rfl
def Q_rm2 (Z : State) (x0 : Addr) (oL : Addr) (h0 : Heap) (n0 : Nat) (v : Option Value) (h : Heap) (L : List Loc) : Prop := v = none ∧ Fr n0 L ∧ Keep h0 h [x0] ∧ Fld Z h x0 "com/example/aturan/aturan/rules/AraMRuleBuilder" "permissions" "Ljava/util/OptionalLong;" (.ref oL) ∧ Fld Z h x0 "com/example/aturan/aturan/rules/AraMRuleBuilder" "certificateHash" "[B" .null ∧ Fld Z h x0 "com/example/aturan/aturan/rules/AraMRuleBuilder" "aid" "[B" .null ∧ Fld Z h x0 "com/example/aturan/aturan/rules/AraMRuleBuilder" "packageName" "Ljava/lang/String;" .null ∧ Fld Z h x0 "com/example/aturan/aturan/rules/AraMRuleBuilder" "apduRule" "Lcom/example/aturan/aturan/rules/ApduRule;" .null ∧ Fld Z h x0 "com/example/aturan/aturan/rules/AraMRuleBuilder" "nfcRule" "Lcom/example/aturan/aturan/rules/Access;" .null
set_option maxRecDepth 65536 in
set_option maxHeartbeats 40000000 in
theorem rm2 (l : Launch) (Z : State) (a0 : Array Value) (hw : ∀ d ∈ tables_1, d.before a0 Z = true) (ws : List Jvm.Cond) (x0 : Addr) (oL : Addr) (h0 : Heap) (n0 : Nat) (Z0 : n0 ≤ h0.size) (O0 : Old Z n0 h0) (p_0 : Fld Z h0 x0 "com/example/aturan/aturan/rules/AraMRuleBuilder" "permissions" "Ljava/util/OptionalLong;" .null) (p_1 : Fld Z h0 x0 "com/example/aturan/aturan/rules/AraMRuleBuilder" "certificateHash" "[B" .null) (p_2 : Fld Z h0 x0 "com/example/aturan/aturan/rules/AraMRuleBuilder" "aid" "[B" .null) (p_3 : Fld Z h0 x0 "com/example/aturan/aturan/rules/AraMRuleBuilder" "packageName" "Ljava/lang/String;" .null) (p_4 : Fld Z h0 x0 "com/example/aturan/aturan/rules/AraMRuleBuilder" "apduRule" "Lcom/example/aturan/aturan/rules/ApduRule;" .null) (p_5 : Fld Z h0 x0 "com/example/aturan/aturan/rules/AraMRuleBuilder" "nfcRule" "Lcom/example/aturan/aturan/rules/Access;" .null) (p_6 : Exa Z h0 x0 "com/example/aturan/aturan/rules/AraMRuleBuilder") (p_7 : n0 ≤ x0) (p_8 : Sta Z Z.heap "java/util/OptionalLong" "EMPTY" "Ljava/util/OptionalLong;" (.ref oL)) (p_9 : Exa Z Z.heap oL "java/util/OptionalLong") (p_10 : Fld Z Z.heap oL "java/util/OptionalLong" "isPresent" "Z" (.int (0 : Int32))) :
    MetFree l (⟨"com/example/aturan/aturan/rules/AraMRuleBuilder", "<init>", "()V"⟩ : MethodName) (head1 (Jvm.Cond.code (⟨"com/example/aturan/aturan/rules/AraMRuleBuilder", "<init>", "()V"⟩ : MethodName) prog_37_method_1_code 1 none :: ws) ({ frames := 1, cells := 0, slots := 0, locals := 12 } : Room)) (fun a U => a = #[(.ref x0)] ∧ Z.Warmed39 U.vm ∧ U.heap = h0) (fun _ _ _ _ _ => True) (fun _ U o U' => ∃ v L, o = .returned v ∧ Q_rm2 Z x0 oL h0 n0 v U'.heap L ∧ FrameEnd U o U' L ({ frames := 1, cells := 0, slots := 0, locals := 12 } : Room).cells ({ frames := 1, cells := 0, slots := 0, locals := 12 } : Room).slots) := by
  refine MetFree.of_bodySF (plainFor_of_name pn_1) hisR ?_
  intro p e s m args below meth c s₁ Bd hml0 hP hK
  obtain ⟨rfl, hZ, hh⟩ := hP
  have hx := Bd.exec
  have hby := Bd.bytes
  have hml : c.maxLocals = 1 := hml0
  have hown : s.vm.findClass "com/example/aturan/aturan/rules/AraMRuleBuilder" = some m.cls := findClass_of_methodNamed Bd.named
  have hnm := (name_of_methodNamed Bd.named Bd.method).1
  have X0 : Stand p l e ({ frames := 1, cells := 0, slots := 0, locals := 12 } : Room) s m #[(.ref x0)] below meth c s₁ [] 0 0 := Stand.of_body Bd
  have e0 : s₁.heap = h0 := by rw [← hh, Bd.state]; rfl
  have N0 := Fr.nil n0
  show own_Ends p e below s ({ frames := 1, cells := 0, slots := 0, locals := 12 } : Room).cells ({ frames := 1, cells := 0, slots := 0, locals := 12 } : Room).slots (Q_rm2 Z x0 oL h0 n0) (s₁.setTop (entryFrame m #[(.ref x0)] 1))
  rw [ef_2_R]
  refine own_step (st' := s₁.setTop (mkF m 1 #[.val (.ref x0)] [(.ref x0)])) (fun t k => XS.aloadN X0.here hx rfl (hb hby d2_0) rfl rfl k) ?_
  obtain ⟨T1, X1, e1, st1⟩ := initO X0 hx hZ hown (hw _ (List.mem_of_getElem? (i := 12) rfl)) (hw _ (List.mem_of_getElem? (i := 13) rfl)) (hw _ (List.mem_of_getElem? (i := 14) rfl)) e0 (g := (mkF m 1 #[.val (.ref x0)] [(.ref x0)])) rfl (by rw [hml]; rfl) rfl (hb hby d2_1) (by decide) (W := 0) (by show 2 * 0 + _ ≤ _; exact Nat.le_of_eq rfl) (by decide)
  refine own_step (st' := T1.setTop (mkF m 4 #[.val (.ref x0)] [])) st1 ?_
  refine own_step (st' := T1.setTop (mkF m 5 #[.val (.ref x0)] [(.ref x0)])) (fun t k => XS.aloadN X1.here hx rfl (hb hby d2_4) rfl rfl k) ?_
  obtain ⟨_, _, ⟨T2, L2, k2, n2⟩, -, X2, ⟨Lc2, hQ2, l2, y2, z2⟩, st2⟩ := Jvm.LawKit.callS X1 hx (y := (⟨"java/util/OptionalLong", "empty", "()Ljava/util/OptionalLong;"⟩ : MethodName)) hown (mvT hZ (hw _ (List.mem_of_getElem? (i := 15) rfl))) (mvT hZ (hw _ (List.mem_of_getElem? (i := 16) rfl))) (mvT hZ (hw _ (List.mem_of_getElem? (i := 17) rfl))) (mvT hZ (hw _ (List.mem_of_getElem? (i := 18) rfl))) (by decide) (backOf (W := 1) (rm4 l Z a0 hw [] oL h0 n0 Z0 O0 p_8 p_9 p_10) hZ (hw _ (List.mem_of_getElem? (i := 18) rfl)) (hw _ (List.mem_of_getElem? (i := 17) rfl)) (by decide) (by decide)) (g := (mkF m 5 #[.val (.ref x0)] [(.ref x0)])) rfl (by rw [hml]; rfl) (argsL := []) (rest := [(.ref x0)]) (lenOf pd_2 rfl) rfl (by show 2 * 0 + _ ≤ _; exact Nat.le_of_eq rfl) (hb hby d2_5) (fun _ _ => ⟨rfl, e1, (by decide : 0 + 0 ≤ _), (by decide : 0 + 0 ≤ _)⟩)
  dsimp only [Pt.U, Pt.locs, Pt.cells, Pt.slots] at X2 l2 y2 z2 st2 hQ2
  subst l2 y2 z2
  obtain ⟨rfl, N2q, e2⟩ := hQ2
  have N2 := Fr.app N0 N2q
  refine own_step (st' := T2.setTop (mkF m 8 #[.val (.ref x0)] [(.ref oL), (.ref x0)])) st2 ?_
  obtain ⟨T3, h3, X3, e3, W3, st3⟩ := putF X2 hx hZ hown (host := "") (Or.inl (hw _ (List.mem_of_getElem? (i := 20) rfl))) Via.refl e2 p_0 p_6 (Or.inl (hw _ (List.mem_of_getElem? (i := 21) rfl))) (hw _ (List.mem_of_getElem? (i := 7) rfl)) (ty := (.object "java/util/OptionalLong")) (by decide) rfl rfl (g := (mkF m 8 #[.val (.ref x0)] [(.ref oL), (.ref x0)])) rfl rfl (hb hby d2_8)
  have F3 := p_0.same W3
  have f4 := p_1.other W3 (Or.inr (slot_ne (Or.inl (hw _ (List.mem_of_getElem? (i := 37) rfl))) (Or.inl (hw _ (List.mem_of_getElem? (i := 21) rfl))) (by decide) (t := (.array .byte)) (t' := (.object "java/util/OptionalLong")) (by decide) (by decide)))
  have f5 := p_2.other W3 (Or.inr (slot_ne (Or.inl (hw _ (List.mem_of_getElem? (i := 44) rfl))) (Or.inl (hw _ (List.mem_of_getElem? (i := 21) rfl))) (by decide) (t := (.array .byte)) (t' := (.object "java/util/OptionalLong")) (by decide) (by decide)))
  have f6 := p_3.other W3 (Or.inr (slot_ne (Or.inl (hw _ (List.mem_of_getElem? (i := 55) rfl))) (Or.inl (hw _ (List.mem_of_getElem? (i := 21) rfl))) (by decide) (t := (.object "java/lang/String")) (t' := (.object "java/util/OptionalLong")) (by decide) (by decide)))
  have f7 := p_4.other W3 (Or.inr (slot_ne (Or.inl (hw _ (List.mem_of_getElem? (i := 57) rfl))) (Or.inl (hw _ (List.mem_of_getElem? (i := 21) rfl))) (by decide) (t := (.object "com/example/aturan/aturan/rules/ApduRule")) (t' := (.object "java/util/OptionalLong")) (by decide) (by decide)))
  have f8 := p_5.other W3 (Or.inr (slot_ne (Or.inl (hw _ (List.mem_of_getElem? (i := 59) rfl))) (Or.inl (hw _ (List.mem_of_getElem? (i := 21) rfl))) (by decide) (t := (.object "com/example/aturan/aturan/rules/Access")) (t' := (.object "java/util/OptionalLong")) (by decide) (by decide)))
  have f9 := p_6.wr W3
  have O10 := O0.wr W3 p_7
  have K11 : Keep h0 h3 [x0] := (Keep.refl h0 [x0]).wr W3 (Or.inl (List.mem_of_getElem? (i := 0) rfl))
  have Z12 : n0 ≤ h3.size := Nat.le_trans Z0 (Keep.of_wr W3).1
  have N13 := Fr.snoc X3 N2 p_7
  refine own_step (st' := T3.setTop (mkF m 11 #[.val (.ref x0)] [])) st3 ?_
  refine own_ret X3 Bd.notSynchronized (none) (fun _ => rfl) (fun fs hr => X3.returnOut hx Bd.returns (hb hby d2_11) hr) ?_ (by decide) (by decide)
  rw [e3]
  exact ⟨rfl, N13, K11, F3, f4, f5, f6, f7, f8⟩
theorem d5_0 : decode prog_37_method_4_code 0 = .ok (.aload_n 0, 1) := by decide +kernel
theorem d5_1 : decode prog_37_method_4_code 1 = .ok (.aload_n 1, 1) := by decide +kernel
theorem d5_2 : decode prog_37_method_4_code 2 = .ok (.invokevirtual 30, 3) := by decide +kernel
theorem d5_5 : decode prog_37_method_4_code 5 = .ok (.checkcast 31, 3) := by decide +kernel
theorem d5_8 : decode prog_37_method_4_code 8 = .ok (.putfield 39, 3) := by decide +kernel
theorem d5_11 : decode prog_37_method_4_code 11 = .ok (.aload_n 0, 1) := by decide +kernel
theorem d5_12 : decode prog_37_method_4_code 12 = .ok (.areturn, 1) := by decide +kernel
theorem ef_5_RR (m : MethodId) (x0 : Addr) (x1 : Addr) : entryFrame m #[(.ref x0), (.ref x1)] 2 = mkF m 0 #[.val (.ref x0), .val (.ref x1)] [] := by first | (simp [entryFrame, mkF, argsToLocals, Value.category]; done) | rfl
def Q_rm5 (Z : State) (x0 : Addr) (x1 : Addr) (u : Value) (oL : Addr) (k : ClassId) (n : Int32) (vs : List Value) (dv : Value) (h0 : Heap) (n0 : Nat) (v : Option Value) (h : Heap) (L : List Loc) : Prop := ∃ b : Addr, v = some (.ref x0) ∧ Fr n0 L ∧ Keep h0 h [x0] ∧ h0.size ≤ b ∧ Fld Z h x0 "com/example/aturan/aturan/rules/AraMRuleBuilder" "certificateHash" "[B" (.ref b) ∧ Fld Z h x0 "com/example/aturan/aturan/rules/AraMRuleBuilder" "permissions" "Ljava/util/OptionalLong;" (.ref oL) ∧ Fld Z h x0 "com/example/aturan/aturan/rules/AraMRuleBuilder" "aid" "[B" .null ∧ Fld Z h x0 "com/example/aturan/aturan/rules/AraMRuleBuilder" "packageName" "Ljava/lang/String;" .null ∧ Fld Z h x0 "com/example/aturan/aturan/rules/AraMRuleBuilder" "apduRule" "Lcom/example/aturan/aturan/rules/ApduRule;" .null ∧ Fld Z h x0 "com/example/aturan/aturan/rules/AraMRuleBuilder" "nfcRule" "Lcom/example/aturan/aturan/rules/Access;" .null ∧ Arv Z h b k .byte n vs dv ∧ Exa Z h b "[B"
set_option maxRecDepth 65536 in
set_option maxHeartbeats 40000000 in
theorem rm5 (l : Launch) (Z : State) (a0 : Array Value) (hw : ∀ d ∈ tables_1, d.before a0 Z = true) (ws : List Jvm.Cond) (x0 : Addr) (x1 : Addr) (u : Value) (oL : Addr) (k : ClassId) (n : Int32) (vs : List Value) (dv : Value) (h0 : Heap) (n0 : Nat) (Z0 : n0 ≤ h0.size) (p_0 : Fld Z h0 x0 "com/example/aturan/aturan/rules/AraMRuleBuilder" "certificateHash" "[B" u) (p_1 : Fld Z h0 x0 "com/example/aturan/aturan/rules/AraMRuleBuilder" "permissions" "Ljava/util/OptionalLong;" (.ref oL)) (p_2 : Fld Z h0 x0 "com/example/aturan/aturan/rules/AraMRuleBuilder" "aid" "[B" .null) (p_3 : Fld Z h0 x0 "com/example/aturan/aturan/rules/AraMRuleBuilder" "packageName" "Ljava/lang/String;" .null) (p_4 : Fld Z h0 x0 "com/example/aturan/aturan/rules/AraMRuleBuilder" "apduRule" "Lcom/example/aturan/aturan/rules/ApduRule;" .null) (p_5 : Fld Z h0 x0 "com/example/aturan/aturan/rules/AraMRuleBuilder" "nfcRule" "Lcom/example/aturan/aturan/rules/Access;" .null) (p_6 : Exa Z h0 x0 "com/example/aturan/aturan/rules/AraMRuleBuilder") (p_7 : n0 ≤ x0) (p_8 : x1 ≠ x0) (p_9 : Arv Z h0 x1 k .byte n vs dv) (p_10 : Exa Z h0 x1 "[B") (p_11 : 0 ≤ n.toInt ∧ n.toInt ≤ 33) :
    MetFree l (⟨"com/example/aturan/aturan/rules/AraMRuleBuilder", "certificateHash", "([B)Lcom/example/aturan/aturan/rules/AraMRuleBuilder;"⟩ : MethodName) (head1 (Jvm.Cond.code (⟨"com/example/aturan/aturan/rules/AraMRuleBuilder", "certificateHash", "([B)Lcom/example/aturan/aturan/rules/AraMRuleBuilder;"⟩ : MethodName) prog_37_method_4_code 2 (some (.object "com/example/aturan/aturan/rules/AraMRuleBuilder")) :: ws) ({ frames := 1, cells := 1, slots := 33, locals := 15 } : Room)) (fun a U => a = #[(.ref x0), (.ref x1)] ∧ Z.Warmed39 U.vm ∧ U.heap = h0) (fun _ _ _ _ _ => True) (fun _ U o U' => ∃ v L, o = .returned v ∧ Q_rm5 Z x0 x1 u oL k n vs dv h0 n0 v U'.heap L ∧ FrameEnd U o U' L ({ frames := 1, cells := 1, slots := 33, locals := 15 } : Room).cells ({ frames := 1, cells := 1, slots := 33, locals := 15 } : Room).slots) := by
  refine MetFree.of_bodySF (plainFor_of_name pn_1) hisR ?_
  intro p e s m args below meth c s₁ Bd hml0 hP hK
  obtain ⟨rfl, hZ, hh⟩ := hP
  have hx := Bd.exec
  have hby := Bd.bytes
  have hml : c.maxLocals = 2 := hml0
  have hown : s.vm.findClass "com/example/aturan/aturan/rules/AraMRuleBuilder" = some m.cls := findClass_of_methodNamed Bd.named
  have hnm := (name_of_methodNamed Bd.named Bd.method).1
  have X0 : Stand p l e ({ frames := 1, cells := 1, slots := 33, locals := 15 } : Room) s m #[(.ref x0), (.ref x1)] below meth c s₁ [] 0 0 := Stand.of_body Bd
  have e0 : s₁.heap = h0 := by rw [← hh, Bd.state]; rfl
  have N0 := Fr.nil n0
  show own_Ends p e below s ({ frames := 1, cells := 1, slots := 33, locals := 15 } : Room).cells ({ frames := 1, cells := 1, slots := 33, locals := 15 } : Room).slots (Q_rm5 Z x0 x1 u oL k n vs dv h0 n0) (s₁.setTop (entryFrame m #[(.ref x0), (.ref x1)] 2))
  rw [ef_5_RR]
  refine own_step (st' := s₁.setTop (mkF m 1 #[.val (.ref x0), .val (.ref x1)] [(.ref x0)])) (fun t k => XS.aloadN X0.here hx rfl (hb hby d5_0) rfl rfl k) ?_
  refine own_step (st' := s₁.setTop (mkF m 2 #[.val (.ref x0), .val (.ref x1)] [(.ref x1), (.ref x0)])) (fun t k => XS.aloadN X0.here hx rfl (hb hby d5_1) rfl rfl k) ?_
  obtain ⟨T1, h1, X1, e1, E1, V1, A1, st1⟩ := cloneH X0 hx hZ hown (hw _ (List.mem_of_getElem? (i := 27) rfl)) (hw _ (List.mem_of_getElem? (i := 28) rfl)) (hw _ (List.mem_of_getElem? (i := 32) rfl)) (hw _ (List.mem_of_getElem? (i := 30) rfl)) (hw _ (List.mem_of_getElem? (i := 31) rfl)) (hw _ (List.mem_of_getElem? (i := 33) rfl)) e0 (Arv.arh p_9) p_10 (g := (mkF m 2 #[.val (.ref x0), .val (.ref x1)] [(.ref x1), (.ref x0)])) rfl (by rw [hml]; rfl) rfl (hb hby d5_2) (by decide) (W := 1) (cap := 33) (by show 2 * 0 + _ ≤ _; exact Nat.le_of_eq rfl) (by decide) (own_le33 p_11) (by decide) (by decide)
  obtain ⟨b1, g1⟩ : ∃ z, z = h0.size := ⟨_, rfl⟩
  rw [← g1] at A1 V1 st1
  have ne2 : x0 ≠ b1 := Nat.ne_of_lt (Nat.lt_of_lt_of_le p_0.lt (Nat.le_of_eq g1.symm))
  have ne3 : x1 ≠ b1 := Nat.ne_of_lt (Nat.lt_of_lt_of_le p_9.lt (Nat.le_of_eq g1.symm))
  have g_b1 : n0 ≤ b1 := Nat.le_trans Z0 (Nat.le_of_eq g1.symm)
  have sz_b1 : h0.size ≤ b1 := Nat.le_trans (Keep.refl h0 [x0]).1 (Nat.le_of_eq g1.symm)
  have f4 := p_0.ext E1
  have f5 := p_1.ext E1
  have f6 := p_2.ext E1
  have f7 := p_3.ext E1
  have f8 := p_4.ext E1
  have f9 := p_5.ext E1
  have f10 := p_6.ext E1
  have f11 := p_9.ext E1
  have f12 := p_10.ext E1
  have K13 : Keep h0 h1 [x0] := (Keep.refl h0 [x0]).ext E1
  have Z14 : n0 ≤ h1.size := Nat.le_trans Z0 E1.1
  have V1 : Arv Z h1 b1 k .byte n vs dv := V1
  refine own_step (st' := T1.setTop (mkF m 5 #[.val (.ref x0), .val (.ref x1)] [(.ref b1), (.ref x0)])) st1 ?_
  obtain ⟨T15, X15, e15, st15⟩ := castY X1 hx hZ hown (hw _ (List.mem_of_getElem? (i := 34) rfl)) e1 (Ins.self A1) (g := (mkF m 5 #[.val (.ref x0), .val (.ref x1)] [(.ref b1), (.ref x0)])) rfl rfl (hb hby d5_5)
  refine own_step (st' := T15.setTop (mkF m 8 #[.val (.ref x0), .val (.ref x1)] [(.ref b1), (.ref x0)])) st15 ?_
  obtain ⟨T16, h16, X16, e16, W16, st16⟩ := putF X15 hx hZ hown (host := "") (Or.inl (hw _ (List.mem_of_getElem? (i := 36) rfl))) Via.refl e15 f4 f10 (Or.inl (hw _ (List.mem_of_getElem? (i := 37) rfl))) (hw _ (List.mem_of_getElem? (i := 7) rfl)) (ty := (.array .byte)) (by decide) rfl rfl (g := (mkF m 8 #[.val (.ref x0), .val (.ref x1)] [(.ref b1), (.ref x0)])) rfl rfl (hb hby d5_8)
  have F16 := f4.same W16
  have f17 := f5.other W16 (Or.inr (slot_ne (Or.inl (hw _ (List.mem_of_getElem? (i := 21) rfl))) (Or.inl (hw _ (List.mem_of_getElem? (i := 37) rfl))) (by decide) (t := (.object "java/util/OptionalLong")) (t' := (.array .byte)) (by decide) (by decide)))
  have f18 := f6.other W16 (Or.inr (slot_ne (Or.inl (hw _ (List.mem_of_getElem? (i := 44) rfl))) (Or.inl (hw _ (List.mem_of_getElem? (i := 37) rfl))) (by decide) (t := (.array .byte)) (t' := (.array .byte)) (by decide) (by decide)))
  have f19 := f7.other W16 (Or.inr (slot_ne (Or.inl (hw _ (List.mem_of_getElem? (i := 55) rfl))) (Or.inl (hw _ (List.mem_of_getElem? (i := 37) rfl))) (by decide) (t := (.object "java/lang/String")) (t' := (.array .byte)) (by decide) (by decide)))
  have f20 := f8.other W16 (Or.inr (slot_ne (Or.inl (hw _ (List.mem_of_getElem? (i := 57) rfl))) (Or.inl (hw _ (List.mem_of_getElem? (i := 37) rfl))) (by decide) (t := (.object "com/example/aturan/aturan/rules/ApduRule")) (t' := (.array .byte)) (by decide) (by decide)))
  have f21 := f9.other W16 (Or.inr (slot_ne (Or.inl (hw _ (List.mem_of_getElem? (i := 59) rfl))) (Or.inl (hw _ (List.mem_of_getElem? (i := 37) rfl))) (by decide) (t := (.object "com/example/aturan/aturan/rules/Access")) (t' := (.array .byte)) (by decide) (by decide)))
  have f22 := f10.wr W16
  have f23 := f11.other W16 p_8
  have f24 := f12.wr W16
  have f25 := V1.other W16 (Ne.symm ne2)
  have f26 := A1.wr W16
  have K27 : Keep h0 h16 [x0] := K13.wr W16 (Or.inl (List.mem_of_getElem? (i := 0) rfl))
  have Z28 : n0 ≤ h16.size := Nat.le_trans Z14 (Keep.of_wr W16).1
  have N29 := Fr.snoc X16 N0 p_7
  refine own_step (st' := T16.setTop (mkF m 11 #[.val (.ref x0), .val (.ref x1)] [])) st16 ?_
  refine own_step (st' := T16.setTop (mkF m 12 #[.val (.ref x0), .val (.ref x1)] [(.ref x0)])) (fun t k => XS.aloadN X16.here hx rfl (hb hby d5_11) rfl rfl k) ?_
  refine own_ret X16 Bd.notSynchronized (some (.ref x0)) (fun h => by rw [Bd.returns] at h; cases h) (fun fs hr => retOut X16 hx Bd.returns rfl (Or.inr (Or.inr (Or.inr (Or.inr ⟨rfl, rfl, rfl⟩)))) (hb hby d5_12) hr) ?_ (by decide) (by decide)
  rw [e16]
  exact ⟨b1, rfl, N29, K27, sz_b1, F16, f17, f18, f19, f20, f21, f25, f26⟩
theorem d11_0 : decode jdk_32_method_2_code 0 = .ok (.aload_n 0, 1) := by decide +kernel
theorem d11_1 : decode jdk_32_method_2_code 1 = .ok (.invokespecial 7, 3) := by decide +kernel
theorem d11_4 : decode jdk_32_method_2_code 4 = .ok (.aload_n 0, 1) := by decide +kernel
theorem d11_5 : decode jdk_32_method_2_code 5 = .ok (.aload_n 1, 1) := by decide +kernel
theorem d11_6 : decode jdk_32_method_2_code 6 = .ok (.putfield 13, 3) := by decide +kernel
theorem d11_9 : decode jdk_32_method_2_code 9 = .ok (.return_, 1) := by decide +kernel
theorem pn_7 : plainName "java/util/Optional" = true := by first | (simp [plainName, overriddenIn]; done) | decide +kernel
theorem ef_11_RR (m : MethodId) (x0 : Addr) (x1 : Addr) : entryFrame m #[(.ref x0), (.ref x1)] 2 = mkF m 0 #[.val (.ref x0), .val (.ref x1)] [] := by first | (simp [entryFrame, mkF, argsToLocals, Value.category]; done) | rfl
def Q_rm11 (Z : State) (x0 : Addr) (x1 : Addr) (h0 : Heap) (n0 : Nat) (v : Option Value) (h : Heap) (L : List Loc) : Prop := v = none ∧ Fr n0 L ∧ Keep h0 h [x0] ∧ Fld Z h x0 "java/util/Optional" "value" "Ljava/lang/Object;" (.ref x1)
set_option maxRecDepth 65536 in
set_option maxHeartbeats 40000000 in
theorem rm11 (l : Launch) (Z : State) (a0 : Array Value) (hw : ∀ d ∈ tables_1, d.before a0 Z = true) (ws : List Jvm.Cond) (x0 : Addr) (x1 : Addr) (h0 : Heap) (n0 : Nat) (Z0 : n0 ≤ h0.size) (p_0 : Fld Z h0 x0 "java/util/Optional" "value" "Ljava/lang/Object;" .null) (p_1 : Exa Z h0 x0 "java/util/Optional") (p_2 : n0 ≤ x0) :
    MetFree l (⟨"java/util/Optional", "<init>", "(Ljava/lang/Object;)V"⟩ : MethodName) (head1 (Jvm.Cond.code (⟨"java/util/Optional", "<init>", "(Ljava/lang/Object;)V"⟩ : MethodName) jdk_32_method_2_code 2 none :: ws) ({ frames := 1, cells := 0, slots := 0, locals := 12 } : Room)) (fun a U => a = #[(.ref x0), (.ref x1)] ∧ Z.Warmed39 U.vm ∧ U.heap = h0) (fun _ _ _ _ _ => True) (fun _ U o U' => ∃ v L, o = .returned v ∧ Q_rm11 Z x0 x1 h0 n0 v U'.heap L ∧ FrameEnd U o U' L ({ frames := 1, cells := 0, slots := 0, locals := 12 } : Room).cells ({ frames := 1, cells := 0, slots := 0, locals := 12 } : Room).slots) := by
  refine MetFree.of_bodySF (plainFor_of_name pn_7) hisR ?_
  intro p e s m args below meth c s₁ Bd hml0 hP hK
  obtain ⟨rfl, hZ, hh⟩ := hP
  have hx := Bd.exec
  have hby := Bd.bytes
  have hml : c.maxLocals = 2 := hml0
  have hown : s.vm.findClass "java/util/Optional" = some m.cls := findClass_of_methodNamed Bd.named
  have hnm := (name_of_methodNamed Bd.named Bd.method).1
  have X0 : Stand p l e ({ frames := 1, cells := 0, slots := 0, locals := 12 } : Room) s m #[(.ref x0), (.ref x1)] below meth c s₁ [] 0 0 := Stand.of_body Bd
  have e0 : s₁.heap = h0 := by rw [← hh, Bd.state]; rfl
  have N0 := Fr.nil n0
  show own_Ends p e below s ({ frames := 1, cells := 0, slots := 0, locals := 12 } : Room).cells ({ frames := 1, cells := 0, slots := 0, locals := 12 } : Room).slots (Q_rm11 Z x0 x1 h0 n0) (s₁.setTop (entryFrame m #[(.ref x0), (.ref x1)] 2))
  rw [ef_11_RR]
  refine own_step (st' := s₁.setTop (mkF m 1 #[.val (.ref x0), .val (.ref x1)] [(.ref x0)])) (fun t k => XS.aloadN X0.here hx rfl (hb hby d11_0) rfl rfl k) ?_
  obtain ⟨T1, X1, e1, st1⟩ := initO X0 hx hZ hown (hw _ (List.mem_of_getElem? (i := 95) rfl)) (hw _ (List.mem_of_getElem? (i := 13) rfl)) (hw _ (List.mem_of_getElem? (i := 14) rfl)) e0 (g := (mkF m 1 #[.val (.ref x0), .val (.ref x1)] [(.ref x0)])) rfl (by rw [hml]; rfl) rfl (hb hby d11_1) (by decide) (W := 0) (by show 2 * 0 + _ ≤ _; exact Nat.le_of_eq rfl) (by decide)
  refine own_step (st' := T1.setTop (mkF m 4 #[.val (.ref x0), .val (.ref x1)] [])) st1 ?_
  refine own_step (st' := T1.setTop (mkF m 5 #[.val (.ref x0), .val (.ref x1)] [(.ref x0)])) (fun t k => XS.aloadN X1.here hx rfl (hb hby d11_4) rfl rfl k) ?_
  refine own_step (st' := T1.setTop (mkF m 6 #[.val (.ref x0), .val (.ref x1)] [(.ref x1), (.ref x0)])) (fun t k => XS.aloadN X1.here hx rfl (hb hby d11_5) rfl rfl k) ?_
  obtain ⟨T2, h2, X2, e2, W2, st2⟩ := putF X1 hx hZ hown (host := "") (Or.inl (hw _ (List.mem_of_getElem? (i := 96) rfl))) Via.refl e1 p_0 p_1 (Or.inr ⟨(hw _ (List.mem_of_getElem? (i := 97) rfl)), rfl, hnm⟩) (hw _ (List.mem_of_getElem? (i := 90) rfl)) (ty := (.object "java/lang/Object")) (by decide) rfl rfl (g := (mkF m 6 #[.val (.ref x0), .val (.ref x1)] [(.ref x1), (.ref x0)])) rfl rfl (hb hby d11_6)
  have F2 := p_0.same W2
  have f3 := p_1.wr W2
  have K4 : Keep h0 h2 [x0] := (Keep.refl h0 [x0]).wr W2 (Or.inl (List.mem_of_getElem? (i := 0) rfl))
  have Z5 : n0 ≤ h2.size := Nat.le_trans Z0 (Keep.of_wr W2).1
  have N6 := Fr.snoc X2 N0 p_2
  refine own_step (st' := T2.setTop (mkF m 9 #[.val (.ref x0), .val (.ref x1)] [])) st2 ?_
  refine own_ret X2 Bd.notSynchronized (none) (fun _ => rfl) (fun fs hr => X2.returnOut hx Bd.returns (hb hby d11_9) hr) ?_ (by decide) (by decide)
  rw [e2]
  exact ⟨rfl, N6, K4, F2⟩
theorem d10_0 : decode jdk_32_method_4_code 0 = .ok (.aload_n 0, 1) := by decide +kernel
theorem d10_1 : decode jdk_32_method_4_code 1 = .ok (.ifnonnull 9, 3) := by decide +kernel
theorem d10_10 : decode jdk_32_method_4_code 10 = .ok (.new 2, 3) := by decide +kernel
theorem d10_13 : decode jdk_32_method_4_code 13 = .ok (.dup, 1) := by decide +kernel
theorem d10_14 : decode jdk_32_method_4_code 14 = .ok (.aload_n 0, 1) := by decide +kernel
theorem d10_15 : decode jdk_32_method_4_code 15 = .ok (.invokespecial 23, 3) := by decide +kernel
theorem d10_18 : decode jdk_32_method_4_code 18 = .ok (.areturn, 1) := by decide +kernel
theorem ef_10_R (m : MethodId) (x0 : Addr) : entryFrame m #[(.ref x0)] 1 = mkF m 0 #[.val (.ref x0)] [] := by first | (simp [entryFrame, mkF, argsToLocals, Value.category]; done) | rfl
def Q_rm10 (Z : State) (x0 : Addr) (h0 : Heap) (n0 : Nat) (v : Option Value) (h : Heap) (L : List Loc) : Prop := ∃ r : Addr, v = some (.ref r) ∧ Fr n0 L ∧ Keep h0 h [] ∧ h0.size ≤ r ∧ Exa Z h r "java/util/Optional" ∧ Fld Z h r "java/util/Optional" "value" "Ljava/lang/Object;" (.ref x0)
set_option maxRecDepth 65536 in
set_option maxHeartbeats 40000000 in
theorem rm10 (l : Launch) (Z : State) (a0 : Array Value) (hw : ∀ d ∈ tables_1, d.before a0 Z = true) (ws : List Jvm.Cond) (x0 : Addr) (h0 : Heap) (n0 : Nat) (Z0 : n0 ≤ h0.size) :
    MetFree l (⟨"java/util/Optional", "ofNullable", "(Ljava/lang/Object;)Ljava/util/Optional;"⟩ : MethodName) (head1 (Jvm.Cond.code (⟨"java/util/Optional", "ofNullable", "(Ljava/lang/Object;)Ljava/util/Optional;"⟩ : MethodName) jdk_32_method_4_code 1 (some (.object "java/util/Optional")) :: ws) ({ frames := 2, cells := 1, slots := 1, locals := 26 } : Room)) (fun a U => a = #[(.ref x0)] ∧ Z.Warmed39 U.vm ∧ U.heap = h0) (fun _ _ _ _ _ => True) (fun _ U o U' => ∃ v L, o = .returned v ∧ Q_rm10 Z x0 h0 n0 v U'.heap L ∧ FrameEnd U o U' L ({ frames := 2, cells := 1, slots := 1, locals := 26 } : Room).cells ({ frames := 2, cells := 1, slots := 1, locals := 26 } : Room).slots) := by
  refine MetFree.of_bodySF (plainFor_of_name pn_7) hisR ?_
  intro p e s m args below meth c s₁ Bd hml0 hP hK
  obtain ⟨rfl, hZ, hh⟩ := hP
  have hx := Bd.exec
  have hby := Bd.bytes
  have hml : c.maxLocals = 1 := hml0
  have hown : s.vm.findClass "java/util/Optional" = some m.cls := findClass_of_methodNamed Bd.named
  have hnm := (name_of_methodNamed Bd.named Bd.method).1
  have X0 : Stand p l e ({ frames := 2, cells := 1, slots := 1, locals := 26 } : Room) s m #[(.ref x0)] below meth c s₁ [] 0 0 := Stand.of_body Bd
  have e0 : s₁.heap = h0 := by rw [← hh, Bd.state]; rfl
  have N0 := Fr.nil n0
  show own_Ends p e below s ({ frames := 2, cells := 1, slots := 1, locals := 26 } : Room).cells ({ frames := 2, cells := 1, slots := 1, locals := 26 } : Room).slots (Q_rm10 Z x0 h0 n0) (s₁.setTop (entryFrame m #[(.ref x0)] 1))
  rw [ef_10_R]
  refine own_step (st' := s₁.setTop (mkF m 1 #[.val (.ref x0)] [(.ref x0)])) (fun t k => XS.aloadN X0.here hx rfl (hb hby d10_0) rfl rfl k) ?_
  refine own_step (st' := s₁.setTop (mkF m 10 #[.val (.ref x0)] [])) (fun t k => XS.ifnonnullYes X0.here hx rfl (pc0 := 1) (pc' := 10) rfl (hb hby d10_1) rfl (by decide) (by decide) k) ?_
  obtain ⟨T1, h1, X1, e1, E1, A1, D1, -, st1⟩ := newO X0 hx hZ hown (hw _ (List.mem_of_getElem? (i := 89) rfl)) (hw _ (List.mem_of_getElem? (i := 90) rfl)) (hw _ (List.mem_of_getElem? (i := 87) rfl)) e0 (g := (mkF m 10 #[.val (.ref x0)] [])) rfl (hb hby d10_10) (by decide) (by decide)
  obtain ⟨b1, g1⟩ : ∃ z, z = h0.size := ⟨_, rfl⟩
  rw [← g1] at A1 D1 st1
  have g_b1 : n0 ≤ b1 := Nat.le_trans Z0 (Nat.le_of_eq g1.symm)
  have sz_b1 : h0.size ≤ b1 := Nat.le_trans (Keep.refl h0 []).1 (Nat.le_of_eq g1.symm)
  have K2 : Keep h0 h1 [] := (Keep.refl h0 []).ext E1
  have Z3 : n0 ≤ h1.size := Nat.le_trans Z0 E1.1
  have f4 : Fld Z h1 b1 "java/util/Optional" "value" "Ljava/lang/Object;" .null := D1 (Or.inr (hw _ (List.mem_of_getElem? (i := 97) rfl))) (ty := (.object "java/lang/Object")) (by decide)
  refine own_step (st' := T1.setTop (mkF m 13 #[.val (.ref x0)] [(.ref b1)])) st1 ?_
  refine own_step (st' := T1.setTop (mkF m 14 #[.val (.ref x0)] [(.ref b1), (.ref b1)])) (fun t k => XS.dup X1.here hx rfl (hb hby d10_13) rfl rfl k) ?_
  refine own_step (st' := T1.setTop (mkF m 15 #[.val (.ref x0)] [(.ref x0), (.ref b1), (.ref b1)])) (fun t k => XS.aloadN X1.here hx rfl (hb hby d10_14) rfl rfl k) ?_
  obtain ⟨_, _, ⟨T5, L5, k5, n5⟩, -, X5, ⟨Lc5, hQ5, l5, y5, z5⟩, st5⟩ := X1.specialBack hx (y := (⟨"java/util/Optional", "<init>", "(Ljava/lang/Object;)V"⟩ : MethodName)) rfl hown (mvT hZ (hw _ (List.mem_of_getElem? (i := 91) rfl))) (mvT hZ (hw _ (List.mem_of_getElem? (i := 92) rfl))) (mvT hZ (hw _ (List.mem_of_getElem? (i := 94) rfl))) (by decide) (backOf (W := 1) (rm11 l Z a0 hw [] b1 x0 h1 n0 Z3 f4 A1 g_b1) hZ (hw _ (List.mem_of_getElem? (i := 94) rfl)) (hw _ (List.mem_of_getElem? (i := 87) rfl)) (by decide) (by decide)) (g := (mkF m 15 #[.val (.ref x0)] [(.ref x0), (.ref b1), (.ref b1)])) rfl (by rw [hml]; rfl) (Steps.refl _) (a := b1) (argsL := [(.ref x0)]) (rest := [(.ref b1)]) (lenOf pd_10 rfl) rfl (by show 2 * 0 + _ ≤ _; exact Nat.le_of_eq rfl) (hb hby d10_15) (fun _ _ => ⟨rfl, e1, (by decide : 1 + 0 ≤ _), (by decide : 1 + 0 ≤ _)⟩)
  dsimp only [Pt.U, Pt.locs, Pt.cells, Pt.slots] at X5 l5 y5 z5 st5 hQ5
  subst l5 y5 z5
  obtain ⟨rfl, N5q, K5, pq5_0⟩ := hQ5
  have N5 := Fr.app N0 N5q
  obtain ⟨h5, e5⟩ : ∃ z, T5.heap = z := ⟨_, rfl⟩
  rw [e5] at K5 pq5_0
  have f6 := A1.keep K5
  have K7 : Keep h0 h5 [] := K2.trans K5 (allS (Or.inr sz_b1) all0)
  have Z8 : n0 ≤ h5.size := Nat.le_trans Z3 K5.1
  refine own_step (st' := T5.setTop (mkF m 18 #[.val (.ref x0)] [(.ref b1)])) (fun t k => st5.trans k) ?_
  refine own_ret X5 Bd.notSynchronized (some (.ref b1)) (fun h => by rw [Bd.returns] at h; cases h) (fun fs hr => retOut X5 hx Bd.returns rfl (Or.inr (Or.inr (Or.inr (Or.inr ⟨rfl, rfl, rfl⟩)))) (hb hby d10_18) hr) ?_ (by decide) (by decide)
  rw [e5]
  exact ⟨b1, rfl, N5, K7, sz_b1, f6, pq5_0⟩
theorem d13_0 : decode jdk_31_method_10_code 0 = .ok (.aload_n 0, 1) := by decide +kernel
theorem d13_1 : decode jdk_31_method_10_code 1 = .ok (.ifnonnull 11, 3) := by decide +kernel
theorem d13_12 : decode jdk_31_method_10_code 12 = .ok (.aload_n 0, 1) := by decide +kernel
theorem d13_13 : decode jdk_31_method_10_code 13 = .ok (.areturn, 1) := by decide +kernel
theorem pn_6 : plainName "java/util/Objects" = true := by first | (simp [plainName, overriddenIn]; done) | decide +kernel
theorem ef_13_R (m : MethodId) (x0 : Addr) : entryFrame m #[(.ref x0)] 1 = mkF m 0 #[.val (.ref x0)] [] := by first | (simp [entryFrame, mkF, argsToLocals, Value.category]; done) | rfl
def Q_rm13 (Z : State) (x0 : Addr) (h0 : Heap) (n0 : Nat) (v : Option Value) (h : Heap) (L : List Loc) : Prop := v = some (.ref x0) ∧ Fr n0 L ∧ h = h0
set_option maxRecDepth 65536 in
set_option maxHeartbeats 40000000 in
theorem rm13 (l : Launch) (Z : State) (a0 : Array Value) (hw : ∀ d ∈ tables_1, d.before a0 Z = true) (ws : List Jvm.Cond) (x0 : Addr) (h0 : Heap) (n0 : Nat) (Z0 : n0 ≤ h0.size) :
    MetFree l (⟨"java/util/Objects", "requireNonNull", "(Ljava/lang/Object;)Ljava/lang/Object;"⟩ : MethodName) (head1 (Jvm.Cond.code (⟨"java/util/Objects", "requireNonNull", "(Ljava/lang/Object;)Ljava/lang/Object;"⟩ : MethodName) jdk_31_method_10_code 1 (some (.object "java/lang/Object")) :: ws) ({ frames := 0, cells := 0, slots := 0, locals := 0 } : Room)) (fun a U => a = #[(.ref x0)] ∧ Z.Warmed39 U.vm ∧ U.heap = h0) (fun _ _ _ _ _ => True) (fun _ U o U' => ∃ v L, o = .returned v ∧ Q_rm13 Z x0 h0 n0 v U'.heap L ∧ FrameEnd U o U' L ({ frames := 0, cells := 0, slots := 0, locals := 0 } : Room).cells ({ frames := 0, cells := 0, slots := 0, locals := 0 } : Room).slots) := by
  refine MetFree.of_bodySF (plainFor_of_name pn_6) hisR ?_
  intro p e s m args below meth c s₁ Bd hml0 hP hK
  obtain ⟨rfl, hZ, hh⟩ := hP
  have hx := Bd.exec
  have hby := Bd.bytes
  have hml : c.maxLocals = 1 := hml0
  have hown : s.vm.findClass "java/util/Objects" = some m.cls := findClass_of_methodNamed Bd.named
  have hnm := (name_of_methodNamed Bd.named Bd.method).1
  have X0 : Stand p l e ({ frames := 0, cells := 0, slots := 0, locals := 0 } : Room) s m #[(.ref x0)] below meth c s₁ [] 0 0 := Stand.of_body Bd
  have e0 : s₁.heap = h0 := by rw [← hh, Bd.state]; rfl
  have N0 := Fr.nil n0
  show own_Ends p e below s ({ frames := 0, cells := 0, slots := 0, locals := 0 } : Room).cells ({ frames := 0, cells := 0, slots := 0, locals := 0 } : Room).slots (Q_rm13 Z x0 h0 n0) (s₁.setTop (entryFrame m #[(.ref x0)] 1))
  rw [ef_13_R]
  refine own_step (st' := s₁.setTop (mkF m 1 #[.val (.ref x0)] [(.ref x0)])) (fun t k => XS.aloadN X0.here hx rfl (hb hby d13_0) rfl rfl k) ?_
  refine own_step (st' := s₁.setTop (mkF m 12 #[.val (.ref x0)] [])) (fun t k => XS.ifnonnullYes X0.here hx rfl (pc0 := 1) (pc' := 12) rfl (hb hby d13_1) rfl (by decide) (by decide) k) ?_
  refine own_step (st' := s₁.setTop (mkF m 13 #[.val (.ref x0)] [(.ref x0)])) (fun t k => XS.aloadN X0.here hx rfl (hb hby d13_12) rfl rfl k) ?_
  refine own_ret X0 Bd.notSynchronized (some (.ref x0)) (fun h => by rw [Bd.returns] at h; cases h) (fun fs hr => retOut X0 hx Bd.returns rfl (Or.inr (Or.inr (Or.inr (Or.inr ⟨rfl, rfl, rfl⟩)))) (hb hby d13_13) hr) ?_ (by decide) (by decide)
  rw [e0]
  exact ⟨rfl, N0, rfl⟩
theorem d21_0 : decode jdk_32_method_3_code 0 = .ok (.new 2, 3) := by decide +kernel
theorem d21_3 : decode jdk_32_method_3_code 3 = .ok (.dup, 1) := by decide +kernel
theorem d21_4 : decode jdk_32_method_3_code 4 = .ok (.aload_n 0, 1) := by decide +kernel
theorem d21_5 : decode jdk_32_method_3_code 5 = .ok (.invokestatic 17, 3) := by decide +kernel
theorem d21_8 : decode jdk_32_method_3_code 8 = .ok (.invokespecial 23, 3) := by decide +kernel
theorem d21_11 : decode jdk_32_method_3_code 11 = .ok (.areturn, 1) := by decide +kernel
theorem ef_21_R (m : MethodId) (x0 : Addr) : entryFrame m #[(.ref x0)] 1 = mkF m 0 #[.val (.ref x0)] [] := by first | (simp [entryFrame, mkF, argsToLocals, Value.category]; done) | rfl
def Q_rm21 (Z : State) (x0 : Addr) (h0 : Heap) (n0 : Nat) (v : Option Value) (h : Heap) (L : List Loc) : Prop := ∃ r : Addr, v = some (.ref r) ∧ Fr n0 L ∧ Keep h0 h [] ∧ h0.size ≤ r ∧ Exa Z h r "java/util/Optional" ∧ Fld Z h r "java/util/Optional" "value" "Ljava/lang/Object;" (.ref x0)
set_option maxRecDepth 65536 in
set_option maxHeartbeats 40000000 in
theorem rm21 (l : Launch) (Z : State) (a0 : Array Value) (hw : ∀ d ∈ tables_1, d.before a0 Z = true) (ws : List Jvm.Cond) (x0 : Addr) (h0 : Heap) (n0 : Nat) (Z0 : n0 ≤ h0.size) :
    MetFree l (⟨"java/util/Optional", "of", "(Ljava/lang/Object;)Ljava/util/Optional;"⟩ : MethodName) (head1 (Jvm.Cond.code (⟨"java/util/Optional", "of", "(Ljava/lang/Object;)Ljava/util/Optional;"⟩ : MethodName) jdk_32_method_3_code 1 (some (.object "java/util/Optional")) :: ws) ({ frames := 2, cells := 1, slots := 1, locals := 26 } : Room)) (fun a U => a = #[(.ref x0)] ∧ Z.Warmed39 U.vm ∧ U.heap = h0) (fun _ _ _ _ _ => True) (fun _ U o U' => ∃ v L, o = .returned v ∧ Q_rm21 Z x0 h0 n0 v U'.heap L ∧ FrameEnd U o U' L ({ frames := 2, cells := 1, slots := 1, locals := 26 } : Room).cells ({ frames := 2, cells := 1, slots := 1, locals := 26 } : Room).slots) := by
  refine MetFree.of_bodySF (plainFor_of_name pn_7) hisR ?_
  intro p e s m args below meth c s₁ Bd hml0 hP hK
  obtain ⟨rfl, hZ, hh⟩ := hP
  have hx := Bd.exec
  have hby := Bd.bytes
  have hml : c.maxLocals = 1 := hml0
  have hown : s.vm.findClass "java/util/Optional" = some m.cls := findClass_of_methodNamed Bd.named
  have hnm := (name_of_methodNamed Bd.named Bd.method).1
  have X0 : Stand p l e ({ frames := 2, cells := 1, slots := 1, locals := 26 } : Room) s m #[(.ref x0)] below meth c s₁ [] 0 0 := Stand.of_body Bd
  have e0 : s₁.heap = h0 := by rw [← hh, Bd.state]; rfl
  have N0 := Fr.nil n0
  show own_Ends p e below s ({ frames := 2, cells := 1, slots := 1, locals := 26 } : Room).cells ({ frames := 2, cells := 1, slots := 1, locals := 26 } : Room).slots (Q_rm21 Z x0 h0 n0) (s₁.setTop (entryFrame m #[(.ref x0)] 1))
  rw [ef_21_R]
  obtain ⟨T1, h1, X1, e1, E1, A1, D1, -, st1⟩ := newO X0 hx hZ hown (hw _ (List.mem_of_getElem? (i := 89) rfl)) (hw _ (List.mem_of_getElem? (i := 90) rfl)) (hw _ (List.mem_of_getElem? (i := 87) rfl)) e0 (g := (mkF m 0 #[.val (.ref x0)] [])) rfl (hb hby d21_0) (by decide) (by decide)
  obtain ⟨b1, g1⟩ : ∃ z, z = h0.size := ⟨_, rfl⟩
  rw [← g1] at A1 D1 st1
  have g_b1 : n0 ≤ b1 := Nat.le_trans Z0 (Nat.le_of_eq g1.symm)
  have sz_b1 : h0.size ≤ b1 := Nat.le_trans (Keep.refl h0 []).1 (Nat.le_of_eq g1.symm)
  have K2 : Keep h0 h1 [] := (Keep.refl h0 []).ext E1
  have Z3 : n0 ≤ h1.size := Nat.le_trans Z0 E1.1
  have f4 : Fld Z h1 b1 "java/util/Optional" "value" "Ljava/lang/Object;" .null := D1 (Or.inr (hw _ (List.mem_of_getElem? (i := 97) rfl))) (ty := (.object "java/lang/Object")) (by decide)
  refine own_step (st' := T1.setTop (mkF m 3 #[.val (.ref x0)] [(.ref b1)])) st1 ?_
  refine own_step (st' := T1.setTop (mkF m 4 #[.val (.ref x0)] [(.ref b1), (.ref b1)])) (fun t k => XS.dup X1.here hx rfl (hb hby d21_3) rfl rfl k) ?_
  refine own_step (st' := T1.setTop (mkF m 5 #[.val (.ref x0)] [(.ref x0), (.ref b1), (.ref b1)])) (fun t k => XS.aloadN X1.here hx rfl (hb hby d21_4) rfl rfl k) ?_
  obtain ⟨_, _, ⟨T5, L5, k5, n5⟩, -, X5, ⟨Lc5, hQ5, l5, y5, z5⟩, st5⟩ := Jvm.LawKit.callS X1 hx (y := (⟨"java/util/Objects", "requireNonNull", "(Ljava/lang/Object;)Ljava/lang/Object;"⟩ : MethodName)) hown (mvT hZ (hw _ (List.mem_of_getElem? (i := 106) rfl))) (mvT hZ (hw _ (List.mem_of_getElem? (i := 107) rfl))) (mvT hZ (hw _ (List.mem_of_getElem? (i := 108) rfl))) (mvT hZ (hw _ (List.mem_of_getElem? (i := 109) rfl))) (by decide) (backOf (W := 2) (rm13 l Z a0 hw [] x0 h1 n0 Z3) hZ (hw _ (List.mem_of_getElem? (i := 109) rfl)) (hw _ (List.mem_of_getElem? (i := 108) rfl)) (by decide) (by decide)) (g := (mkF m 5 #[.val (.ref x0)] [(.ref x0), (.ref b1), (.ref b1)])) rfl (by rw [hml]; rfl) (argsL := [(.ref x0)]) (rest := [(.ref b1), (.ref b1)]) (lenOf pd_12 rfl) rfl (by show 2 * 0 + _ ≤ _; exact Nat.le_of_eq rfl) (hb hby d21_5) (fun _ _ => ⟨rfl, e1, (by decide : 1 + 0 ≤ _), (by decide : 1 + 0 ≤ _)⟩)
  dsimp only [Pt.U, Pt.locs, Pt.cells, Pt.slots] at X5 l5 y5 z5 st5 hQ5
  subst l5 y5 z5
  obtain ⟨rfl, N5q, e5⟩ := hQ5
  have N5 := Fr.app N0 N5q
  refine own_step (st' := T5.setTop (mkF m 8 #[.val (.ref x0)] [(.ref x0), (.ref b1), (.ref b1)])) st5 ?_
  obtain ⟨_, _, ⟨T6, L6, k6, n6⟩, -, X6, ⟨Lc6, hQ6, l6, y6, z6⟩, st6⟩ := X5.specialBack hx (y := (⟨"java/util/Optional", "<init>", "(Ljava/lang/Object;)V"⟩ : MethodName)) rfl hown (mvT hZ (hw _ (List.mem_of_getElem? (i := 91) rfl))) (mvT hZ (hw _ (List.mem_of_getElem? (i := 92) rfl))) (mvT hZ (hw _ (List.mem_of_getElem? (i := 94) rfl))) (by decide) (backOf (W := 1) (rm11 l Z a0 hw [] b1 x0 h1 n0 Z3 f4 A1 g_b1) hZ (hw _ (List.mem_of_getElem? (i := 94) rfl)) (hw _ (List.mem_of_getElem? (i := 87) rfl)) (by decide) (by decide)) (g := (mkF m 8 #[.val (.ref x0)] [(.ref x0), (.ref b1), (.ref b1)])) rfl (by rw [hml]; rfl) (Steps.refl _) (a := b1) (argsL := [(.ref x0)]) (rest := [(.ref b1)]) (lenOf pd_10 rfl) rfl (by show 2 * 0 + _ ≤ _; exact Nat.le_of_eq rfl) (hb hby d21_8) (fun _ _ => ⟨rfl, e5, (by decide : 1 + 0 ≤ _), (by decide : 1 + 0 ≤ _)⟩)
  dsimp only [Pt.U, Pt.locs, Pt.cells, Pt.slots] at X6 l6 y6 z6 st6 hQ6
  subst l6 y6 z6
  obtain ⟨rfl, N6q, K6, pq6_0⟩ := hQ6
  have N6 := Fr.app N5 N6q
  obtain ⟨h6, e6⟩ : ∃ z, T6.heap = z := ⟨_, rfl⟩
  rw [e6] at K6 pq6_0
  have f7 := A1.keep K6
  have K8 : Keep h0 h6 [] := K2.trans K6 (allS (Or.inr sz_b1) all0)
  have Z9 : n0 ≤ h6.size := Nat.le_trans Z3 K6.1
  refine own_step (st' := T6.setTop (mkF m 11 #[.val (.ref x0)] [(.ref b1)])) (fun t k => st6.trans k) ?_
  refine own_ret X6 Bd.notSynchronized (some (.ref b1)) (fun h => by rw [Bd.returns] at h; cases h) (fun fs hr => retOut X6 hx Bd.returns rfl (Or.inr (Or.inr (Or.inr (Or.inr ⟨rfl, rfl, rfl⟩)))) (hb hby d21_11) hr) ?_ (by decide) (by decide)
  rw [e6]
  exact ⟨b1, rfl, N6, K8, sz_b1, f7, pq6_0⟩
theorem d20_0 : decode jdk_32_method_1_code 0 = .ok (.getstatic 1, 3) := by decide +kernel
theorem d20_3 : decode jdk_32_method_1_code 3 = .ok (.astore_n 0, 1) := by decide +kernel
theorem d20_4 : decode jdk_32_method_1_code 4 = .ok (.aload_n 0, 1) := by decide +kernel
theorem d20_5 : decode jdk_32_method_1_code 5 = .ok (.areturn, 1) := by decide +kernel
theorem ef_20_ (m : MethodId)  : entryFrame m #[] 1 = mkF m 0 #[.unset] [] := by first | (simp [entryFrame, mkF, argsToLocals, Value.category]; done) | rfl
def Q_rm20 (Z : State) (oE : Addr) (h0 : Heap) (n0 : Nat) (v : Option Value) (h : Heap) (L : List Loc) : Prop := v = some (.ref oE) ∧ Fr n0 L ∧ h = h0
set_option maxRecDepth 65536 in
set_option maxHeartbeats 40000000 in
theorem rm20 (l : Launch) (Z : State) (a0 : Array Value) (hw : ∀ d ∈ tables_1, d.before a0 Z = true) (ws : List Jvm.Cond) (oE : Addr) (h0 : Heap) (n0 : Nat) (Z0 : n0 ≤ h0.size) (O0 : Old Z n0 h0) (p_0 : Sta Z Z.heap "java/util/Optional" "EMPTY" "Ljava/util/Optional;" (.ref oE)) (p_1 : Exa Z Z.heap oE "java/util/Optional") (p_2 : Fld Z Z.heap oE "java/util/Optional" "value" "Ljava/lang/Object;" .null) :
    MetFree l (⟨"java/util/Optional", "empty", "()Ljava/util/Optional;"⟩ : MethodName) (head1 (Jvm.Cond.code (⟨"java/util/Optional", "empty", "()Ljava/util/Optional;"⟩ : MethodName) jdk_32_method_1_code 1 (some (.object "java/util/Optional")) :: ws) ({ frames := 0, cells := 0, slots := 0, locals := 0 } : Room)) (fun a U => a = #[] ∧ Z.Warmed39 U.vm ∧ U.heap = h0) (fun _ _ _ _ _ => True) (fun _ U o U' => ∃ v L, o = .returned v ∧ Q_rm20 Z oE h0 n0 v U'.heap L ∧ FrameEnd U o U' L ({ frames := 0, cells := 0, slots := 0, locals := 0 } : Room).cells ({ frames := 0, cells := 0, slots := 0, locals := 0 } : Room).slots) := by
  refine MetFree.of_bodySF (plainFor_of_name pn_7) hisR ?_
  intro p e s m args below meth c s₁ Bd hml0 hP hK
  obtain ⟨rfl, hZ, hh⟩ := hP
  have hx := Bd.exec
  have hby := Bd.bytes
  have hml : c.maxLocals = 1 := hml0
  have hown : s.vm.findClass "java/util/Optional" = some m.cls := findClass_of_methodNamed Bd.named
  have hnm := (name_of_methodNamed Bd.named Bd.method).1
  have X0 : Stand p l e ({ frames := 0, cells := 0, slots := 0, locals := 0 } : Room) s m #[] below meth c s₁ [] 0 0 := Stand.of_body Bd
  have e0 : s₁.heap = h0 := by rw [← hh, Bd.state]; rfl
  have N0 := Fr.nil n0
  show own_Ends p e below s ({ frames := 0, cells := 0, slots := 0, locals := 0 } : Room).cells ({ frames := 0, cells := 0, slots := 0, locals := 0 } : Room).slots (Q_rm20 Z oE h0 n0) (s₁.setTop (entryFrame m #[] 1))
  rw [ef_20_]
  obtain ⟨T1, X1, e1, st1⟩ := getS2 X0 hx hZ hown (host := "") (Or.inl (hw _ (List.mem_of_getElem? (i := 155) rfl))) Via.refl e0 (p_0.ext O0.2) (g := (mkF m 0 #[.unset] [])) rfl (hb hby d20_0)
  refine own_step (st' := T1.setTop (mkF m 3 #[.unset] [(.ref oE)])) st1 ?_
  refine own_step (st' := T1.setTop (mkF m 4 #[.val (.ref oE)] [])) (fun t k => XS.astoreN X1.here hx rfl (hb hby d20_3) rfl rfl (l' := #[.val (.ref oE)]) rfl k) ?_
  refine own_step (st' := T1.setTop (mkF m 5 #[.val (.ref oE)] [(.ref oE)])) (fun t k => XS.aloadN X1.here hx rfl (hb hby d20_4) rfl rfl k) ?_
  refine own_ret X1 Bd.notSynchronized (some (.ref oE)) (fun h => by rw [Bd.returns] at h; cases h) (fun fs hr => retOut X1 hx Bd.returns rfl (Or.inr (Or.inr (Or.inr (Or.inr ⟨rfl, rfl, rfl⟩)))) (hb hby d20_5) hr) ?_ (by decide) (by decide)
  rw [e1]
  exact ⟨rfl, N0, rfl⟩
theorem d14_0 : decode jdk_32_method_7_code 0 = .ok (.aload_n 0, 1) := by decide +kernel
theorem d14_1 : decode jdk_32_method_7_code 1 = .ok (.getfield 13, 3) := by decide +kernel
theorem d14_4 : decode jdk_32_method_7_code 4 = .ok (.ifnonnull 7, 3) := by decide +kernel
theorem d14_7 : decode jdk_32_method_7_code 7 = .ok (.iconst 1, 1) := by decide +kernel
theorem d14_8 : decode jdk_32_method_7_code 8 = .ok (.goto 4, 3) := by decide +kernel
theorem d14_12 : decode jdk_32_method_7_code 12 = .ok (.ireturn, 1) := by decide +kernel
theorem ef_14_R (m : MethodId) (x0 : Addr) : entryFrame m #[(.ref x0)] 1 = mkF m 0 #[.val (.ref x0)] [] := by first | (simp [entryFrame, mkF, argsToLocals, Value.category]; done) | rfl
def Q_rmIN (Z : State) (x0 : Addr) (h0 : Heap) (n0 : Nat) (v : Option Value) (h : Heap) (L : List Loc) : Prop := v = some (.int (1 : Int32)) ∧ Fr n0 L ∧ h = h0
set_option maxRecDepth 65536 in
set_option maxHeartbeats 40000000 in
theorem rmIN (l : Launch) (Z : State) (a0 : Array Value) (hw : ∀ d ∈ tables_1, d.before a0 Z = true) (ws : List Jvm.Cond) (x0 : Addr) (h0 : Heap) (n0 : Nat) (Z0 : n0 ≤ h0.size) (p_0 : Fld Z h0 x0 "java/util/Optional" "value" "Ljava/lang/Object;" .null) :
    MetFree l (⟨"java/util/Optional", "isEmpty", "()Z"⟩ : MethodName) (head1 (Jvm.Cond.code (⟨"java/util/Optional", "isEmpty", "()Z"⟩ : MethodName) jdk_32_method_7_code 1 (some .boolean) :: ws) ({ frames := 0, cells := 0, slots := 0, locals := 0 } : Room)) (fun a U => a = #[(.ref x0)] ∧ Z.Warmed39 U.vm ∧ U.heap = h0) (fun _ _ _ _ _ => True) (fun _ U o U' => ∃ v L, o = .returned v ∧ Q_rmIN Z x0 h0 n0 v U'.heap L ∧ FrameEnd U o U' L ({ frames := 0, cells := 0, slots := 0, locals := 0 } : Room).cells ({ frames := 0, cells := 0, slots := 0, locals := 0 } : Room).slots) := by
  refine MetFree.of_bodySF (plainFor_of_name pn_7) hisR ?_
  intro p e s m args below meth c s₁ Bd hml0 hP hK
  obtain ⟨rfl, hZ, hh⟩ := hP
  have hx := Bd.exec
  have hby := Bd.bytes
  have hml : c.maxLocals = 1 := hml0
  have hown : s.vm.findClass "java/util/Optional" = some m.cls := findClass_of_methodNamed Bd.named
  have hnm := (name_of_methodNamed Bd.named Bd.method).1
  have X0 : Stand p l e ({ frames := 0, cells := 0, slots := 0, locals := 0 } : Room) s m #[(.ref x0)] below meth c s₁ [] 0 0 := Stand.of_body Bd
  have e0 : s₁.heap = h0 := by rw [← hh, Bd.state]; rfl
  have N0 := Fr.nil n0
  show own_Ends p e below s ({ frames := 0, cells := 0, slots := 0, locals := 0 } : Room).cells ({ frames := 0, cells := 0, slots := 0, locals := 0 } : Room).slots (Q_rmIN Z x0 h0 n0) (s₁.setTop (entryFrame m #[(.ref x0)] 1))
  rw [ef_14_R]
  refine own_step (st' := s₁.setTop (mkF m 1 #[.val (.ref x0)] [(.ref x0)])) (fun t k => XS.aloadN X0.here hx rfl (hb hby d14_0) rfl rfl k) ?_
  obtain ⟨T1, X1, e1, st1⟩ := getF X0 hx hZ hown (host := "") (Or.inl (hw _ (List.mem_of_getElem? (i := 96) rfl))) Via.refl e0 p_0 (g := (mkF m 1 #[.val (.ref x0)] [(.ref x0)])) rfl rfl (hb hby d14_1)
  refine own_step (st' := T1.setTop (mkF m 4 #[.val (.ref x0)] [.null])) st1 ?_
  refine own_step (st' := T1.setTop (mkF m 7 #[.val (.ref x0)] [])) (fun t k => XS.ifnonnullNo X1.here hx rfl (hb hby d14_4) rfl k) ?_
  refine own_step (st' := T1.setTop (mkF m 8 #[.val (.ref x0)] [(.int (1 : Int32))])) (fun t k => XS.iconst X1.here hx rfl (hb hby d14_7) k) ?_
  refine own_step (st' := T1.setTop (mkF m 12 #[.val (.ref x0)] [(.int (1 : Int32))])) (fun t k => XS.goto X1.here hx rfl (pc0 := 8) (pc' := 12) rfl (hb hby d14_8) (by decide) (by decide) k) ?_
  refine own_ret X1 Bd.notSynchronized (some (.int (1 : Int32))) (fun h => by rw [Bd.returns] at h; cases h) (fun fs hr => retN X1 hx (t := .boolean) Bd.returns (by simp) (hb hby d14_12) hr) ?_ (by decide) (by decide)
  rw [e1]
  exact ⟨rfl, N0, rfl⟩
theorem d14_11 : decode jdk_32_method_7_code 11 = .ok (.iconst 0, 1) := by decide +kernel
def Q_rmIR (Z : State) (x0 : Addr) (q : Addr) (h0 : Heap) (n0 : Nat) (v : Option Value) (h : Heap) (L : List Loc) : Prop := v = some (.int (0 : Int32)) ∧ Fr n0 L ∧ h = h0
set_option maxRecDepth 65536 in
set_option maxHeartbeats 40000000 in
theorem rmIR (l : Launch) (Z : State) (a0 : Array Value) (hw : ∀ d ∈ tables_1, d.before a0 Z = true) (ws : List Jvm.Cond) (x0 : Addr) (q : Addr) (h0 : Heap) (n0 : Nat) (Z0 : n0 ≤ h0.size) (p_0 : Fld Z h0 x0 "java/util/Optional" "value" "Ljava/lang/Object;" (.ref q)) :
    MetFree l (⟨"java/util/Optional", "isEmpty", "()Z"⟩ : MethodName) (head1 (Jvm.Cond.code (⟨"java/util/Optional", "isEmpty", "()Z"⟩ : MethodName) jdk_32_method_7_code 1 (some .boolean) :: ws) ({ frames := 0, cells := 0, slots := 0, locals := 0 } : Room)) (fun a U => a = #[(.ref x0)] ∧ Z.Warmed39 U.vm ∧ U.heap = h0) (fun _ _ _ _ _ => True) (fun _ U o U' => ∃ v L, o = .returned v ∧ Q_rmIR Z x0 q h0 n0 v U'.heap L ∧ FrameEnd U o U' L ({ frames := 0, cells := 0, slots := 0, locals := 0 } : Room).cells ({ frames := 0, cells := 0, slots := 0, locals := 0 } : Room).slots) := by
  refine MetFree.of_bodySF (plainFor_of_name pn_7) hisR ?_
  intro p e s m args below meth c s₁ Bd hml0 hP hK
  obtain ⟨rfl, hZ, hh⟩ := hP
  have hx := Bd.exec
  have hby := Bd.bytes
  have hml : c.maxLocals = 1 := hml0
  have hown : s.vm.findClass "java/util/Optional" = some m.cls := findClass_of_methodNamed Bd.named
  have hnm := (name_of_methodNamed Bd.named Bd.method).1
  have X0 : Stand p l e ({ frames := 0, cells := 0, slots := 0, locals := 0 } : Room) s m #[(.ref x0)] below meth c s₁ [] 0 0 := Stand.of_body Bd
  have e0 : s₁.heap = h0 := by rw [← hh, Bd.state]; rfl
  have N0 := Fr.nil n0
  show own_Ends p e below s ({ frames := 0, cells := 0, slots := 0, locals := 0 } : Room).cells ({ frames := 0, cells := 0, slots := 0, locals := 0 } : Room).slots (Q_rmIR Z x0 q h0 n0) (s₁.setTop (entryFrame m #[(.ref x0)] 1))
  rw [ef_14_R]
  refine own_step (st' := s₁.setTop (mkF m 1 #[.val (.ref x0)] [(.ref x0)])) (fun t k => XS.aloadN X0.here hx rfl (hb hby d14_0) rfl rfl k) ?_
  obtain ⟨T1, X1, e1, st1⟩ := getF X0 hx hZ hown (host := "") (Or.inl (hw _ (List.mem_of_getElem? (i := 96) rfl))) Via.refl e0 p_0 (g := (mkF m 1 #[.val (.ref x0)] [(.ref x0)])) rfl rfl (hb hby d14_1)
  refine own_step (st' := T1.setTop (mkF m 4 #[.val (.ref x0)] [(.ref q)])) st1 ?_
  refine own_step (st' := T1.setTop (mkF m 11 #[.val (.ref x0)] [])) (fun t k => XS.ifnonnullYes X1.here hx rfl (pc0 := 4) (pc' := 11) rfl (hb hby d14_4) rfl (by decide) (by decide) k) ?_
  refine own_step (st' := T1.setTop (mkF m 12 #[.val (.ref x0)] [(.int (0 : Int32))])) (fun t k => XS.iconst X1.here hx rfl (hb hby d14_11) k) ?_
  refine own_ret X1 Bd.notSynchronized (some (.int (0 : Int32))) (fun h => by rw [Bd.returns] at h; cases h) (fun fs hr => retN X1 hx (t := .boolean) Bd.returns (by simp) (hb hby d14_12) hr) ?_ (by decide) (by decide)
  rw [e1]
  exact ⟨rfl, N0, rfl⟩
theorem d16_0 : decode jdk_32_method_15_code 0 = .ok (.aload_n 0, 1) := by decide +kernel
theorem d16_1 : decode jdk_32_method_15_code 1 = .ok (.getfield 13, 3) := by decide +kernel
theorem d16_4 : decode jdk_32_method_15_code 4 = .ok (.ifnull 10, 3) := by decide +kernel
theorem d16_14 : decode jdk_32_method_15_code 14 = .ok (.aload_n 1, 1) := by decide +kernel
theorem d16_15 : decode jdk_32_method_15_code 15 = .ok (.areturn, 1) := by decide +kernel
theorem ef_16_RN (m : MethodId) (x0 : Addr) : entryFrame m #[(.ref x0), .null] 2 = mkF m 0 #[.val (.ref x0), .val .null] [] := by first | (simp [entryFrame, mkF, argsToLocals, Value.category]; done) | rfl
def Q_rmON (Z : State) (x0 : Addr) (h0 : Heap) (n0 : Nat) (v : Option Value) (h : Heap) (L : List Loc) : Prop := v = some .null ∧ Fr n0 L ∧ h = h0
set_option maxRecDepth 65536 in
set_option maxHeartbeats 40000000 in
theorem rmON (l : Launch) (Z : State) (a0 : Array Value) (hw : ∀ d ∈ tables_1, d.before a0 Z = true) (ws : List Jvm.Cond) (x0 : Addr) (h0 : Heap) (n0 : Nat) (Z0 : n0 ≤ h0.size) (p_0 : Fld Z h0 x0 "java/util/Optional" "value" "Ljava/lang/Object;" .null) :
    MetFree l (⟨"java/util/Optional", "orElse", "(Ljava/lang/Object;)Ljava/lang/Object;"⟩ : MethodName) (head1 (Jvm.Cond.code (⟨"java/util/Optional", "orElse", "(Ljava/lang/Object;)Ljava/lang/Object;"⟩ : MethodName) jdk_32_method_15_code 2 (some (.object "java/lang/Object")) :: ws) ({ frames := 0, cells := 0, slots := 0, locals := 0 } : Room)) (fun a U => a = #[(.ref x0), .null] ∧ Z.Warmed39 U.vm ∧ U.heap = h0) (fun _ _ _ _ _ => True) (fun _ U o U' => ∃ v L, o = .returned v ∧ Q_rmON Z x0 h0 n0 v U'.heap L ∧ FrameEnd U o U' L ({ frames := 0, cells := 0, slots := 0, locals := 0 } : Room).cells ({ frames := 0, cells := 0, slots := 0, locals := 0 } : Room).slots) := by
  refine MetFree.of_bodySF (plainFor_of_name pn_7) hisR ?_
  intro p e s m args below meth c s₁ Bd hml0 hP hK
  obtain ⟨rfl, hZ, hh⟩ := hP
  have hx := Bd.exec
  have hby := Bd.bytes
  have hml : c.maxLocals = 2 := hml0
  have hown : s.vm.findClass "java/util/Optional" = some m.cls := findClass_of_methodNamed Bd.named
  have hnm := (name_of_methodNamed Bd.named Bd.method).1
  have X0 : Stand p l e ({ frames := 0, cells := 0, slots := 0, locals := 0 } : Room) s m #[(.ref x0), .null] below meth c s₁ [] 0 0 := Stand.of_body Bd
  have e0 : s₁.heap = h0 := by rw [← hh, Bd.state]; rfl
  have N0 := Fr.nil n0
  show own_Ends p e below s ({ frames := 0, cells := 0, slots := 0, locals := 0 } : Room).cells ({ frames := 0, cells := 0, slots := 0, locals := 0 } : Room).slots (Q_rmON Z x0 h0 n0) (s₁.setTop (entryFrame m #[(.ref x0), .null] 2))
  rw [ef_16_RN]
  refine own_step (st' := s₁.setTop (mkF m 1 #[.val (.ref x0), .val .null] [(.ref x0)])) (fun t k => XS.aloadN X0.here hx rfl (hb hby d16_0) rfl rfl k) ?_
  obtain ⟨T1, X1, e1, st1⟩ := getF X0 hx hZ hown (host := "") (Or.inl (hw _ (List.mem_of_getElem? (i := 96) rfl))) Via.refl e0 p_0 (g := (mkF m 1 #[.val (.ref x0), .val .null] [(.ref x0)])) rfl rfl (hb hby d16_1)
  refine own_step (st' := T1.setTop (mkF m 4 #[.val (.ref x0), .val .null] [.null])) st1 ?_
  refine own_step (st' := T1.setTop (mkF m 14 #[.val (.ref x0), .val .null] [])) (fun t k => XS.ifnullYes X1.here hx rfl (pc0 := 4) (pc' := 14) rfl (hb hby d16_4) rfl (by decide) (by decide) k) ?_
  refine own_step (st' := T1.setTop (mkF m 15 #[.val (.ref x0), .val .null] [.null])) (fun t k => XS.aloadN X1.here hx rfl (hb hby d16_14) rfl rfl k) ?_
  refine own_ret X1 Bd.notSynchronized (some .null) (fun h => by rw [Bd.returns] at h; cases h) (fun fs hr => retOut X1 hx Bd.returns rfl (Or.inr (Or.inr (Or.inr (Or.inr ⟨rfl, rfl, rfl⟩)))) (hb hby d16_15) hr) ?_ (by decide) (by decide)
  rw [e1]
  exact ⟨rfl, N0, rfl⟩
theorem d16_7 : decode jdk_32_method_15_code 7 = .ok (.aload_n 0, 1) := by decide +kernel
theorem d16_8 : decode jdk_32_method_15_code 8 = .ok (.getfield 13, 3) := by decide +kernel
theorem d16_11 : decode jdk_32_method_15_code 11 = .ok (.goto 4, 3) := by decide +kernel
def Q_rmOR (Z : State) (x0 : Addr) (q : Addr) (h0 : Heap) (n0 : Nat) (v : Option Value) (h : Heap) (L : List Loc) : Prop := v = some (.ref q) ∧ Fr n0 L ∧ h = h0
set_option maxRecDepth 65536 in
set_option maxHeartbeats 40000000 in
theorem rmOR (l : Launch) (Z : State) (a0 : Array Value) (hw : ∀ d ∈ tables_1, d.before a0 Z = true) (ws : List Jvm.Cond) (x0 : Addr) (q : Addr) (h0 : Heap) (n0 : Nat) (Z0 : n0 ≤ h0.size) (p_0 : Fld Z h0 x0 "java/util/Optional" "value" "Ljava/lang/Object;" (.ref q)) :
    MetFree l (⟨"java/util/Optional", "orElse", "(Ljava/lang/Object;)Ljava/lang/Object;"⟩ : MethodName) (head1 (Jvm.Cond.code (⟨"java/util/Optional", "orElse", "(Ljava/lang/Object;)Ljava/lang/Object;"⟩ : MethodName) jdk_32_method_15_code 2 (some (.object "java/lang/Object")) :: ws) ({ frames := 0, cells := 0, slots := 0, locals := 0 } : Room)) (fun a U => a = #[(.ref x0), .null] ∧ Z.Warmed39 U.vm ∧ U.heap = h0) (fun _ _ _ _ _ => True) (fun _ U o U' => ∃ v L, o = .returned v ∧ Q_rmOR Z x0 q h0 n0 v U'.heap L ∧ FrameEnd U o U' L ({ frames := 0, cells := 0, slots := 0, locals := 0 } : Room).cells ({ frames := 0, cells := 0, slots := 0, locals := 0 } : Room).slots) := by
  refine MetFree.of_bodySF (plainFor_of_name pn_7) hisR ?_
  intro p e s m args below meth c s₁ Bd hml0 hP hK
  obtain ⟨rfl, hZ, hh⟩ := hP
  have hx := Bd.exec
  have hby := Bd.bytes
  have hml : c.maxLocals = 2 := hml0
  have hown : s.vm.findClass "java/util/Optional" = some m.cls := findClass_of_methodNamed Bd.named
  have hnm := (name_of_methodNamed Bd.named Bd.method).1
  have X0 : Stand p l e ({ frames := 0, cells := 0, slots := 0, locals := 0 } : Room) s m #[(.ref x0), .null] below meth c s₁ [] 0 0 := Stand.of_body Bd
  have e0 : s₁.heap = h0 := by rw [← hh, Bd.state]; rfl
  have N0 := Fr.nil n0
  show own_Ends p e below s ({ frames := 0, cells := 0, slots := 0, locals := 0 } : Room).cells ({ frames := 0, cells := 0, slots := 0, locals := 0 } : Room).slots (Q_rmOR Z x0 q h0 n0) (s₁.setTop (entryFrame m #[(.ref x0), .null] 2))
  rw [ef_16_RN]
  refine own_step (st' := s₁.setTop (mkF m 1 #[.val (.ref x0), .val .null] [(.ref x0)])) (fun t k => XS.aloadN X0.here hx rfl (hb hby d16_0) rfl rfl k) ?_
  obtain ⟨T1, X1, e1, st1⟩ := getF X0 hx hZ hown (host := "") (Or.inl (hw _ (List.mem_of_getElem? (i := 96) rfl))) Via.refl e0 p_0 (g := (mkF m 1 #[.val (.ref x0), .val .null] [(.ref x0)])) rfl rfl (hb hby d16_1)
  refine own_step (st' := T1.setTop (mkF m 4 #[.val (.ref x0), .val .null] [(.ref q)])) st1 ?_
  refine own_step (st' := T1.setTop (mkF m 7 #[.val (.ref x0), .val .null] [])) (fun t k => XS.ifnullNo X1.here hx rfl (hb hby d16_4) rfl k) ?_
  refine own_step (st' := T1.setTop (mkF m 8 #[.val (.ref x0), .val .null] [(.ref x0)])) (fun t k => XS.aloadN X1.here hx rfl (hb hby d16_7) rfl rfl k) ?_
  obtain ⟨T2, X2, e2, st2⟩ := getF X1 hx hZ hown (host := "") (Or.inl (hw _ (List.mem_of_getElem? (i := 96) rfl))) Via.refl e1 p_0 (g := (mkF m 8 #[.val (.ref x0), .val .null] [(.ref x0)])) rfl rfl (hb hby d16_8)
  refine own_step (st' := T2.setTop (mkF m 11 #[.val (.ref x0), .val .null] [(.ref q)])) st2 ?_
  refine own_step (st' := T2.setTop (mkF m 15 #[.val (.ref x0), .val .null] [(.ref q)])) (fun t k => XS.goto X2.here hx rfl (pc0 := 11) (pc' := 15) rfl (hb hby d16_11) (by decide) (by decide) k) ?_
  refine own_ret X2 Bd.notSynchronized (some (.ref q)) (fun h => by rw [Bd.returns] at h; cases h) (fun fs hr => retOut X2 hx Bd.returns rfl (Or.inr (Or.inr (Or.inr (Or.inr ⟨rfl, rfl, rfl⟩)))) (hb hby d16_15) hr) ?_ (by decide) (by decide)
  rw [e2]
  exact ⟨rfl, N0, rfl⟩
theorem d22_0 : decode jdk_2650_method_7_code 0 = .ok (.aload_n 0, 1) := by decide +kernel
theorem d22_1 : decode jdk_2650_method_7_code 1 = .ok (.getfield 7, 3) := by decide +kernel
theorem d22_4 : decode jdk_2650_method_7_code 4 = .ok (.ifCond .ne 7, 3) := by decide +kernel
theorem d22_7 : decode jdk_2650_method_7_code 7 = .ok (.iconst 1, 1) := by decide +kernel
theorem d22_8 : decode jdk_2650_method_7_code 8 = .ok (.goto 4, 3) := by decide +kernel
theorem d22_12 : decode jdk_2650_method_7_code 12 = .ok (.ireturn, 1) := by decide +kernel
theorem ef_22_R (m : MethodId) (x0 : Addr) : entryFrame m #[(.ref x0)] 1 = mkF m 0 #[.val (.ref x0)] [] := by first | (simp [entryFrame, mkF, argsToLocals, Value.category]; done) | rfl
def Q_rm22 (Z : State) (x0 : Addr) (h0 : Heap) (n0 : Nat) (v : Option Value) (h : Heap) (L : List Loc) : Prop := v = some (.int (1 : Int32)) ∧ Fr n0 L ∧ h = h0
set_option maxRecDepth 65536 in
set_option maxHeartbeats 40000000 in
theorem rm22 (l : Launch) (Z : State) (a0 : Array Value) (hw : ∀ d ∈ tables_1, d.before a0 Z = true) (ws : List Jvm.Cond) (x0 : Addr) (h0 : Heap) (n0 : Nat) (Z0 : n0 ≤ h0.size) (p_0 : Fld Z h0 x0 "java/util/OptionalLong" "isPresent" "Z" (.int (0 : Int32))) :
    MetFree l (⟨"java/util/OptionalLong", "isEmpty", "()Z"⟩ : MethodName) (head1 (Jvm.Cond.code (⟨"java/util/OptionalLong", "isEmpty", "()Z"⟩ : MethodName) jdk_2650_method_7_code 1 (some .boolean) :: ws) ({ frames := 0, cells := 0, slots := 0, locals := 0 } : Room)) (fun a U => a = #[(.ref x0)] ∧ Z.Warmed39 U.vm ∧ U.heap = h0) (fun _ _ _ _ _ => True) (fun _ U o U' => ∃ v L, o = .returned v ∧ Q_rm22 Z x0 h0 n0 v U'.heap L ∧ FrameEnd U o U' L ({ frames := 0, cells := 0, slots := 0, locals := 0 } : Room).cells ({ frames := 0, cells := 0, slots := 0, locals := 0 } : Room).slots) := by
  refine MetFree.of_bodySF (plainFor_of_name pn_8) hisR ?_
  intro p e s m args below meth c s₁ Bd hml0 hP hK
  obtain ⟨rfl, hZ, hh⟩ := hP
  have hx := Bd.exec
  have hby := Bd.bytes
  have hml : c.maxLocals = 1 := hml0
  have hown : s.vm.findClass "java/util/OptionalLong" = some m.cls := findClass_of_methodNamed Bd.named
  have hnm := (name_of_methodNamed Bd.named Bd.method).1
  have X0 : Stand p l e ({ frames := 0, cells := 0, slots := 0, locals := 0 } : Room) s m #[(.ref x0)] below meth c s₁ [] 0 0 := Stand.of_body Bd
  have e0 : s₁.heap = h0 := by rw [← hh, Bd.state]; rfl
  have N0 := Fr.nil n0
  show own_Ends p e below s ({ frames := 0, cells := 0, slots := 0, locals := 0 } : Room).cells ({ frames := 0, cells := 0, slots := 0, locals := 0 } : Room).slots (Q_rm22 Z x0 h0 n0) (s₁.setTop (entryFrame m #[(.ref x0)] 1))
  rw [ef_22_R]
  refine own_step (st' := s₁.setTop (mkF m 1 #[.val (.ref x0)] [(.ref x0)])) (fun t k => XS.aloadN X0.here hx rfl (hb hby d22_0) rfl rfl k) ?_
  obtain ⟨T1, X1, e1, st1⟩ := getF X0 hx hZ hown (host := "") (Or.inl (hw _ (List.mem_of_getElem? (i := 166) rfl))) Via.refl e0 p_0 (g := (mkF m 1 #[.val (.ref x0)] [(.ref x0)])) rfl rfl (hb hby d22_1)
  refine own_step (st' := T1.setTop (mkF m 4 #[.val (.ref x0)] [(.int (0 : Int32))])) st1 ?_
  refine own_step (st' := T1.setTop (mkF m 7 #[.val (.ref x0)] [])) (fun t k => XS.ifNo X1.here hx rfl (hb hby d22_4) rfl ((if0 _ _).trans (teq (by decide)).2) k) ?_
  refine own_step (st' := T1.setTop (mkF m 8 #[.val (.ref x0)] [(.int (1 : Int32))])) (fun t k => XS.iconst X1.here hx rfl (hb hby d22_7) k) ?_
  refine own_step (st' := T1.setTop (mkF m 12 #[.val (.ref x0)] [(.int (1 : Int32))])) (fun t k => XS.goto X1.here hx rfl (pc0 := 8) (pc' := 12) rfl (hb hby d22_8) (by decide) (by decide) k) ?_
  refine own_ret X1 Bd.notSynchronized (some (.int (1 : Int32))) (fun h => by rw [Bd.returns] at h; cases h) (fun fs hr => retN X1 hx (t := .boolean) Bd.returns (by simp) (hb hby d22_12) hr) ?_ (by decide) (by decide)
  rw [e1]
  exact ⟨rfl, N0, rfl⟩
theorem d19_0 : decode prog_47_method_1_code 0 = .ok (.getstatic 10, 3) := by decide +kernel
theorem d19_3 : decode prog_47_method_1_code 3 = .ok (.invokevirtual 14, 3) := by decide +kernel
theorem d19_6 : decode prog_47_method_1_code 6 = .ok (.checkcast 15, 3) := by decide +kernel
theorem d19_9 : decode prog_47_method_1_code 9 = .ok (.areturn, 1) := by decide +kernel
theorem pn_3 : plainName "com/example/aturan/aturan/rules/HashAlgorithm" = true := by first | (simp [plainName, overriddenIn]; done) | decide +kernel
theorem ef_19_ (m : MethodId)  : entryFrame m #[] 0 = mkF m 0 #[] [] := by first | (simp [entryFrame, mkF, argsToLocals, Value.category]; done) | rfl
def Q_rm19 (Z : State) (aV : Addr) (kV : ClassId) (a1 : Addr) (a2 : Addr) (h0 : Heap) (n0 : Nat) (v : Option Value) (h : Heap) (L : List Loc) : Prop := ∃ b : Addr, v = some (.ref b) ∧ Fr n0 L ∧ Keep h0 h [] ∧ h0.size ≤ b ∧ Arv Z h b kV (.object "com/example/aturan/aturan/rules/HashAlgorithm") (2 : Int32) [(.ref a1), (.ref a2)] .null
set_option maxRecDepth 65536 in
set_option maxHeartbeats 40000000 in
theorem rm19 (l : Launch) (Z : State) (a0 : Array Value) (hw : ∀ d ∈ tables_1, d.before a0 Z = true) (ws : List Jvm.Cond) (aV : Addr) (kV : ClassId) (a1 : Addr) (a2 : Addr) (h0 : Heap) (n0 : Nat) (Z0 : n0 ≤ h0.size) (O0 : Old Z n0 h0) (p_0 : Sta Z Z.heap "com/example/aturan/aturan/rules/HashAlgorithm" "$VALUES" "[Lcom/example/aturan/aturan/rules/HashAlgorithm;" (.ref aV)) (p_1 : Exa Z Z.heap aV "[Lcom/example/aturan/aturan/rules/HashAlgorithm;") (p_2 : Arv Z Z.heap aV kV (.object "com/example/aturan/aturan/rules/HashAlgorithm") (2 : Int32) [(.ref a1), (.ref a2)] .null) (p_3 : Fld Z Z.heap a1 "com/example/aturan/aturan/rules/HashAlgorithm" "length" "I" (.int (20 : Int32))) (p_4 : Fld Z Z.heap a2 "com/example/aturan/aturan/rules/HashAlgorithm" "length" "I" (.int (32 : Int32))) (p_5 : Exa Z Z.heap a1 "com/example/aturan/aturan/rules/HashAlgorithm") (p_6 : Exa Z Z.heap a2 "com/example/aturan/aturan/rules/HashAlgorithm") :
    MetFree l (⟨"com/example/aturan/aturan/rules/HashAlgorithm", "values", "()[Lcom/example/aturan/aturan/rules/HashAlgorithm;"⟩ : MethodName) (head1 (Jvm.Cond.code (⟨"com/example/aturan/aturan/rules/HashAlgorithm", "values", "()[Lcom/example/aturan/aturan/rules/HashAlgorithm;"⟩ : MethodName) prog_47_method_1_code 0 (some (.array (.object "com/example/aturan/aturan/rules/HashAlgorithm"))) :: ws) ({ frames := 1, cells := 1, slots := 2, locals := 14 } : Room)) (fun a U => a = #[] ∧ Z.Warmed39 U.vm ∧ U.heap = h0) (fun _ _ _ _ _ => True) (fun _ U o U' => ∃ v L, o = .returned v ∧ Q_rm19 Z aV kV a1 a2 h0 n0 v U'.heap L ∧ FrameEnd U o U' L ({ frames := 1, cells := 1, slots := 2, locals := 14 } : Room).cells ({ frames := 1, cells := 1, slots := 2, locals := 14 } : Room).slots) := by
  refine MetFree.of_bodySF (plainFor_of_name pn_3) hisR ?_
  intro p e s m args below meth c s₁ Bd hml0 hP hK
  obtain ⟨rfl, hZ, hh⟩ := hP
  have hx := Bd.exec
  have hby := Bd.bytes
  have hml : c.maxLocals = 0 := hml0
  have hown : s.vm.findClass "com/example/aturan/aturan/rules/HashAlgorithm" = some m.cls := findClass_of_methodNamed Bd.named
  have hnm := (name_of_methodNamed Bd.named Bd.method).1
  have X0 : Stand p l e ({ frames := 1, cells := 1, slots := 2, locals := 14 } : Room) s m #[] below meth c s₁ [] 0 0 := Stand.of_body Bd
  have e0 : s₁.heap = h0 := by rw [← hh, Bd.state]; rfl
  have N0 := Fr.nil n0
  show own_Ends p e below s ({ frames := 1, cells := 1, slots := 2, locals := 14 } : Room).cells ({ frames := 1, cells := 1, slots := 2, locals := 14 } : Room).slots (Q_rm19 Z aV kV a1 a2 h0 n0) (s₁.setTop (entryFrame m #[] 0))
  rw [ef_19_]
  obtain ⟨T1, X1, e1, st1⟩ := getS2 X0 hx hZ hown (host := "") (Or.inl (hw _ (List.mem_of_getElem? (i := 139) rfl))) Via.refl e0 (p_0.ext O0.2) (g := (mkF m 0 #[] [])) rfl (hb hby d19_0)
  refine own_step (st' := T1.setTop (mkF m 3 #[] [(.ref aV)])) st1 ?_
  obtain ⟨T2, h2, X2, e2, E2, V2, A2, st2⟩ := cloneH X1 hx hZ hown (hw _ (List.mem_of_getElem? (i := 141) rfl)) (hw _ (List.mem_of_getElem? (i := 142) rfl)) (hw _ (List.mem_of_getElem? (i := 32) rfl)) (hw _ (List.mem_of_getElem? (i := 30) rfl)) (hw _ (List.mem_of_getElem? (i := 143) rfl)) (hw _ (List.mem_of_getElem? (i := 144) rfl)) e1 (Arv.arh (p_2.ext O0.2)) (p_1.ext O0.2) (g := (mkF m 3 #[] [(.ref aV)])) rfl (by rw [hml]; rfl) rfl (hb hby d19_3) (by decide) (W := 0) (cap := 2) (by show 2 * 0 + _ ≤ _; exact Nat.le_of_eq rfl) (by decide) (by decide) (by decide) (by decide)
  obtain ⟨b2, g2⟩ : ∃ z, z = h0.size := ⟨_, rfl⟩
  rw [← g2] at A2 V2 st2
  have ne3 : aV ≠ b2 := Nat.ne_of_lt (Nat.lt_of_lt_of_le (p_1.ext O0.2).lt (Nat.le_of_eq g2.symm))
  have ne4 : a1 ≠ b2 := Nat.ne_of_lt (Nat.lt_of_lt_of_le (p_3.ext O0.2).lt (Nat.le_of_eq g2.symm))
  have ne5 : a2 ≠ b2 := Nat.ne_of_lt (Nat.lt_of_lt_of_le (p_4.ext O0.2).lt (Nat.le_of_eq g2.symm))
  have g_b2 : n0 ≤ b2 := Nat.le_trans Z0 (Nat.le_of_eq g2.symm)
  have sz_b2 : h0.size ≤ b2 := Nat.le_trans (Keep.refl h0 []).1 (Nat.le_of_eq g2.symm)
  have O6 := O0.ext E2
  have K7 : Keep h0 h2 [] := (Keep.refl h0 []).ext E2
  have Z8 : n0 ≤ h2.size := Nat.le_trans Z0 E2.1
  have V2 : Arv Z h2 b2 kV (.object "com/example/aturan/aturan/rules/HashAlgorithm") (2 : Int32) [(.ref a1), (.ref a2)] .null := V2
  refine own_step (st' := T2.setTop (mkF m 6 #[] [(.ref b2)])) st2 ?_
  obtain ⟨T9, X9, e9, st9⟩ := castY X2 hx hZ hown (hw _ (List.mem_of_getElem? (i := 148) rfl)) e2 (Ins.self A2) (g := (mkF m 6 #[] [(.ref b2)])) rfl rfl (hb hby d19_6)
  refine own_step (st' := T9.setTop (mkF m 9 #[] [(.ref b2)])) st9 ?_
  refine own_ret X9 Bd.notSynchronized (some (.ref b2)) (fun h => by rw [Bd.returns] at h; cases h) (fun fs hr => retOut X9 hx Bd.returns rfl (Or.inr (Or.inr (Or.inr (Or.inr ⟨rfl, rfl, rfl⟩)))) (hb hby d19_9) hr) ?_ (by decide) (by decide)
  rw [e9]
  exact ⟨b2, rfl, N0, K7, sz_b2, V2⟩
theorem d18_0 : decode prog_47_method_6_code 0 = .ok (.invokestatic 37, 3) := by decide +kernel
theorem d18_3 : decode prog_47_method_6_code 3 = .ok (.astore_n 1, 1) := by decide +kernel
theorem d18_4 : decode prog_47_method_6_code 4 = .ok (.aload_n 1, 1) := by decide +kernel
theorem d18_5 : decode prog_47_method_6_code 5 = .ok (.arraylength, 1) := by decide +kernel
theorem d18_6 : decode prog_47_method_6_code 6 = .ok (.istore_n 2, 1) := by decide +kernel
theorem d18_7 : decode prog_47_method_6_code 7 = .ok (.iconst 0, 1) := by decide +kernel
theorem d18_8 : decode prog_47_method_6_code 8 = .ok (.istore_n 3, 1) := by decide +kernel
theorem d18_9 : decode prog_47_method_6_code 9 = .ok (.iload_n 3, 1) := by decide +kernel
theorem d18_10 : decode prog_47_method_6_code 10 = .ok (.iload_n 2, 1) := by decide +kernel
theorem d18_11 : decode prog_47_method_6_code 11 = .ok (.if_icmp .ge 29, 3) := by decide +kernel
theorem d18_14 : decode prog_47_method_6_code 14 = .ok (.aload_n 1, 1) := by decide +kernel
theorem d18_15 : decode prog_47_method_6_code 15 = .ok (.iload_n 3, 1) := by decide +kernel
theorem d18_16 : decode prog_47_method_6_code 16 = .ok (.aaload, 1) := by decide +kernel
theorem d18_17 : decode prog_47_method_6_code 17 = .ok (.astore 4, 2) := by decide +kernel
theorem d18_19 : decode prog_47_method_6_code 19 = .ok (.aload 4, 2) := by decide +kernel
theorem d18_21 : decode prog_47_method_6_code 21 = .ok (.getfield 33, 3) := by decide +kernel
theorem d18_24 : decode prog_47_method_6_code 24 = .ok (.iload_n 0, 1) := by decide +kernel
theorem d18_25 : decode prog_47_method_6_code 25 = .ok (.if_icmp .ne 9, 3) := by decide +kernel
theorem d18_28 : decode prog_47_method_6_code 28 = .ok (.aload 4, 2) := by decide +kernel
theorem d18_30 : decode prog_47_method_6_code 30 = .ok (.invokestatic 41, 3) := by decide +kernel
theorem d18_33 : decode prog_47_method_6_code 33 = .ok (.areturn, 1) := by decide +kernel
theorem ef_18_I (m : MethodId) (x0 : Int32) : entryFrame m #[(.int x0)] 5 = mkF m 0 #[.val (.int x0), .unset, .unset, .unset, .unset] [] := by first | (simp [entryFrame, mkF, argsToLocals, Value.category]; done) | rfl
def Q_rmFL1 (Z : State) (x0 : Int32) (aV : Addr) (kV : ClassId) (a1 : Addr) (a2 : Addr) (oE : Addr) (h0 : Heap) (n0 : Nat) (v : Option Value) (h : Heap) (L : List Loc) : Prop := ∃ r : Addr, v = some (.ref r) ∧ Fr n0 L ∧ Keep h0 h [] ∧ h0.size ≤ r ∧ Exa Z h r "java/util/Optional" ∧ Fld Z h r "java/util/Optional" "value" "Ljava/lang/Object;" (.ref a1)
set_option maxRecDepth 65536 in
set_option maxHeartbeats 40000000 in
theorem rmFL1 (l : Launch) (Z : State) (a0 : Array Value) (hw : ∀ d ∈ tables_1, d.before a0 Z = true) (ws : List Jvm.Cond) (x0 : Int32) (aV : Addr) (kV : ClassId) (a1 : Addr) (a2 : Addr) (oE : Addr) (h0 : Heap) (n0 : Nat) (Z0 : n0 ≤ h0.size) (O0 : Old Z n0 h0) (p_0 : Sta Z Z.heap "com/example/aturan/aturan/rules/HashAlgorithm" "$VALUES" "[Lcom/example/aturan/aturan/rules/HashAlgorithm;" (.ref aV)) (p_1 : Exa Z Z.heap aV "[Lcom/example/aturan/aturan/rules/HashAlgorithm;") (p_2 : Arv Z Z.heap aV kV (.object "com/example/aturan/aturan/rules/HashAlgorithm") (2 : Int32) [(.ref a1), (.ref a2)] .null) (p_3 : Fld Z Z.heap a1 "com/example/aturan/aturan/rules/HashAlgorithm" "length" "I" (.int (20 : Int32))) (p_4 : Fld Z Z.heap a2 "com/example/aturan/aturan/rules/HashAlgorithm" "length" "I" (.int (32 : Int32))) (p_5 : Exa Z Z.heap a1 "com/example/aturan/aturan/rules/HashAlgorithm") (p_6 : Exa Z Z.heap a2 "com/example/aturan/aturan/rules/HashAlgorithm") (p_7 : Sta Z Z.heap "java/util/Optional" "EMPTY" "Ljava/util/Optional;" (.ref oE)) (p_8 : Exa Z Z.heap oE "java/util/Optional") (p_9 : Fld Z Z.heap oE "java/util/Optional" "value" "Ljava/lang/Object;" .null) (p_10 : x0 = (20 : Int32)) :
    MetFree l (⟨"com/example/aturan/aturan/rules/HashAlgorithm", "forLength", "(I)Ljava/util/Optional;"⟩ : MethodName) (head1 (Jvm.Cond.code (⟨"com/example/aturan/aturan/rules/HashAlgorithm", "forLength", "(I)Ljava/util/Optional;"⟩ : MethodName) prog_47_method_6_code 5 (some (.object "java/util/Optional")) :: ws) ({ frames := 3, cells := 2, slots := 3, locals := 38 } : Room)) (fun a U => a = #[(.int x0)] ∧ Z.Warmed39 U.vm ∧ U.heap = h0) (fun _ _ _ _ _ => True) (fun _ U o U' => ∃ v L, o = .returned v ∧ Q_rmFL1 Z x0 aV kV a1 a2 oE h0 n0 v U'.heap L ∧ FrameEnd U o U' L ({ frames := 3, cells := 2, slots := 3, locals := 38 } : Room).cells ({ frames := 3, cells := 2, slots := 3, locals := 38 } : Room).slots) := by
  refine MetFree.of_bodySF (plainFor_of_name pn_3) hisR ?_
  intro p e s m args below meth c s₁ Bd hml0 hP hK
  obtain ⟨rfl, hZ, hh⟩ := hP
  have hx := Bd.exec
  have hby := Bd.bytes
  have hml : c.maxLocals = 5 := hml0
  have hown : s.vm.findClass "com/example/aturan/aturan/rules/HashAlgorithm" = some m.cls := findClass_of_methodNamed Bd.named
  have hnm := (name_of_methodNamed Bd.named Bd.method).1
  have X0 : Stand p l e ({ frames := 3, cells := 2, slots := 3, locals := 38 } : Room) s m #[(.int x0)] below meth c s₁ [] 0 0 := Stand.of_body Bd
  have e0 : s₁.heap = h0 := by rw [← hh, Bd.state]; rfl
  have N0 := Fr.nil n0
  show own_Ends p e below s ({ frames := 3, cells := 2, slots := 3, locals := 38 } : Room).cells ({ frames := 3, cells := 2, slots := 3, locals := 38 } : Room).slots (Q_rmFL1 Z x0 aV kV a1 a2 oE h0 n0) (s₁.setTop (entryFrame m #[(.int x0)] 5))
  rw [ef_18_I]
  subst p_10
  obtain ⟨_, _, ⟨T1, L1, k1, n1⟩, -, X1, ⟨Lc1, hQ1, l1, y1, z1⟩, st1⟩ := Jvm.LawKit.callS X0 hx (y := (⟨"com/example/aturan/aturan/rules/HashAlgorithm", "values", "()[Lcom/example/aturan/aturan/rules/HashAlgorithm;"⟩ : MethodName)) hown (mvT hZ (hw _ (List.mem_of_getElem? (i := 136) rfl))) (mvT hZ (hw _ (List.mem_of_getElem? (i := 137) rfl))) (mvT hZ (hw _ (List.mem_of_getElem? (i := 134) rfl))) (mvT hZ (hw _ (List.mem_of_getElem? (i := 138) rfl))) (by decide) (backOf (W := 0) (rm19 l Z a0 hw [] aV kV a1 a2 h0 n0 Z0 O0 p_0 p_1 p_2 p_3 p_4 p_5 p_6) hZ (hw _ (List.mem_of_getElem? (i := 138) rfl)) (hw _ (List.mem_of_getElem? (i := 134) rfl)) (by decide) (by decide)) (g := (mkF m 0 #[.val (.int (20 : Int32)), .unset, .unset, .unset, .unset] [])) rfl (by rw [hml]; rfl) (argsL := []) (rest := []) (lenOf pd_16 rfl) rfl (by show 2 * 0 + _ ≤ _; exact Nat.le_of_eq rfl) (hb hby d18_0) (fun _ _ => ⟨rfl, e0, (by decide : 0 + 1 ≤ _), (by decide : 0 + 2 ≤ _)⟩)
  dsimp only [Pt.U, Pt.locs, Pt.cells, Pt.slots] at X1 l1 y1 z1 st1 hQ1
  subst l1 y1 z1
  obtain ⟨b_1, rfl, N1q, K1, pq1_0, pq1_1⟩ := hQ1
  have N1 := Fr.app N0 N1q
  obtain ⟨h1, e1⟩ : ∃ z, T1.heap = z := ⟨_, rfl⟩
  rw [e1] at K1 pq1_1
  have ne2 : aV ≠ b_1 := Nat.ne_of_lt (Nat.lt_of_lt_of_le (p_1.ext O0.2).lt pq1_0)
  have ne3 : a1 ≠ b_1 := Nat.ne_of_lt (Nat.lt_of_lt_of_le (p_3.ext O0.2).lt pq1_0)
  have ne4 : a2 ≠ b_1 := Nat.ne_of_lt (Nat.lt_of_lt_of_le (p_4.ext O0.2).lt pq1_0)
  have ne5 : oE ≠ b_1 := Nat.ne_of_lt (Nat.lt_of_lt_of_le (p_8.ext O0.2).lt pq1_0)
  have g_b_1 : n0 ≤ b_1 := Nat.le_trans Z0 pq1_0
  have sz_b_1 : h0.size ≤ b_1 := Nat.le_trans (Keep.refl h0 []).1 pq1_0
  have O6 := O0.keep K1 all0
  have K7 : Keep h0 h1 [] := (Keep.refl h0 []).trans K1 all0
  have Z8 : n0 ≤ h1.size := Nat.le_trans Z0 K1.1
  refine own_step (st' := T1.setTop (mkF m 3 #[.val (.int (20 : Int32)), .unset, .unset, .unset, .unset] [(.ref b_1)])) st1 ?_
  refine own_step (st' := T1.setTop (mkF m 4 #[.val (.int (20 : Int32)), .val (.ref b_1), .unset, .unset, .unset] [])) (fun t k => XS.astoreN X1.here hx rfl (hb hby d18_3) rfl rfl (l' := #[.val (.int (20 : Int32)), .val (.ref b_1), .unset, .unset, .unset]) rfl k) ?_
  refine own_step (st' := T1.setTop (mkF m 5 #[.val (.int (20 : Int32)), .val (.ref b_1), .unset, .unset, .unset] [(.ref b_1)])) (fun t k => XS.aloadN X1.here hx rfl (hb hby d18_4) rfl rfl k) ?_
  refine own_step (st' := T1.setTop (mkF m 6 #[.val (.int (20 : Int32)), .val (.ref b_1), .unset, .unset, .unset] [(.int (2 : Int32))])) (fun t k => own_len X1 hx hZ e1 pq1_1 (g := (mkF m 5 #[.val (.int (20 : Int32)), .val (.ref b_1), .unset, .unset, .unset] [(.ref b_1)])) rfl rfl (hb hby d18_5) t k) ?_
  refine own_step (st' := T1.setTop (mkF m 7 #[.val (.int (20 : Int32)), .val (.ref b_1), .val (.int (2 : Int32)), .unset, .unset] [])) (fun t k => XS.istoreN X1.here hx rfl (hb hby d18_6) rfl (l' := #[.val (.int (20 : Int32)), .val (.ref b_1), .val (.int (2 : Int32)), .unset, .unset]) rfl k) ?_
  refine own_step (st' := T1.setTop (mkF m 8 #[.val (.int (20 : Int32)), .val (.ref b_1), .val (.int (2 : Int32)), .unset, .unset] [(.int (0 : Int32))])) (fun t k => XS.iconst X1.here hx rfl (hb hby d18_7) k) ?_
  refine own_step (st' := T1.setTop (mkF m 9 #[.val (.int (20 : Int32)), .val (.ref b_1), .val (.int (2 : Int32)), .val (.int (0 : Int32)), .unset] [])) (fun t k => XS.istoreN X1.here hx rfl (hb hby d18_8) rfl (l' := #[.val (.int (20 : Int32)), .val (.ref b_1), .val (.int (2 : Int32)), .val (.int (0 : Int32)), .unset]) rfl k) ?_
  refine own_step (st' := T1.setTop (mkF m 10 #[.val (.int (20 : Int32)), .val (.ref b_1), .val (.int (2 : Int32)), .val (.int (0 : Int32)), .unset] [(.int (0 : Int32))])) (fun t k => XS.iloadN X1.here hx rfl (hb hby d18_9) rfl k) ?_
  refine own_step (st' := T1.setTop (mkF m 11 #[.val (.int (20 : Int32)), .val (.ref b_1), .val (.int (2 : Int32)), .val (.int (0 : Int32)), .unset] [(.int (2 : Int32)), (.int (0 : Int32))])) (fun t k => XS.iloadN X1.here hx rfl (hb hby d18_10) rfl k) ?_
  refine own_step (st' := T1.setTop (mkF m 14 #[.val (.int (20 : Int32)), .val (.ref b_1), .val (.int (2 : Int32)), .val (.int (0 : Int32)), .unset] [])) (fun t k => XS.icmpNo X1.here hx rfl (hb hby d18_11) rfl (tlt (by decide)).2.1 k) ?_
  refine own_step (st' := T1.setTop (mkF m 15 #[.val (.int (20 : Int32)), .val (.ref b_1), .val (.int (2 : Int32)), .val (.int (0 : Int32)), .unset] [(.ref b_1)])) (fun t k => XS.aloadN X1.here hx rfl (hb hby d18_14) rfl rfl k) ?_
  refine own_step (st' := T1.setTop (mkF m 16 #[.val (.int (20 : Int32)), .val (.ref b_1), .val (.int (2 : Int32)), .val (.int (0 : Int32)), .unset] [(.int (0 : Int32)), (.ref b_1)])) (fun t k => XS.iloadN X1.here hx rfl (hb hby d18_15) rfl k) ?_
  refine own_step (st' := T1.setTop (mkF m 17 #[.val (.int (20 : Int32)), .val (.ref b_1), .val (.int (2 : Int32)), .val (.int (0 : Int32)), .unset] [(.ref a1)])) (fun t k => own_ldR X1 hx hZ e1 pq1_1 rfl (j := (0 : Int32)) (v := (.ref a1)) ⟨by decide, by decide⟩ rfl (g := (mkF m 16 #[.val (.int (20 : Int32)), .val (.ref b_1), .val (.int (2 : Int32)), .val (.int (0 : Int32)), .unset] [(.int (0 : Int32)), (.ref b_1)])) rfl rfl (hb hby d18_16) t k) ?_
  refine own_step (st' := T1.setTop (mkF m 19 #[.val (.int (20 : Int32)), .val (.ref b_1), .val (.int (2 : Int32)), .val (.int (0 : Int32)), .val (.ref a1)] [])) (fun t k => XS.astore X1.here hx rfl (hb hby d18_17) rfl rfl (l' := #[.val (.int (20 : Int32)), .val (.ref b_1), .val (.int (2 : Int32)), .val (.int (0 : Int32)), .val (.ref a1)]) rfl k) ?_
  refine own_step (st' := T1.setTop (mkF m 21 #[.val (.int (20 : Int32)), .val (.ref b_1), .val (.int (2 : Int32)), .val (.int (0 : Int32)), .val (.ref a1)] [(.ref a1)])) (fun t k => XS.aload X1.here hx rfl (hb hby d18_19) rfl rfl k) ?_
  obtain ⟨T9, X9, e9, st9⟩ := getF X1 hx hZ hown (host := "") (Or.inl (hw _ (List.mem_of_getElem? (i := 150) rfl))) Via.refl e1 (p_3.ext O6.2) (g := (mkF m 21 #[.val (.int (20 : Int32)), .val (.ref b_1), .val (.int (2 : Int32)), .val (.int (0 : Int32)), .val (.ref a1)] [(.ref a1)])) rfl rfl (hb hby d18_21)
  refine own_step (st' := T9.setTop (mkF m 24 #[.val (.int (20 : Int32)), .val (.ref b_1), .val (.int (2 : Int32)), .val (.int (0 : Int32)), .val (.ref a1)] [(.int (20 : Int32))])) st9 ?_
  refine own_step (st' := T9.setTop (mkF m 25 #[.val (.int (20 : Int32)), .val (.ref b_1), .val (.int (2 : Int32)), .val (.int (0 : Int32)), .val (.ref a1)] [(.int (20 : Int32)), (.int (20 : Int32))])) (fun t k => XS.iloadN X9.here hx rfl (hb hby d18_24) rfl k) ?_
  refine own_step (st' := T9.setTop (mkF m 28 #[.val (.int (20 : Int32)), .val (.ref b_1), .val (.int (2 : Int32)), .val (.int (0 : Int32)), .val (.ref a1)] [])) (fun t k => XS.icmpNo X9.here hx rfl (hb hby d18_25) rfl (teq (by decide)).2 k) ?_
  refine own_step (st' := T9.setTop (mkF m 30 #[.val (.int (20 : Int32)), .val (.ref b_1), .val (.int (2 : Int32)), .val (.int (0 : Int32)), .val (.ref a1)] [(.ref a1)])) (fun t k => XS.aload X9.here hx rfl (hb hby d18_28) rfl rfl k) ?_
  obtain ⟨_, _, ⟨T10, L10, k10, n10⟩, -, X10, ⟨Lc10, hQ10, l10, y10, z10⟩, st10⟩ := Jvm.LawKit.callS X9 hx (y := (⟨"java/util/Optional", "of", "(Ljava/lang/Object;)Ljava/util/Optional;"⟩ : MethodName)) hown (mvT hZ (hw _ (List.mem_of_getElem? (i := 157) rfl))) (mvT hZ (hw _ (List.mem_of_getElem? (i := 158) rfl))) (mvT hZ (hw _ (List.mem_of_getElem? (i := 87) rfl))) (mvT hZ (hw _ (List.mem_of_getElem? (i := 159) rfl))) (by decide) (backOf (W := 0) (rm21 l Z a0 hw [] a1 h1 n0 Z8) hZ (hw _ (List.mem_of_getElem? (i := 159) rfl)) (hw _ (List.mem_of_getElem? (i := 87) rfl)) (by decide) (by decide)) (g := (mkF m 30 #[.val (.int (20 : Int32)), .val (.ref b_1), .val (.int (2 : Int32)), .val (.int (0 : Int32)), .val (.ref a1)] [(.ref a1)])) rfl (by rw [hml]; rfl) (argsL := [(.ref a1)]) (rest := []) (lenOf pd_9 rfl) rfl (by show 2 * 0 + _ ≤ _; exact Nat.le_of_eq rfl) (hb hby d18_30) (fun _ _ => ⟨rfl, e9, (by decide : 1 + 1 ≤ _), (by decide : 2 + 1 ≤ _)⟩)
  dsimp only [Pt.U, Pt.locs, Pt.cells, Pt.slots] at X10 l10 y10 z10 st10 hQ10
  subst l10 y10 z10
  obtain ⟨r_10, rfl, N10q, K10, pq10_0, pq10_1, pq10_2⟩ := hQ10
  have N10 := Fr.app N1 N10q
  obtain ⟨h10, e10⟩ : ∃ z, T10.heap = z := ⟨_, rfl⟩
  rw [e10] at K10 pq10_1 pq10_2
  have ne11 : aV ≠ r_10 := Nat.ne_of_lt (Nat.lt_of_lt_of_le (p_1.ext O6.2).lt pq10_0)
  have ne12 : a1 ≠ r_10 := Nat.ne_of_lt (Nat.lt_of_lt_of_le (p_3.ext O6.2).lt pq10_0)
  have ne13 : a2 ≠ r_10 := Nat.ne_of_lt (Nat.lt_of_lt_of_le (p_4.ext O6.2).lt pq10_0)
  have ne14 : oE ≠ r_10 := Nat.ne_of_lt (Nat.lt_of_lt_of_le (p_8.ext O6.2).lt pq10_0)
  have ne15 : b_1 ≠ r_10 := Nat.ne_of_lt (Nat.lt_of_lt_of_le pq1_1.lt pq10_0)
  have g_r_10 : n0 ≤ r_10 := Nat.le_trans Z8 pq10_0
  have sz_r_10 : h0.size ≤ r_10 := Nat.le_trans K7.1 pq10_0
  have f16 := pq1_1.keep K10 nin0
  have O17 := O6.keep K10 all0
  have K18 : Keep h0 h10 [] := K7.trans K10 all0
  have Z19 : n0 ≤ h10.size := Nat.le_trans Z8 K10.1
  refine own_step (st' := T10.setTop (mkF m 33 #[.val (.int (20 : Int32)), .val (.ref b_1), .val (.int (2 : Int32)), .val (.int (0 : Int32)), .val (.ref a1)] [(.ref r_10)])) st10 ?_
  refine own_ret X10 Bd.notSynchronized (some (.ref r_10)) (fun h => by rw [Bd.returns] at h; cases h) (fun fs hr => retOut X10 hx Bd.returns rfl (Or.inr (Or.inr (Or.inr (Or.inr ⟨rfl, rfl, rfl⟩)))) (hb hby d18_33) hr) ?_ (by decide) (by decide)
  rw [e10]
  exact ⟨r_10, rfl, N10, K18, sz_r_10, pq10_1, pq10_2⟩
theorem d18_34 : decode prog_47_method_6_code 34 = .ok (.iinc 3 1, 3) := by decide +kernel
theorem d18_37 : decode prog_47_method_6_code 37 = .ok (.goto (-28), 3) := by decide +kernel
def Q_rmFL2 (Z : State) (x0 : Int32) (aV : Addr) (kV : ClassId) (a1 : Addr) (a2 : Addr) (oE : Addr) (h0 : Heap) (n0 : Nat) (v : Option Value) (h : Heap) (L : List Loc) : Prop := ∃ r : Addr, v = some (.ref r) ∧ Fr n0 L ∧ Keep h0 h [] ∧ h0.size ≤ r ∧ Exa Z h r "java/util/Optional" ∧ Fld Z h r "java/util/Optional" "value" "Ljava/lang/Object;" (.ref a2)
set_option maxRecDepth 65536 in
set_option maxHeartbeats 40000000 in
theorem rmFL2 (l : Launch) (Z : State) (a0 : Array Value) (hw : ∀ d ∈ tables_1, d.before a0 Z = true) (ws : List Jvm.Cond) (x0 : Int32) (aV : Addr) (kV : ClassId) (a1 : Addr) (a2 : Addr) (oE : Addr) (h0 : Heap) (n0 : Nat) (Z0 : n0 ≤ h0.size) (O0 : Old Z n0 h0) (p_0 : Sta Z Z.heap "com/example/aturan/aturan/rules/HashAlgorithm" "$VALUES" "[Lcom/example/aturan/aturan/rules/HashAlgorithm;" (.ref aV)) (p_1 : Exa Z Z.heap aV "[Lcom/example/aturan/aturan/rules/HashAlgorithm;") (p_2 : Arv Z Z.heap aV kV (.object "com/example/aturan/aturan/rules/HashAlgorithm") (2 : Int32) [(.ref a1), (.ref a2)] .null) (p_3 : Fld Z Z.heap a1 "com/example/aturan/aturan/rules/HashAlgorithm" "length" "I" (.int (20 : Int32))) (p_4 : Fld Z Z.heap a2 "com/example/aturan/aturan/rules/HashAlgorithm" "length" "I" (.int (32 : Int32))) (p_5 : Exa Z Z.heap a1 "com/example/aturan/aturan/rules/HashAlgorithm") (p_6 : Exa Z Z.heap a2 "com/example/aturan/aturan/rules/HashAlgorithm") (p_7 : Sta Z Z.heap "java/util/Optional" "EMPTY" "Ljava/util/Optional;" (.ref oE)) (p_8 : Exa Z Z.heap oE "java/util/Optional") (p_9 : Fld Z Z.heap oE "java/util/Optional" "value" "Ljava/lang/Object;" .null) (p_10 : x0 = (32 : Int32)) :
    MetFree l (⟨"com/example/aturan/aturan/rules/HashAlgorithm", "forLength", "(I)Ljava/util/Optional;"⟩ : MethodName) (head1 (Jvm.Cond.code (⟨"com/example/aturan/aturan/rules/HashAlgorithm", "forLength", "(I)Ljava/util/Optional;"⟩ : MethodName) prog_47_method_6_code 5 (some (.object "java/util/Optional")) :: ws) ({ frames := 3, cells := 2, slots := 3, locals := 38 } : Room)) (fun a U => a = #[(.int x0)] ∧ Z.Warmed39 U.vm ∧ U.heap = h0) (fun _ _ _ _ _ => True) (fun _ U o U' => ∃ v L, o = .returned v ∧ Q_rmFL2 Z x0 aV kV a1 a2 oE h0 n0 v U'.heap L ∧ FrameEnd U o U' L ({ frames := 3, cells := 2, slots := 3, locals := 38 } : Room).cells ({ frames := 3, cells := 2, slots := 3, locals := 38 } : Room).slots) := by
  refine MetFree.of_bodySF (plainFor_of_name pn_3) hisR ?_
  intro p e s m args below meth c s₁ Bd hml0 hP hK
  obtain ⟨rfl, hZ, hh⟩ := hP
  have hx := Bd.exec
  have hby := Bd.bytes
  have hml : c.maxLocals = 5 := hml0
  have hown : s.vm.findClass "com/example/aturan/aturan/rules/HashAlgorithm" = some m.cls := findClass_of_methodNamed Bd.named
  have hnm := (name_of_methodNamed Bd.named Bd.method).1
  have X0 : Stand p l e ({ frames := 3, cells := 2, slots := 3, locals := 38 } : Room) s m #[(.int x0)] below meth c s₁ [] 0 0 := Stand.of_body Bd
  have e0 : s₁.heap = h0 := by rw [← hh, Bd.state]; rfl
  have N0 := Fr.nil n0
  show own_Ends p e below s ({ frames := 3, cells := 2, slots := 3, locals := 38 } : Room).cells ({ frames := 3, cells := 2, slots := 3, locals := 38 } : Room).slots (Q_rmFL2 Z x0 aV kV a1 a2 oE h0 n0) (s₁.setTop (entryFrame m #[(.int x0)] 5))
  rw [ef_18_I]
  subst p_10
  obtain ⟨_, _, ⟨T1, L1, k1, n1⟩, -, X1, ⟨Lc1, hQ1, l1, y1, z1⟩, st1⟩ := Jvm.LawKit.callS X0 hx (y := (⟨"com/example/aturan/aturan/rules/HashAlgorithm", "values", "()[Lcom/example/aturan/aturan/rules/HashAlgorithm;"⟩ : MethodName)) hown (mvT hZ (hw _ (List.mem_of_getElem? (i := 136) rfl))) (mvT hZ (hw _ (List.mem_of_getElem? (i := 137) rfl))) (mvT hZ (hw _ (List.mem_of_getElem? (i := 134) rfl))) (mvT hZ (hw _ (List.mem_of_getElem? (i := 138) rfl))) (by decide) (backOf (W := 0) (rm19 l Z a0 hw [] aV kV a1 a2 h0 n0 Z0 O0 p_0 p_1 p_2 p_3 p_4 p_5 p_6) hZ (hw _ (List.mem_of_getElem? (i := 138) rfl)) (hw _ (List.mem_of_getElem? (i := 134) rfl)) (by decide) (by decide)) (g := (mkF m 0 #[.val (.int (32 : Int32)), .unset, .unset, .unset, .unset] [])) rfl (by rw [hml]; rfl) (argsL := []) (rest := []) (lenOf pd_16 rfl) rfl (by show 2 * 0 + _ ≤ _; exact Nat.le_of_eq rfl) (hb hby d18_0) (fun _ _ => ⟨rfl, e0, (by decide : 0 + 1 ≤ _), (by decide : 0 + 2 ≤ _)⟩)
  dsimp only [Pt.U, Pt.locs, Pt.cells, Pt.slots] at X1 l1 y1 z1 st1 hQ1
  subst l1 y1 z1
  obtain ⟨b_1, rfl, N1q, K1, pq1_0, pq1_1⟩ := hQ1
  have N1 := Fr.app N0 N1q
  obtain ⟨h1, e1⟩ : ∃ z, T1.heap = z := ⟨_, rfl⟩
  rw [e1] at K1 pq1_1
  have ne2 : aV ≠ b_1 := Nat.ne_of_lt (Nat.lt_of_lt_of_le (p_1.ext O0.2).lt pq1_0)
  have ne3 : a1 ≠ b_1 := Nat.ne_of_lt (Nat.lt_of_lt_of_le (p_3.ext O0.2).lt pq1_0)
  have ne4 : a2 ≠ b_1 := Nat.ne_of_lt (Nat.lt_of_lt_of_le (p_4.ext O0.2).lt pq1_0)
  have ne5 : oE ≠ b_1 := Nat.ne_of_lt (Nat.lt_of_lt_of_le (p_8.ext O0.2).lt pq1_0)
  have g_b_1 : n0 ≤ b_1 := Nat.le_trans Z0 pq1_0
  have sz_b_1 : h0.size ≤ b_1 := Nat.le_trans (Keep.refl h0 []).1 pq1_0
  have O6 := O0.keep K1 all0
  have K7 : Keep h0 h1 [] := (Keep.refl h0 []).trans K1 all0
  have Z8 : n0 ≤ h1.size := Nat.le_trans Z0 K1.1
  refine own_step (st' := T1.setTop (mkF m 3 #[.val (.int (32 : Int32)), .unset, .unset, .unset, .unset] [(.ref b_1)])) st1 ?_
  refine own_step (st' := T1.setTop (mkF m 4 #[.val (.int (32 : Int32)), .val (.ref b_1), .unset, .unset, .unset] [])) (fun t k => XS.astoreN X1.here hx rfl (hb hby d18_3) rfl rfl (l' := #[.val (.int (32 : Int32)), .val (.ref b_1), .unset, .unset, .unset]) rfl k) ?_
  refine own_step (st' := T1.setTop (mkF m 5 #[.val (.int (32 : Int32)), .val (.ref b_1), .unset, .unset, .unset] [(.ref b_1)])) (fun t k => XS.aloadN X1.here hx rfl (hb hby d18_4) rfl rfl k) ?_
  refine own_step (st' := T1.setTop (mkF m 6 #[.val (.int (32 : Int32)), .val (.ref b_1), .unset, .unset, .unset] [(.int (2 : Int32))])) (fun t k => own_len X1 hx hZ e1 pq1_1 (g := (mkF m 5 #[.val (.int (32 : Int32)), .val (.ref b_1), .unset, .unset, .unset] [(.ref b_1)])) rfl rfl (hb hby d18_5) t k) ?_
  refine own_step (st' := T1.setTop (mkF m 7 #[.val (.int (32 : Int32)), .val (.ref b_1), .val (.int (2 : Int32)), .unset, .unset] [])) (fun t k => XS.istoreN X1.here hx rfl (hb hby d18_6) rfl (l' := #[.val (.int (32 : Int32)), .val (.ref b_1), .val (.int (2 : Int32)), .unset, .unset]) rfl k) ?_
  refine own_step (st' := T1.setTop (mkF m 8 #[.val (.int (32 : Int32)), .val (.ref b_1), .val (.int (2 : Int32)), .unset, .unset] [(.int (0 : Int32))])) (fun t k => XS.iconst X1.here hx rfl (hb hby d18_7) k) ?_
  refine own_step (st' := T1.setTop (mkF m 9 #[.val (.int (32 : Int32)), .val (.ref b_1), .val (.int (2 : Int32)), .val (.int (0 : Int32)), .unset] [])) (fun t k => XS.istoreN X1.here hx rfl (hb hby d18_8) rfl (l' := #[.val (.int (32 : Int32)), .val (.ref b_1), .val (.int (2 : Int32)), .val (.int (0 : Int32)), .unset]) rfl k) ?_
  refine own_step (st' := T1.setTop (mkF m 10 #[.val (.int (32 : Int32)), .val (.ref b_1), .val (.int (2 : Int32)), .val (.int (0 : Int32)), .unset] [(.int (0 : Int32))])) (fun t k => XS.iloadN X1.here hx rfl (hb hby d18_9) rfl k) ?_
  refine own_step (st' := T1.setTop (mkF m 11 #[.val (.int (32 : Int32)), .val (.ref b_1), .val (.int (2 : Int32)), .val (.int (0 : Int32)), .unset] [(.int (2 : Int32)), (.int (0 : Int32))])) (fun t k => XS.iloadN X1.here hx rfl (hb hby d18_10) rfl k) ?_
  refine own_step (st' := T1.setTop (mkF m 14 #[.val (.int (32 : Int32)), .val (.ref b_1), .val (.int (2 : Int32)), .val (.int (0 : Int32)), .unset] [])) (fun t k => XS.icmpNo X1.here hx rfl (hb hby d18_11) rfl (tlt (by decide)).2.1 k) ?_
  refine own_step (st' := T1.setTop (mkF m 15 #[.val (.int (32 : Int32)), .val (.ref b_1), .val (.int (2 : Int32)), .val (.int (0 : Int32)), .unset] [(.ref b_1)])) (fun t k => XS.aloadN X1.here hx rfl (hb hby d18_14) rfl rfl k) ?_
  refine own_step (st' := T1.setTop (mkF m 16 #[.val (.int (32 : Int32)), .val (.ref b_1), .val (.int (2 : Int32)), .val (.int (0 : Int32)), .unset] [(.int (0 : Int32)), (.ref b_1)])) (fun t k => XS.iloadN X1.here hx rfl (hb hby d18_15) rfl k) ?_
  refine own_step (st' := T1.setTop (mkF m 17 #[.val (.int (32 : Int32)), .val (.ref b_1), .val (.int (2 : Int32)), .val (.int (0 : Int32)), .unset] [(.ref a1)])) (fun t k => own_ldR X1 hx hZ e1 pq1_1 rfl (j := (0 : Int32)) (v := (.ref a1)) ⟨by decide, by decide⟩ rfl (g := (mkF m 16 #[.val (.int (32 : Int32)), .val (.ref b_1), .val (.int (2 : Int32)), .val (.int (0 : Int32)), .unset] [(.int (0 : Int32)), (.ref b_1)])) rfl rfl (hb hby d18_16) t k) ?_
  refine own_step (st' := T1.setTop (mkF m 19 #[.val (.int (32 : Int32)), .val (.ref b_1), .val (.int (2 : Int32)), .val (.int (0 : Int32)), .val (.ref a1)] [])) (fun t k => XS.astore X1.here hx rfl (hb hby d18_17) rfl rfl (l' := #[.val (.int (32 : Int32)), .val (.ref b_1), .val (.int (2 : Int32)), .val (.int (0 : Int32)), .val (.ref a1)]) rfl k) ?_
  refine own_step (st' := T1.setTop (mkF m 21 #[.val (.int (32 : Int32)), .val (.ref b_1), .val (.int (2 : Int32)), .val (.int (0 : Int32)), .val (.ref a1)] [(.ref a1)])) (fun t k => XS.aload X1.here hx rfl (hb hby d18_19) rfl rfl k) ?_
  obtain ⟨T9, X9, e9, st9⟩ := getF X1 hx hZ hown (host := "") (Or.inl (hw _ (List.mem_of_getElem? (i := 150) rfl))) Via.refl e1 (p_3.ext O6.2) (g := (mkF m 21 #[.val (.int (32 : Int32)), .val (.ref b_1), .val (.int (2 : Int32)), .val (.int (0 : Int32)), .val (.ref a1)] [(.ref a1)])) rfl rfl (hb hby d18_21)
  refine own_step (st' := T9.setTop (mkF m 24 #[.val (.int (32 : Int32)), .val (.ref b_1), .val (.int (2 : Int32)), .val (.int (0 : Int32)), .val (.ref a1)] [(.int (20 : Int32))])) st9 ?_
  refine own_step (st' := T9.setTop (mkF m 25 #[.val (.int (32 : Int32)), .val (.ref b_1), .val (.int (2 : Int32)), .val (.int (0 : Int32)), .val (.ref a1)] [(.int (32 : Int32)), (.int (20 : Int32))])) (fun t k => XS.iloadN X9.here hx rfl (hb hby d18_24) rfl k) ?_
  refine own_step (st' := T9.setTop (mkF m 34 #[.val (.int (32 : Int32)), .val (.ref b_1), .val (.int (2 : Int32)), .val (.int (0 : Int32)), .val (.ref a1)] [])) (fun t k => XS.icmpYes X9.here hx rfl (pc0 := 25) (pc' := 34) rfl (hb hby d18_25) rfl (feq (by decide)).2 (by decide) (by decide) k) ?_
  refine own_step (st' := T9.setTop (mkF m 37 #[.val (.int (32 : Int32)), .val (.ref b_1), .val (.int (2 : Int32)), .val (.int (1 : Int32)), .val (.ref a1)] [])) (fun t k => XS.iinc X9.here hx rfl (hb hby d18_34) rfl (l' := #[.val (.int (32 : Int32)), .val (.ref b_1), .val (.int (2 : Int32)), .val (.int (1 : Int32)), .val (.ref a1)]) rfl k) ?_
  refine own_step (st' := T9.setTop (mkF m 9 #[.val (.int (32 : Int32)), .val (.ref b_1), .val (.int (2 : Int32)), .val (.int (1 : Int32)), .val (.ref a1)] [])) (fun t k => XS.goto X9.here hx rfl (pc0 := 37) (pc' := 9) rfl (hb hby d18_37) (by decide) (by decide) k) ?_
  refine own_step (st' := T9.setTop (mkF m 10 #[.val (.int (32 : Int32)), .val (.ref b_1), .val (.int (2 : Int32)), .val (.int (1 : Int32)), .val (.ref a1)] [(.int (1 : Int32))])) (fun t k => XS.iloadN X9.here hx rfl (hb hby d18_9) rfl k) ?_
  refine own_step (st' := T9.setTop (mkF m 11 #[.val (.int (32 : Int32)), .val (.ref b_1), .val (.int (2 : Int32)), .val (.int (1 : Int32)), .val (.ref a1)] [(.int (2 : Int32)), (.int (1 : Int32))])) (fun t k => XS.iloadN X9.here hx rfl (hb hby d18_10) rfl k) ?_
  refine own_step (st' := T9.setTop (mkF m 14 #[.val (.int (32 : Int32)), .val (.ref b_1), .val (.int (2 : Int32)), .val (.int (1 : Int32)), .val (.ref a1)] [])) (fun t k => XS.icmpNo X9.here hx rfl (hb hby d18_11) rfl (tlt (by decide)).2.1 k) ?_
  refine own_step (st' := T9.setTop (mkF m 15 #[.val (.int (32 : Int32)), .val (.ref b_1), .val (.int (2 : Int32)), .val (.int (1 : Int32)), .val (.ref a1)] [(.ref b_1)])) (fun t k => XS.aloadN X9.here hx rfl (hb hby d18_14) rfl rfl k) ?_
  refine own_step (st' := T9.setTop (mkF m 16 #[.val (.int (32 : Int32)), .val (.ref b_1), .val (.int (2 : Int32)), .val (.int (1 : Int32)), .val (.ref a1)] [(.int (1 : Int32)), (.ref b_1)])) (fun t k => XS.iloadN X9.here hx rfl (hb hby d18_15) rfl k) ?_
  refine own_step (st' := T9.setTop (mkF m 17 #[.val (.int (32 : Int32)), .val (.ref b_1), .val (.int (2 : Int32)), .val (.int (1 : Int32)), .val (.ref a1)] [(.ref a2)])) (fun t k => own_ldR X9 hx hZ e9 pq1_1 rfl (j := (1 : Int32)) (v := (.ref a2)) ⟨by decide, by decide⟩ rfl (g := (mkF m 16 #[.val (.int (32 : Int32)), .val (.ref b_1), .val (.int (2 : Int32)), .val (.int (1 : Int32)), .val (.ref a1)] [(.int (1 : Int32)), (.ref b_1)])) rfl rfl (hb hby d18_16) t k) ?_
  refine own_step (st' := T9.setTop (mkF m 19 #[.val (.int (32 : Int32)), .val (.ref b_1), .val (.int (2 : Int32)), .val (.int (1 : Int32)), .val (.ref a2)] [])) (fun t k => XS.astore X9.here hx rfl (hb hby d18_17) rfl rfl (l' := #[.val (.int (32 : Int32)), .val (.ref b_1), .val (.int (2 : Int32)), .val (.int (1 : Int32)), .val (.ref a2)]) rfl k) ?_
  refine own_step (st' := T9.setTop (mkF m 21 #[.val (.int (32 : Int32)), .val (.ref b_1), .val (.int (2 : Int32)), .val (.int (1 : Int32)), .val (.ref a2)] [(.ref a2)])) (fun t k => XS.aload X9.here hx rfl (hb hby d18_19) rfl rfl k) ?_
  obtain ⟨T10, X10, e10, st10⟩ := getF X9 hx hZ hown (host := "") (Or.inl (hw _ (List.mem_of_getElem? (i := 150) rfl))) Via.refl e9 (p_4.ext O6.2) (g := (mkF m 21 #[.val (.int (32 : Int32)), .val (.ref b_1), .val (.int (2 : Int32)), .val (.int (1 : Int32)), .val (.ref a2)] [(.ref a2)])) rfl rfl (hb hby d18_21)
  refine own_step (st' := T10.setTop (mkF m 24 #[.val (.int (32 : Int32)), .val (.ref b_1), .val (.int (2 : Int32)), .val (.int (1 : Int32)), .val (.ref a2)] [(.int (32 : Int32))])) st10 ?_
  refine own_step (st' := T10.setTop (mkF m 25 #[.val (.int (32 : Int32)), .val (.ref b_1), .val (.int (2 : Int32)), .val (.int (1 : Int32)), .val (.ref a2)] [(.int (32 : Int32)), (.int (32 : Int32))])) (fun t k => XS.iloadN X10.here hx rfl (hb hby d18_24) rfl k) ?_
  refine own_step (st' := T10.setTop (mkF m 28 #[.val (.int (32 : Int32)), .val (.ref b_1), .val (.int (2 : Int32)), .val (.int (1 : Int32)), .val (.ref a2)] [])) (fun t k => XS.icmpNo X10.here hx rfl (hb hby d18_25) rfl (teq (by decide)).2 k) ?_
  refine own_step (st' := T10.setTop (mkF m 30 #[.val (.int (32 : Int32)), .val (.ref b_1), .val (.int (2 : Int32)), .val (.int (1 : Int32)), .val (.ref a2)] [(.ref a2)])) (fun t k => XS.aload X10.here hx rfl (hb hby d18_28) rfl rfl k) ?_
  obtain ⟨_, _, ⟨T11, L11, k11, n11⟩, -, X11, ⟨Lc11, hQ11, l11, y11, z11⟩, st11⟩ := Jvm.LawKit.callS X10 hx (y := (⟨"java/util/Optional", "of", "(Ljava/lang/Object;)Ljava/util/Optional;"⟩ : MethodName)) hown (mvT hZ (hw _ (List.mem_of_getElem? (i := 157) rfl))) (mvT hZ (hw _ (List.mem_of_getElem? (i := 158) rfl))) (mvT hZ (hw _ (List.mem_of_getElem? (i := 87) rfl))) (mvT hZ (hw _ (List.mem_of_getElem? (i := 159) rfl))) (by decide) (backOf (W := 0) (rm21 l Z a0 hw [] a2 h1 n0 Z8) hZ (hw _ (List.mem_of_getElem? (i := 159) rfl)) (hw _ (List.mem_of_getElem? (i := 87) rfl)) (by decide) (by decide)) (g := (mkF m 30 #[.val (.int (32 : Int32)), .val (.ref b_1), .val (.int (2 : Int32)), .val (.int (1 : Int32)), .val (.ref a2)] [(.ref a2)])) rfl (by rw [hml]; rfl) (argsL := [(.ref a2)]) (rest := []) (lenOf pd_9 rfl) rfl (by show 2 * 0 + _ ≤ _; exact Nat.le_of_eq rfl) (hb hby d18_30) (fun _ _ => ⟨rfl, e10, (by decide : 1 + 1 ≤ _), (by decide : 2 + 1 ≤ _)⟩)
  dsimp only [Pt.U, Pt.locs, Pt.cells, Pt.slots] at X11 l11 y11 z11 st11 hQ11
  subst l11 y11 z11
  obtain ⟨r_11, rfl, N11q, K11, pq11_0, pq11_1, pq11_2⟩ := hQ11
  have N11 := Fr.app N1 N11q
  obtain ⟨h11, e11⟩ : ∃ z, T11.heap = z := ⟨_, rfl⟩
  rw [e11] at K11 pq11_1 pq11_2
  have ne12 : aV ≠ r_11 := Nat.ne_of_lt (Nat.lt_of_lt_of_le (p_1.ext O6.2).lt pq11_0)
  have ne13 : a1 ≠ r_11 := Nat.ne_of_lt (Nat.lt_of_lt_of_le (p_3.ext O6.2).lt pq11_0)
  have ne14 : a2 ≠ r_11 := Nat.ne_of_lt (Nat.lt_of_lt_of_le (p_4.ext O6.2).lt pq11_0)
  have ne15 : oE ≠ r_11 := Nat.ne_of_lt (Nat.lt_of_lt_of_le (p_8.ext O6.2).lt pq11_0)
  have ne16 : b_1 ≠ r_11 := Nat.ne_of_lt (Nat.lt_of_lt_of_le pq1_1.lt pq11_0)
  have g_r_11 : n0 ≤ r_11 := Nat.le_trans Z8 pq11_0
  have sz_r_11 : h0.size ≤ r_11 := Nat.le_trans K7.1 pq11_0
  have f17 := pq1_1.keep K11 nin0
  have O18 := O6.keep K11 all0
  have K19 : Keep h0 h11 [] := K7.trans K11 all0
  have Z20 : n0 ≤ h11.size := Nat.le_trans Z8 K11.1
  refine own_step (st' := T11.setTop (mkF m 33 #[.val (.int (32 : Int32)), .val (.ref b_1), .val (.int (2 : Int32)), .val (.int (1 : Int32)), .val (.ref a2)] [(.ref r_11)])) st11 ?_
  refine own_ret X11 Bd.notSynchronized (some (.ref r_11)) (fun h => by rw [Bd.returns] at h; cases h) (fun fs hr => retOut X11 hx Bd.returns rfl (Or.inr (Or.inr (Or.inr (Or.inr ⟨rfl, rfl, rfl⟩)))) (hb hby d18_33) hr) ?_ (by decide) (by decide)
  rw [e11]
  exact ⟨r_11, rfl, N11, K19, sz_r_11, pq11_1, pq11_2⟩
theorem d18_40 : decode prog_47_method_6_code 40 = .ok (.invokestatic 47, 3) := by decide +kernel
theorem d18_43 : decode prog_47_method_6_code 43 = .ok (.areturn, 1) := by decide +kernel
def Q_rmFL0 (Z : State) (x0 : Int32) (aV : Addr) (kV : ClassId) (a1 : Addr) (a2 : Addr) (oE : Addr) (h0 : Heap) (n0 : Nat) (v : Option Value) (h : Heap) (L : List Loc) : Prop := v = some (.ref oE) ∧ Fr n0 L ∧ Keep h0 h []
set_option maxRecDepth 65536 in
set_option maxHeartbeats 40000000 in
theorem rmFL0 (l : Launch) (Z : State) (a0 : Array Value) (hw : ∀ d ∈ tables_1, d.before a0 Z = true) (ws : List Jvm.Cond) (x0 : Int32) (aV : Addr) (kV : ClassId) (a1 : Addr) (a2 : Addr) (oE : Addr) (h0 : Heap) (n0 : Nat) (Z0 : n0 ≤ h0.size) (O0 : Old Z n0 h0) (p_0 : Sta Z Z.heap "com/example/aturan/aturan/rules/HashAlgorithm" "$VALUES" "[Lcom/example/aturan/aturan/rules/HashAlgorithm;" (.ref aV)) (p_1 : Exa Z Z.heap aV "[Lcom/example/aturan/aturan/rules/HashAlgorithm;") (p_2 : Arv Z Z.heap aV kV (.object "com/example/aturan/aturan/rules/HashAlgorithm") (2 : Int32) [(.ref a1), (.ref a2)] .null) (p_3 : Fld Z Z.heap a1 "com/example/aturan/aturan/rules/HashAlgorithm" "length" "I" (.int (20 : Int32))) (p_4 : Fld Z Z.heap a2 "com/example/aturan/aturan/rules/HashAlgorithm" "length" "I" (.int (32 : Int32))) (p_5 : Exa Z Z.heap a1 "com/example/aturan/aturan/rules/HashAlgorithm") (p_6 : Exa Z Z.heap a2 "com/example/aturan/aturan/rules/HashAlgorithm") (p_7 : Sta Z Z.heap "java/util/Optional" "EMPTY" "Ljava/util/Optional;" (.ref oE)) (p_8 : Exa Z Z.heap oE "java/util/Optional") (p_9 : Fld Z Z.heap oE "java/util/Optional" "value" "Ljava/lang/Object;" .null) (p_10 : ¬ (20 : Int32) = x0) (p_11 : ¬ (32 : Int32) = x0) :
    MetFree l (⟨"com/example/aturan/aturan/rules/HashAlgorithm", "forLength", "(I)Ljava/util/Optional;"⟩ : MethodName) (head1 (Jvm.Cond.code (⟨"com/example/aturan/aturan/rules/HashAlgorithm", "forLength", "(I)Ljava/util/Optional;"⟩ : MethodName) prog_47_method_6_code 5 (some (.object "java/util/Optional")) :: ws) ({ frames := 2, cells := 1, slots := 2, locals := 25 } : Room)) (fun a U => a = #[(.int x0)] ∧ Z.Warmed39 U.vm ∧ U.heap = h0) (fun _ _ _ _ _ => True) (fun _ U o U' => ∃ v L, o = .returned v ∧ Q_rmFL0 Z x0 aV kV a1 a2 oE h0 n0 v U'.heap L ∧ FrameEnd U o U' L ({ frames := 2, cells := 1, slots := 2, locals := 25 } : Room).cells ({ frames := 2, cells := 1, slots := 2, locals := 25 } : Room).slots) := by
  refine MetFree.of_bodySF (plainFor_of_name pn_3) hisR ?_
  intro p e s m args below meth c s₁ Bd hml0 hP hK
  obtain ⟨rfl, hZ, hh⟩ := hP
  have hx := Bd.exec
  have hby := Bd.bytes
  have hml : c.maxLocals = 5 := hml0
  have hown : s.vm.findClass "com/example/aturan/aturan/rules/HashAlgorithm" = some m.cls := findClass_of_methodNamed Bd.named
  have hnm := (name_of_methodNamed Bd.named Bd.method).1
  have X0 : Stand p l e ({ frames := 2, cells := 1, slots := 2, locals := 25 } : Room) s m #[(.int x0)] below meth c s₁ [] 0 0 := Stand.of_body Bd
  have e0 : s₁.heap = h0 := by rw [← hh, Bd.state]; rfl
  have N0 := Fr.nil n0
  show own_Ends p e below s ({ frames := 2, cells := 1, slots := 2, locals := 25 } : Room).cells ({ frames := 2, cells := 1, slots := 2, locals := 25 } : Room).slots (Q_rmFL0 Z x0 aV kV a1 a2 oE h0 n0) (s₁.setTop (entryFrame m #[(.int x0)] 5))
  rw [ef_18_I]
  obtain ⟨_, _, ⟨T1, L1, k1, n1⟩, -, X1, ⟨Lc1, hQ1, l1, y1, z1⟩, st1⟩ := Jvm.LawKit.callS X0 hx (y := (⟨"com/example/aturan/aturan/rules/HashAlgorithm", "values", "()[Lcom/example/aturan/aturan/rules/HashAlgorithm;"⟩ : MethodName)) hown (mvT hZ (hw _ (List.mem_of_getElem? (i := 136) rfl))) (mvT hZ (hw _ (List.mem_of_getElem? (i := 137) rfl))) (mvT hZ (hw _ (List.mem_of_getElem? (i := 134) rfl))) (mvT hZ (hw _ (List.mem_of_getElem? (i := 138) rfl))) (by decide) (backOf (W := 0) (rm19 l Z a0 hw [] aV kV a1 a2 h0 n0 Z0 O0 p_0 p_1 p_2 p_3 p_4 p_5 p_6) hZ (hw _ (List.mem_of_getElem? (i := 138) rfl)) (hw _ (List.mem_of_getElem? (i := 134) rfl)) (by decide) (by decide)) (g := (mkF m 0 #[.val (.int x0), .unset, .unset, .unset, .unset] [])) rfl (by rw [hml]; rfl) (argsL := []) (rest := []) (lenOf pd_16 rfl) rfl (by show 2 * 0 + _ ≤ _; exact Nat.le_of_eq rfl) (hb hby d18_0) (fun _ _ => ⟨rfl, e0, (by decide : 0 + 1 ≤ _), (by decide : 0 + 2 ≤ _)⟩)
  dsimp only [Pt.U, Pt.locs, Pt.cells, Pt.slots] at X1 l1 y1 z1 st1 hQ1
  subst l1 y1 z1
  obtain ⟨b_1, rfl, N1q, K1, pq1_0, pq1_1⟩ := hQ1
  have N1 := Fr.app N0 N1q
  obtain ⟨h1, e1⟩ : ∃ z, T1.heap = z := ⟨_, rfl⟩
  rw [e1] at K1 pq1_1
  have ne2 : aV ≠ b_1 := Nat.ne_of_lt (Nat.lt_of_lt_of_le (p_1.ext O0.2).lt pq1_0)
  have ne3 : a1 ≠ b_1 := Nat.ne_of_lt (Nat.lt_of_lt_of_le (p_3.ext O0.2).lt pq1_0)
  have ne4 : a2 ≠ b_1 := Nat.ne_of_lt (Nat.lt_of_lt_of_le (p_4.ext O0.2).lt pq1_0)
  have ne5 : oE ≠ b_1 := Nat.ne_of_lt (Nat.lt_of_lt_of_le (p_8.ext O0.2).lt pq1_0)
  have g_b_1 : n0 ≤ b_1 := Nat.le_trans Z0 pq1_0
  have sz_b_1 : h0.size ≤ b_1 := Nat.le_trans (Keep.refl h0 []).1 pq1_0
  have O6 := O0.keep K1 all0
  have K7 : Keep h0 h1 [] := (Keep.refl h0 []).trans K1 all0
  have Z8 : n0 ≤ h1.size := Nat.le_trans Z0 K1.1
  refine own_step (st' := T1.setTop (mkF m 3 #[.val (.int x0), .unset, .unset, .unset, .unset] [(.ref b_1)])) st1 ?_
  refine own_step (st' := T1.setTop (mkF m 4 #[.val (.int x0), .val (.ref b_1), .unset, .unset, .unset] [])) (fun t k => XS.astoreN X1.here hx rfl (hb hby d18_3) rfl rfl (l' := #[.val (.int x0), .val (.ref b_1), .unset, .unset, .unset]) rfl k) ?_
  refine own_step (st' := T1.setTop (mkF m 5 #[.val (.int x0), .val (.ref b_1), .unset, .unset, .unset] [(.ref b_1)])) (fun t k => XS.aloadN X1.here hx rfl (hb hby d18_4) rfl rfl k) ?_
  refine own_step (st' := T1.setTop (mkF m 6 #[.val (.int x0), .val (.ref b_1), .unset, .unset, .unset] [(.int (2 : Int32))])) (fun t k => own_len X1 hx hZ e1 pq1_1 (g := (mkF m 5 #[.val (.int x0), .val (.ref b_1), .unset, .unset, .unset] [(.ref b_1)])) rfl rfl (hb hby d18_5) t k) ?_
  refine own_step (st' := T1.setTop (mkF m 7 #[.val (.int x0), .val (.ref b_1), .val (.int (2 : Int32)), .unset, .unset] [])) (fun t k => XS.istoreN X1.here hx rfl (hb hby d18_6) rfl (l' := #[.val (.int x0), .val (.ref b_1), .val (.int (2 : Int32)), .unset, .unset]) rfl k) ?_
  refine own_step (st' := T1.setTop (mkF m 8 #[.val (.int x0), .val (.ref b_1), .val (.int (2 : Int32)), .unset, .unset] [(.int (0 : Int32))])) (fun t k => XS.iconst X1.here hx rfl (hb hby d18_7) k) ?_
  refine own_step (st' := T1.setTop (mkF m 9 #[.val (.int x0), .val (.ref b_1), .val (.int (2 : Int32)), .val (.int (0 : Int32)), .unset] [])) (fun t k => XS.istoreN X1.here hx rfl (hb hby d18_8) rfl (l' := #[.val (.int x0), .val (.ref b_1), .val (.int (2 : Int32)), .val (.int (0 : Int32)), .unset]) rfl k) ?_
  refine own_step (st' := T1.setTop (mkF m 10 #[.val (.int x0), .val (.ref b_1), .val (.int (2 : Int32)), .val (.int (0 : Int32)), .unset] [(.int (0 : Int32))])) (fun t k => XS.iloadN X1.here hx rfl (hb hby d18_9) rfl k) ?_
  refine own_step (st' := T1.setTop (mkF m 11 #[.val (.int x0), .val (.ref b_1), .val (.int (2 : Int32)), .val (.int (0 : Int32)), .unset] [(.int (2 : Int32)), (.int (0 : Int32))])) (fun t k => XS.iloadN X1.here hx rfl (hb hby d18_10) rfl k) ?_
  refine own_step (st' := T1.setTop (mkF m 14 #[.val (.int x0), .val (.ref b_1), .val (.int (2 : Int32)), .val (.int (0 : Int32)), .unset] [])) (fun t k => XS.icmpNo X1.here hx rfl (hb hby d18_11) rfl (tlt (by decide)).2.1 k) ?_
  refine own_step (st' := T1.setTop (mkF m 15 #[.val (.int x0), .val (.ref b_1), .val (.int (2 : Int32)), .val (.int (0 : Int32)), .unset] [(.ref b_1)])) (fun t k => XS.aloadN X1.here hx rfl (hb hby d18_14) rfl rfl k) ?_
  refine own_step (st' := T1.setTop (mkF m 16 #[.val (.int x0), .val (.ref b_1), .val (.int (2 : Int32)), .val (.int (0 : Int32)), .unset] [(.int (0 : Int32)), (.ref b_1)])) (fun t k => XS.iloadN X1.here hx rfl (hb hby d18_15) rfl k) ?_
  refine own_step (st' := T1.setTop (mkF m 17 #[.val (.int x0), .val (.ref b_1), .val (.int (2 : Int32)), .val (.int (0 : Int32)), .unset] [(.ref a1)])) (fun t k => own_ldR X1 hx hZ e1 pq1_1 rfl (j := (0 : Int32)) (v := (.ref a1)) ⟨by decide, by decide⟩ rfl (g := (mkF m 16 #[.val (.int x0), .val (.ref b_1), .val (.int (2 : Int32)), .val (.int (0 : Int32)), .unset] [(.int (0 : Int32)), (.ref b_1)])) rfl rfl (hb hby d18_16) t k) ?_
  refine own_step (st' := T1.setTop (mkF m 19 #[.val (.int x0), .val (.ref b_1), .val (.int (2 : Int32)), .val (.int (0 : Int32)), .val (.ref a1)] [])) (fun t k => XS.astore X1.here hx rfl (hb hby d18_17) rfl rfl (l' := #[.val (.int x0), .val (.ref b_1), .val (.int (2 : Int32)), .val (.int (0 : Int32)), .val (.ref a1)]) rfl k) ?_
  refine own_step (st' := T1.setTop (mkF m 21 #[.val (.int x0), .val (.ref b_1), .val (.int (2 : Int32)), .val (.int (0 : Int32)), .val (.ref a1)] [(.ref a1)])) (fun t k => XS.aload X1.here hx rfl (hb hby d18_19) rfl rfl k) ?_
  obtain ⟨T9, X9, e9, st9⟩ := getF X1 hx hZ hown (host := "") (Or.inl (hw _ (List.mem_of_getElem? (i := 150) rfl))) Via.refl e1 (p_3.ext O6.2) (g := (mkF m 21 #[.val (.int x0), .val (.ref b_1), .val (.int (2 : Int32)), .val (.int (0 : Int32)), .val (.ref a1)] [(.ref a1)])) rfl rfl (hb hby d18_21)
  refine own_step (st' := T9.setTop (mkF m 24 #[.val (.int x0), .val (.ref b_1), .val (.int (2 : Int32)), .val (.int (0 : Int32)), .val (.ref a1)] [(.int (20 : Int32))])) st9 ?_
  refine own_step (st' := T9.setTop (mkF m 25 #[.val (.int x0), .val (.ref b_1), .val (.int (2 : Int32)), .val (.int (0 : Int32)), .val (.ref a1)] [(.int x0), (.int (20 : Int32))])) (fun t k => XS.iloadN X9.here hx rfl (hb hby d18_24) rfl k) ?_
  refine own_step (st' := T9.setTop (mkF m 34 #[.val (.int x0), .val (.ref b_1), .val (.int (2 : Int32)), .val (.int (0 : Int32)), .val (.ref a1)] [])) (fun t k => XS.icmpYes X9.here hx rfl (pc0 := 25) (pc' := 34) rfl (hb hby d18_25) rfl (feq p_10).2 (by decide) (by decide) k) ?_
  refine own_step (st' := T9.setTop (mkF m 37 #[.val (.int x0), .val (.ref b_1), .val (.int (2 : Int32)), .val (.int (1 : Int32)), .val (.ref a1)] [])) (fun t k => XS.iinc X9.here hx rfl (hb hby d18_34) rfl (l' := #[.val (.int x0), .val (.ref b_1), .val (.int (2 : Int32)), .val (.int (1 : Int32)), .val (.ref a1)]) rfl k) ?_
  refine own_step (st' := T9.setTop (mkF m 9 #[.val (.int x0), .val (.ref b_1), .val (.int (2 : Int32)), .val (.int (1 : Int32)), .val (.ref a1)] [])) (fun t k => XS.goto X9.here hx rfl (pc0 := 37) (pc' := 9) rfl (hb hby d18_37) (by decide) (by decide) k) ?_
  refine own_step (st' := T9.setTop (mkF m 10 #[.val (.int x0), .val (.ref b_1), .val (.int (2 : Int32)), .val (.int (1 : Int32)), .val (.ref a1)] [(.int (1 : Int32))])) (fun t k => XS.iloadN X9.here hx rfl (hb hby d18_9) rfl k) ?_
  refine own_step (st' := T9.setTop (mkF m 11 #[.val (.int x0), .val (.ref b_1), .val (.int (2 : Int32)), .val (.int (1 : Int32)), .val (.ref a1)] [(.int (2 : Int32)), (.int (1 : Int32))])) (fun t k => XS.iloadN X9.here hx rfl (hb hby d18_10) rfl k) ?_
  refine own_step (st' := T9.setTop (mkF m 14 #[.val (.int x0), .val (.ref b_1), .val (.int (2 : Int32)), .val (.int (1 : Int32)), .val (.ref a1)] [])) (fun t k => XS.icmpNo X9.here hx rfl (hb hby d18_11) rfl (tlt (by decide)).2.1 k) ?_
  refine own_step (st' := T9.setTop (mkF m 15 #[.val (.int x0), .val (.ref b_1), .val (.int (2 : Int32)), .val (.int (1 : Int32)), .val (.ref a1)] [(.ref b_1)])) (fun t k => XS.aloadN X9.here hx rfl (hb hby d18_14) rfl rfl k) ?_
  refine own_step (st' := T9.setTop (mkF m 16 #[.val (.int x0), .val (.ref b_1), .val (.int (2 : Int32)), .val (.int (1 : Int32)), .val (.ref a1)] [(.int (1 : Int32)), (.ref b_1)])) (fun t k => XS.iloadN X9.here hx rfl (hb hby d18_15) rfl k) ?_
  refine own_step (st' := T9.setTop (mkF m 17 #[.val (.int x0), .val (.ref b_1), .val (.int (2 : Int32)), .val (.int (1 : Int32)), .val (.ref a1)] [(.ref a2)])) (fun t k => own_ldR X9 hx hZ e9 pq1_1 rfl (j := (1 : Int32)) (v := (.ref a2)) ⟨by decide, by decide⟩ rfl (g := (mkF m 16 #[.val (.int x0), .val (.ref b_1), .val (.int (2 : Int32)), .val (.int (1 : Int32)), .val (.ref a1)] [(.int (1 : Int32)), (.ref b_1)])) rfl rfl (hb hby d18_16) t k) ?_
  refine own_step (st' := T9.setTop (mkF m 19 #[.val (.int x0), .val (.ref b_1), .val (.int (2 : Int32)), .val (.int (1 : Int32)), .val (.ref a2)] [])) (fun t k => XS.astore X9.here hx rfl (hb hby d18_17) rfl rfl (l' := #[.val (.int x0), .val (.ref b_1), .val (.int (2 : Int32)), .val (.int (1 : Int32)), .val (.ref a2)]) rfl k) ?_
  refine own_step (st' := T9.setTop (mkF m 21 #[.val (.int x0), .val (.ref b_1), .val (.int (2 : Int32)), .val (.int (1 : Int32)), .val (.ref a2)] [(.ref a2)])) (fun t k => XS.aload X9.here hx rfl (hb hby d18_19) rfl rfl k) ?_
  obtain ⟨T10, X10, e10, st10⟩ := getF X9 hx hZ hown (host := "") (Or.inl (hw _ (List.mem_of_getElem? (i := 150) rfl))) Via.refl e9 (p_4.ext O6.2) (g := (mkF m 21 #[.val (.int x0), .val (.ref b_1), .val (.int (2 : Int32)), .val (.int (1 : Int32)), .val (.ref a2)] [(.ref a2)])) rfl rfl (hb hby d18_21)
  refine own_step (st' := T10.setTop (mkF m 24 #[.val (.int x0), .val (.ref b_1), .val (.int (2 : Int32)), .val (.int (1 : Int32)), .val (.ref a2)] [(.int (32 : Int32))])) st10 ?_
  refine own_step (st' := T10.setTop (mkF m 25 #[.val (.int x0), .val (.ref b_1), .val (.int (2 : Int32)), .val (.int (1 : Int32)), .val (.ref a2)] [(.int x0), (.int (32 : Int32))])) (fun t k => XS.iloadN X10.here hx rfl (hb hby d18_24) rfl k) ?_
  refine own_step (st' := T10.setTop (mkF m 34 #[.val (.int x0), .val (.ref b_1), .val (.int (2 : Int32)), .val (.int (1 : Int32)), .val (.ref a2)] [])) (fun t k => XS.icmpYes X10.here hx rfl (pc0 := 25) (pc' := 34) rfl (hb hby d18_25) rfl (feq p_11).2 (by decide) (by decide) k) ?_
  refine own_step (st' := T10.setTop (mkF m 37 #[.val (.int x0), .val (.ref b_1), .val (.int (2 : Int32)), .val (.int (2 : Int32)), .val (.ref a2)] [])) (fun t k => XS.iinc X10.here hx rfl (hb hby d18_34) rfl (l' := #[.val (.int x0), .val (.ref b_1), .val (.int (2 : Int32)), .val (.int (2 : Int32)), .val (.ref a2)]) rfl k) ?_
  refine own_step (st' := T10.setTop (mkF m 9 #[.val (.int x0), .val (.ref b_1), .val (.int (2 : Int32)), .val (.int (2 : Int32)), .val (.ref a2)] [])) (fun t k => XS.goto X10.here hx rfl (pc0 := 37) (pc' := 9) rfl (hb hby d18_37) (by decide) (by decide) k) ?_
  refine own_step (st' := T10.setTop (mkF m 10 #[.val (.int x0), .val (.ref b_1), .val (.int (2 : Int32)), .val (.int (2 : Int32)), .val (.ref a2)] [(.int (2 : Int32))])) (fun t k => XS.iloadN X10.here hx rfl (hb hby d18_9) rfl k) ?_
  refine own_step (st' := T10.setTop (mkF m 11 #[.val (.int x0), .val (.ref b_1), .val (.int (2 : Int32)), .val (.int (2 : Int32)), .val (.ref a2)] [(.int (2 : Int32)), (.int (2 : Int32))])) (fun t k => XS.iloadN X10.here hx rfl (hb hby d18_10) rfl k) ?_
  refine own_step (st' := T10.setTop (mkF m 40 #[.val (.int x0), .val (.ref b_1), .val (.int (2 : Int32)), .val (.int (2 : Int32)), .val (.ref a2)] [])) (fun t k => XS.icmpYes X10.here hx rfl (pc0 := 11) (pc' := 40) rfl (hb hby d18_11) rfl (flt (by decide)).2.1 (by decide) (by decide) k) ?_
  obtain ⟨_, _, ⟨T11, L11, k11, n11⟩, -, X11, ⟨Lc11, hQ11, l11, y11, z11⟩, st11⟩ := Jvm.LawKit.callS X10 hx (y := (⟨"java/util/Optional", "empty", "()Ljava/util/Optional;"⟩ : MethodName)) hown (mvT hZ (hw _ (List.mem_of_getElem? (i := 152) rfl))) (mvT hZ (hw _ (List.mem_of_getElem? (i := 153) rfl))) (mvT hZ (hw _ (List.mem_of_getElem? (i := 87) rfl))) (mvT hZ (hw _ (List.mem_of_getElem? (i := 154) rfl))) (by decide) (backOf (W := 0) (rm20 l Z a0 hw [] oE h1 n0 Z8 O6 p_7 p_8 p_9) hZ (hw _ (List.mem_of_getElem? (i := 154) rfl)) (hw _ (List.mem_of_getElem? (i := 87) rfl)) (by decide) (by decide)) (g := (mkF m 40 #[.val (.int x0), .val (.ref b_1), .val (.int (2 : Int32)), .val (.int (2 : Int32)), .val (.ref a2)] [])) rfl (by rw [hml]; rfl) (argsL := []) (rest := []) (lenOf pd_8 rfl) rfl (by show 2 * 0 + _ ≤ _; exact Nat.le_of_eq rfl) (hb hby d18_40) (fun _ _ => ⟨rfl, e10, (by decide : 1 + 0 ≤ _), (by decide : 2 + 0 ≤ _)⟩)
  dsimp only [Pt.U, Pt.locs, Pt.cells, Pt.slots] at X11 l11 y11 z11 st11 hQ11
  subst l11 y11 z11
  obtain ⟨rfl, N11q, e11⟩ := hQ11
  have N11 := Fr.app N1 N11q
  refine own_step (st' := T11.setTop (mkF m 43 #[.val (.int x0), .val (.ref b_1), .val (.int (2 : Int32)), .val (.int (2 : Int32)), .val (.ref a2)] [(.ref oE)])) st11 ?_
  refine own_ret X11 Bd.notSynchronized (some (.ref oE)) (fun h => by rw [Bd.returns] at h; cases h) (fun fs hr => retOut X11 hx Bd.returns rfl (Or.inr (Or.inr (Or.inr (Or.inr ⟨rfl, rfl, rfl⟩)))) (hb hby d18_43) hr) ?_ (by decide) (by decide)
  rw [e11]
  exact ⟨rfl, N11, K7⟩
theorem d7_0 : decode prog_48_method_4_code 0 = .ok (.aload_n 1, 1) := by decide +kernel
theorem d7_1 : decode prog_48_method_4_code 1 = .ok (.ifnonnull 10, 3) := by decide +kernel
theorem d7_11 : decode prog_48_method_4_code 11 = .ok (.aload_n 1, 1) := by decide +kernel
theorem d7_12 : decode prog_48_method_4_code 12 = .ok (.arraylength, 1) := by decide +kernel
theorem d7_13 : decode prog_48_method_4_code 13 = .ok (.ifCond .ne 10, 3) := by decide +kernel
theorem d7_16 : decode prog_48_method_4_code 16 = .ok (.getstatic 7, 3) := by decide +kernel
theorem d7_19 : decode prog_48_method_4_code 19 = .ok (.astore_n 2, 1) := by decide +kernel
theorem d7_20 : decode prog_48_method_4_code 20 = .ok (.goto 44, 3) := by decide +kernel
theorem d7_23 : decode prog_48_method_4_code 23 = .ok (.aload_n 1, 1) := by decide +kernel
theorem d7_24 : decode prog_48_method_4_code 24 = .ok (.arraylength, 1) := by decide +kernel
theorem d7_25 : decode prog_48_method_4_code 25 = .ok (.invokestatic 38, 3) := by decide +kernel
theorem d7_28 : decode prog_48_method_4_code 28 = .ok (.invokevirtual 44, 3) := by decide +kernel
theorem d7_31 : decode prog_48_method_4_code 31 = .ok (.ifCond .eq 10, 3) := by decide +kernel
theorem d7_34 : decode prog_48_method_4_code 34 = .ok (.getstatic 10, 3) := by decide +kernel
theorem d7_37 : decode prog_48_method_4_code 37 = .ok (.astore_n 2, 1) := by decide +kernel
theorem d7_38 : decode prog_48_method_4_code 38 = .ok (.goto 26, 3) := by decide +kernel
theorem d7_41 : decode prog_48_method_4_code 41 = .ok (.aload_n 0, 1) := by decide +kernel
theorem d7_42 : decode prog_48_method_4_code 42 = .ok (.ifnull 20, 3) := by decide +kernel
theorem d7_62 : decode prog_48_method_4_code 62 = .ok (.aconst_null, 1) := by decide +kernel
theorem d7_63 : decode prog_48_method_4_code 63 = .ok (.astore_n 2, 1) := by decide +kernel
theorem d7_64 : decode prog_48_method_4_code 64 = .ok (.aload_n 2, 1) := by decide +kernel
theorem d7_65 : decode prog_48_method_4_code 65 = .ok (.areturn, 1) := by decide +kernel
theorem pn_4 : plainName "com/example/aturan/aturan/rules/IgnoreReason" = true := by first | (simp [plainName, overriddenIn]; done) | decide +kernel
theorem ef_7_NR (m : MethodId) (x1 : Addr) : entryFrame m #[.null, (.ref x1)] 3 = mkF m 0 #[.val .null, .val (.ref x1), .unset] [] := by first | (simp [entryFrame, mkF, argsToLocals, Value.category]; done) | rfl
def Q_rm7 (Z : State) (x1 : Addr) (k : ClassId) (n : Int32) (vs : List Value) (dv : Value) (aV : Addr) (kV : ClassId) (a1 : Addr) (a2 : Addr) (oE : Addr) (i1 : Addr) (i2 : Addr) (i3 : Addr) (h0 : Heap) (n0 : Nat) (v : Option Value) (h : Heap) (L : List Loc) : Prop := ∃ r : Value, v = some r ∧ Fr n0 L ∧ Keep h0 h [] ∧ (r = .null ∨ ∃ q, r = .ref q)
set_option maxRecDepth 65536 in
set_option maxHeartbeats 40000000 in
theorem rm7 (l : Launch) (Z : State) (a0 : Array Value) (hw : ∀ d ∈ tables_1, d.before a0 Z = true) (ws : List Jvm.Cond) (x1 : Addr) (k : ClassId) (n : Int32) (vs : List Value) (dv : Value) (aV : Addr) (kV : ClassId) (a1 : Addr) (a2 : Addr) (oE : Addr) (i1 : Addr) (i2 : Addr) (i3 : Addr) (h0 : Heap) (n0 : Nat) (Z0 : n0 ≤ h0.size) (O0 : Old Z n0 h0) (p_0 : Arv Z h0 x1 k .byte n vs dv) (p_1 : Sta Z Z.heap "com/example/aturan/aturan/rules/HashAlgorithm" "$VALUES" "[Lcom/example/aturan/aturan/rules/HashAlgorithm;" (.ref aV)) (p_2 : Exa Z Z.heap aV "[Lcom/example/aturan/aturan/rules/HashAlgorithm;") (p_3 : Arv Z Z.heap aV kV (.object "com/example/aturan/aturan/rules/HashAlgorithm") (2 : Int32) [(.ref a1), (.ref a2)] .null) (p_4 : Fld Z Z.heap a1 "com/example/aturan/aturan/rules/HashAlgorithm" "length" "I" (.int (20 : Int32))) (p_5 : Fld Z Z.heap a2 "com/example/aturan/aturan/rules/HashAlgorithm" "length" "I" (.int (32 : Int32))) (p_6 : Exa Z Z.heap a1 "com/example/aturan/aturan/rules/HashAlgorithm") (p_7 : Exa Z Z.heap a2 "com/example/aturan/aturan/rules/HashAlgorithm") (p_8 : Sta Z Z.heap "java/util/Optional" "EMPTY" "Ljava/util/Optional;" (.ref oE)) (p_9 : Exa Z Z.heap oE "java/util/Optional") (p_10 : Fld Z Z.heap oE "java/util/Optional" "value" "Ljava/lang/Object;" .null) (p_11 : Sta Z Z.heap "com/example/aturan/aturan/rules/IgnoreReason" "EMPTY_CERTIFICATE_HASH" "Lcom/example/aturan/aturan/rules/IgnoreReason;" (.ref i1)) (p_12 : Sta Z Z.heap "com/example/aturan/aturan/rules/IgnoreReason" "NO_PERMISSION_MASK" "Lcom/example/aturan/aturan/rules/IgnoreReason;" (.ref i2)) (p_13 : Sta Z Z.heap "com/example/aturan/aturan/rules/IgnoreReason" "HASH_LENGTH" "Lcom/example/aturan/aturan/rules/IgnoreReason;" (.ref i3)) :
    MetFree l (⟨"com/example/aturan/aturan/rules/IgnoreReason", "firstFor", "([B[B)Lcom/example/aturan/aturan/rules/IgnoreReason;"⟩ : MethodName) (head1 (Jvm.Cond.code (⟨"com/example/aturan/aturan/rules/IgnoreReason", "firstFor", "([B[B)Lcom/example/aturan/aturan/rules/IgnoreReason;"⟩ : MethodName) prog_48_method_4_code 3 (some (.object "com/example/aturan/aturan/rules/IgnoreReason")) :: ws) ({ frames := 4, cells := 2, slots := 3, locals := 54 } : Room)) (fun a U => a = #[.null, (.ref x1)] ∧ Z.Warmed39 U.vm ∧ U.heap = h0) (fun _ _ _ _ _ => True) (fun _ U o U' => ∃ v L, o = .returned v ∧ Q_rm7 Z x1 k n vs dv aV kV a1 a2 oE i1 i2 i3 h0 n0 v U'.heap L ∧ FrameEnd U o U' L ({ frames := 4, cells := 2, slots := 3, locals := 54 } : Room).cells ({ frames := 4, cells := 2, slots := 3, locals := 54 } : Room).slots) := by
  refine MetFree.of_bodySF (plainFor_of_name pn_4) hisR ?_
  intro p e s m args below meth c s₁ Bd hml0 hP hK
  obtain ⟨rfl, hZ, hh⟩ := hP
  have hx := Bd.exec
  have hby := Bd.bytes
  have hml : c.maxLocals = 3 := hml0
  have hown : s.vm.findClass "com/example/aturan/aturan/rules/IgnoreReason" = some m.cls := findClass_of_methodNamed Bd.named
  have hnm := (name_of_methodNamed Bd.named Bd.method).1
  have X0 : Stand p l e ({ frames := 4, cells := 2, slots := 3, locals := 54 } : Room) s m #[.null, (.ref x1)] below meth c s₁ [] 0 0 := Stand.of_body Bd
  have e0 : s₁.heap = h0 := by rw [← hh, Bd.state]; rfl
  have N0 := Fr.nil n0
  show own_Ends p e below s ({ frames := 4, cells := 2, slots := 3, locals := 54 } : Room).cells ({ frames := 4, cells := 2, slots := 3, locals := 54 } : Room).slots (Q_rm7 Z x1 k n vs dv aV kV a1 a2 oE i1 i2 i3 h0 n0) (s₁.setTop (entryFrame m #[.null, (.ref x1)] 3))
  rw [ef_7_NR]
  refine own_step (st' := s₁.setTop (mkF m 1 #[.val .null, .val (.ref x1), .unset] [(.ref x1)])) (fun t k => XS.aloadN X0.here hx rfl (hb hby d7_0) rfl rfl k) ?_
  refine own_step (st' := s₁.setTop (mkF m 11 #[.val .null, .val (.ref x1), .unset] [])) (fun t k => XS.ifnonnullYes X0.here hx rfl (pc0 := 1) (pc' := 11) rfl (hb hby d7_1) rfl (by decide) (by decide) k) ?_
  refine own_step (st' := s₁.setTop (mkF m 12 #[.val .null, .val (.ref x1), .unset] [(.ref x1)])) (fun t k => XS.aloadN X0.here hx rfl (hb hby d7_11) rfl rfl k) ?_
  refine own_step (st' := s₁.setTop (mkF m 13 #[.val .null, .val (.ref x1), .unset] [(.int n)])) (fun t k => own_len X0 hx hZ e0 p_0 (g := (mkF m 12 #[.val .null, .val (.ref x1), .unset] [(.ref x1)])) rfl rfl (hb hby d7_12) t k) ?_
  by_cases hc1 : n = (0 : Int32)
  · refine own_step (st' := s₁.setTop (mkF m 16 #[.val .null, .val (.ref x1), .unset] [])) (fun t k => XS.ifNo X0.here hx rfl (hb hby d7_13) rfl ((if0 _ _).trans (teq hc1).2) k) ?_
    obtain ⟨T2, X2, e2, st2⟩ := getS2 X0 hx hZ hown (host := "") (Or.inl (hw _ (List.mem_of_getElem? (i := 49) rfl))) Via.refl e0 (p_11.ext O0.2) (g := (mkF m 16 #[.val .null, .val (.ref x1), .unset] [])) rfl (hb hby d7_16)
    refine own_step (st' := T2.setTop (mkF m 19 #[.val .null, .val (.ref x1), .unset] [(.ref i1)])) st2 ?_
    refine own_step (st' := T2.setTop (mkF m 20 #[.val .null, .val (.ref x1), .val (.ref i1)] [])) (fun t k => XS.astoreN X2.here hx rfl (hb hby d7_19) rfl rfl (l' := #[.val .null, .val (.ref x1), .val (.ref i1)]) rfl k) ?_
    refine own_step (st' := T2.setTop (mkF m 64 #[.val .null, .val (.ref x1), .val (.ref i1)] [])) (fun t k => XS.goto X2.here hx rfl (pc0 := 20) (pc' := 64) rfl (hb hby d7_20) (by decide) (by decide) k) ?_
    refine own_step (st' := T2.setTop (mkF m 65 #[.val .null, .val (.ref x1), .val (.ref i1)] [(.ref i1)])) (fun t k => XS.aloadN X2.here hx rfl (hb hby d7_64) rfl rfl k) ?_
    refine own_ret X2 Bd.notSynchronized (some (.ref i1)) (fun h => by rw [Bd.returns] at h; cases h) (fun fs hr => retOut X2 hx Bd.returns rfl (Or.inr (Or.inr (Or.inr (Or.inr ⟨rfl, rfl, rfl⟩)))) (hb hby d7_65) hr) ?_ (by decide) (by decide)
    rw [e2]
    exact ⟨((.ref i1)), rfl, N0, (Keep.refl h0 []), (Or.inr ⟨_, rfl⟩)⟩
  · refine own_step (st' := s₁.setTop (mkF m 23 #[.val .null, .val (.ref x1), .unset] [])) (fun t k => XS.ifYes X0.here hx rfl (pc0 := 13) (pc' := 23) rfl (hb hby d7_13) rfl ((if0 _ _).trans (feq hc1).2) (by decide) (by decide) k) ?_
    refine own_step (st' := s₁.setTop (mkF m 24 #[.val .null, .val (.ref x1), .unset] [(.ref x1)])) (fun t k => XS.aloadN X0.here hx rfl (hb hby d7_23) rfl rfl k) ?_
    refine own_step (st' := s₁.setTop (mkF m 25 #[.val .null, .val (.ref x1), .unset] [(.int n)])) (fun t k => own_len X0 hx hZ e0 p_0 (g := (mkF m 24 #[.val .null, .val (.ref x1), .unset] [(.ref x1)])) rfl rfl (hb hby d7_24) t k) ?_
    by_cases hc3 : (20 : Int32) = n
    · obtain ⟨_, _, ⟨T4, L4, k4, n4⟩, -, X4, ⟨Lc4, hQ4, l4, y4, z4⟩, st4⟩ := Jvm.LawKit.callS X0 hx (y := (⟨"com/example/aturan/aturan/rules/HashAlgorithm", "forLength", "(I)Ljava/util/Optional;"⟩ : MethodName)) hown (mvT hZ (hw _ (List.mem_of_getElem? (i := 156) rfl))) (mvT hZ (hw _ (List.mem_of_getElem? (i := 133) rfl))) (mvT hZ (hw _ (List.mem_of_getElem? (i := 134) rfl))) (mvT hZ (hw _ (List.mem_of_getElem? (i := 135) rfl))) (by decide) (backOf (W := 0) (rmFL1 l Z a0 hw [] n aV kV a1 a2 oE h0 n0 Z0 O0 p_1 p_2 p_3 p_4 p_5 p_6 p_7 p_8 p_9 p_10 hc3.symm) hZ (hw _ (List.mem_of_getElem? (i := 135) rfl)) (hw _ (List.mem_of_getElem? (i := 134) rfl)) (by decide) (by decide)) (g := (mkF m 25 #[.val .null, .val (.ref x1), .unset] [(.int n)])) rfl (by rw [hml]; rfl) (argsL := [(.int n)]) (rest := []) (lenOf pd_15 rfl) rfl (by show 2 * 0 + _ ≤ _; exact Nat.le_of_eq rfl) (hb hby d7_25) (fun _ _ => ⟨rfl, e0, (by decide : 0 + 2 ≤ _), (by decide : 0 + 3 ≤ _)⟩)
      dsimp only [Pt.U, Pt.locs, Pt.cells, Pt.slots] at X4 l4 y4 z4 st4 hQ4
      subst l4 y4 z4
      obtain ⟨r_4, rfl, N4q, K4, pq4_0, pq4_1, pq4_2⟩ := hQ4
      have N4 := Fr.app N0 N4q
      obtain ⟨h4, e4⟩ : ∃ z, T4.heap = z := ⟨_, rfl⟩
      rw [e4] at K4 pq4_1 pq4_2
      have ne5 : x1 ≠ r_4 := Nat.ne_of_lt (Nat.lt_of_lt_of_le p_0.lt pq4_0)
      have ne6 : aV ≠ r_4 := Nat.ne_of_lt (Nat.lt_of_lt_of_le (p_2.ext O0.2).lt pq4_0)
      have ne7 : a1 ≠ r_4 := Nat.ne_of_lt (Nat.lt_of_lt_of_le (p_4.ext O0.2).lt pq4_0)
      have ne8 : a2 ≠ r_4 := Nat.ne_of_lt (Nat.lt_of_lt_of_le (p_5.ext O0.2).lt pq4_0)
      have ne9 : oE ≠ r_4 := Nat.ne_of_lt (Nat.lt_of_lt_of_le (p_9.ext O0.2).lt pq4_0)
      have g_r_4 : n0 ≤ r_4 := Nat.le_trans Z0 pq4_0
      have sz_r_4 : h0.size ≤ r_4 := Nat.le_trans (Keep.refl h0 []).1 pq4_0
      have f10 := p_0.keep K4 nin0
      have O11 := O0.keep K4 all0
      have K12 : Keep h0 h4 [] := (Keep.refl h0 []).trans K4 all0
      have Z13 : n0 ≤ h4.size := Nat.le_trans Z0 K4.1
      refine own_step (st' := T4.setTop (mkF m 28 #[.val .null, .val (.ref x1), .unset] [(.ref r_4)])) st4 ?_
      obtain ⟨cq14, kq14, q14a, q14b, q14c⟩ := isOf hZ e4 pq4_1
      obtain ⟨_, _, ⟨T14, L14, k14, n14⟩, -, X14, ⟨Lc14, hQ14, l14, y14, z14⟩, st14⟩ := X4.virtualBack hx (y := (⟨"java/util/Optional", "isEmpty", "()Z"⟩ : MethodName)) (z := (⟨"java/util/Optional", "isEmpty", "()Z"⟩ : MethodName)) hown (mvT hZ (hw _ (List.mem_of_getElem? (i := 160) rfl))) (mvT hZ (hw _ (List.mem_of_getElem? (i := 111) rfl))) (notFace_of_selects (args := #[]) (mvT hZ (hw _ (List.mem_of_getElem? (i := 113) rfl)))) (mvT hZ (hw _ (List.mem_of_getElem? (i := 113) rfl))) (mvT hZ (hw _ (List.mem_of_getElem? (i := 112) rfl))) (by decide) (backOf (W := 0) (rmIR l Z a0 hw [] r_4 a1 h4 n0 Z13 pq4_2) hZ (hw _ (List.mem_of_getElem? (i := 114) rfl)) (hw _ (List.mem_of_getElem? (i := 87) rfl)) (by decide) (by decide)) q14a q14c (g := (mkF m 28 #[.val .null, .val (.ref x1), .unset] [(.ref r_4)])) rfl (by rw [hml]; rfl) (Steps.refl _) (argsL := []) (rest := []) (lenOf pd_13 rfl) rfl (by show 2 * 0 + _ ≤ _; exact Nat.le_of_eq rfl) (hb hby d7_28) (fun _ _ => ⟨rfl, e4, (by decide : 2 + 0 ≤ _), (by decide : 3 + 0 ≤ _)⟩)
      dsimp only [Pt.U, Pt.locs, Pt.cells, Pt.slots] at X14 l14 y14 z14 st14 hQ14
      subst l14 y14 z14
      obtain ⟨rfl, N14q, e14⟩ := hQ14
      have N14 := Fr.app N4 N14q
      refine own_step (st' := T14.setTop (mkF m 31 #[.val .null, .val (.ref x1), .unset] [(.int (0 : Int32))])) (fun t k => st14.trans k) ?_
      refine own_step (st' := T14.setTop (mkF m 41 #[.val .null, .val (.ref x1), .unset] [])) (fun t k => XS.ifYes X14.here hx rfl (pc0 := 31) (pc' := 41) rfl (hb hby d7_31) rfl ((if0 _ _).trans (teq (by decide)).1) (by decide) (by decide) k) ?_
      refine own_step (st' := T14.setTop (mkF m 42 #[.val .null, .val (.ref x1), .unset] [.null])) (fun t k => XS.aloadN X14.here hx rfl (hb hby d7_41) rfl rfl k) ?_
      refine own_step (st' := T14.setTop (mkF m 62 #[.val .null, .val (.ref x1), .unset] [])) (fun t k => XS.ifnullYes X14.here hx rfl (pc0 := 42) (pc' := 62) rfl (hb hby d7_42) rfl (by decide) (by decide) k) ?_
      refine own_step (st' := T14.setTop (mkF m 63 #[.val .null, .val (.ref x1), .unset] [.null])) (fun t k => XS.aconstNull X14.here hx rfl (hb hby d7_62) k) ?_
      refine own_step (st' := T14.setTop (mkF m 64 #[.val .null, .val (.ref x1), .val .null] [])) (fun t k => XS.astoreN X14.here hx rfl (hb hby d7_63) rfl rfl (l' := #[.val .null, .val (.ref x1), .val .null]) rfl k) ?_
      refine own_step (st' := T14.setTop (mkF m 65 #[.val .null, .val (.ref x1), .val .null] [.null])) (fun t k => XS.aloadN X14.here hx rfl (hb hby d7_64) rfl rfl k) ?_
      refine own_ret X14 Bd.notSynchronized (some .null) (fun h => by rw [Bd.returns] at h; cases h) (fun fs hr => retOut X14 hx Bd.returns rfl (Or.inr (Or.inr (Or.inr (Or.inr ⟨rfl, rfl, rfl⟩)))) (hb hby d7_65) hr) ?_ (by decide) (by decide)
      rw [e14]
      exact ⟨(.null), rfl, N14, K12, (Or.inl rfl)⟩
    · by_cases hc15 : (32 : Int32) = n
      · obtain ⟨_, _, ⟨T16, L16, k16, n16⟩, -, X16, ⟨Lc16, hQ16, l16, y16, z16⟩, st16⟩ := Jvm.LawKit.callS X0 hx (y := (⟨"com/example/aturan/aturan/rules/HashAlgorithm", "forLength", "(I)Ljava/util/Optional;"⟩ : MethodName)) hown (mvT hZ (hw _ (List.mem_of_getElem? (i := 156) rfl))) (mvT hZ (hw _ (List.mem_of_getElem? (i := 133) rfl))) (mvT hZ (hw _ (List.mem_of_getElem? (i := 134) rfl))) (mvT hZ (hw _ (List.mem_of_getElem? (i := 135) rfl))) (by decide) (backOf (W := 0) (rmFL2 l Z a0 hw [] n aV kV a1 a2 oE h0 n0 Z0 O0 p_1 p_2 p_3 p_4 p_5 p_6 p_7 p_8 p_9 p_10 hc15.symm) hZ (hw _ (List.mem_of_getElem? (i := 135) rfl)) (hw _ (List.mem_of_getElem? (i := 134) rfl)) (by decide) (by decide)) (g := (mkF m 25 #[.val .null, .val (.ref x1), .unset] [(.int n)])) rfl (by rw [hml]; rfl) (argsL := [(.int n)]) (rest := []) (lenOf pd_15 rfl) rfl (by show 2 * 0 + _ ≤ _; exact Nat.le_of_eq rfl) (hb hby d7_25) (fun _ _ => ⟨rfl, e0, (by decide : 0 + 2 ≤ _), (by decide : 0 + 3 ≤ _)⟩)
        dsimp only [Pt.U, Pt.locs, Pt.cells, Pt.slots] at X16 l16 y16 z16 st16 hQ16
        subst l16 y16 z16
        obtain ⟨r_16, rfl, N16q, K16, pq16_0, pq16_1, pq16_2⟩ := hQ16
        have N16 := Fr.app N0 N16q
        obtain ⟨h16, e16⟩ : ∃ z, T16.heap = z := ⟨_, rfl⟩
        rw [e16] at K16 pq16_1 pq16_2
        have ne17 : x1 ≠ r_16 := Nat.ne_of_lt (Nat.lt_of_lt_of_le p_0.lt pq16_0)
        have ne18 : aV ≠ r_16 := Nat.ne_of_lt (Nat.lt_of_lt_of_le (p_2.ext O0.2).lt pq16_0)
        have ne19 : a1 ≠ r_16 := Nat.ne_of_lt (Nat.lt_of_lt_of_le (p_4.ext O0.2).lt pq16_0)
        have ne20 : a2 ≠ r_16 := Nat.ne_of_lt (Nat.lt_of_lt_of_le (p_5.ext O0.2).lt pq16_0)
        have ne21 : oE ≠ r_16 := Nat.ne_of_lt (Nat.lt_of_lt_of_le (p_9.ext O0.2).lt pq16_0)
        have g_r_16 : n0 ≤ r_16 := Nat.le_trans Z0 pq16_0
        have sz_r_16 : h0.size ≤ r_16 := Nat.le_trans (Keep.refl h0 []).1 pq16_0
        have f22 := p_0.keep K16 nin0
        have O23 := O0.keep K16 all0
        have K24 : Keep h0 h16 [] := (Keep.refl h0 []).trans K16 all0
        have Z25 : n0 ≤ h16.size := Nat.le_trans Z0 K16.1
        refine own_step (st' := T16.setTop (mkF m 28 #[.val .null, .val (.ref x1), .unset] [(.ref r_16)])) st16 ?_
        obtain ⟨cq26, kq26, q26a, q26b, q26c⟩ := isOf hZ e16 pq16_1
        obtain ⟨_, _, ⟨T26, L26, k26, n26⟩, -, X26, ⟨Lc26, hQ26, l26, y26, z26⟩, st26⟩ := X16.virtualBack hx (y := (⟨"java/util/Optional", "isEmpty", "()Z"⟩ : MethodName)) (z := (⟨"java/util/Optional", "isEmpty", "()Z"⟩ : MethodName)) hown (mvT hZ (hw _ (List.mem_of_getElem? (i := 160) rfl))) (mvT hZ (hw _ (List.mem_of_getElem? (i := 111) rfl))) (notFace_of_selects (args := #[]) (mvT hZ (hw _ (List.mem_of_getElem? (i := 113) rfl)))) (mvT hZ (hw _ (List.mem_of_getElem? (i := 113) rfl))) (mvT hZ (hw _ (List.mem_of_getElem? (i := 112) rfl))) (by decide) (backOf (W := 0) (rmIR l Z a0 hw [] r_16 a2 h16 n0 Z25 pq16_2) hZ (hw _ (List.mem_of_getElem? (i := 114) rfl)) (hw _ (List.mem_of_getElem? (i := 87) rfl)) (by decide) (by decide)) q26a q26c (g := (mkF m 28 #[.val .null, .val (.ref x1), .unset] [(.ref r_16)])) rfl (by rw [hml]; rfl) (Steps.refl _) (argsL := []) (rest := []) (lenOf pd_13 rfl) rfl (by show 2 * 0 + _ ≤ _; exact Nat.le_of_eq rfl) (hb hby d7_28) (fun _ _ => ⟨rfl, e16, (by decide : 2 + 0 ≤ _), (by decide : 3 + 0 ≤ _)⟩)
        dsimp only [Pt.U, Pt.locs, Pt.cells, Pt.slots] at X26 l26 y26 z26 st26 hQ26
        subst l26 y26 z26
        obtain ⟨rfl, N26q, e26⟩ := hQ26
        have N26 := Fr.app N16 N26q
        refine own_step (st' := T26.setTop (mkF m 31 #[.val .null, .val (.ref x1), .unset] [(.int (0 : Int32))])) (fun t k => st26.trans k) ?_
        refine own_step (st' := T26.setTop (mkF m 41 #[.val .null, .val (.ref x1), .unset] [])) (fun t k => XS.ifYes X26.here hx rfl (pc0 := 31) (pc' := 41) rfl (hb hby d7_31) rfl ((if0 _ _).trans (teq (by decide)).1) (by decide) (by decide) k) ?_
        refine own_step (st' := T26.setTop (mkF m 42 #[.val .null, .val (.ref x1), .unset] [.null])) (fun t k => XS.aloadN X26.here hx rfl (hb hby d7_41) rfl rfl k) ?_
        refine own_step (st' := T26.setTop (mkF m 62 #[.val .null, .val (.ref x1), .unset] [])) (fun t k => XS.ifnullYes X26.here hx rfl (pc0 := 42) (pc' := 62) rfl (hb hby d7_42) rfl (by decide) (by decide) k) ?_
        refine own_step (st' := T26.setTop (mkF m 63 #[.val .null, .val (.ref x1), .unset] [.null])) (fun t k => XS.aconstNull X26.here hx rfl (hb hby d7_62) k) ?_
        refine own_step (st' := T26.setTop (mkF m 64 #[.val .null, .val (.ref x1), .val .null] [])) (fun t k => XS.astoreN X26.here hx rfl (hb hby d7_63) rfl rfl (l' := #[.val .null, .val (.ref x1), .val .null]) rfl k) ?_
        refine own_step (st' := T26.setTop (mkF m 65 #[.val .null, .val (.ref x1), .val .null] [.null])) (fun t k => XS.aloadN X26.here hx rfl (hb hby d7_64) rfl rfl k) ?_
        refine own_ret X26 Bd.notSynchronized (some .null) (fun h => by rw [Bd.returns] at h; cases h) (fun fs hr => retOut X26 hx Bd.returns rfl (Or.inr (Or.inr (Or.inr (Or.inr ⟨rfl, rfl, rfl⟩)))) (hb hby d7_65) hr) ?_ (by decide) (by decide)
        rw [e26]
        exact ⟨(.null), rfl, N26, K24, (Or.inl rfl)⟩
      · obtain ⟨_, _, ⟨T27, L27, k27, n27⟩, -, X27, ⟨Lc27, hQ27, l27, y27, z27⟩, st27⟩ := Jvm.LawKit.callS X0 hx (y := (⟨"com/example/aturan/aturan/rules/HashAlgorithm", "forLength", "(I)Ljava/util/Optional;"⟩ : MethodName)) hown (mvT hZ (hw _ (List.mem_of_getElem? (i := 156) rfl))) (mvT hZ (hw _ (List.mem_of_getElem? (i := 133) rfl))) (mvT hZ (hw _ (List.mem_of_getElem? (i := 134) rfl))) (mvT hZ (hw _ (List.mem_of_getElem? (i := 135) rfl))) (by decide) (backOf (W := 0) (rmFL0 l Z a0 hw [] n aV kV a1 a2 oE h0 n0 Z0 O0 p_1 p_2 p_3 p_4 p_5 p_6 p_7 p_8 p_9 p_10 hc3 hc15) hZ (hw _ (List.mem_of_getElem? (i := 135) rfl)) (hw _ (List.mem_of_getElem? (i := 134) rfl)) (by decide) (by decide)) (g := (mkF m 25 #[.val .null, .val (.ref x1), .unset] [(.int n)])) rfl (by rw [hml]; rfl) (argsL := [(.int n)]) (rest := []) (lenOf pd_15 rfl) rfl (by show 2 * 0 + _ ≤ _; exact Nat.le_of_eq rfl) (hb hby d7_25) (fun _ _ => ⟨rfl, e0, (by decide : 0 + 1 ≤ _), (by decide : 0 + 2 ≤ _)⟩)
        dsimp only [Pt.U, Pt.locs, Pt.cells, Pt.slots] at X27 l27 y27 z27 st27 hQ27
        subst l27 y27 z27
        obtain ⟨rfl, N27q, K27⟩ := hQ27
        have N27 := Fr.app N0 N27q
        obtain ⟨h27, e27⟩ : ∃ z, T27.heap = z := ⟨_, rfl⟩
        rw [e27] at K27
        have f28 := p_0.keep K27 nin0
        have O29 := O0.keep K27 all0
        have K30 : Keep h0 h27 [] := (Keep.refl h0 []).trans K27 all0
        have Z31 : n0 ≤ h27.size := Nat.le_trans Z0 K27.1
        refine own_step (st' := T27.setTop (mkF m 28 #[.val .null, .val (.ref x1), .unset] [(.ref oE)])) st27 ?_
        obtain ⟨cq32, kq32, q32a, q32b, q32c⟩ := isOf hZ e27 (p_9.ext O29.2)
        obtain ⟨_, _, ⟨T32, L32, k32, n32⟩, -, X32, ⟨Lc32, hQ32, l32, y32, z32⟩, st32⟩ := X27.virtualBack hx (y := (⟨"java/util/Optional", "isEmpty", "()Z"⟩ : MethodName)) (z := (⟨"java/util/Optional", "isEmpty", "()Z"⟩ : MethodName)) hown (mvT hZ (hw _ (List.mem_of_getElem? (i := 160) rfl))) (mvT hZ (hw _ (List.mem_of_getElem? (i := 111) rfl))) (notFace_of_selects (args := #[]) (mvT hZ (hw _ (List.mem_of_getElem? (i := 113) rfl)))) (mvT hZ (hw _ (List.mem_of_getElem? (i := 113) rfl))) (mvT hZ (hw _ (List.mem_of_getElem? (i := 112) rfl))) (by decide) (backOf (W := 0) (rmIN l Z a0 hw [] oE h27 n0 Z31 (p_10.ext O29.2)) hZ (hw _ (List.mem_of_getElem? (i := 114) rfl)) (hw _ (List.mem_of_getElem? (i := 87) rfl)) (by decide) (by decide)) q32a q32c (g := (mkF m 28 #[.val .null, .val (.ref x1), .unset] [(.ref oE)])) rfl (by rw [hml]; rfl) (Steps.refl _) (argsL := []) (rest := []) (lenOf pd_13 rfl) rfl (by show 2 * 0 + _ ≤ _; exact Nat.le_of_eq rfl) (hb hby d7_28) (fun _ _ => ⟨rfl, e27, (by decide : 1 + 0 ≤ _), (by decide : 2 + 0 ≤ _)⟩)
        dsimp only [Pt.U, Pt.locs, Pt.cells, Pt.slots] at X32 l32 y32 z32 st32 hQ32
        subst l32 y32 z32
        obtain ⟨rfl, N32q, e32⟩ := hQ32
        have N32 := Fr.app N27 N32q
        refine own_step (st' := T32.setTop (mkF m 31 #[.val .null, .val (.ref x1), .unset] [(.int (1 : Int32))])) (fun t k => st32.trans k) ?_
        refine own_step (st' := T32.setTop (mkF m 34 #[.val .null, .val (.ref x1), .unset] [])) (fun t k => XS.ifNo X32.here hx rfl (hb hby d7_31) rfl ((if0 _ _).trans (feq (by decide)).1) k) ?_
        obtain ⟨T33, X33, e33, st33⟩ := getS2 X32 hx hZ hown (host := "") (Or.inl (hw _ (List.mem_of_getElem? (i := 173) rfl))) Via.refl e32 (p_13.ext O29.2) (g := (mkF m 34 #[.val .null, .val (.ref x1), .unset] [])) rfl (hb hby d7_34)
        refine own_step (st' := T33.setTop (mkF m 37 #[.val .null, .val (.ref x1), .unset] [(.ref i3)])) st33 ?_
        refine own_step (st' := T33.setTop (mkF m 38 #[.val .null, .val (.ref x1), .val (.ref i3)] [])) (fun t k => XS.astoreN X33.here hx rfl (hb hby d7_37) rfl rfl (l' := #[.val .null, .val (.ref x1), .val (.ref i3)]) rfl k) ?_
        refine own_step (st' := T33.setTop (mkF m 64 #[.val .null, .val (.ref x1), .val (.ref i3)] [])) (fun t k => XS.goto X33.here hx rfl (pc0 := 38) (pc' := 64) rfl (hb hby d7_38) (by decide) (by decide) k) ?_
        refine own_step (st' := T33.setTop (mkF m 65 #[.val .null, .val (.ref x1), .val (.ref i3)] [(.ref i3)])) (fun t k => XS.aloadN X33.here hx rfl (hb hby d7_64) rfl rfl k) ?_
        refine own_ret X33 Bd.notSynchronized (some (.ref i3)) (fun h => by rw [Bd.returns] at h; cases h) (fun fs hr => retOut X33 hx Bd.returns rfl (Or.inr (Or.inr (Or.inr (Or.inr ⟨rfl, rfl, rfl⟩)))) (hb hby d7_65) hr) ?_ (by decide) (by decide)
        rw [e33]
        exact ⟨((.ref i3)), rfl, N32, K30, (Or.inr ⟨_, rfl⟩)⟩
theorem d8_0 : decode prog_32_method_1_code 0 = .ok (.aload_n 0, 1) := by decide +kernel
theorem d8_1 : decode prog_32_method_1_code 1 = .ok (.invokespecial 1, 3) := by decide +kernel
theorem d8_4 : decode prog_32_method_1_code 4 = .ok (.aload_n 0, 1) := by decide +kernel
theorem d8_5 : decode prog_32_method_1_code 5 = .ok (.aload_n 1, 1) := by decide +kernel
theorem d8_6 : decode prog_32_method_1_code 6 = .ok (.ifnonnull 7, 3) := by decide +kernel
theorem d8_9 : decode prog_32_method_1_code 9 = .ok (.aconst_null, 1) := by decide +kernel
theorem d8_10 : decode prog_32_method_1_code 10 = .ok (.goto 10, 3) := by decide +kernel
theorem d8_20 : decode prog_32_method_1_code 20 = .ok (.putfield 13, 3) := by decide +kernel
theorem d8_23 : decode prog_32_method_1_code 23 = .ok (.aload_n 0, 1) := by decide +kernel
theorem d8_24 : decode prog_32_method_1_code 24 = .ok (.aload_n 2, 1) := by decide +kernel
theorem d8_25 : decode prog_32_method_1_code 25 = .ok (.ifnonnull 7, 3) := by decide +kernel
theorem d8_32 : decode prog_32_method_1_code 32 = .ok (.aload_n 2, 1) := by decide +kernel
theorem d8_33 : decode prog_32_method_1_code 33 = .ok (.invokevirtual 7, 3) := by decide +kernel
theorem d8_36 : decode prog_32_method_1_code 36 = .ok (.checkcast 8, 3) := by decide +kernel
theorem d8_39 : decode prog_32_method_1_code 39 = .ok (.putfield 18, 3) := by decide +kernel
theorem d8_42 : decode prog_32_method_1_code 42 = .ok (.aload_n 0, 1) := by decide +kernel
theorem d8_43 : decode prog_32_method_1_code 43 = .ok (.aload_n 3, 1) := by decide +kernel
theorem d8_44 : decode prog_32_method_1_code 44 = .ok (.putfield 21, 3) := by decide +kernel
theorem d8_47 : decode prog_32_method_1_code 47 = .ok (.aload_n 0, 1) := by decide +kernel
theorem d8_48 : decode prog_32_method_1_code 48 = .ok (.aload 4, 2) := by decide +kernel
theorem d8_50 : decode prog_32_method_1_code 50 = .ok (.putfield 25, 3) := by decide +kernel
theorem d8_53 : decode prog_32_method_1_code 53 = .ok (.aload_n 0, 1) := by decide +kernel
theorem d8_54 : decode prog_32_method_1_code 54 = .ok (.aload 5, 2) := by decide +kernel
theorem d8_56 : decode prog_32_method_1_code 56 = .ok (.putfield 29, 3) := by decide +kernel
theorem d8_59 : decode prog_32_method_1_code 59 = .ok (.aload_n 0, 1) := by decide +kernel
theorem d8_60 : decode prog_32_method_1_code 60 = .ok (.aload 6, 2) := by decide +kernel
theorem d8_62 : decode prog_32_method_1_code 62 = .ok (.putfield 33, 3) := by decide +kernel
theorem d8_65 : decode prog_32_method_1_code 65 = .ok (.aload_n 0, 1) := by decide +kernel
theorem d8_66 : decode prog_32_method_1_code 66 = .ok (.aload 7, 2) := by decide +kernel
theorem d8_68 : decode prog_32_method_1_code 68 = .ok (.putfield 37, 3) := by decide +kernel
theorem d8_71 : decode prog_32_method_1_code 71 = .ok (.return_, 1) := by decide +kernel
theorem pn_0 : plainName "com/example/aturan/aturan/rules/AccessRule" = true := by first | (simp [plainName, overriddenIn]; done) | decide +kernel
theorem ef_8_RNRNNNRR (m : MethodId) (x0 : Addr) (x2 : Addr) (x6 : Addr) (x7 : Addr) : entryFrame m #[(.ref x0), .null, (.ref x2), .null, .null, .null, (.ref x6), (.ref x7)] 8 = mkF m 0 #[.val (.ref x0), .val .null, .val (.ref x2), .val .null, .val .null, .val .null, .val (.ref x6), .val (.ref x7)] [] := by first | (simp [entryFrame, mkF, argsToLocals, Value.category]; done) | rfl
def Q_rm8 (Z : State) (x0 : Addr) (x2 : Addr) (x6 : Addr) (x7 : Addr) (k : ClassId) (n : Int32) (vs : List Value) (dv : Value) (h0 : Heap) (n0 : Nat) (v : Option Value) (h : Heap) (L : List Loc) : Prop := ∃ b : Addr, v = none ∧ Fr n0 L ∧ Keep h0 h [x0] ∧ h0.size ≤ b ∧ Fld Z h x0 "com/example/aturan/aturan/rules/AccessRule" "certificateHash" "[B" (.ref b) ∧ Arv Z h b k .byte n vs dv ∧ Exa Z h b "[B"
set_option maxRecDepth 65536 in
set_option maxHeartbeats 40000000 in
theorem rm8 (l : Launch) (Z : State) (a0 : Array Value) (hw : ∀ d ∈ tables_1, d.before a0 Z = true) (ws : List Jvm.Cond) (x0 : Addr) (x2 : Addr) (x6 : Addr) (x7 : Addr) (k : ClassId) (n : Int32) (vs : List Value) (dv : Value) (h0 : Heap) (n0 : Nat) (Z0 : n0 ≤ h0.size) (p_0 : Fld Z h0 x0 "com/example/aturan/aturan/rules/AccessRule" "aid" "[B" .null) (p_1 : Fld Z h0 x0 "com/example/aturan/aturan/rules/AccessRule" "certificateHash" "[B" .null) (p_2 : Fld Z h0 x0 "com/example/aturan/aturan/rules/AccessRule" "packageName" "Ljava/lang/String;" .null) (p_3 : Fld Z h0 x0 "com/example/aturan/aturan/rules/AccessRule" "apduRule" "Lcom/example/aturan/aturan/rules/ApduRule;" .null) (p_4 : Fld Z h0 x0 "com/example/aturan/aturan/rules/AccessRule" "nfcRule" "Lcom/example/aturan/aturan/rules/Access;" .null) (p_5 : Fld Z h0 x0 "com/example/aturan/aturan/rules/AccessRule" "permissions" "Ljava/util/OptionalLong;" .null) (p_6 : Fld Z h0 x0 "com/example/aturan/aturan/rules/AccessRule" "ignoreReason" "Lcom/example/aturan/aturan/rules/IgnoreReason;" .null) (p_7 : Exa Z h0 x0 "com/example/aturan/aturan/rules/AccessRule") (p_8 : n0 ≤ x0) (p_9 : x2 ≠ x0) (p_10 : Arv Z h0 x2 k .byte n vs dv) (p_11 : Exa Z h0 x2 "[B") (p_12 : 0 ≤ n.toInt ∧ n.toInt ≤ 33) :
    MetFree l (⟨"com/example/aturan/aturan/rules/AccessRule", "<init>", "([B[BLjava/lang/String;Lcom/example/aturan/aturan/rules/ApduRule;Lcom/example/aturan/aturan/rules/Access;Ljava/util/OptionalLong;Lcom/example/aturan/aturan/rules/IgnoreReason;)V"⟩ : MethodName) (head1 (Jvm.Cond.code (⟨"com/example/aturan/aturan/rules/AccessRule", "<init>", "([B[BLjava/lang/String;Lcom/example/aturan/aturan/rules/ApduRule;Lcom/example/aturan/aturan/rules/Access;Ljava/util/OptionalLong;Lcom/example/aturan/aturan/rules/IgnoreReason;)V"⟩ : MethodName) prog_32_method_1_code 8 none :: ws) ({ frames := 1, cells := 1, slots := 33, locals := 15 } : Room)) (fun a U => a = #[(.ref x0), .null, (.ref x2), .null, .null, .null, (.ref x6), (.ref x7)] ∧ Z.Warmed39 U.vm ∧ U.heap = h0) (fun _ _ _ _ _ => True) (fun _ U o U' => ∃ v L, o = .returned v ∧ Q_rm8 Z x0 x2 x6 x7 k n vs dv h0 n0 v U'.heap L ∧ FrameEnd U o U' L ({ frames := 1, cells := 1, slots := 33, locals := 15 } : Room).cells ({ frames := 1, cells := 1, slots := 33, locals := 15 } : Room).slots) := by
  refine MetFree.of_bodySF (plainFor_of_name pn_0) hisR ?_
  intro p e s m args below meth c s₁ Bd hml0 hP hK
  obtain ⟨rfl, hZ, hh⟩ := hP
  have hx := Bd.exec
  have hby := Bd.bytes
  have hml : c.maxLocals = 8 := hml0
  have hown : s.vm.findClass "com/example/aturan/aturan/rules/AccessRule" = some m.cls := findClass_of_methodNamed Bd.named
  have hnm := (name_of_methodNamed Bd.named Bd.method).1
  have X0 : Stand p l e ({ frames := 1, cells := 1, slots := 33, locals := 15 } : Room) s m #[(.ref x0), .null, (.ref x2), .null, .null, .null, (.ref x6), (.ref x7)] below meth c s₁ [] 0 0 := Stand.of_body Bd
  have e0 : s₁.heap = h0 := by rw [← hh, Bd.state]; rfl
  have N0 := Fr.nil n0
  show own_Ends p e below s ({ frames := 1, cells := 1, slots := 33, locals := 15 } : Room).cells ({ frames := 1, cells := 1, slots := 33, locals := 15 } : Room).slots (Q_rm8 Z x0 x2 x6 x7 k n vs dv h0 n0) (s₁.setTop (entryFrame m #[(.ref x0), .null, (.ref x2), .null, .null, .null, (.ref x6), (.ref x7)] 8))
  rw [ef_8_RNRNNNRR]
  refine own_step (st' := s₁.setTop (mkF m 1 #[.val (.ref x0), .val .null, .val (.ref x2), .val .null, .val .null, .val .null, .val (.ref x6), .val (.ref x7)] [(.ref x0)])) (fun t k => XS.aloadN X0.here hx rfl (hb hby d8_0) rfl rfl k) ?_
  obtain ⟨T1, X1, e1, st1⟩ := initO X0 hx hZ hown (hw _ (List.mem_of_getElem? (i := 63) rfl)) (hw _ (List.mem_of_getElem? (i := 13) rfl)) (hw _ (List.mem_of_getElem? (i := 14) rfl)) e0 (g := (mkF m 1 #[.val (.ref x0), .val .null, .val (.ref x2), .val .null, .val .null, .val .null, .val (.ref x6), .val (.ref x7)] [(.ref x0)])) rfl (by rw [hml]; rfl) rfl (hb hby d8_1) (by decide) (W := 0) (by show 2 * 0 + _ ≤ _; exact Nat.le_of_eq rfl) (by decide)
  refine own_step (st' := T1.setTop (mkF m 4 #[.val (.ref x0), .val .null, .val (.ref x2), .val .null, .val .null, .val .null, .val (.ref x6), .val (.ref x7)] [])) st1 ?_
  refine own_step (st' := T1.setTop (mkF m 5 #[.val (.ref x0), .val .null, .val (.ref x2), .val .null, .val .null, .val .null, .val (.ref x6), .val (.ref x7)] [(.ref x0)])) (fun t k => XS.aloadN X1.here hx rfl (hb hby d8_4) rfl rfl k) ?_
  refine own_step (st' := T1.setTop (mkF m 6 #[.val (.ref x0), .val .null, .val (.ref x2), .val .null, .val .null, .val .null, .val (.ref x6), .val (.ref x7)] [.null, (.ref x0)])) (fun t k => XS.aloadN X1.here hx rfl (hb hby d8_5) rfl rfl k) ?_
  refine own_step (st' := T1.setTop (mkF m 9 #[.val (.ref x0), .val .null, .val (.ref x2), .val .null, .val .null, .val .null, .val (.ref x6), .val (.ref x7)] [(.ref x0)])) (fun t k => XS.ifnonnullNo X1.here hx rfl (hb hby d8_6) rfl k) ?_
  refine own_step (st' := T1.setTop (mkF m 10 #[.val (.ref x0), .val .null, .val (.ref x2), .val .null, .val .null, .val .null, .val (.ref x6), .val (.ref x7)] [.null, (.ref x0)])) (fun t k => XS.aconstNull X1.here hx rfl (hb hby d8_9) k) ?_
  refine own_step (st' := T1.setTop (mkF m 20 #[.val (.ref x0), .val .null, .val (.ref x2), .val .null, .val .null, .val .null, .val (.ref x6), .val (.ref x7)] [.null, (.ref x0)])) (fun t k => XS.goto X1.here hx rfl (pc0 := 10) (pc' := 20) rfl (hb hby d8_10) (by decide) (by decide) k) ?_
  obtain ⟨T2, h2, X2, e2, W2, st2⟩ := putF X1 hx hZ hown (host := "") (Or.inl (hw _ (List.mem_of_getElem? (i := 64) rfl))) Via.refl e1 p_0 p_7 (Or.inr ⟨(hw _ (List.mem_of_getElem? (i := 65) rfl)), rfl, hnm⟩) (hw _ (List.mem_of_getElem? (i := 52) rfl)) (ty := (.array .byte)) (by decide) rfl rfl (g := (mkF m 20 #[.val (.ref x0), .val .null, .val (.ref x2), .val .null, .val .null, .val .null, .val (.ref x6), .val (.ref x7)] [.null, (.ref x0)])) rfl rfl (hb hby d8_20)
  have F2 := p_0.same W2
  have f3 := p_1.other W2 (Or.inr (slot_ne (Or.inr (hw _ (List.mem_of_getElem? (i := 69) rfl))) (Or.inr (hw _ (List.mem_of_getElem? (i := 65) rfl))) (by decide) (t := (.array .byte)) (t' := (.array .byte)) (by decide) (by decide)))
  have f4 := p_2.other W2 (Or.inr (slot_ne (Or.inr (hw _ (List.mem_of_getElem? (i := 71) rfl))) (Or.inr (hw _ (List.mem_of_getElem? (i := 65) rfl))) (by decide) (t := (.object "java/lang/String")) (t' := (.array .byte)) (by decide) (by decide)))
  have f5 := p_3.other W2 (Or.inr (slot_ne (Or.inr (hw _ (List.mem_of_getElem? (i := 73) rfl))) (Or.inr (hw _ (List.mem_of_getElem? (i := 65) rfl))) (by decide) (t := (.object "com/example/aturan/aturan/rules/ApduRule")) (t' := (.array .byte)) (by decide) (by decide)))
  have f6 := p_4.other W2 (Or.inr (slot_ne (Or.inr (hw _ (List.mem_of_getElem? (i := 75) rfl))) (Or.inr (hw _ (List.mem_of_getElem? (i := 65) rfl))) (by decide) (t := (.object "com/example/aturan/aturan/rules/Access")) (t' := (.array .byte)) (by decide) (by decide)))
  have f7 := p_5.other W2 (Or.inr (slot_ne (Or.inr (hw _ (List.mem_of_getElem? (i := 77) rfl))) (Or.inr (hw _ (List.mem_of_getElem? (i := 65) rfl))) (by decide) (t := (.object "java/util/OptionalLong")) (t' := (.array .byte)) (by decide) (by decide)))
  have f8 := p_6.other W2 (Or.inr (slot_ne (Or.inr (hw _ (List.mem_of_getElem? (i := 79) rfl))) (Or.inr (hw _ (List.mem_of_getElem? (i := 65) rfl))) (by decide) (t := (.object "com/example/aturan/aturan/rules/IgnoreReason")) (t' := (.array .byte)) (by decide) (by decide)))
  have f9 := p_7.wr W2
  have f10 := p_10.other W2 p_9
  have f11 := p_11.wr W2
  have K12 : Keep h0 h2 [x0] := (Keep.refl h0 [x0]).wr W2 (Or.inl (List.mem_of_getElem? (i := 0) rfl))
  have Z13 : n0 ≤ h2.size := Nat.le_trans Z0 (Keep.of_wr W2).1
  have N14 := Fr.snoc X2 N0 p_8
  refine own_step (st' := T2.setTop (mkF m 23 #[.val (.ref x0), .val .null, .val (.ref x2), .val .null, .val .null, .val .null, .val (.ref x6), .val (.ref x7)] [])) st2 ?_
  refine own_step (st' := T2.setTop (mkF m 24 #[.val (.ref x0), .val .null, .val (.ref x2), .val .null, .val .null, .val .null, .val (.ref x6), .val (.ref x7)] [(.ref x0)])) (fun t k => XS.aloadN X2.here hx rfl (hb hby d8_23) rfl rfl k) ?_
  refine own_step (st' := T2.setTop (mkF m 25 #[.val (.ref x0), .val .null, .val (.ref x2), .val .null, .val .null, .val .null, .val (.ref x6), .val (.ref x7)] [(.ref x2), (.ref x0)])) (fun t k => XS.aloadN X2.here hx rfl (hb hby d8_24) rfl rfl k) ?_
  refine own_step (st' := T2.setTop (mkF m 32 #[.val (.ref x0), .val .null, .val (.ref x2), .val .null, .val .null, .val .null, .val (.ref x6), .val (.ref x7)] [(.ref x0)])) (fun t k => XS.ifnonnullYes X2.here hx rfl (pc0 := 25) (pc' := 32) rfl (hb hby d8_25) rfl (by decide) (by decide) k) ?_
  refine own_step (st' := T2.setTop (mkF m 33 #[.val (.ref x0), .val .null, .val (.ref x2), .val .null, .val .null, .val .null, .val (.ref x6), .val (.ref x7)] [(.ref x2), (.ref x0)])) (fun t k => XS.aloadN X2.here hx rfl (hb hby d8_32) rfl rfl k) ?_
  obtain ⟨T15, h15, X15, e15, E15, V15, A15, st15⟩ := cloneH X2 hx hZ hown (hw _ (List.mem_of_getElem? (i := 66) rfl)) (hw _ (List.mem_of_getElem? (i := 28) rfl)) (hw _ (List.mem_of_getElem? (i := 32) rfl)) (hw _ (List.mem_of_getElem? (i := 30) rfl)) (hw _ (List.mem_of_getElem? (i := 31) rfl)) (hw _ (List.mem_of_getElem? (i := 33) rfl)) e2 (Arv.arh f10) f11 (g := (mkF m 33 #[.val (.ref x0), .val .null, .val (.ref x2), .val .null, .val .null, .val .null, .val (.ref x6), .val (.ref x7)] [(.ref x2), (.ref x0)])) rfl (by rw [hml]; rfl) rfl (hb hby d8_33) (by decide) (W := 1) (cap := 33) (by show 2 * 0 + _ ≤ _; exact Nat.le_of_eq rfl) (by decide) (own_le33 p_12) (by decide) (by decide)
  obtain ⟨b15, g15⟩ : ∃ z, z = h2.size := ⟨_, rfl⟩
  rw [← g15] at A15 V15 st15
  have ne16 : x0 ≠ b15 := Nat.ne_of_lt (Nat.lt_of_lt_of_le f3.lt (Nat.le_of_eq g15.symm))
  have ne17 : x2 ≠ b15 := Nat.ne_of_lt (Nat.lt_of_lt_of_le f10.lt (Nat.le_of_eq g15.symm))
  have g_b15 : n0 ≤ b15 := Nat.le_trans Z13 (Nat.le_of_eq g15.symm)
  have sz_b15 : h0.size ≤ b15 := Nat.le_trans K12.1 (Nat.le_of_eq g15.symm)
  have f18 := f3.ext E15
  have f19 := f4.ext E15
  have f20 := f5.ext E15
  have f21 := f6.ext E15
  have f22 := f7.ext E15
  have f23 := f8.ext E15
  have f24 := f9.ext E15
  have f25 := f10.ext E15
  have f26 := f11.ext E15
  have f27 := F2.ext E15
  have K28 : Keep h0 h15 [x0] := K12.ext E15
  have Z29 : n0 ≤ h15.size := Nat.le_trans Z13 E15.1
  have V15 : Arv Z h15 b15 k .byte n vs dv := V15
  refine own_step (st' := T15.setTop (mkF m 36 #[.val (.ref x0), .val .null, .val (.ref x2), .val .null, .val .null, .val .null, .val (.ref x6), .val (.ref x7)] [(.ref b15), (.ref x0)])) st15 ?_
  obtain ⟨T30, X30, e30, st30⟩ := castY X15 hx hZ hown (hw _ (List.mem_of_getElem? (i := 67) rfl)) e15 (Ins.self A15) (g := (mkF m 36 #[.val (.ref x0), .val .null, .val (.ref x2), .val .null, .val .null, .val .null, .val (.ref x6), .val (.ref x7)] [(.ref b15), (.ref x0)])) rfl rfl (hb hby d8_36)
  refine own_step (st' := T30.setTop (mkF m 39 #[.val (.ref x0), .val .null, .val (.ref x2), .val .null, .val .null, .val .null, .val (.ref x6), .val (.ref x7)] [(.ref b15), (.ref x0)])) st30 ?_
  obtain ⟨T31, h31, X31, e31, W31, st31⟩ := putF X30 hx hZ hown (host := "") (Or.inl (hw _ (List.mem_of_getElem? (i := 68) rfl))) Via.refl e30 f18 f24 (Or.inr ⟨(hw _ (List.mem_of_getElem? (i := 69) rfl)), rfl, hnm⟩) (hw _ (List.mem_of_getElem? (i := 52) rfl)) (ty := (.array .byte)) (by decide) rfl rfl (g := (mkF m 39 #[.val (.ref x0), .val .null, .val (.ref x2), .val .null, .val .null, .val .null, .val (.ref x6), .val (.ref x7)] [(.ref b15), (.ref x0)])) rfl rfl (hb hby d8_39)
  have F31 := f18.same W31
  have f32 := f19.other W31 (Or.inr (slot_ne (Or.inr (hw _ (List.mem_of_getElem? (i := 71) rfl))) (Or.inr (hw _ (List.mem_of_getElem? (i := 69) rfl))) (by decide) (t := (.object "java/lang/String")) (t' := (.array .byte)) (by decide) (by decide)))
  have f33 := f20.other W31 (Or.inr (slot_ne (Or.inr (hw _ (List.mem_of_getElem? (i := 73) rfl))) (Or.inr (hw _ (List.mem_of_getElem? (i := 69) rfl))) (by decide) (t := (.object "com/example/aturan/aturan/rules/ApduRule")) (t' := (.array .byte)) (by decide) (by decide)))
  have f34 := f21.other W31 (Or.inr (slot_ne (Or.inr (hw _ (List.mem_of_getElem? (i := 75) rfl))) (Or.inr (hw _ (List.mem_of_getElem? (i := 69) rfl))) (by decide) (t := (.object "com/example/aturan/aturan/rules/Access")) (t' := (.array .byte)) (by decide) (by decide)))
  have f35 := f22.other W31 (Or.inr (slot_ne (Or.inr (hw _ (List.mem_of_getElem? (i := 77) rfl))) (Or.inr (hw _ (List.mem_of_getElem? (i := 69) rfl))) (by decide) (t := (.object "java/util/OptionalLong")) (t' := (.array .byte)) (by decide) (by decide)))
  have f36 := f23.other W31 (Or.inr (slot_ne (Or.inr (hw _ (List.mem_of_getElem? (i := 79) rfl))) (Or.inr (hw _ (List.mem_of_getElem? (i := 69) rfl))) (by decide) (t := (.object "com/example/aturan/aturan/rules/IgnoreReason")) (t' := (.array .byte)) (by decide) (by decide)))
  have f37 := f24.wr W31
  have f38 := f25.other W31 p_9
  have f39 := f26.wr W31
  have f40 := f27.other W31 (Or.inr (slot_ne (Or.inr (hw _ (List.mem_of_getElem? (i := 65) rfl))) (Or.inr (hw _ (List.mem_of_getElem? (i := 69) rfl))) (by decide) (t := (.array .byte)) (t' := (.array .byte)) (by decide) (by decide)))
  have f41 := V15.other W31 (Ne.symm ne16)
  have f42 := A15.wr W31
  have K43 : Keep h0 h31 [x0] := K28.wr W31 (Or.inl (List.mem_of_getElem? (i := 0) rfl))
  have Z44 : n0 ≤ h31.size := Nat.le_trans Z29 (Keep.of_wr W31).1
  have N45 := Fr.snoc X31 N14 p_8
  refine own_step (st' := T31.setTop (mkF m 42 #[.val (.ref x0), .val .null, .val (.ref x2), .val .null, .val .null, .val .null, .val (.ref x6), .val (.ref x7)] [])) st31 ?_
  refine own_step (st' := T31.setTop (mkF m 43 #[.val (.ref x0), .val .null, .val (.ref x2), .val .null, .val .null, .val .null, .val (.ref x6), .val (.ref x7)] [(.ref x0)])) (fun t k => XS.aloadN X31.here hx rfl (hb hby d8_42) rfl rfl k) ?_
  refine own_step (st' := T31.setTop (mkF m 44 #[.val (.ref x0), .val .null, .val (.ref x2), .val .null, .val .null, .val .null, .val (.ref x6), .val (.ref x7)] [.null, (.ref x0)])) (fun t k => XS.aloadN X31.here hx rfl (hb hby d8_43) rfl rfl k) ?_
  obtain ⟨T46, h46, X46, e46, W46, st46⟩ := putF X31 hx hZ hown (host := "") (Or.inl (hw _ (List.mem_of_getElem? (i := 70) rfl))) Via.refl e31 f32 f37 (Or.inr ⟨(hw _ (List.mem_of_getElem? (i := 71) rfl)), rfl, hnm⟩) (hw _ (List.mem_of_getElem? (i := 52) rfl)) (ty := (.object "java/lang/String")) (by decide) rfl rfl (g := (mkF m 44 #[.val (.ref x0), .val .null, .val (.ref x2), .val .null, .val .null, .val .null, .val (.ref x6), .val (.ref x7)] [.null, (.ref x0)])) rfl rfl (hb hby d8_44)
  have F46 := f32.same W46
  have f47 := f33.other W46 (Or.inr (slot_ne (Or.inr (hw _ (List.mem_of_getElem? (i := 73) rfl))) (Or.inr (hw _ (List.mem_of_getElem? (i := 71) rfl))) (by decide) (t := (.object "com/example/aturan/aturan/rules/ApduRule")) (t' := (.object "java/lang/String")) (by decide) (by decide)))
  have f48 := f34.other W46 (Or.inr (slot_ne (Or.inr (hw _ (List.mem_of_getElem? (i := 75) rfl))) (Or.inr (hw _ (List.mem_of_getElem? (i := 71) rfl))) (by decide) (t := (.object "com/example/aturan/aturan/rules/Access")) (t' := (.object "java/lang/String")) (by decide) (by decide)))
  have f49 := f35.other W46 (Or.inr (slot_ne (Or.inr (hw _ (List.mem_of_getElem? (i := 77) rfl))) (Or.inr (hw _ (List.mem_of_getElem? (i := 71) rfl))) (by decide) (t := (.object "java/util/OptionalLong")) (t' := (.object "java/lang/String")) (by decide) (by decide)))
  have f50 := f36.other W46 (Or.inr (slot_ne (Or.inr (hw _ (List.mem_of_getElem? (i := 79) rfl))) (Or.inr (hw _ (List.mem_of_getElem? (i := 71) rfl))) (by decide) (t := (.object "com/example/aturan/aturan/rules/IgnoreReason")) (t' := (.object "java/lang/String")) (by decide) (by decide)))
  have f51 := f37.wr W46
  have f52 := f38.other W46 p_9
  have f53 := f39.wr W46
  have f54 := f40.other W46 (Or.inr (slot_ne (Or.inr (hw _ (List.mem_of_getElem? (i := 65) rfl))) (Or.inr (hw _ (List.mem_of_getElem? (i := 71) rfl))) (by decide) (t := (.array .byte)) (t' := (.object "java/lang/String")) (by decide) (by decide)))
  have f55 := f41.other W46 (Ne.symm ne16)
  have f56 := f42.wr W46
  have f57 := F31.other W46 (Or.inr (slot_ne (Or.inr (hw _ (List.mem_of_getElem? (i := 69) rfl))) (Or.inr (hw _ (List.mem_of_getElem? (i := 71) rfl))) (by decide) (t := (.array .byte)) (t' := (.object "java/lang/String")) (by decide) (by decide)))
  have K58 : Keep h0 h46 [x0] := K43.wr W46 (Or.inl (List.mem_of_getElem? (i := 0) rfl))
  have Z59 : n0 ≤ h46.size := Nat.le_trans Z44 (Keep.of_wr W46).1
  have N60 := Fr.snoc X46 N45 p_8
  refine own_step (st' := T46.setTop (mkF m 47 #[.val (.ref x0), .val .null, .val (.ref x2), .val .null, .val .null, .val .null, .val (.ref x6), .val (.ref x7)] [])) st46 ?_
  refine own_step (st' := T46.setTop (mkF m 48 #[.val (.ref x0), .val .null, .val (.ref x2), .val .null, .val .null, .val .null, .val (.ref x6), .val (.ref x7)] [(.ref x0)])) (fun t k => XS.aloadN X46.here hx rfl (hb hby d8_47) rfl rfl k) ?_
  refine own_step (st' := T46.setTop (mkF m 50 #[.val (.ref x0), .val .null, .val (.ref x2), .val .null, .val .null, .val .null, .val (.ref x6), .val (.ref x7)] [.null, (.ref x0)])) (fun t k => XS.aload X46.here hx rfl (hb hby d8_48) rfl rfl k) ?_
  obtain ⟨T61, h61, X61, e61, W61, st61⟩ := putF X46 hx hZ hown (host := "") (Or.inl (hw _ (List.mem_of_getElem? (i := 72) rfl))) Via.refl e46 f47 f51 (Or.inr ⟨(hw _ (List.mem_of_getElem? (i := 73) rfl)), rfl, hnm⟩) (hw _ (List.mem_of_getElem? (i := 52) rfl)) (ty := (.object "com/example/aturan/aturan/rules/ApduRule")) (by decide) rfl rfl (g := (mkF m 50 #[.val (.ref x0), .val .null, .val (.ref x2), .val .null, .val .null, .val .null, .val (.ref x6), .val (.ref x7)] [.null, (.ref x0)])) rfl rfl (hb hby d8_50)
  have F61 := f47.same W61
  have f62 := f48.other W61 (Or.inr (slot_ne (Or.inr (hw _ (List.mem_of_getElem? (i := 75) rfl))) (Or.inr (hw _ (List.mem_of_getElem? (i := 73) rfl))) (by decide) (t := (.object "com/example/aturan/aturan/rules/Access")) (t' := (.object "com/example/aturan/aturan/rules/ApduRule")) (by decide) (by decide)))
  have f63 := f49.other W61 (Or.inr (slot_ne (Or.inr (hw _ (List.mem_of_getElem? (i := 77) rfl))) (Or.inr (hw _ (List.mem_of_getElem? (i := 73) rfl))) (by decide) (t := (.object "java/util/OptionalLong")) (t' := (.object "com/example/aturan/aturan/rules/ApduRule")) (by decide) (by decide)))
  have f64 := f50.other W61 (Or.inr (slot_ne (Or.inr (hw _ (List.mem_of_getElem? (i := 79) rfl))) (Or.inr (hw _ (List.mem_of_getElem? (i := 73) rfl))) (by decide) (t := (.object "com/example/aturan/aturan/rules/IgnoreReason")) (t' := (.object "com/example/aturan/aturan/rules/ApduRule")) (by decide) (by decide)))
  have f65 := f51.wr W61
  have f66 := f52.other W61 p_9
  have f67 := f53.wr W61
  have f68 := f54.other W61 (Or.inr (slot_ne (Or.inr (hw _ (List.mem_of_getElem? (i := 65) rfl))) (Or.inr (hw _ (List.mem_of_getElem? (i := 73) rfl))) (by decide) (t := (.array .byte)) (t' := (.object "com/example/aturan/aturan/rules/ApduRule")) (by decide) (by decide)))
  have f69 := f55.other W61 (Ne.symm ne16)
  have f70 := f56.wr W61
  have f71 := f57.other W61 (Or.inr (slot_ne (Or.inr (hw _ (List.mem_of_getElem? (i := 69) rfl))) (Or.inr (hw _ (List.mem_of_getElem? (i := 73) rfl))) (by decide) (t := (.array .byte)) (t' := (.object "com/example/aturan/aturan/rules/ApduRule")) (by decide) (by decide)))
  have f72 := F46.other W61 (Or.inr (slot_ne (Or.inr (hw _ (List.mem_of_getElem? (i := 71) rfl))) (Or.inr (hw _ (List.mem_of_getElem? (i := 73) rfl))) (by decide) (t := (.object "java/lang/String")) (t' := (.object "com/example/aturan/aturan/rules/ApduRule")) (by decide) (by decide)))
  have K73 : Keep h0 h61 [x0] := K58.wr W61 (Or.inl (List.mem_of_getElem? (i := 0) rfl))
  have Z74 : n0 ≤ h61.size := Nat.le_trans Z59 (Keep.of_wr W61).1
  have N75 := Fr.snoc X61 N60 p_8
  refine own_step (st' := T61.setTop (mkF m 53 #[.val (.ref x0), .val .null, .val (.ref x2), .val .null, .val .null, .val .null, .val (.ref x6), .val (.ref x7)] [])) st61 ?_
  refine own_step (st' := T61.setTop (mkF m 54 #[.val (.ref x0), .val .null, .val (.ref x2), .val .null, .val .null, .val .null, .val (.ref x6), .val (.ref x7)] [(.ref x0)])) (fun t k => XS.aloadN X61.here hx rfl (hb hby d8_53) rfl rfl k) ?_
  refine own_step (st' := T61.setTop (mkF m 56 #[.val (.ref x0), .val .null, .val (.ref x2), .val .null, .val .null, .val .null, .val (.ref x6), .val (.ref x7)] [.null, (.ref x0)])) (fun t k => XS.aload X61.here hx rfl (hb hby d8_54) rfl rfl k) ?_
  obtain ⟨T76, h76, X76, e76, W76, st76⟩ := putF X61 hx hZ hown (host := "") (Or.inl (hw _ (List.mem_of_getElem? (i := 74) rfl))) Via.refl e61 f62 f65 (Or.inr ⟨(hw _ (List.mem_of_getElem? (i := 75) rfl)), rfl, hnm⟩) (hw _ (List.mem_of_getElem? (i := 52) rfl)) (ty := (.object "com/example/aturan/aturan/rules/Access")) (by decide) rfl rfl (g := (mkF m 56 #[.val (.ref x0), .val .null, .val (.ref x2), .val .null, .val .null, .val .null, .val (.ref x6), .val (.ref x7)] [.null, (.ref x0)])) rfl rfl (hb hby d8_56)
  have F76 := f62.same W76
  have f77 := f63.other W76 (Or.inr (slot_ne (Or.inr (hw _ (List.mem_of_getElem? (i := 77) rfl))) (Or.inr (hw _ (List.mem_of_getElem? (i := 75) rfl))) (by decide) (t := (.object "java/util/OptionalLong")) (t' := (.object "com/example/aturan/aturan/rules/Access")) (by decide) (by decide)))
  have f78 := f64.other W76 (Or.inr (slot_ne (Or.inr (hw _ (List.mem_of_getElem? (i := 79) rfl))) (Or.inr (hw _ (List.mem_of_getElem? (i := 75) rfl))) (by decide) (t := (.object "com/example/aturan/aturan/rules/IgnoreReason")) (t' := (.object "com/example/aturan/aturan/rules/Access")) (by decide) (by decide)))
  have f79 := f65.wr W76
  have f80 := f66.other W76 p_9
  have f81 := f67.wr W76
  have f82 := f68.other W76 (Or.inr (slot_ne (Or.inr (hw _ (List.mem_of_getElem? (i := 65) rfl))) (Or.inr (hw _ (List.mem_of_getElem? (i := 75) rfl))) (by decide) (t := (.array .byte)) (t' := (.object "com/example/aturan/aturan/rules/Access")) (by decide) (by decide)))
  have f83 := f69.other W76 (Ne.symm ne16)
  have f84 := f70.wr W76
  have f85 := f71.other W76 (Or.inr (slot_ne (Or.inr (hw _ (List.mem_of_getElem? (i := 69) rfl))) (Or.inr (hw _ (List.mem_of_getElem? (i := 75) rfl))) (by decide) (t := (.array .byte)) (t' := (.object "com/example/aturan/aturan/rules/Access")) (by decide) (by decide)))
  have f86 := f72.other W76 (Or.inr (slot_ne (Or.inr (hw _ (List.mem_of_getElem? (i := 71) rfl))) (Or.inr (hw _ (List.mem_of_getElem? (i := 75) rfl))) (by decide) (t := (.object "java/lang/String")) (t' := (.object "com/example/aturan/aturan/rules/Access")) (by decide) (by decide)))
  have f87 := F61.other W76 (Or.inr (slot_ne (Or.inr (hw _ (List.mem_of_getElem? (i := 73) rfl))) (Or.inr (hw _ (List.mem_of_getElem? (i := 75) rfl))) (by decide) (t := (.object "com/example/aturan/aturan/rules/ApduRule")) (t' := (.object "com/example/aturan/aturan/rules/Access")) (by decide) (by decide)))
  have K88 : Keep h0 h76 [x0] := K73.wr W76 (Or.inl (List.mem_of_getElem? (i := 0) rfl))
  have Z89 : n0 ≤ h76.size := Nat.le_trans Z74 (Keep.of_wr W76).1
  have N90 := Fr.snoc X76 N75 p_8
  refine own_step (st' := T76.setTop (mkF m 59 #[.val (.ref x0), .val .null, .val (.ref x2), .val .null, .val .null, .val .null, .val (.ref x6), .val (.ref x7)] [])) st76 ?_
  refine own_step (st' := T76.setTop (mkF m 60 #[.val (.ref x0), .val .null, .val (.ref x2), .val .null, .val .null, .val .null, .val (.ref x6), .val (.ref x7)] [(.ref x0)])) (fun t k => XS.aloadN X76.here hx rfl (hb hby d8_59) rfl rfl k) ?_
  refine own_step (st' := T76.setTop (mkF m 62 #[.val (.ref x0), .val .null, .val (.ref x2), .val .null, .val .null, .val .null, .val (.ref x6), .val (.ref x7)] [(.ref x6), (.ref x0)])) (fun t k => XS.aload X76.here hx rfl (hb hby d8_60) rfl rfl k) ?_
  obtain ⟨T91, h91, X91, e91, W91, st91⟩ := putF X76 hx hZ hown (host := "") (Or.inl (hw _ (List.mem_of_getElem? (i := 76) rfl))) Via.refl e76 f77 f79 (Or.inr ⟨(hw _ (List.mem_of_getElem? (i := 77) rfl)), rfl, hnm⟩) (hw _ (List.mem_of_getElem? (i := 52) rfl)) (ty := (.object "java/util/OptionalLong")) (by decide) rfl rfl (g := (mkF m 62 #[.val (.ref x0), .val .null, .val (.ref x2), .val .null, .val .null, .val .null, .val (.ref x6), .val (.ref x7)] [(.ref x6), (.ref x0)])) rfl rfl (hb hby d8_62)
  have F91 := f77.same W91
  have f92 := f78.other W91 (Or.inr (slot_ne (Or.inr (hw _ (List.mem_of_getElem? (i := 79) rfl))) (Or.inr (hw _ (List.mem_of_getElem? (i := 77) rfl))) (by decide) (t := (.object "com/example/aturan/aturan/rules/IgnoreReason")) (t' := (.object "java/util/OptionalLong")) (by decide) (by decide)))
  have f93 := f79.wr W91
  have f94 := f80.other W91 p_9
  have f95 := f81.wr W91
  have f96 := f82.other W91 (Or.inr (slot_ne (Or.inr (hw _ (List.mem_of_getElem? (i := 65) rfl))) (Or.inr (hw _ (List.mem_of_getElem? (i := 77) rfl))) (by decide) (t := (.array .byte)) (t' := (.object "java/util/OptionalLong")) (by decide) (by decide)))
  have f97 := f83.other W91 (Ne.symm ne16)
  have f98 := f84.wr W91
  have f99 := f85.other W91 (Or.inr (slot_ne (Or.inr (hw _ (List.mem_of_getElem? (i := 69) rfl))) (Or.inr (hw _ (List.mem_of_getElem? (i := 77) rfl))) (by decide) (t := (.array .byte)) (t' := (.object "java/util/OptionalLong")) (by decide) (by decide)))
  have f100 := f86.other W91 (Or.inr (slot_ne (Or.inr (hw _ (List.mem_of_getElem? (i := 71) rfl))) (Or.inr (hw _ (List.mem_of_getElem? (i := 77) rfl))) (by decide) (t := (.object "java/lang/String")) (t' := (.object "java/util/OptionalLong")) (by decide) (by decide)))
  have f101 := f87.other W91 (Or.inr (slot_ne (Or.inr (hw _ (List.mem_of_getElem? (i := 73) rfl))) (Or.inr (hw _ (List.mem_of_getElem? (i := 77) rfl))) (by decide) (t := (.object "com/example/aturan/aturan/rules/ApduRule")) (t' := (.object "java/util/OptionalLong")) (by decide) (by decide)))
  have f102 := F76.other W91 (Or.inr (slot_ne (Or.inr (hw _ (List.mem_of_getElem? (i := 75) rfl))) (Or.inr (hw _ (List.mem_of_getElem? (i := 77) rfl))) (by decide) (t := (.object "com/example/aturan/aturan/rules/Access")) (t' := (.object "java/util/OptionalLong")) (by decide) (by decide)))
  have K103 : Keep h0 h91 [x0] := K88.wr W91 (Or.inl (List.mem_of_getElem? (i := 0) rfl))
  have Z104 : n0 ≤ h91.size := Nat.le_trans Z89 (Keep.of_wr W91).1
  have N105 := Fr.snoc X91 N90 p_8
  refine own_step (st' := T91.setTop (mkF m 65 #[.val (.ref x0), .val .null, .val (.ref x2), .val .null, .val .null, .val .null, .val (.ref x6), .val (.ref x7)] [])) st91 ?_
  refine own_step (st' := T91.setTop (mkF m 66 #[.val (.ref x0), .val .null, .val (.ref x2), .val .null, .val .null, .val .null, .val (.ref x6), .val (.ref x7)] [(.ref x0)])) (fun t k => XS.aloadN X91.here hx rfl (hb hby d8_65) rfl rfl k) ?_
  refine own_step (st' := T91.setTop (mkF m 68 #[.val (.ref x0), .val .null, .val (.ref x2), .val .null, .val .null, .val .null, .val (.ref x6), .val (.ref x7)] [(.ref x7), (.ref x0)])) (fun t k => XS.aload X91.here hx rfl (hb hby d8_66) rfl rfl k) ?_
  obtain ⟨T106, h106, X106, e106, W106, st106⟩ := putF X91 hx hZ hown (host := "") (Or.inl (hw _ (List.mem_of_getElem? (i := 78) rfl))) Via.refl e91 f92 f93 (Or.inr ⟨(hw _ (List.mem_of_getElem? (i := 79) rfl)), rfl, hnm⟩) (hw _ (List.mem_of_getElem? (i := 52) rfl)) (ty := (.object "com/example/aturan/aturan/rules/IgnoreReason")) (by decide) rfl rfl (g := (mkF m 68 #[.val (.ref x0), .val .null, .val (.ref x2), .val .null, .val .null, .val .null, .val (.ref x6), .val (.ref x7)] [(.ref x7), (.ref x0)])) rfl rfl (hb hby d8_68)
  have F106 := f92.same W106
  have f107 := f93.wr W106
  have f108 := f94.other W106 p_9
  have f109 := f95.wr W106
  have f110 := f96.other W106 (Or.inr (slot_ne (Or.inr (hw _ (List.mem_of_getElem? (i := 65) rfl))) (Or.inr (hw _ (List.mem_of_getElem? (i := 79) rfl))) (by decide) (t := (.array .byte)) (t' := (.object "com/example/aturan/aturan/rules/IgnoreReason")) (by decide) (by decide)))
  have f111 := f97.other W106 (Ne.symm ne16)
  have f112 := f98.wr W106
  have f113 := f99.other W106 (Or.inr (slot_ne (Or.inr (hw _ (List.mem_of_getElem? (i := 69) rfl))) (Or.inr (hw _ (List.mem_of_getElem? (i := 79) rfl))) (by decide) (t := (.array .byte)) (t' := (.object "com/example/aturan/aturan/rules/IgnoreReason")) (by decide) (by decide)))
  have f114 := f100.other W106 (Or.inr (slot_ne (Or.inr (hw _ (List.mem_of_getElem? (i := 71) rfl))) (Or.inr (hw _ (List.mem_of_getElem? (i := 79) rfl))) (by decide) (t := (.object "java/lang/String")) (t' := (.object "com/example/aturan/aturan/rules/IgnoreReason")) (by decide) (by decide)))
  have f115 := f101.other W106 (Or.inr (slot_ne (Or.inr (hw _ (List.mem_of_getElem? (i := 73) rfl))) (Or.inr (hw _ (List.mem_of_getElem? (i := 79) rfl))) (by decide) (t := (.object "com/example/aturan/aturan/rules/ApduRule")) (t' := (.object "com/example/aturan/aturan/rules/IgnoreReason")) (by decide) (by decide)))
  have f116 := f102.other W106 (Or.inr (slot_ne (Or.inr (hw _ (List.mem_of_getElem? (i := 75) rfl))) (Or.inr (hw _ (List.mem_of_getElem? (i := 79) rfl))) (by decide) (t := (.object "com/example/aturan/aturan/rules/Access")) (t' := (.object "com/example/aturan/aturan/rules/IgnoreReason")) (by decide) (by decide)))
  have f117 := F91.other W106 (Or.inr (slot_ne (Or.inr (hw _ (List.mem_of_getElem? (i := 77) rfl))) (Or.inr (hw _ (List.mem_of_getElem? (i := 79) rfl))) (by decide) (t := (.object "java/util/OptionalLong")) (t' := (.object "com/example/aturan/aturan/rules/IgnoreReason")) (by decide) (by decide)))
  have K118 : Keep h0 h106 [x0] := K103.wr W106 (Or.inl (List.mem_of_getElem? (i := 0) rfl))
  have Z119 : n0 ≤ h106.size := Nat.le_trans Z104 (Keep.of_wr W106).1
  have N120 := Fr.snoc X106 N105 p_8
  refine own_step (st' := T106.setTop (mkF m 71 #[.val (.ref x0), .val .null, .val (.ref x2), .val .null, .val .null, .val .null, .val (.ref x6), .val (.ref x7)] [])) st106 ?_
  refine own_ret X106 Bd.notSynchronized (none) (fun _ => rfl) (fun fs hr => X106.returnOut hx Bd.returns (hb hby d8_71) hr) ?_ (by decide) (by decide)
  rw [e106]
  exact ⟨b15, rfl, N120, K118, sz_b15, f113, f111, f112⟩
theorem d6_0 : decode prog_37_method_9_code 0 = .ok (.aload_n 0, 1) := by decide +kernel
theorem d6_1 : decode prog_37_method_9_code 1 = .ok (.getfield 39, 3) := by decide +kernel
theorem d6_4 : decode prog_37_method_9_code 4 = .ok (.ifnonnull 20, 3) := by decide +kernel
theorem d6_24 : decode prog_37_method_9_code 24 = .ok (.aload_n 0, 1) := by decide +kernel
theorem d6_25 : decode prog_37_method_9_code 25 = .ok (.getfield 36, 3) := by decide +kernel
theorem d6_28 : decode prog_37_method_9_code 28 = .ok (.aload_n 0, 1) := by decide +kernel
theorem d6_29 : decode prog_37_method_9_code 29 = .ok (.getfield 39, 3) := by decide +kernel
theorem d6_32 : decode prog_37_method_9_code 32 = .ok (.invokestatic 108, 3) := by decide +kernel
theorem d6_35 : decode prog_37_method_9_code 35 = .ok (.astore_n 1, 1) := by decide +kernel
theorem d6_36 : decode prog_37_method_9_code 36 = .ok (.aload_n 1, 1) := by decide +kernel
theorem d6_37 : decode prog_37_method_9_code 37 = .ok (.ifnonnull 17, 3) := by decide +kernel
theorem d6_40 : decode prog_37_method_9_code 40 = .ok (.aload_n 0, 1) := by decide +kernel
theorem d6_41 : decode prog_37_method_9_code 41 = .ok (.getfield 13, 3) := by decide +kernel
theorem d6_44 : decode prog_37_method_9_code 44 = .ok (.invokevirtual 114, 3) := by decide +kernel
theorem d6_47 : decode prog_37_method_9_code 47 = .ok (.ifCond .eq 7, 3) := by decide +kernel
theorem d6_50 : decode prog_37_method_9_code 50 = .ok (.getstatic 118, 3) := by decide +kernel
theorem d6_53 : decode prog_37_method_9_code 53 = .ok (.astore_n 1, 1) := by decide +kernel
theorem d6_54 : decode prog_37_method_9_code 54 = .ok (.new 122, 3) := by decide +kernel
theorem d6_57 : decode prog_37_method_9_code 57 = .ok (.dup, 1) := by decide +kernel
theorem d6_58 : decode prog_37_method_9_code 58 = .ok (.aload_n 0, 1) := by decide +kernel
theorem d6_59 : decode prog_37_method_9_code 59 = .ok (.getfield 36, 3) := by decide +kernel
theorem d6_62 : decode prog_37_method_9_code 62 = .ok (.aload_n 0, 1) := by decide +kernel
theorem d6_63 : decode prog_37_method_9_code 63 = .ok (.getfield 39, 3) := by decide +kernel
theorem d6_66 : decode prog_37_method_9_code 66 = .ok (.aload_n 0, 1) := by decide +kernel
theorem d6_67 : decode prog_37_method_9_code 67 = .ok (.getfield 73, 3) := by decide +kernel
theorem d6_70 : decode prog_37_method_9_code 70 = .ok (.aload_n 0, 1) := by decide +kernel
theorem d6_71 : decode prog_37_method_9_code 71 = .ok (.getfield 87, 3) := by decide +kernel
theorem d6_74 : decode prog_37_method_9_code 74 = .ok (.aload_n 0, 1) := by decide +kernel
theorem d6_75 : decode prog_37_method_9_code 75 = .ok (.getfield 95, 3) := by decide +kernel
theorem d6_78 : decode prog_37_method_9_code 78 = .ok (.aload_n 0, 1) := by decide +kernel
theorem d6_79 : decode prog_37_method_9_code 79 = .ok (.getfield 13, 3) := by decide +kernel
theorem d6_82 : decode prog_37_method_9_code 82 = .ok (.aload_n 1, 1) := by decide +kernel
theorem d6_83 : decode prog_37_method_9_code 83 = .ok (.invokespecial 124, 3) := by decide +kernel
theorem d6_86 : decode prog_37_method_9_code 86 = .ok (.areturn, 1) := by decide +kernel
theorem ef_6_R (m : MethodId) (x0 : Addr) : entryFrame m #[(.ref x0)] 2 = mkF m 0 #[.val (.ref x0), .unset] [] := by first | (simp [entryFrame, mkF, argsToLocals, Value.category]; done) | rfl
def Q_rm6 (Z : State) (x0 : Addr) (cc : Addr) (k : ClassId) (n : Int32) (vs : List Value) (dv : Value) (oL : Addr) (aV : Addr) (kV : ClassId) (a1 : Addr) (a2 : Addr) (oE : Addr) (i1 : Addr) (i2 : Addr) (i3 : Addr) (h0 : Heap) (n0 : Nat) (v : Option Value) (h : Heap) (L : List Loc) : Prop := ∃ r : Addr, ∃ b : Addr, v = some (.ref r) ∧ Fr n0 L ∧ Keep h0 h [] ∧ h0.size ≤ r ∧ h0.size ≤ b ∧ r ≠ b ∧ Exa Z h r "com/example/aturan/aturan/rules/AccessRule" ∧ Fld Z h r "com/example/aturan/aturan/rules/AccessRule" "certificateHash" "[B" (.ref b) ∧ Arv Z h b k .byte n vs dv ∧ Exa Z h b "[B"
set_option maxRecDepth 65536 in
set_option maxHeartbeats 40000000 in
theorem rm6 (l : Launch) (Z : State) (a0 : Array Value) (hw : ∀ d ∈ tables_1, d.before a0 Z = true) (ws : List Jvm.Cond) (x0 : Addr) (cc : Addr) (k : ClassId) (n : Int32) (vs : List Value) (dv : Value) (oL : Addr) (aV : Addr) (kV : ClassId) (a1 : Addr) (a2 : Addr) (oE : Addr) (i1 : Addr) (i2 : Addr) (i3 : Addr) (h0 : Heap) (n0 : Nat) (Z0 : n0 ≤ h0.size) (O0 : Old Z n0 h0) (p_0 : Fld Z h0 x0 "com/example/aturan/aturan/rules/AraMRuleBuilder" "certificateHash" "[B" (.ref cc)) (p_1 : Fld Z h0 x0 "com/example/aturan/aturan/rules/AraMRuleBuilder" "permissions" "Ljava/util/OptionalLong;" (.ref oL)) (p_2 : Fld Z h0 x0 "com/example/aturan/aturan/rules/AraMRuleBuilder" "aid" "[B" .null) (p_3 : Fld Z h0 x0 "com/example/aturan/aturan/rules/AraMRuleBuilder" "packageName" "Ljava/lang/String;" .null) (p_4 : Fld Z h0 x0 "com/example/aturan/aturan/rules/AraMRuleBuilder" "apduRule" "Lcom/example/aturan/aturan/rules/ApduRule;" .null) (p_5 : Fld Z h0 x0 "com/example/aturan/aturan/rules/AraMRuleBuilder" "nfcRule" "Lcom/example/aturan/aturan/rules/Access;" .null) (p_6 : Arv Z h0 cc k .byte n vs dv) (p_7 : Exa Z h0 cc "[B") (p_8 : 0 ≤ n.toInt ∧ n.toInt ≤ 33) (p_9 : Sta Z Z.heap "java/util/OptionalLong" "EMPTY" "Ljava/util/OptionalLong;" (.ref oL)) (p_10 : Exa Z Z.heap oL "java/util/OptionalLong") (p_11 : Fld Z Z.heap oL "java/util/OptionalLong" "isPresent" "Z" (.int (0 : Int32))) (p_12 : Sta Z Z.heap "com/example/aturan/aturan/rules/HashAlgorithm" "$VALUES" "[Lcom/example/aturan/aturan/rules/HashAlgorithm;" (.ref aV)) (p_13 : Exa Z Z.heap aV "[Lcom/example/aturan/aturan/rules/HashAlgorithm;") (p_14 : Arv Z Z.heap aV kV (.object "com/example/aturan/aturan/rules/HashAlgorithm") (2 : Int32) [(.ref a1), (.ref a2)] .null) (p_15 : Fld Z Z.heap a1 "com/example/aturan/aturan/rules/HashAlgorithm" "length" "I" (.int (20 : Int32))) (p_16 : Fld Z Z.heap a2 "com/example/aturan/aturan/rules/HashAlgorithm" "length" "I" (.int (32 : Int32))) (p_17 : Exa Z Z.heap a1 "com/example/aturan/aturan/rules/HashAlgorithm") (p_18 : Exa Z Z.heap a2 "com/example/aturan/aturan/rules/HashAlgorithm") (p_19 : Sta Z Z.heap "java/util/Optional" "EMPTY" "Ljava/util/Optional;" (.ref oE)) (p_20 : Exa Z Z.heap oE "java/util/Optional") (p_21 : Fld Z Z.heap oE "java/util/Optional" "value" "Ljava/lang/Object;" .null) (p_22 : Sta Z Z.heap "com/example/aturan/aturan/rules/IgnoreReason" "EMPTY_CERTIFICATE_HASH" "Lcom/example/aturan/aturan/rules/IgnoreReason;" (.ref i1)) (p_23 : Sta Z Z.heap "com/example/aturan/aturan/rules/IgnoreReason" "NO_PERMISSION_MASK" "Lcom/example/aturan/aturan/rules/IgnoreReason;" (.ref i2)) (p_24 : Sta Z Z.heap "com/example/aturan/aturan/rules/IgnoreReason" "HASH_LENGTH" "Lcom/example/aturan/aturan/rules/IgnoreReason;" (.ref i3)) :
    MetFree l (⟨"com/example/aturan/aturan/rules/AraMRuleBuilder", "build", "()Lcom/example/aturan/aturan/rules/AccessRule;"⟩ : MethodName) (head1 (Jvm.Cond.code (⟨"com/example/aturan/aturan/rules/AraMRuleBuilder", "build", "()Lcom/example/aturan/aturan/rules/AccessRule;"⟩ : MethodName) prog_37_method_9_code 2 (some (.object "com/example/aturan/aturan/rules/AccessRule")) :: ws) ({ frames := 5, cells := 4, slots := 43, locals := 68 } : Room)) (fun a U => a = #[(.ref x0)] ∧ Z.Warmed39 U.vm ∧ U.heap = h0) (fun _ _ _ _ _ => True) (fun _ U o U' => ∃ v L, o = .returned v ∧ Q_rm6 Z x0 cc k n vs dv oL aV kV a1 a2 oE i1 i2 i3 h0 n0 v U'.heap L ∧ FrameEnd U o U' L ({ frames := 5, cells := 4, slots := 43, locals := 68 } : Room).cells ({ frames := 5, cells := 4, slots := 43, locals := 68 } : Room).slots) := by
  refine MetFree.of_bodySF (plainFor_of_name pn_1) hisR ?_
  intro p e s m args below meth c s₁ Bd hml0 hP hK
  obtain ⟨rfl, hZ, hh⟩ := hP
  have hx := Bd.exec
  have hby := Bd.bytes
  have hml : c.maxLocals = 2 := hml0
  have hown : s.vm.findClass "com/example/aturan/aturan/rules/AraMRuleBuilder" = some m.cls := findClass_of_methodNamed Bd.named
  have hnm := (name_of_methodNamed Bd.named Bd.method).1
  have X0 : Stand p l e ({ frames := 5, cells := 4, slots := 43, locals := 68 } : Room) s m #[(.ref x0)] below meth c s₁ [] 0 0 := Stand.of_body Bd
  have e0 : s₁.heap = h0 := by rw [← hh, Bd.state]; rfl
  have N0 := Fr.nil n0
  show own_Ends p e below s ({ frames := 5, cells := 4, slots := 43, locals := 68 } : Room).cells ({ frames := 5, cells := 4, slots := 43, locals := 68 } : Room).slots (Q_rm6 Z x0 cc k n vs dv oL aV kV a1 a2 oE i1 i2 i3 h0 n0) (s₁.setTop (entryFrame m #[(.ref x0)] 2))
  rw [ef_6_R]
  refine own_step (st' := s₁.setTop (mkF m 1 #[.val (.ref x0), .unset] [(.ref x0)])) (fun t k => XS.aloadN X0.here hx rfl (hb hby d6_0) rfl rfl k) ?_
  obtain ⟨T1, X1, e1, st1⟩ := getF X0 hx hZ hown (host := "") (Or.inl (hw _ (List.mem_of_getElem? (i := 36) rfl))) Via.refl e0 p_0 (g := (mkF m 1 #[.val (.ref x0), .unset] [(.ref x0)])) rfl rfl (hb hby d6_1)
  refine own_step (st' := T1.setTop (mkF m 4 #[.val (.ref x0), .unset] [(.ref cc)])) st1 ?_
  refine own_step (st' := T1.setTop (mkF m 24 #[.val (.ref x0), .unset] [])) (fun t k => XS.ifnonnullYes X1.here hx rfl (pc0 := 4) (pc' := 24) rfl (hb hby d6_4) rfl (by decide) (by decide) k) ?_
  refine own_step (st' := T1.setTop (mkF m 25 #[.val (.ref x0), .unset] [(.ref x0)])) (fun t k => XS.aloadN X1.here hx rfl (hb hby d6_24) rfl rfl k) ?_
  obtain ⟨T2, X2, e2, st2⟩ := getF X1 hx hZ hown (host := "") (Or.inl (hw _ (List.mem_of_getElem? (i := 43) rfl))) Via.refl e1 p_2 (g := (mkF m 25 #[.val (.ref x0), .unset] [(.ref x0)])) rfl rfl (hb hby d6_25)
  refine own_step (st' := T2.setTop (mkF m 28 #[.val (.ref x0), .unset] [.null])) st2 ?_
  refine own_step (st' := T2.setTop (mkF m 29 #[.val (.ref x0), .unset] [(.ref x0), .null])) (fun t k => XS.aloadN X2.here hx rfl (hb hby d6_28) rfl rfl k) ?_
  obtain ⟨T3, X3, e3, st3⟩ := getF X2 hx hZ hown (host := "") (Or.inl (hw _ (List.mem_of_getElem? (i := 36) rfl))) Via.refl e2 p_0 (g := (mkF m 29 #[.val (.ref x0), .unset] [(.ref x0), .null])) rfl rfl (hb hby d6_29)
  refine own_step (st' := T3.setTop (mkF m 32 #[.val (.ref x0), .unset] [(.ref cc), .null])) st3 ?_
  obtain ⟨_, _, ⟨T4, L4, k4, n4⟩, -, X4, ⟨Lc4, hQ4, l4, y4, z4⟩, st4⟩ := Jvm.LawKit.callS X3 hx (y := (⟨"com/example/aturan/aturan/rules/IgnoreReason", "firstFor", "([B[B)Lcom/example/aturan/aturan/rules/IgnoreReason;"⟩ : MethodName)) hown (mvT hZ (hw _ (List.mem_of_getElem? (i := 45) rfl))) (mvT hZ (hw _ (List.mem_of_getElem? (i := 46) rfl))) (mvT hZ (hw _ (List.mem_of_getElem? (i := 47) rfl))) (mvT hZ (hw _ (List.mem_of_getElem? (i := 48) rfl))) (by decide) (backOf (W := 0) (rm7 l Z a0 hw [] cc k n vs dv aV kV a1 a2 oE i1 i2 i3 h0 n0 Z0 O0 p_6 p_12 p_13 p_14 p_15 p_16 p_17 p_18 p_19 p_20 p_21 p_22 p_23 p_24) hZ (hw _ (List.mem_of_getElem? (i := 48) rfl)) (hw _ (List.mem_of_getElem? (i := 47) rfl)) (by decide) (by decide)) (g := (mkF m 32 #[.val (.ref x0), .unset] [(.ref cc), .null])) rfl (by rw [hml]; rfl) (argsL := [.null, (.ref cc)]) (rest := []) (lenOf pd_6 rfl) rfl (by show 2 * 0 + _ ≤ _; exact Nat.le_of_eq rfl) (hb hby d6_32) (fun _ _ => ⟨rfl, e3, (by decide : 0 + 2 ≤ _), (by decide : 0 + 3 ≤ _)⟩)
  dsimp only [Pt.U, Pt.locs, Pt.cells, Pt.slots] at X4 l4 y4 z4 st4 hQ4
  subst l4 y4 z4
  obtain ⟨r_4, rfl, N4q, K4, pq4_0⟩ := hQ4
  have N4 := Fr.app N0 N4q
  obtain ⟨h4, e4⟩ : ∃ z, T4.heap = z := ⟨_, rfl⟩
  rw [e4] at K4
  have f5 := p_0.keep K4 nin0
  have f6 := p_1.keep K4 nin0
  have f7 := p_2.keep K4 nin0
  have f8 := p_3.keep K4 nin0
  have f9 := p_4.keep K4 nin0
  have f10 := p_5.keep K4 nin0
  have f11 := p_6.keep K4 nin0
  have f12 := p_7.keep K4
  have O13 := O0.keep K4 all0
  have K14 : Keep h0 h4 [] := (Keep.refl h0 []).trans K4 all0
  have Z15 : n0 ≤ h4.size := Nat.le_trans Z0 K4.1
  refine own_step (st' := T4.setTop (mkF m 35 #[.val (.ref x0), .unset] [r_4])) st4 ?_
  rcases pq4_0 with rfl | ⟨rq, rfl⟩
  · refine own_step (st' := T4.setTop (mkF m 36 #[.val (.ref x0), .val .null] [])) (fun t k => XS.astoreN X4.here hx rfl (hb hby d6_35) rfl rfl (l' := #[.val (.ref x0), .val .null]) rfl k) ?_
    refine own_step (st' := T4.setTop (mkF m 37 #[.val (.ref x0), .val .null] [.null])) (fun t k => XS.aloadN X4.here hx rfl (hb hby d6_36) rfl rfl k) ?_
    refine own_step (st' := T4.setTop (mkF m 40 #[.val (.ref x0), .val .null] [])) (fun t k => XS.ifnonnullNo X4.here hx rfl (hb hby d6_37) rfl k) ?_
    refine own_step (st' := T4.setTop (mkF m 41 #[.val (.ref x0), .val .null] [(.ref x0)])) (fun t k => XS.aloadN X4.here hx rfl (hb hby d6_40) rfl rfl k) ?_
    obtain ⟨T16, X16, e16, st16⟩ := getF X4 hx hZ hown (host := "") (Or.inl (hw _ (List.mem_of_getElem? (i := 20) rfl))) Via.refl e4 f6 (g := (mkF m 41 #[.val (.ref x0), .val .null] [(.ref x0)])) rfl rfl (hb hby d6_41)
    refine own_step (st' := T16.setTop (mkF m 44 #[.val (.ref x0), .val .null] [(.ref oL)])) st16 ?_
    obtain ⟨cq17, kq17, q17a, q17b, q17c⟩ := isOf hZ e16 (p_10.ext O13.2)
    obtain ⟨_, _, ⟨T17, L17, k17, n17⟩, -, X17, ⟨Lc17, hQ17, l17, y17, z17⟩, st17⟩ := X16.virtualBack hx (y := (⟨"java/util/OptionalLong", "isEmpty", "()Z"⟩ : MethodName)) (z := (⟨"java/util/OptionalLong", "isEmpty", "()Z"⟩ : MethodName)) hown (mvT hZ (hw _ (List.mem_of_getElem? (i := 161) rfl))) (mvT hZ (hw _ (List.mem_of_getElem? (i := 162) rfl))) (notFace_of_selects (args := #[]) (mvT hZ (hw _ (List.mem_of_getElem? (i := 164) rfl)))) (mvT hZ (hw _ (List.mem_of_getElem? (i := 164) rfl))) (mvT hZ (hw _ (List.mem_of_getElem? (i := 163) rfl))) (by decide) (backOf (W := 0) (rm22 l Z a0 hw [] oL h4 n0 Z15 (p_11.ext O13.2)) hZ (hw _ (List.mem_of_getElem? (i := 165) rfl)) (hw _ (List.mem_of_getElem? (i := 17) rfl)) (by decide) (by decide)) q17a q17c (g := (mkF m 44 #[.val (.ref x0), .val .null] [(.ref oL)])) rfl (by rw [hml]; rfl) (Steps.refl _) (argsL := []) (rest := []) (lenOf pd_13 rfl) rfl (by show 2 * 0 + _ ≤ _; exact Nat.le_of_eq rfl) (hb hby d6_44) (fun _ _ => ⟨rfl, e16, (by decide : 2 + 0 ≤ _), (by decide : 3 + 0 ≤ _)⟩)
    dsimp only [Pt.U, Pt.locs, Pt.cells, Pt.slots] at X17 l17 y17 z17 st17 hQ17
    subst l17 y17 z17
    obtain ⟨rfl, N17q, e17⟩ := hQ17
    have N17 := Fr.app N4 N17q
    refine own_step (st' := T17.setTop (mkF m 47 #[.val (.ref x0), .val .null] [(.int (1 : Int32))])) (fun t k => st17.trans k) ?_
    refine own_step (st' := T17.setTop (mkF m 50 #[.val (.ref x0), .val .null] [])) (fun t k => XS.ifNo X17.here hx rfl (hb hby d6_47) rfl ((if0 _ _).trans (feq (by decide)).1) k) ?_
    obtain ⟨T18, X18, e18, st18⟩ := getS2 X17 hx hZ hown (host := "") (Or.inl (hw _ (List.mem_of_getElem? (i := 168) rfl))) Via.refl e17 (p_23.ext O13.2) (g := (mkF m 50 #[.val (.ref x0), .val .null] [])) rfl (hb hby d6_50)
    refine own_step (st' := T18.setTop (mkF m 53 #[.val (.ref x0), .val .null] [(.ref i2)])) st18 ?_
    refine own_step (st' := T18.setTop (mkF m 54 #[.val (.ref x0), .val (.ref i2)] [])) (fun t k => XS.astoreN X18.here hx rfl (hb hby d6_53) rfl rfl (l' := #[.val (.ref x0), .val (.ref i2)]) rfl k) ?_
    obtain ⟨T19, h19, X19, e19, E19, A19, D19, -, st19⟩ := newO X18 hx hZ hown (hw _ (List.mem_of_getElem? (i := 51) rfl)) (hw _ (List.mem_of_getElem? (i := 52) rfl)) (hw _ (List.mem_of_getElem? (i := 53) rfl)) e18 (g := (mkF m 54 #[.val (.ref x0), .val (.ref i2)] [])) rfl (hb hby d6_54) (by decide) (by decide)
    obtain ⟨b19, g19⟩ : ∃ z, z = h4.size := ⟨_, rfl⟩
    rw [← g19] at A19 D19 st19
    have ne20 : x0 ≠ b19 := Nat.ne_of_lt (Nat.lt_of_lt_of_le f5.lt (Nat.le_of_eq g19.symm))
    have ne21 : cc ≠ b19 := Nat.ne_of_lt (Nat.lt_of_lt_of_le f11.lt (Nat.le_of_eq g19.symm))
    have ne22 : oL ≠ b19 := Nat.ne_of_lt (Nat.lt_of_lt_of_le (p_10.ext O13.2).lt (Nat.le_of_eq g19.symm))
    have ne23 : aV ≠ b19 := Nat.ne_of_lt (Nat.lt_of_lt_of_le (p_13.ext O13.2).lt (Nat.le_of_eq g19.symm))
    have ne24 : a1 ≠ b19 := Nat.ne_of_lt (Nat.lt_of_lt_of_le (p_15.ext O13.2).lt (Nat.le_of_eq g19.symm))
    have ne25 : a2 ≠ b19 := Nat.ne_of_lt (Nat.lt_of_lt_of_le (p_16.ext O13.2).lt (Nat.le_of_eq g19.symm))
    have ne26 : oE ≠ b19 := Nat.ne_of_lt (Nat.lt_of_lt_of_le (p_20.ext O13.2).lt (Nat.le_of_eq g19.symm))
    have g_b19 : n0 ≤ b19 := Nat.le_trans Z15 (Nat.le_of_eq g19.symm)
    have sz_b19 : h0.size ≤ b19 := Nat.le_trans K14.1 (Nat.le_of_eq g19.symm)
    have f27 := f5.ext E19
    have f28 := f6.ext E19
    have f29 := f7.ext E19
    have f30 := f8.ext E19
    have f31 := f9.ext E19
    have f32 := f10.ext E19
    have f33 := f11.ext E19
    have f34 := f12.ext E19
    have O35 := O13.ext E19
    have K36 : Keep h0 h19 [] := K14.ext E19
    have Z37 : n0 ≤ h19.size := Nat.le_trans Z15 E19.1
    have f38 : Fld Z h19 b19 "com/example/aturan/aturan/rules/AccessRule" "aid" "[B" .null := D19 (Or.inr (hw _ (List.mem_of_getElem? (i := 65) rfl))) (ty := (.array .byte)) (by decide)
    have f39 : Fld Z h19 b19 "com/example/aturan/aturan/rules/AccessRule" "certificateHash" "[B" .null := D19 (Or.inr (hw _ (List.mem_of_getElem? (i := 69) rfl))) (ty := (.array .byte)) (by decide)
    have f40 : Fld Z h19 b19 "com/example/aturan/aturan/rules/AccessRule" "packageName" "Ljava/lang/String;" .null := D19 (Or.inr (hw _ (List.mem_of_getElem? (i := 71) rfl))) (ty := (.object "java/lang/String")) (by decide)
    have f41 : Fld Z h19 b19 "com/example/aturan/aturan/rules/AccessRule" "apduRule" "Lcom/example/aturan/aturan/rules/ApduRule;" .null := D19 (Or.inr (hw _ (List.mem_of_getElem? (i := 73) rfl))) (ty := (.object "com/example/aturan/aturan/rules/ApduRule")) (by decide)
    have f42 : Fld Z h19 b19 "com/example/aturan/aturan/rules/AccessRule" "nfcRule" "Lcom/example/aturan/aturan/rules/Access;" .null := D19 (Or.inr (hw _ (List.mem_of_getElem? (i := 75) rfl))) (ty := (.object "com/example/aturan/aturan/rules/Access")) (by decide)
    have f43 : Fld Z h19 b19 "com/example/aturan/aturan/rules/AccessRule" "permissions" "Ljava/util/OptionalLong;" .null := D19 (Or.inr (hw _ (List.mem_of_getElem? (i := 77) rfl))) (ty := (.object "java/util/OptionalLong")) (by decide)
    have f44 : Fld Z h19 b19 "com/example/aturan/aturan/rules/AccessRule" "ignoreReason" "Lcom/example/aturan/aturan/rules/IgnoreReason;" .null := D19 (Or.inr (hw _ (List.mem_of_getElem? (i := 79) rfl))) (ty := (.object "com/example/aturan/aturan/rules/IgnoreReason")) (by decide)
    refine own_step (st' := T19.setTop (mkF m 57 #[.val (.ref x0), .val (.ref i2)] [(.ref b19)])) st19 ?_
    refine own_step (st' := T19.setTop (mkF m 58 #[.val (.ref x0), .val (.ref i2)] [(.ref b19), (.ref b19)])) (fun t k => XS.dup X19.here hx rfl (hb hby d6_57) rfl rfl k) ?_
    refine own_step (st' := T19.setTop (mkF m 59 #[.val (.ref x0), .val (.ref i2)] [(.ref x0), (.ref b19), (.ref b19)])) (fun t k => XS.aloadN X19.here hx rfl (hb hby d6_58) rfl rfl k) ?_
    obtain ⟨T45, X45, e45, st45⟩ := getF X19 hx hZ hown (host := "") (Or.inl (hw _ (List.mem_of_getElem? (i := 43) rfl))) Via.refl e19 f29 (g := (mkF m 59 #[.val (.ref x0), .val (.ref i2)] [(.ref x0), (.ref b19), (.ref b19)])) rfl rfl (hb hby d6_59)
    refine own_step (st' := T45.setTop (mkF m 62 #[.val (.ref x0), .val (.ref i2)] [.null, (.ref b19), (.ref b19)])) st45 ?_
    refine own_step (st' := T45.setTop (mkF m 63 #[.val (.ref x0), .val (.ref i2)] [(.ref x0), .null, (.ref b19), (.ref b19)])) (fun t k => XS.aloadN X45.here hx rfl (hb hby d6_62) rfl rfl k) ?_
    obtain ⟨T46, X46, e46, st46⟩ := getF X45 hx hZ hown (host := "") (Or.inl (hw _ (List.mem_of_getElem? (i := 36) rfl))) Via.refl e45 f27 (g := (mkF m 63 #[.val (.ref x0), .val (.ref i2)] [(.ref x0), .null, (.ref b19), (.ref b19)])) rfl rfl (hb hby d6_63)
    refine own_step (st' := T46.setTop (mkF m 66 #[.val (.ref x0), .val (.ref i2)] [(.ref cc), .null, (.ref b19), (.ref b19)])) st46 ?_
    refine own_step (st' := T46.setTop (mkF m 67 #[.val (.ref x0), .val (.ref i2)] [(.ref x0), (.ref cc), .null, (.ref b19), (.ref b19)])) (fun t k => XS.aloadN X46.here hx rfl (hb hby d6_66) rfl rfl k) ?_
    obtain ⟨T47, X47, e47, st47⟩ := getF X46 hx hZ hown (host := "") (Or.inl (hw _ (List.mem_of_getElem? (i := 54) rfl))) Via.refl e46 f30 (g := (mkF m 67 #[.val (.ref x0), .val (.ref i2)] [(.ref x0), (.ref cc), .null, (.ref b19), (.ref b19)])) rfl rfl (hb hby d6_67)
    refine own_step (st' := T47.setTop (mkF m 70 #[.val (.ref x0), .val (.ref i2)] [.null, (.ref cc), .null, (.ref b19), (.ref b19)])) st47 ?_
    refine own_step (st' := T47.setTop (mkF m 71 #[.val (.ref x0), .val (.ref i2)] [(.ref x0), .null, (.ref cc), .null, (.ref b19), (.ref b19)])) (fun t k => XS.aloadN X47.here hx rfl (hb hby d6_70) rfl rfl k) ?_
    obtain ⟨T48, X48, e48, st48⟩ := getF X47 hx hZ hown (host := "") (Or.inl (hw _ (List.mem_of_getElem? (i := 56) rfl))) Via.refl e47 f31 (g := (mkF m 71 #[.val (.ref x0), .val (.ref i2)] [(.ref x0), .null, (.ref cc), .null, (.ref b19), (.ref b19)])) rfl rfl (hb hby d6_71)
    refine own_step (st' := T48.setTop (mkF m 74 #[.val (.ref x0), .val (.ref i2)] [.null, .null, (.ref cc), .null, (.ref b19), (.ref b19)])) st48 ?_
    refine own_step (st' := T48.setTop (mkF m 75 #[.val (.ref x0), .val (.ref i2)] [(.ref x0), .null, .null, (.ref cc), .null, (.ref b19), (.ref b19)])) (fun t k => XS.aloadN X48.here hx rfl (hb hby d6_74) rfl rfl k) ?_
    obtain ⟨T49, X49, e49, st49⟩ := getF X48 hx hZ hown (host := "") (Or.inl (hw _ (List.mem_of_getElem? (i := 58) rfl))) Via.refl e48 f32 (g := (mkF m 75 #[.val (.ref x0), .val (.ref i2)] [(.ref x0), .null, .null, (.ref cc), .null, (.ref b19), (.ref b19)])) rfl rfl (hb hby d6_75)
    refine own_step (st' := T49.setTop (mkF m 78 #[.val (.ref x0), .val (.ref i2)] [.null, .null, .null, (.ref cc), .null, (.ref b19), (.ref b19)])) st49 ?_
    refine own_step (st' := T49.setTop (mkF m 79 #[.val (.ref x0), .val (.ref i2)] [(.ref x0), .null, .null, .null, (.ref cc), .null, (.ref b19), (.ref b19)])) (fun t k => XS.aloadN X49.here hx rfl (hb hby d6_78) rfl rfl k) ?_
    obtain ⟨T50, X50, e50, st50⟩ := getF X49 hx hZ hown (host := "") (Or.inl (hw _ (List.mem_of_getElem? (i := 20) rfl))) Via.refl e49 f28 (g := (mkF m 79 #[.val (.ref x0), .val (.ref i2)] [(.ref x0), .null, .null, .null, (.ref cc), .null, (.ref b19), (.ref b19)])) rfl rfl (hb hby d6_79)
    refine own_step (st' := T50.setTop (mkF m 82 #[.val (.ref x0), .val (.ref i2)] [(.ref oL), .null, .null, .null, (.ref cc), .null, (.ref b19), (.ref b19)])) st50 ?_
    refine own_step (st' := T50.setTop (mkF m 83 #[.val (.ref x0), .val (.ref i2)] [(.ref i2), (.ref oL), .null, .null, .null, (.ref cc), .null, (.ref b19), (.ref b19)])) (fun t k => XS.aloadN X50.here hx rfl (hb hby d6_82) rfl rfl k) ?_
    obtain ⟨_, _, ⟨T51, L51, k51, n51⟩, -, X51, ⟨Lc51, hQ51, l51, y51, z51⟩, st51⟩ := X50.specialBack hx (y := (⟨"com/example/aturan/aturan/rules/AccessRule", "<init>", "([B[BLjava/lang/String;Lcom/example/aturan/aturan/rules/ApduRule;Lcom/example/aturan/aturan/rules/Access;Ljava/util/OptionalLong;Lcom/example/aturan/aturan/rules/IgnoreReason;)V"⟩ : MethodName)) rfl hown (mvT hZ (hw _ (List.mem_of_getElem? (i := 60) rfl))) (mvT hZ (hw _ (List.mem_of_getElem? (i := 61) rfl))) (mvT hZ (hw _ (List.mem_of_getElem? (i := 62) rfl))) (by decide) (backOf (W := 1) (rm8 l Z a0 hw [] b19 cc oL i2 k n vs dv h19 n0 Z37 f38 f39 f40 f41 f42 f43 f44 A19 g_b19 ne21 f33 f34 p_8) hZ (hw _ (List.mem_of_getElem? (i := 62) rfl)) (hw _ (List.mem_of_getElem? (i := 53) rfl)) (by decide) (by decide)) (g := (mkF m 83 #[.val (.ref x0), .val (.ref i2)] [(.ref i2), (.ref oL), .null, .null, .null, (.ref cc), .null, (.ref b19), (.ref b19)])) rfl (by rw [hml]; rfl) (Steps.refl _) (a := b19) (argsL := [.null, (.ref cc), .null, .null, .null, (.ref oL), (.ref i2)]) (rest := [(.ref b19)]) (lenOf pd_7 rfl) rfl (by show 2 * 0 + _ ≤ _; exact Nat.le_of_eq rfl) (hb hby d6_83) (fun _ _ => ⟨rfl, e50, (by decide : 3 + 1 ≤ _), (by decide : 10 + 33 ≤ _)⟩)
    dsimp only [Pt.U, Pt.locs, Pt.cells, Pt.slots] at X51 l51 y51 z51 st51 hQ51
    subst l51 y51 z51
    obtain ⟨b_51, rfl, N51q, K51, pq51_0, pq51_1, pq51_2, pq51_3⟩ := hQ51
    have N51 := Fr.app N17 N51q
    obtain ⟨h51, e51⟩ : ∃ z, T51.heap = z := ⟨_, rfl⟩
    rw [e51] at K51 pq51_1 pq51_2 pq51_3
    have ne52 : x0 ≠ b_51 := Nat.ne_of_lt (Nat.lt_of_lt_of_le f27.lt pq51_0)
    have ne53 : cc ≠ b_51 := Nat.ne_of_lt (Nat.lt_of_lt_of_le f33.lt pq51_0)
    have ne54 : oL ≠ b_51 := Nat.ne_of_lt (Nat.lt_of_lt_of_le (p_10.ext O35.2).lt pq51_0)
    have ne55 : aV ≠ b_51 := Nat.ne_of_lt (Nat.lt_of_lt_of_le (p_13.ext O35.2).lt pq51_0)
    have ne56 : a1 ≠ b_51 := Nat.ne_of_lt (Nat.lt_of_lt_of_le (p_15.ext O35.2).lt pq51_0)
    have ne57 : a2 ≠ b_51 := Nat.ne_of_lt (Nat.lt_of_lt_of_le (p_16.ext O35.2).lt pq51_0)
    have ne58 : oE ≠ b_51 := Nat.ne_of_lt (Nat.lt_of_lt_of_le (p_20.ext O35.2).lt pq51_0)
    have ne59 : b19 ≠ b_51 := Nat.ne_of_lt (Nat.lt_of_lt_of_le A19.lt pq51_0)
    have g_b_51 : n0 ≤ b_51 := Nat.le_trans Z37 pq51_0
    have sz_b_51 : h0.size ≤ b_51 := Nat.le_trans K36.1 pq51_0
    have f60 := f27.keep K51 (ninS ne20 nin0)
    have f61 := f28.keep K51 (ninS ne20 nin0)
    have f62 := f29.keep K51 (ninS ne20 nin0)
    have f63 := f30.keep K51 (ninS ne20 nin0)
    have f64 := f31.keep K51 (ninS ne20 nin0)
    have f65 := f32.keep K51 (ninS ne20 nin0)
    have f66 := f33.keep K51 (ninS ne21 nin0)
    have f67 := f34.keep K51
    have f68 := A19.keep K51
    have O69 := O35.keep K51 (allS g_b19 all0)
    have K70 : Keep h0 h51 [] := K36.trans K51 (allS (Or.inr sz_b19) all0)
    have Z71 : n0 ≤ h51.size := Nat.le_trans Z37 K51.1
    refine own_step (st' := T51.setTop (mkF m 86 #[.val (.ref x0), .val (.ref i2)] [(.ref b19)])) (fun t k => st51.trans k) ?_
    refine own_ret X51 Bd.notSynchronized (some (.ref b19)) (fun h => by rw [Bd.returns] at h; cases h) (fun fs hr => retOut X51 hx Bd.returns rfl (Or.inr (Or.inr (Or.inr (Or.inr ⟨rfl, rfl, rfl⟩)))) (hb hby d6_86) hr) ?_ (by decide) (by decide)
    rw [e51]
    exact ⟨b19, b_51, rfl, N51, K70, sz_b19, sz_b_51, ne59, f68, pq51_1, pq51_2, pq51_3⟩
  · refine own_step (st' := T4.setTop (mkF m 36 #[.val (.ref x0), .val (.ref rq)] [])) (fun t k => XS.astoreN X4.here hx rfl (hb hby d6_35) rfl rfl (l' := #[.val (.ref x0), .val (.ref rq)]) rfl k) ?_
    refine own_step (st' := T4.setTop (mkF m 37 #[.val (.ref x0), .val (.ref rq)] [(.ref rq)])) (fun t k => XS.aloadN X4.here hx rfl (hb hby d6_36) rfl rfl k) ?_
    refine own_step (st' := T4.setTop (mkF m 54 #[.val (.ref x0), .val (.ref rq)] [])) (fun t k => XS.ifnonnullYes X4.here hx rfl (pc0 := 37) (pc' := 54) rfl (hb hby d6_37) rfl (by decide) (by decide) k) ?_
    obtain ⟨T72, h72, X72, e72, E72, A72, D72, -, st72⟩ := newO X4 hx hZ hown (hw _ (List.mem_of_getElem? (i := 51) rfl)) (hw _ (List.mem_of_getElem? (i := 52) rfl)) (hw _ (List.mem_of_getElem? (i := 53) rfl)) e4 (g := (mkF m 54 #[.val (.ref x0), .val (.ref rq)] [])) rfl (hb hby d6_54) (by decide) (by decide)
    obtain ⟨b72, g72⟩ : ∃ z, z = h4.size := ⟨_, rfl⟩
    rw [← g72] at A72 D72 st72
    have ne73 : x0 ≠ b72 := Nat.ne_of_lt (Nat.lt_of_lt_of_le f5.lt (Nat.le_of_eq g72.symm))
    have ne74 : cc ≠ b72 := Nat.ne_of_lt (Nat.lt_of_lt_of_le f11.lt (Nat.le_of_eq g72.symm))
    have ne75 : oL ≠ b72 := Nat.ne_of_lt (Nat.lt_of_lt_of_le (p_10.ext O13.2).lt (Nat.le_of_eq g72.symm))
    have ne76 : aV ≠ b72 := Nat.ne_of_lt (Nat.lt_of_lt_of_le (p_13.ext O13.2).lt (Nat.le_of_eq g72.symm))
    have ne77 : a1 ≠ b72 := Nat.ne_of_lt (Nat.lt_of_lt_of_le (p_15.ext O13.2).lt (Nat.le_of_eq g72.symm))
    have ne78 : a2 ≠ b72 := Nat.ne_of_lt (Nat.lt_of_lt_of_le (p_16.ext O13.2).lt (Nat.le_of_eq g72.symm))
    have ne79 : oE ≠ b72 := Nat.ne_of_lt (Nat.lt_of_lt_of_le (p_20.ext O13.2).lt (Nat.le_of_eq g72.symm))
    have g_b72 : n0 ≤ b72 := Nat.le_trans Z15 (Nat.le_of_eq g72.symm)
    have sz_b72 : h0.size ≤ b72 := Nat.le_trans K14.1 (Nat.le_of_eq g72.symm)
    have f80 := f5.ext E72
    have f81 := f6.ext E72
    have f82 := f7.ext E72
    have f83 := f8.ext E72
    have f84 := f9.ext E72
    have f85 := f10.ext E72
    have f86 := f11.ext E72
    have f87 := f12.ext E72
    have O88 := O13.ext E72
    have K89 : Keep h0 h72 [] := K14.ext E72
    have Z90 : n0 ≤ h72.size := Nat.le_trans Z15 E72.1
    have f91 : Fld Z h72 b72 "com/example/aturan/aturan/rules/AccessRule" "aid" "[B" .null := D72 (Or.inr (hw _ (List.mem_of_getElem? (i := 65) rfl))) (ty := (.array .byte)) (by decide)
    have f92 : Fld Z h72 b72 "com/example/aturan/aturan/rules/AccessRule" "certificateHash" "[B" .null := D72 (Or.inr (hw _ (List.mem_of_getElem? (i := 69) rfl))) (ty := (.array .byte)) (by decide)
    have f93 : Fld Z h72 b72 "com/example/aturan/aturan/rules/AccessRule" "packageName" "Ljava/lang/String;" .null := D72 (Or.inr (hw _ (List.mem_of_getElem? (i := 71) rfl))) (ty := (.object "java/lang/String")) (by decide)
    have f94 : Fld Z h72 b72 "com/example/aturan/aturan/rules/AccessRule" "apduRule" "Lcom/example/aturan/aturan/rules/ApduRule;" .null := D72 (Or.inr (hw _ (List.mem_of_getElem? (i := 73) rfl))) (ty := (.object "com/example/aturan/aturan/rules/ApduRule")) (by decide)
    have f95 : Fld Z h72 b72 "com/example/aturan/aturan/rules/AccessRule" "nfcRule" "Lcom/example/aturan/aturan/rules/Access;" .null := D72 (Or.inr (hw _ (List.mem_of_getElem? (i := 75) rfl))) (ty := (.object "com/example/aturan/aturan/rules/Access")) (by decide)
    have f96 : Fld Z h72 b72 "com/example/aturan/aturan/rules/AccessRule" "permissions" "Ljava/util/OptionalLong;" .null := D72 (Or.inr (hw _ (List.mem_of_getElem? (i := 77) rfl))) (ty := (.object "java/util/OptionalLong")) (by decide)
    have f97 : Fld Z h72 b72 "com/example/aturan/aturan/rules/AccessRule" "ignoreReason" "Lcom/example/aturan/aturan/rules/IgnoreReason;" .null := D72 (Or.inr (hw _ (List.mem_of_getElem? (i := 79) rfl))) (ty := (.object "com/example/aturan/aturan/rules/IgnoreReason")) (by decide)
    refine own_step (st' := T72.setTop (mkF m 57 #[.val (.ref x0), .val (.ref rq)] [(.ref b72)])) st72 ?_
    refine own_step (st' := T72.setTop (mkF m 58 #[.val (.ref x0), .val (.ref rq)] [(.ref b72), (.ref b72)])) (fun t k => XS.dup X72.here hx rfl (hb hby d6_57) rfl rfl k) ?_
    refine own_step (st' := T72.setTop (mkF m 59 #[.val (.ref x0), .val (.ref rq)] [(.ref x0), (.ref b72), (.ref b72)])) (fun t k => XS.aloadN X72.here hx rfl (hb hby d6_58) rfl rfl k) ?_
    obtain ⟨T98, X98, e98, st98⟩ := getF X72 hx hZ hown (host := "") (Or.inl (hw _ (List.mem_of_getElem? (i := 43) rfl))) Via.refl e72 f82 (g := (mkF m 59 #[.val (.ref x0), .val (.ref rq)] [(.ref x0), (.ref b72), (.ref b72)])) rfl rfl (hb hby d6_59)
    refine own_step (st' := T98.setTop (mkF m 62 #[.val (.ref x0), .val (.ref rq)] [.null, (.ref b72), (.ref b72)])) st98 ?_
    refine own_step (st' := T98.setTop (mkF m 63 #[.val (.ref x0), .val (.ref rq)] [(.ref x0), .null, (.ref b72), (.ref b72)])) (fun t k => XS.aloadN X98.here hx rfl (hb hby d6_62) rfl rfl k) ?_
    obtain ⟨T99, X99, e99, st99⟩ := getF X98 hx hZ hown (host := "") (Or.inl (hw _ (List.mem_of_getElem? (i := 36) rfl))) Via.refl e98 f80 (g := (mkF m 63 #[.val (.ref x0), .val (.ref rq)] [(.ref x0), .null, (.ref b72), (.ref b72)])) rfl rfl (hb hby d6_63)
    refine own_step (st' := T99.setTop (mkF m 66 #[.val (.ref x0), .val (.ref rq)] [(.ref cc), .null, (.ref b72), (.ref b72)])) st99 ?_
    refine own_step (st' := T99.setTop (mkF m 67 #[.val (.ref x0), .val (.ref rq)] [(.ref x0), (.ref cc), .null, (.ref b72), (.ref b72)])) (fun t k => XS.aloadN X99.here hx rfl (hb hby d6_66) rfl rfl k) ?_
    obtain ⟨T100, X100, e100, st100⟩ := getF X99 hx hZ hown (host := "") (Or.inl (hw _ (List.mem_of_getElem? (i := 54) rfl))) Via.refl e99 f83 (g := (mkF m 67 #[.val (.ref x0), .val (.ref rq)] [(.ref x0), (.ref cc), .null, (.ref b72), (.ref b72)])) rfl rfl (hb hby d6_67)
    refine own_step (st' := T100.setTop (mkF m 70 #[.val (.ref x0), .val (.ref rq)] [.null, (.ref cc), .null, (.ref b72), (.ref b72)])) st100 ?_
    refine own_step (st' := T100.setTop (mkF m 71 #[.val (.ref x0), .val (.ref rq)] [(.ref x0), .null, (.ref cc), .null, (.ref b72), (.ref b72)])) (fun t k => XS.aloadN X100.here hx rfl (hb hby d6_70) rfl rfl k) ?_
    obtain ⟨T101, X101, e101, st101⟩ := getF X100 hx hZ hown (host := "") (Or.inl (hw _ (List.mem_of_getElem? (i := 56) rfl))) Via.refl e100 f84 (g := (mkF m 71 #[.val (.ref x0), .val (.ref rq)] [(.ref x0), .null, (.ref cc), .null, (.ref b72), (.ref b72)])) rfl rfl (hb hby d6_71)
    refine own_step (st' := T101.setTop (mkF m 74 #[.val (.ref x0), .val (.ref rq)] [.null, .null, (.ref cc), .null, (.ref b72), (.ref b72)])) st101 ?_
    refine own_step (st' := T101.setTop (mkF m 75 #[.val (.ref x0), .val (.ref rq)] [(.ref x0), .null, .null, (.ref cc), .null, (.ref b72), (.ref b72)])) (fun t k => XS.aloadN X101.here hx rfl (hb hby d6_74) rfl rfl k) ?_
    obtain ⟨T102, X102, e102, st102⟩ := getF X101 hx hZ hown (host := "") (Or.inl (hw _ (List.mem_of_getElem? (i := 58) rfl))) Via.refl e101 f85 (g := (mkF m 75 #[.val (.ref x0), .val (.ref rq)] [(.ref x0), .null, .null, (.ref cc), .null, (.ref b72), (.ref b72)])) rfl rfl (hb hby d6_75)
    refine own_step (st' := T102.setTop (mkF m 78 #[.val (.ref x0), .val (.ref rq)] [.null, .null, .null, (.ref cc), .null, (.ref b72), (.ref b72)])) st102 ?_
    refine own_step (st' := T102.setTop (mkF m 79 #[.val (.ref x0), .val (.ref rq)] [(.ref x0), .null, .null, .null, (.ref cc), .null, (.ref b72), (.ref b72)])) (fun t k => XS.aloadN X102.here hx rfl (hb hby d6_78) rfl rfl k) ?_
    obtain ⟨T103, X103, e103, st103⟩ := getF X102 hx hZ hown (host := "") (Or.inl (hw _ (List.mem_of_getElem? (i := 20) rfl))) Via.refl e102 f81 (g := (mkF m 79 #[.val (.ref x0), .val (.ref rq)] [(.ref x0), .null, .null, .null, (.ref cc), .null, (.ref b72), (.ref b72)])) rfl rfl (hb hby d6_79)
    refine own_step (st' := T103.setTop (mkF m 82 #[.val (.ref x0), .val (.ref rq)] [(.ref oL), .null, .null, .null, (.ref cc), .null, (.ref b72), (.ref b72)])) st103 ?_
    refine own_step (st' := T103.setTop (mkF m 83 #[.val (.ref x0), .val (.ref rq)] [(.ref rq), (.ref oL), .null, .null, .null, (.ref cc), .null, (.ref b72), (.ref b72)])) (fun t k => XS.aloadN X103.here hx rfl (hb hby d6_82) rfl rfl k) ?_
    obtain ⟨_, _, ⟨T104, L104, k104, n104⟩, -, X104, ⟨Lc104, hQ104, l104, y104, z104⟩, st104⟩ := X103.specialBack hx (y := (⟨"com/example/aturan/aturan/rules/AccessRule", "<init>", "([B[BLjava/lang/String;Lcom/example/aturan/aturan/rules/ApduRule;Lcom/example/aturan/aturan/rules/Access;Ljava/util/OptionalLong;Lcom/example/aturan/aturan/rules/IgnoreReason;)V"⟩ : MethodName)) rfl hown (mvT hZ (hw _ (List.mem_of_getElem? (i := 60) rfl))) (mvT hZ (hw _ (List.mem_of_getElem? (i := 61) rfl))) (mvT hZ (hw _ (List.mem_of_getElem? (i := 62) rfl))) (by decide) (backOf (W := 1) (rm8 l Z a0 hw [] b72 cc oL rq k n vs dv h72 n0 Z90 f91 f92 f93 f94 f95 f96 f97 A72 g_b72 ne74 f86 f87 p_8) hZ (hw _ (List.mem_of_getElem? (i := 62) rfl)) (hw _ (List.mem_of_getElem? (i := 53) rfl)) (by decide) (by decide)) (g := (mkF m 83 #[.val (.ref x0), .val (.ref rq)] [(.ref rq), (.ref oL), .null, .null, .null, (.ref cc), .null, (.ref b72), (.ref b72)])) rfl (by rw [hml]; rfl) (Steps.refl _) (a := b72) (argsL := [.null, (.ref cc), .null, .null, .null, (.ref oL), (.ref rq)]) (rest := [(.ref b72)]) (lenOf pd_7 rfl) rfl (by show 2 * 0 + _ ≤ _; exact Nat.le_of_eq rfl) (hb hby d6_83) (fun _ _ => ⟨rfl, e103, (by decide : 3 + 1 ≤ _), (by decide : 10 + 33 ≤ _)⟩)
    dsimp only [Pt.U, Pt.locs, Pt.cells, Pt.slots] at X104 l104 y104 z104 st104 hQ104
    subst l104 y104 z104
    obtain ⟨b_104, rfl, N104q, K104, pq104_0, pq104_1, pq104_2, pq104_3⟩ := hQ104
    have N104 := Fr.app N4 N104q
    obtain ⟨h104, e104⟩ : ∃ z, T104.heap = z := ⟨_, rfl⟩
    rw [e104] at K104 pq104_1 pq104_2 pq104_3
    have ne105 : x0 ≠ b_104 := Nat.ne_of_lt (Nat.lt_of_lt_of_le f80.lt pq104_0)
    have ne106 : cc ≠ b_104 := Nat.ne_of_lt (Nat.lt_of_lt_of_le f86.lt pq104_0)
    have ne107 : oL ≠ b_104 := Nat.ne_of_lt (Nat.lt_of_lt_of_le (p_10.ext O88.2).lt pq104_0)
    have ne108 : aV ≠ b_104 := Nat.ne_of_lt (Nat.lt_of_lt_of_le (p_13.ext O88.2).lt pq104_0)
    have ne109 : a1 ≠ b_104 := Nat.ne_of_lt (Nat.lt_of_lt_of_le (p_15.ext O88.2).lt pq104_0)
    have ne110 : a2 ≠ b_104 := Nat.ne_of_lt (Nat.lt_of_lt_of_le (p_16.ext O88.2).lt pq104_0)
    have ne111 : oE ≠ b_104 := Nat.ne_of_lt (Nat.lt_of_lt_of_le (p_20.ext O88.2).lt pq104_0)
    have ne112 : b72 ≠ b_104 := Nat.ne_of_lt (Nat.lt_of_lt_of_le A72.lt pq104_0)
    have g_b_104 : n0 ≤ b_104 := Nat.le_trans Z90 pq104_0
    have sz_b_104 : h0.size ≤ b_104 := Nat.le_trans K89.1 pq104_0
    have f113 := f80.keep K104 (ninS ne73 nin0)
    have f114 := f81.keep K104 (ninS ne73 nin0)
    have f115 := f82.keep K104 (ninS ne73 nin0)
    have f116 := f83.keep K104 (ninS ne73 nin0)
    have f117 := f84.keep K104 (ninS ne73 nin0)
    have f118 := f85.keep K104 (ninS ne73 nin0)
    have f119 := f86.keep K104 (ninS ne74 nin0)
    have f120 := f87.keep K104
    have f121 := A72.keep K104
    have O122 := O88.keep K104 (allS g_b72 all0)
    have K123 : Keep h0 h104 [] := K89.trans K104 (allS (Or.inr sz_b72) all0)
    have Z124 : n0 ≤ h104.size := Nat.le_trans Z90 K104.1
    refine own_step (st' := T104.setTop (mkF m 86 #[.val (.ref x0), .val (.ref rq)] [(.ref b72)])) (fun t k => st104.trans k) ?_
    refine own_ret X104 Bd.notSynchronized (some (.ref b72)) (fun h => by rw [Bd.returns] at h; cases h) (fun fs hr => retOut X104 hx Bd.returns rfl (Or.inr (Or.inr (Or.inr (Or.inr ⟨rfl, rfl, rfl⟩)))) (hb hby d6_86) hr) ?_ (by decide) (by decide)
    rw [e104]
    exact ⟨b72, b_104, rfl, N104, K123, sz_b72, sz_b_104, ne112, f121, pq104_1, pq104_2, pq104_3⟩
theorem d15_0 : decode prog_32_method_10_code 0 = .ok (.aload_n 0, 1) := by decide +kernel
theorem d15_1 : decode prog_32_method_10_code 1 = .ok (.checkcast 8, 3) := by decide +kernel
theorem d15_4 : decode prog_32_method_10_code 4 = .ok (.invokevirtual 7, 3) := by decide +kernel
theorem d15_7 : decode prog_32_method_10_code 7 = .ok (.checkcast 8, 3) := by decide +kernel
theorem d15_10 : decode prog_32_method_10_code 10 = .ok (.areturn, 1) := by decide +kernel
theorem ef_15_R (m : MethodId) (x0 : Addr) : entryFrame m #[(.ref x0)] 1 = mkF m 0 #[.val (.ref x0)] [] := by first | (simp [entryFrame, mkF, argsToLocals, Value.category]; done) | rfl
def Q_rm15 (Z : State) (x0 : Addr) (k : ClassId) (n : Int32) (vs : List Value) (dv : Value) (h0 : Heap) (n0 : Nat) (v : Option Value) (h : Heap) (L : List Loc) : Prop := ∃ b : Addr, v = some (.ref b) ∧ Fr n0 L ∧ Keep h0 h [] ∧ h0.size ≤ b ∧ Arv Z h b k .byte n vs dv ∧ Exa Z h b "[B"
set_option maxRecDepth 65536 in
set_option maxHeartbeats 40000000 in
theorem rm15 (l : Launch) (Z : State) (a0 : Array Value) (hw : ∀ d ∈ tables_1, d.before a0 Z = true) (ws : List Jvm.Cond) (x0 : Addr) (k : ClassId) (n : Int32) (vs : List Value) (dv : Value) (h0 : Heap) (n0 : Nat) (Z0 : n0 ≤ h0.size) (p_0 : Arv Z h0 x0 k .byte n vs dv) (p_1 : Exa Z h0 x0 "[B") (p_2 : 0 ≤ n.toInt ∧ n.toInt ≤ 33) :
    MetFree l (⟨"com/example/aturan/aturan/rules/AccessRule", "lambda$getCertificateHash$1", "(Ljava/lang/Object;)[B"⟩ : MethodName) (head1 (Jvm.Cond.code (⟨"com/example/aturan/aturan/rules/AccessRule", "lambda$getCertificateHash$1", "(Ljava/lang/Object;)[B"⟩ : MethodName) prog_32_method_10_code 1 (some (.array .byte)) :: ws) ({ frames := 1, cells := 1, slots := 33, locals := 14 } : Room)) (fun a U => a = #[(.ref x0)] ∧ Z.Warmed39 U.vm ∧ U.heap = h0) (fun _ _ _ _ _ => True) (fun _ U o U' => ∃ v L, o = .returned v ∧ Q_rm15 Z x0 k n vs dv h0 n0 v U'.heap L ∧ FrameEnd U o U' L ({ frames := 1, cells := 1, slots := 33, locals := 14 } : Room).cells ({ frames := 1, cells := 1, slots := 33, locals := 14 } : Room).slots) := by
  refine MetFree.of_bodySF (plainFor_of_name pn_0) hisR ?_
  intro p e s m args below meth c s₁ Bd hml0 hP hK
  obtain ⟨rfl, hZ, hh⟩ := hP
  have hx := Bd.exec
  have hby := Bd.bytes
  have hml : c.maxLocals = 1 := hml0
  have hown : s.vm.findClass "com/example/aturan/aturan/rules/AccessRule" = some m.cls := findClass_of_methodNamed Bd.named
  have hnm := (name_of_methodNamed Bd.named Bd.method).1
  have X0 : Stand p l e ({ frames := 1, cells := 1, slots := 33, locals := 14 } : Room) s m #[(.ref x0)] below meth c s₁ [] 0 0 := Stand.of_body Bd
  have e0 : s₁.heap = h0 := by rw [← hh, Bd.state]; rfl
  have N0 := Fr.nil n0
  show own_Ends p e below s ({ frames := 1, cells := 1, slots := 33, locals := 14 } : Room).cells ({ frames := 1, cells := 1, slots := 33, locals := 14 } : Room).slots (Q_rm15 Z x0 k n vs dv h0 n0) (s₁.setTop (entryFrame m #[(.ref x0)] 1))
  rw [ef_15_R]
  refine own_step (st' := s₁.setTop (mkF m 1 #[.val (.ref x0)] [(.ref x0)])) (fun t k => XS.aloadN X0.here hx rfl (hb hby d15_0) rfl rfl k) ?_
  obtain ⟨T1, X1, e1, st1⟩ := castY X0 hx hZ hown (hw _ (List.mem_of_getElem? (i := 67) rfl)) e0 (Ins.self p_1) (g := (mkF m 1 #[.val (.ref x0)] [(.ref x0)])) rfl rfl (hb hby d15_1)
  refine own_step (st' := T1.setTop (mkF m 4 #[.val (.ref x0)] [(.ref x0)])) st1 ?_
  obtain ⟨T2, h2, X2, e2, E2, V2, A2, st2⟩ := cloneH X1 hx hZ hown (hw _ (List.mem_of_getElem? (i := 66) rfl)) (hw _ (List.mem_of_getElem? (i := 28) rfl)) (hw _ (List.mem_of_getElem? (i := 32) rfl)) (hw _ (List.mem_of_getElem? (i := 30) rfl)) (hw _ (List.mem_of_getElem? (i := 31) rfl)) (hw _ (List.mem_of_getElem? (i := 33) rfl)) e1 (Arv.arh p_0) p_1 (g := (mkF m 4 #[.val (.ref x0)] [(.ref x0)])) rfl (by rw [hml]; rfl) rfl (hb hby d15_4) (by decide) (W := 0) (cap := 33) (by show 2 * 0 + _ ≤ _; exact Nat.le_of_eq rfl) (by decide) (own_le33 p_2) (by decide) (by decide)
  obtain ⟨b2, g2⟩ : ∃ z, z = h0.size := ⟨_, rfl⟩
  rw [← g2] at A2 V2 st2
  have ne3 : x0 ≠ b2 := Nat.ne_of_lt (Nat.lt_of_lt_of_le p_0.lt (Nat.le_of_eq g2.symm))
  have g_b2 : n0 ≤ b2 := Nat.le_trans Z0 (Nat.le_of_eq g2.symm)
  have sz_b2 : h0.size ≤ b2 := Nat.le_trans (Keep.refl h0 []).1 (Nat.le_of_eq g2.symm)
  have f4 := p_0.ext E2
  have f5 := p_1.ext E2
  have K6 : Keep h0 h2 [] := (Keep.refl h0 []).ext E2
  have Z7 : n0 ≤ h2.size := Nat.le_trans Z0 E2.1
  have V2 : Arv Z h2 b2 k .byte n vs dv := V2
  refine own_step (st' := T2.setTop (mkF m 7 #[.val (.ref x0)] [(.ref b2)])) st2 ?_
  obtain ⟨T8, X8, e8, st8⟩ := castY X2 hx hZ hown (hw _ (List.mem_of_getElem? (i := 67) rfl)) e2 (Ins.self A2) (g := (mkF m 7 #[.val (.ref x0)] [(.ref b2)])) rfl rfl (hb hby d15_7)
  refine own_step (st' := T8.setTop (mkF m 10 #[.val (.ref x0)] [(.ref b2)])) st8 ?_
  refine own_ret X8 Bd.notSynchronized (some (.ref b2)) (fun h => by rw [Bd.returns] at h; cases h) (fun fs hr => retOut X8 hx Bd.returns rfl (Or.inr (Or.inr (Or.inr (Or.inr ⟨rfl, rfl, rfl⟩)))) (hb hby d15_10) hr) ?_ (by decide) (by decide)
  rw [e8]
  exact ⟨b2, rfl, N0, K6, sz_b2, V2, A2⟩

theorem own_retok (b : Addr) : RetOK (some (.object "java/lang/Object")) .areturn (some (.ref b)) := Or.inr (Or.inr (Or.inl ⟨_, _, rfl, rfl, rfl, rfl, rfl⟩))

theorem d12_0 : decode jdk_32_method_11_code 0 = .ok (.aload_n 1, 1) := by decide +kernel
theorem d12_1 : decode jdk_32_method_11_code 1 = .ok (.invokestatic 17, 3) := by decide +kernel
theorem d12_4 : decode jdk_32_method_11_code 4 = .ok (.pop, 1) := by decide +kernel
theorem d12_5 : decode jdk_32_method_11_code 5 = .ok (.aload_n 0, 1) := by decide +kernel
theorem d12_6 : decode jdk_32_method_11_code 6 = .ok (.invokevirtual 43, 3) := by decide +kernel
theorem d12_9 : decode jdk_32_method_11_code 9 = .ok (.ifCond .eq 7, 3) := by decide +kernel
theorem d12_16 : decode jdk_32_method_11_code 16 = .ok (.aload_n 1, 1) := by decide +kernel
theorem d12_17 : decode jdk_32_method_11_code 17 = .ok (.aload_n 0, 1) := by decide +kernel
theorem d12_18 : decode jdk_32_method_11_code 18 = .ok (.getfield 13, 3) := by decide +kernel
theorem d12_21 : decode jdk_32_method_11_code 21 = .ok (.invokeinterface 57 2, 5) := by decide +kernel
theorem d12_26 : decode jdk_32_method_11_code 26 = .ok (.invokestatic 62, 3) := by decide +kernel
theorem d12_29 : decode jdk_32_method_11_code 29 = .ok (.areturn, 1) := by decide +kernel
theorem ef_12_RR (m : MethodId) (x0 : Addr) (x1 : Addr) : entryFrame m #[(.ref x0), (.ref x1)] 2 = mkF m 0 #[.val (.ref x0), .val (.ref x1)] [] := by first | (simp [entryFrame, mkF, argsToLocals, Value.category]; done) | rfl
def Q_rm12 (Z : State) (x0 : Addr) (x1 : Addr) (q : Addr) (k : ClassId) (n : Int32) (vs : List Value) (dv : Value) (cK : ClassId) (h0 : Heap) (n0 : Nat) (v : Option Value) (h : Heap) (L : List Loc) : Prop := ∃ r : Addr, ∃ b : Addr, v = some (.ref r) ∧ Fr n0 L ∧ Keep h0 h [] ∧ h0.size ≤ r ∧ h0.size ≤ b ∧ r ≠ b ∧ Exa Z h r "java/util/Optional" ∧ Fld Z h r "java/util/Optional" "value" "Ljava/lang/Object;" (.ref b) ∧ Arv Z h b k .byte n vs dv ∧ Exa Z h b "[B"
set_option maxRecDepth 65536 in
set_option maxHeartbeats 40000000 in
theorem rm12 (l : Launch) (Z : State) (a0 : Array Value) (hw : ∀ d ∈ tables_1, d.before a0 Z = true) (ws : List Jvm.Cond) (x0 : Addr) (x1 : Addr) (q : Addr) (k : ClassId) (n : Int32) (vs : List Value) (dv : Value) (cK : ClassId) (h0 : Heap) (n0 : Nat) (Z0 : n0 ≤ h0.size) (p_0 : Exa Z h0 x0 "java/util/Optional") (p_1 : Fld Z h0 x0 "java/util/Optional" "value" "Ljava/lang/Object;" (.ref q)) (p_2 : Arv Z h0 q k .byte n vs dv) (p_3 : Exa Z h0 q "[B") (p_4 : 0 ≤ n.toInt ∧ n.toInt ≤ 33) (p_5 : FnAt h0 x1 cK) (p_6 : Jvm.LamKit.Made Z "com/example/aturan/aturan/rules/AccessRule" own_sh cK) :
    MetFree l (⟨"java/util/Optional", "map", "(Ljava/util/function/Function;)Ljava/util/Optional;"⟩ : MethodName) (head1 (Jvm.Cond.code (⟨"java/util/Optional", "map", "(Ljava/util/function/Function;)Ljava/util/Optional;"⟩ : MethodName) jdk_32_method_11_code 2 (some (.object "java/util/Optional")) :: ws) ({ frames := 3, cells := 2, slots := 34, locals := 39 } : Room)) (fun a U => a = #[(.ref x0), (.ref x1)] ∧ Z.WarmedH U.vm ∧ U.heap = h0) (fun _ _ _ _ _ => True) (fun _ U o U' => ∃ v L, o = .returned v ∧ Q_rm12 Z x0 x1 q k n vs dv cK h0 n0 v U'.heap L ∧ FrameEnd U o U' L ({ frames := 3, cells := 2, slots := 34, locals := 39 } : Room).cells ({ frames := 3, cells := 2, slots := 34, locals := 39 } : Room).slots) := by
  refine MetFree.of_bodySF (plainFor_of_name pn_7) hisR ?_
  intro p e s m args below meth c s₁ Bd hml0 hP hK
  obtain ⟨rfl, hZH, hh⟩ := hP
  have hZ := hZH.wide
  have hx := Bd.exec
  have hby := Bd.bytes
  have hml : c.maxLocals = 2 := hml0
  have hown : s.vm.findClass "java/util/Optional" = some m.cls := findClass_of_methodNamed Bd.named
  have hnm := (name_of_methodNamed Bd.named Bd.method).1
  have X0 : Stand p l e ({ frames := 3, cells := 2, slots := 34, locals := 39 } : Room) s m #[(.ref x0), (.ref x1)] below meth c s₁ [] 0 0 := Stand.of_body Bd
  have e0 : s₁.heap = h0 := by rw [← hh, Bd.state]; rfl
  have N0 := Fr.nil n0
  show own_Ends p e below s ({ frames := 3, cells := 2, slots := 34, locals := 39 } : Room).cells ({ frames := 3, cells := 2, slots := 34, locals := 39 } : Room).slots (Q_rm12 Z x0 x1 q k n vs dv cK h0 n0) (s₁.setTop (entryFrame m #[(.ref x0), (.ref x1)] 2))
  rw [ef_12_RR]
  refine own_step (st' := s₁.setTop (mkF m 1 #[.val (.ref x0), .val (.ref x1)] [(.ref x1)])) (fun t k => XS.aloadN X0.here hx rfl (hb hby d12_0) rfl rfl k) ?_
  obtain ⟨_, _, ⟨T1, L1, k1, n1⟩, -, X1, ⟨Lc1, hQ1, l1, y1, z1⟩, st1⟩ := Jvm.LawKit.callS X0 hx (y := (⟨"java/util/Objects", "requireNonNull", "(Ljava/lang/Object;)Ljava/lang/Object;"⟩ : MethodName)) hown (mvT hZ (hw _ (List.mem_of_getElem? (i := 106) rfl))) (mvT hZ (hw _ (List.mem_of_getElem? (i := 107) rfl))) (mvT hZ (hw _ (List.mem_of_getElem? (i := 108) rfl))) (mvT hZ (hw _ (List.mem_of_getElem? (i := 109) rfl))) (by decide) (backOf (W := 0) (rm13 l Z a0 hw [] x1 h0 n0 Z0) hZ (hw _ (List.mem_of_getElem? (i := 109) rfl)) (hw _ (List.mem_of_getElem? (i := 108) rfl)) (by decide) (by decide)) (g := (mkF m 1 #[.val (.ref x0), .val (.ref x1)] [(.ref x1)])) rfl (by rw [hml]; rfl) (argsL := [(.ref x1)]) (rest := []) (lenOf pd_12 rfl) rfl (by show 2 * 0 + _ ≤ _; exact Nat.le_of_eq rfl) (hb hby d12_1) (fun _ _ => ⟨rfl, e0, (by decide : 0 + 0 ≤ _), (by decide : 0 + 0 ≤ _)⟩)
  dsimp only [Pt.U, Pt.locs, Pt.cells, Pt.slots] at X1 l1 y1 z1 st1 hQ1
  subst l1 y1 z1
  obtain ⟨rfl, N1q, e1⟩ := hQ1
  have N1 := Fr.app N0 N1q
  refine own_step (st' := T1.setTop (mkF m 4 #[.val (.ref x0), .val (.ref x1)] [(.ref x1)])) st1 ?_
  refine own_step (st' := T1.setTop (mkF m 5 #[.val (.ref x0), .val (.ref x1)] [])) (fun t k => XS.pop X1.here hx rfl (hb hby d12_4) rfl rfl k) ?_
  refine own_step (st' := T1.setTop (mkF m 6 #[.val (.ref x0), .val (.ref x1)] [(.ref x0)])) (fun t k => XS.aloadN X1.here hx rfl (hb hby d12_5) rfl rfl k) ?_
  obtain ⟨cq2, kq2, q2a, q2b, q2c⟩ := isOf hZ e1 p_0
  obtain ⟨_, _, ⟨T2, L2, k2, n2⟩, -, X2, ⟨Lc2, hQ2, l2, y2, z2⟩, st2⟩ := X1.virtualBack hx (y := (⟨"java/util/Optional", "isEmpty", "()Z"⟩ : MethodName)) (z := (⟨"java/util/Optional", "isEmpty", "()Z"⟩ : MethodName)) hown (mvT hZ (hw _ (List.mem_of_getElem? (i := 110) rfl))) (mvT hZ (hw _ (List.mem_of_getElem? (i := 111) rfl))) (notFace_of_selects (args := #[]) (mvT hZ (hw _ (List.mem_of_getElem? (i := 113) rfl)))) (mvT hZ (hw _ (List.mem_of_getElem? (i := 113) rfl))) (mvT hZ (hw _ (List.mem_of_getElem? (i := 112) rfl))) (by decide) (backOf (W := 0) (rmIR l Z a0 hw [] x0 q h0 n0 Z0 p_1) hZ (hw _ (List.mem_of_getElem? (i := 114) rfl)) (hw _ (List.mem_of_getElem? (i := 87) rfl)) (by decide) (by decide)) q2a q2c (g := (mkF m 6 #[.val (.ref x0), .val (.ref x1)] [(.ref x0)])) rfl (by rw [hml]; rfl) (Steps.refl _) (argsL := []) (rest := []) (lenOf pd_13 rfl) rfl (by show 2 * 0 + _ ≤ _; exact Nat.le_of_eq rfl) (hb hby d12_6) (fun _ _ => ⟨rfl, e1, (by decide : 0 + 0 ≤ _), (by decide : 0 + 0 ≤ _)⟩)
  dsimp only [Pt.U, Pt.locs, Pt.cells, Pt.slots] at X2 l2 y2 z2 st2 hQ2
  subst l2 y2 z2
  obtain ⟨rfl, N2q, e2⟩ := hQ2
  have N2 := Fr.app N1 N2q
  refine own_step (st' := T2.setTop (mkF m 9 #[.val (.ref x0), .val (.ref x1)] [(.int (0 : Int32))])) (fun t k => st2.trans k) ?_
  refine own_step (st' := T2.setTop (mkF m 16 #[.val (.ref x0), .val (.ref x1)] [])) (fun t k => XS.ifYes X2.here hx rfl (pc0 := 9) (pc' := 16) rfl (hb hby d12_9) rfl ((if0 _ _).trans (teq (by decide)).1) (by decide) (by decide) k) ?_
  refine own_step (st' := T2.setTop (mkF m 17 #[.val (.ref x0), .val (.ref x1)] [(.ref x1)])) (fun t k => XS.aloadN X2.here hx rfl (hb hby d12_16) rfl rfl k) ?_
  refine own_step (st' := T2.setTop (mkF m 18 #[.val (.ref x0), .val (.ref x1)] [(.ref x0), (.ref x1)])) (fun t k => XS.aloadN X2.here hx rfl (hb hby d12_17) rfl rfl k) ?_
  obtain ⟨T3, X3, e3, st3⟩ := getF X2 hx hZ hown (host := "") (Or.inl (hw _ (List.mem_of_getElem? (i := 96) rfl))) Via.refl e2 p_1 (g := (mkF m 18 #[.val (.ref x0), .val (.ref x1)] [(.ref x0), (.ref x1)])) rfl rfl (hb hby d12_18)
  refine own_step (st' := T3.setTop (mkF m 21 #[.val (.ref x0), .val (.ref x1)] [(.ref q), (.ref x1)])) st3 ?_
  have hmd := own_made hZH p_6
  obtain ⟨w4, s4, t4, T4, L4, X4, hL4, eh4, es4, ⟨v4, l4, hv4, hQ4⟩, st4⟩ := callLamS X3 hx (own := "java/util/Optional") (host := "com/example/aturan/aturan/rules/AccessRule") (index := 57) (count := 2) (xi := (⟨"java/util/function/Function", "apply", "(Ljava/lang/Object;)Ljava/lang/Object;"⟩ : MethodName)) (y := (⟨"com/example/aturan/aturan/rules/AccessRule", "lambda$getCertificateHash$1", "(Ljava/lang/Object;)[B"⟩ : MethodName)) (σ := own_sh) (own_met (rm15 l Z a0 hw [] q k n vs dv h0 n0 Z0 p_2 p_3 p_4) (fun _ _ _ q => by obtain ⟨_, -, q, -⟩ := q; exact q)) (fun _ _ _ _ q => q) rfl rfl (fun q hq a' U hU => by rw [List.mem_singleton.mp hq]; exact mv (wtrans hZ hU) (hw _ (List.mem_of_getElem? (i := 119) rfl))) (List.mem_singleton.mpr rfl) hown (mvT hZ (hw _ (List.mem_of_getElem? (i := 115) rfl))) (mvT hZ (hw _ (List.mem_of_getElem? (i := 116) rfl))) (mvT hZ (hw _ (List.mem_of_getElem? (i := 117) rfl))) (mvT hZ (hw _ (List.mem_of_getElem? (i := 119) rfl))) (mvT hZ (hw _ (List.mem_of_getElem? (i := 118) rfl))) (mvT hZ (hw _ (List.mem_of_getElem? (i := 53) rfl))) (by decide +kernel) (by decide +kernel) (by decide) hmd (a := x1) (by rw [e3]; exact p_5) own_fwd own_f4 own_f7 (g := (mkF m 21 #[.val (.ref x0), .val (.ref x1)] [(.ref q), (.ref x1)])) rfl (by rw [hml]; rfl) (argsL := [.ref q]) (argsT := [.ref q]) (rest := []) (L0 := #[.val (.ref x1), .val (.ref q)]) (lenOf pd_12 rfl) (lenOf pd_14 rfl) rfl (hb hby d12_21) (fun _ => rfl) rfl (fun U ck bl target hU hck hh hW kk => own_load hx hmd hZ p_3 U ck bl target hU hck (hh.trans e3) hW kk) (fun st w t q => by obtain ⟨_, _, q1, ⟨_, rfl, -⟩⟩ := q; cases q1; exact own_retok _) (by decide) (Nat.le_of_ble_eq_true rfl) (by decide) (by decide) (fun U hU hh => ⟨rfl, wtrans hZ hU, hh.trans e3⟩)
  cases hv4
  obtain ⟨b4, rfl, -, K4, sb4, vb4, eb4⟩ := hQ4
  rw [← eh4] at K4 vb4 eb4
  obtain ⟨h4, e4⟩ : ∃ z, T4.heap = z := ⟨_, rfl⟩
  rw [e4] at K4 vb4 eb4
  have N4 := Fr.app N2 hL4
  have ne5 : x0 ≠ b4 := Nat.ne_of_lt (Nat.lt_of_lt_of_le p_0.lt sb4)
  have ne6 : q ≠ b4 := Nat.ne_of_lt (Nat.lt_of_lt_of_le p_2.lt sb4)
  have g_b4 : n0 ≤ b4 := Nat.le_trans Z0 sb4
  have sz_b4 : h0.size ≤ b4 := Nat.le_trans (Keep.refl h0 []).1 sb4
  have f7 := p_0.keep K4
  have f8 := p_1.keep K4 nin0
  have f9 := p_2.keep K4 nin0
  have f10 := p_3.keep K4
  have kp4 : Keep h0 h4 [] := (Keep.refl h0 []).trans K4 all0
  have zs4 : n0 ≤ h4.size := Nat.le_trans Z0 K4.1
  refine own_step (st' := T4.setTop (mkF m 26 #[.val (.ref x0), .val (.ref x1)] [(.ref b4)])) st4 ?_
  obtain ⟨_, _, ⟨T11, L11, k11, n11⟩, -, X11, ⟨Lc11, hQ11, l11, y11, z11⟩, st11⟩ := Jvm.LawKit.callS X4 hx (y := (⟨"java/util/Optional", "ofNullable", "(Ljava/lang/Object;)Ljava/util/Optional;"⟩ : MethodName)) hown (mvT hZ (hw _ (List.mem_of_getElem? (i := 120) rfl))) (mvT hZ (hw _ (List.mem_of_getElem? (i := 86) rfl))) (mvT hZ (hw _ (List.mem_of_getElem? (i := 87) rfl))) (mvT hZ (hw _ (List.mem_of_getElem? (i := 88) rfl))) (by decide) (backOf (W := 0) (rm10 l Z a0 hw [] b4 h4 n0 zs4) hZ (hw _ (List.mem_of_getElem? (i := 88) rfl)) (hw _ (List.mem_of_getElem? (i := 87) rfl)) (by decide) (by decide)) (g := (mkF m 26 #[.val (.ref x0), .val (.ref x1)] [(.ref b4)])) rfl (by rw [hml]; rfl) (argsL := [(.ref b4)]) (rest := []) (lenOf pd_9 rfl) rfl (by show 2 * 0 + _ ≤ _; exact Nat.le_of_eq rfl) (hb hby d12_26) (fun _ _ => ⟨rfl, e4, (by decide : 1 + 1 ≤ _), (by decide : 33 + 1 ≤ _)⟩)
  dsimp only [Pt.U, Pt.locs, Pt.cells, Pt.slots] at X11 l11 y11 z11 st11 hQ11
  subst l11 y11 z11
  obtain ⟨r_11, rfl, N11q, K11, pq11_0, pq11_1, pq11_2⟩ := hQ11
  have N11 := Fr.app N4 N11q
  obtain ⟨h11, e11⟩ : ∃ z, T11.heap = z := ⟨_, rfl⟩
  rw [e11] at K11 pq11_1 pq11_2
  have ne12 : x0 ≠ r_11 := Nat.ne_of_lt (Nat.lt_of_lt_of_le f7.lt pq11_0)
  have ne13 : q ≠ r_11 := Nat.ne_of_lt (Nat.lt_of_lt_of_le f9.lt pq11_0)
  have ne14 : b4 ≠ r_11 := Nat.ne_of_lt (Nat.lt_of_lt_of_le vb4.lt pq11_0)
  have g_r_11 : n0 ≤ r_11 := Nat.le_trans zs4 pq11_0
  have sz_r_11 : h0.size ≤ r_11 := Nat.le_trans kp4.1 pq11_0
  have f15 := f7.keep K11
  have f16 := f8.keep K11 nin0
  have f17 := f9.keep K11 nin0
  have f18 := f10.keep K11
  have f19 := vb4.keep K11 nin0
  have f20 := eb4.keep K11
  have K21 : Keep h0 h11 [] := kp4.trans K11 all0
  have Z22 : n0 ≤ h11.size := Nat.le_trans zs4 K11.1
  refine own_step (st' := T11.setTop (mkF m 29 #[.val (.ref x0), .val (.ref x1)] [(.ref r_11)])) st11 ?_
  refine own_ret X11 Bd.notSynchronized (some (.ref r_11)) (fun h => by rw [Bd.returns] at h; cases h) (fun fs hr => retOut X11 hx Bd.returns rfl (Or.inr (Or.inr (Or.inr (Or.inr ⟨rfl, rfl, rfl⟩)))) (hb hby d12_29) hr) ?_ (by decide) (by decide)
  rw [e11]
  exact ⟨r_11, b4, rfl, N11, K21, sz_r_11, sz_b4, (Ne.symm ne14), pq11_1, pq11_2, f19, f20⟩
theorem d9_0 : decode prog_32_method_3_code 0 = .ok (.aload_n 0, 1) := by decide +kernel
theorem d9_1 : decode prog_32_method_3_code 1 = .ok (.getfield 18, 3) := by decide +kernel
theorem d9_4 : decode prog_32_method_3_code 4 = .ok (.invokestatic 41, 3) := by decide +kernel
theorem d9_7 : decode prog_32_method_3_code 7 = .ok (.invokedynamic 55, 5) := by decide +kernel
theorem d9_12 : decode prog_32_method_3_code 12 = .ok (.invokevirtual 51, 3) := by decide +kernel
theorem d9_15 : decode prog_32_method_3_code 15 = .ok (.areturn, 1) := by decide +kernel
theorem ef_9_R (m : MethodId) (x0 : Addr) : entryFrame m #[(.ref x0)] 1 = mkF m 0 #[.val (.ref x0)] [] := by first | (simp [entryFrame, mkF, argsToLocals, Value.category]; done) | rfl
def Q_rm9 (Z : State) (x0 : Addr) (q : Addr) (k : ClassId) (n : Int32) (vs : List Value) (dv : Value) (h0 : Heap) (n0 : Nat) (v : Option Value) (h : Heap) (L : List Loc) : Prop := ∃ r : Addr, ∃ b : Addr, v = some (.ref r) ∧ Fr n0 L ∧ Keep h0 h [] ∧ h0.size ≤ r ∧ h0.size ≤ b ∧ r ≠ b ∧ Exa Z h r "java/util/Optional" ∧ Fld Z h r "java/util/Optional" "value" "Ljava/lang/Object;" (.ref b) ∧ Arv Z h b k .byte n vs dv ∧ Exa Z h b "[B"
set_option maxRecDepth 65536 in
set_option maxHeartbeats 40000000 in
theorem rm9 (l : Launch) (Z : State) (a0 : Array Value) (hw : ∀ d ∈ tables_1, d.before a0 Z = true) (ws : List Jvm.Cond) (x0 : Addr) (q : Addr) (k : ClassId) (n : Int32) (vs : List Value) (dv : Value) (h0 : Heap) (n0 : Nat) (Z0 : n0 ≤ h0.size) (O0 : Old Z n0 h0) (p_0 : Fld Z h0 x0 "com/example/aturan/aturan/rules/AccessRule" "certificateHash" "[B" (.ref q)) (p_1 : Arv Z h0 q k .byte n vs dv) (p_2 : Exa Z h0 q "[B") (p_3 : 0 ≤ n.toInt ∧ n.toInt ≤ 33) :
    MetFree l (⟨"com/example/aturan/aturan/rules/AccessRule", "getCertificateHash", "()Ljava/util/Optional;"⟩ : MethodName) (head1 (Jvm.Cond.code (⟨"com/example/aturan/aturan/rules/AccessRule", "getCertificateHash", "()Ljava/util/Optional;"⟩ : MethodName) prog_32_method_3_code 1 (some (.object "java/util/Optional")) :: ws) ({ frames := 4, cells := 3, slots := 35, locals := 3073 } : Room)) (fun a U => a = #[(.ref x0)] ∧ Z.WarmedH U.vm ∧ U.heap = h0) (fun _ _ _ _ _ => True) (fun _ U o U' => ∃ v L, o = .returned v ∧ Q_rm9 Z x0 q k n vs dv h0 n0 v U'.heap L ∧ FrameEnd U o U' L ({ frames := 4, cells := 3, slots := 35, locals := 3073 } : Room).cells ({ frames := 4, cells := 3, slots := 35, locals := 3073 } : Room).slots) := by
  refine MetFree.of_bodySF (plainFor_of_name pn_0) hisR ?_
  intro p e s m args below meth c s₁ Bd hml0 hP hK
  obtain ⟨rfl, hZH, hh⟩ := hP
  have hZ := hZH.wide
  have hx := Bd.exec
  have hby := Bd.bytes
  have hml : c.maxLocals = 1 := hml0
  have hown : s.vm.findClass "com/example/aturan/aturan/rules/AccessRule" = some m.cls := findClass_of_methodNamed Bd.named
  have hnm := (name_of_methodNamed Bd.named Bd.method).1
  have X0 : Stand p l e ({ frames := 4, cells := 3, slots := 35, locals := 3073 } : Room) s m #[(.ref x0)] below meth c s₁ [] 0 0 := Stand.of_body Bd
  have e0 : s₁.heap = h0 := by rw [← hh, Bd.state]; rfl
  have N0 := Fr.nil n0
  show own_Ends p e below s ({ frames := 4, cells := 3, slots := 35, locals := 3073 } : Room).cells ({ frames := 4, cells := 3, slots := 35, locals := 3073 } : Room).slots (Q_rm9 Z x0 q k n vs dv h0 n0) (s₁.setTop (entryFrame m #[(.ref x0)] 1))
  rw [ef_9_R]
  refine own_step (st' := s₁.setTop (mkF m 1 #[.val (.ref x0)] [(.ref x0)])) (fun t k => XS.aloadN X0.here hx rfl (hb hby d9_0) rfl rfl k) ?_
  obtain ⟨T1, X1, e1, st1⟩ := getF X0 hx hZ hown (host := "") (Or.inl (hw _ (List.mem_of_getElem? (i := 68) rfl))) Via.refl e0 p_0 (g := (mkF m 1 #[.val (.ref x0)] [(.ref x0)])) rfl rfl (hb hby d9_1)
  refine own_step (st' := T1.setTop (mkF m 4 #[.val (.ref x0)] [(.ref q)])) st1 ?_
  obtain ⟨_, _, ⟨T2, L2, k2, n2⟩, -, X2, ⟨Lc2, hQ2, l2, y2, z2⟩, st2⟩ := Jvm.LawKit.callS X1 hx (y := (⟨"java/util/Optional", "ofNullable", "(Ljava/lang/Object;)Ljava/util/Optional;"⟩ : MethodName)) hown (mvT hZ (hw _ (List.mem_of_getElem? (i := 85) rfl))) (mvT hZ (hw _ (List.mem_of_getElem? (i := 86) rfl))) (mvT hZ (hw _ (List.mem_of_getElem? (i := 87) rfl))) (mvT hZ (hw _ (List.mem_of_getElem? (i := 88) rfl))) (by decide) (backOf (W := 0) (rm10 l Z a0 hw [] q h0 n0 Z0) hZ (hw _ (List.mem_of_getElem? (i := 88) rfl)) (hw _ (List.mem_of_getElem? (i := 87) rfl)) (by decide) (by decide)) (g := (mkF m 4 #[.val (.ref x0)] [(.ref q)])) rfl (by rw [hml]; rfl) (argsL := [(.ref q)]) (rest := []) (lenOf pd_9 rfl) rfl (by show 2 * 0 + _ ≤ _; exact Nat.le_of_eq rfl) (hb hby d9_4) (fun _ _ => ⟨rfl, e1, (by decide : 0 + 1 ≤ _), (by decide : 0 + 1 ≤ _)⟩)
  dsimp only [Pt.U, Pt.locs, Pt.cells, Pt.slots] at X2 l2 y2 z2 st2 hQ2
  subst l2 y2 z2
  obtain ⟨r_2, rfl, N2q, K2, pq2_0, pq2_1, pq2_2⟩ := hQ2
  have N2 := Fr.app N0 N2q
  obtain ⟨h2, e2⟩ : ∃ z, T2.heap = z := ⟨_, rfl⟩
  rw [e2] at K2 pq2_1 pq2_2
  have ne3 : x0 ≠ r_2 := Nat.ne_of_lt (Nat.lt_of_lt_of_le p_0.lt pq2_0)
  have ne4 : q ≠ r_2 := Nat.ne_of_lt (Nat.lt_of_lt_of_le p_1.lt pq2_0)
  have g_r_2 : n0 ≤ r_2 := Nat.le_trans Z0 pq2_0
  have sz_r_2 : h0.size ≤ r_2 := Nat.le_trans (Keep.refl h0 []).1 pq2_0
  have f5 := p_0.keep K2 nin0
  have f6 := p_1.keep K2 nin0
  have f7 := p_2.keep K2
  have O8 := O0.keep K2 all0
  have K9 : Keep h0 h2 [] := (Keep.refl h0 []).trans K2 all0
  have Z10 : n0 ≤ h2.size := Nat.le_trans Z0 K2.1
  refine own_step (st' := T2.setTop (mkF m 7 #[.val (.ref x0)] [(.ref r_2)])) st2 ?_
  obtain ⟨a11, cK11, hmd11, hfn11, st11⟩ := own_siteC X2 hx (σ := own_sh) (pc := 7) (index := 55) hZH (by rw [e2]; exact O8.2) Bd.named (hw _ (List.mem_of_getElem? (i := 98) rfl)) rfl (g := (mkF m 7 #[.val (.ref x0)] [(.ref r_2)])) rfl rfl (by rw [hml]; rfl) (hb hby d9_7) (Nat.le_of_ble_eq_true rfl)
  rw [e2] at hfn11
  refine own_step (st' := T2.setTop (mkF m 12 #[.val (.ref x0)] [(.ref a11), (.ref r_2)])) st11 ?_
  obtain ⟨cq12, kq12, q12a, q12b, q12c⟩ := isOf hZ e2 pq2_1
  obtain ⟨_, _, ⟨T12, L12, k12, n12⟩, -, X12, ⟨Lc12, hQ12, l12, y12, z12⟩, st12⟩ := X2.virtualBack hx (y := (⟨"java/util/Optional", "map", "(Ljava/util/function/Function;)Ljava/util/Optional;"⟩ : MethodName)) (z := (⟨"java/util/Optional", "map", "(Ljava/util/function/Function;)Ljava/util/Optional;"⟩ : MethodName)) hown (mvT hZ (hw _ (List.mem_of_getElem? (i := 101) rfl))) (mvT hZ (hw _ (List.mem_of_getElem? (i := 102) rfl))) (notFace_of_selects (args := #[]) (mvT hZ (hw _ (List.mem_of_getElem? (i := 104) rfl)))) (mvT hZ (hw _ (List.mem_of_getElem? (i := 104) rfl))) (mvT hZ (hw _ (List.mem_of_getElem? (i := 103) rfl))) (by decide) (own_backH (W := 0) (rm12 l Z a0 hw [] r_2 a11 q k n vs dv cK11 h2 n0 Z10 pq2_1 pq2_2 f6 f7 p_3 hfn11 hmd11) hZH (hw _ (List.mem_of_getElem? (i := 105) rfl)) (hw _ (List.mem_of_getElem? (i := 87) rfl)) (by decide) (by decide)) q12a q12c (g := (mkF m 12 #[.val (.ref x0)] [(.ref a11), (.ref r_2)])) rfl (by rw [hml]; rfl) (Steps.refl _) (argsL := [(.ref a11)]) (rest := []) (lenOf pd_11 rfl) rfl (by show 2 * 0 + _ ≤ _; exact Nat.le_of_eq rfl) (hb hby d9_12) (fun _ _ => ⟨rfl, e2, (by decide : 1 + 2 ≤ _), (by decide : 1 + 34 ≤ _)⟩)
  dsimp only [Pt.U, Pt.locs, Pt.cells, Pt.slots] at X12 l12 y12 z12 st12 hQ12
  subst l12 y12 z12
  obtain ⟨r_12, b_12, rfl, N12q, K12, pq12_0, pq12_1, pq12_2, pq12_3, pq12_4, pq12_5, pq12_6⟩ := hQ12
  have N12 := Fr.app N2 N12q
  obtain ⟨h12, e12⟩ : ∃ z, T12.heap = z := ⟨_, rfl⟩
  rw [e12] at K12 pq12_3 pq12_4 pq12_5 pq12_6
  have ne13 : x0 ≠ r_12 := Nat.ne_of_lt (Nat.lt_of_lt_of_le f5.lt pq12_0)
  have ne14 : q ≠ r_12 := Nat.ne_of_lt (Nat.lt_of_lt_of_le f6.lt pq12_0)
  have ne15 : r_2 ≠ r_12 := Nat.ne_of_lt (Nat.lt_of_lt_of_le pq2_1.lt pq12_0)
  have g_r_12 : n0 ≤ r_12 := Nat.le_trans Z10 pq12_0
  have sz_r_12 : h0.size ≤ r_12 := Nat.le_trans K9.1 pq12_0
  have ne16 : x0 ≠ b_12 := Nat.ne_of_lt (Nat.lt_of_lt_of_le f5.lt pq12_1)
  have ne17 : q ≠ b_12 := Nat.ne_of_lt (Nat.lt_of_lt_of_le f6.lt pq12_1)
  have ne18 : r_2 ≠ b_12 := Nat.ne_of_lt (Nat.lt_of_lt_of_le pq2_1.lt pq12_1)
  have g_b_12 : n0 ≤ b_12 := Nat.le_trans Z10 pq12_1
  have sz_b_12 : h0.size ≤ b_12 := Nat.le_trans K9.1 pq12_1
  have f19 := f5.keep K12 nin0
  have f20 := f6.keep K12 nin0
  have f21 := f7.keep K12
  have f22 := pq2_1.keep K12
  have f23 := pq2_2.keep K12 nin0
  have O24 := O8.keep K12 all0
  have K25 : Keep h0 h12 [] := K9.trans K12 all0
  have Z26 : n0 ≤ h12.size := Nat.le_trans Z10 K12.1
  refine own_step (st' := T12.setTop (mkF m 15 #[.val (.ref x0)] [(.ref r_12)])) (fun t k => st12.trans k) ?_
  refine own_ret X12 Bd.notSynchronized (some (.ref r_12)) (fun h => by rw [Bd.returns] at h; cases h) (fun fs hr => retOut X12 hx Bd.returns rfl (Or.inr (Or.inr (Or.inr (Or.inr ⟨rfl, rfl, rfl⟩)))) (hb hby d9_15) hr) ?_ (by decide) (by decide)
  rw [e12]
  exact ⟨r_12, b_12, rfl, N12, K25, sz_r_12, sz_b_12, pq12_2, pq12_3, pq12_4, pq12_5, pq12_6⟩
theorem d17_0 : decode prog_32_method_4_code 0 = .ok (.aload_n 0, 1) := by decide +kernel
theorem d17_1 : decode prog_32_method_4_code 1 = .ok (.getfield 18, 3) := by decide +kernel
theorem d17_4 : decode prog_32_method_4_code 4 = .ok (.ifnonnull 9, 3) := by decide +kernel
theorem d17_13 : decode prog_32_method_4_code 13 = .ok (.aload_n 0, 1) := by decide +kernel
theorem d17_14 : decode prog_32_method_4_code 14 = .ok (.getfield 18, 3) := by decide +kernel
theorem d17_17 : decode prog_32_method_4_code 17 = .ok (.arraylength, 1) := by decide +kernel
theorem d17_18 : decode prog_32_method_4_code 18 = .ok (.invokestatic 60, 3) := by decide +kernel
theorem d17_21 : decode prog_32_method_4_code 21 = .ok (.areturn, 1) := by decide +kernel
theorem ef_17_R (m : MethodId) (x0 : Addr) : entryFrame m #[(.ref x0)] 1 = mkF m 0 #[.val (.ref x0)] [] := by first | (simp [entryFrame, mkF, argsToLocals, Value.category]; done) | rfl
def Q_rmGA0 (Z : State) (x0 : Addr) (q : Addr) (k : ClassId) (n : Int32) (vs : List Value) (dv : Value) (aV : Addr) (kV : ClassId) (a1 : Addr) (a2 : Addr) (oE : Addr) (h0 : Heap) (n0 : Nat) (v : Option Value) (h : Heap) (L : List Loc) : Prop := v = some (.ref oE) ∧ Fr n0 L ∧ Keep h0 h []
set_option maxRecDepth 65536 in
set_option maxHeartbeats 40000000 in
theorem rmGA0 (l : Launch) (Z : State) (a0 : Array Value) (hw : ∀ d ∈ tables_1, d.before a0 Z = true) (ws : List Jvm.Cond) (x0 : Addr) (q : Addr) (k : ClassId) (n : Int32) (vs : List Value) (dv : Value) (aV : Addr) (kV : ClassId) (a1 : Addr) (a2 : Addr) (oE : Addr) (h0 : Heap) (n0 : Nat) (Z0 : n0 ≤ h0.size) (O0 : Old Z n0 h0) (p_0 : Fld Z h0 x0 "com/example/aturan/aturan/rules/AccessRule" "certificateHash" "[B" (.ref q)) (p_1 : Arv Z h0 q k .byte n vs dv) (p_2 : Sta Z Z.heap "com/example/aturan/aturan/rules/HashAlgorithm" "$VALUES" "[Lcom/example/aturan/aturan/rules/HashAlgorithm;" (.ref aV)) (p_3 : Exa Z Z.heap aV "[Lcom/example/aturan/aturan/rules/HashAlgorithm;") (p_4 : Arv Z Z.heap aV kV (.object "com/example/aturan/aturan/rules/HashAlgorithm") (2 : Int32) [(.ref a1), (.ref a2)] .null) (p_5 : Fld Z Z.heap a1 "com/example/aturan/aturan/rules/HashAlgorithm" "length" "I" (.int (20 : Int32))) (p_6 : Fld Z Z.heap a2 "com/example/aturan/aturan/rules/HashAlgorithm" "length" "I" (.int (32 : Int32))) (p_7 : Exa Z Z.heap a1 "com/example/aturan/aturan/rules/HashAlgorithm") (p_8 : Exa Z Z.heap a2 "com/example/aturan/aturan/rules/HashAlgorithm") (p_9 : Sta Z Z.heap "java/util/Optional" "EMPTY" "Ljava/util/Optional;" (.ref oE)) (p_10 : Exa Z Z.heap oE "java/util/Optional") (p_11 : Fld Z Z.heap oE "java/util/Optional" "value" "Ljava/lang/Object;" .null) (p_12 : ¬ (20 : Int32) = n) (p_13 : ¬ (32 : Int32) = n) :
    MetFree l (⟨"com/example/aturan/aturan/rules/AccessRule", "getAlgorithm", "()Ljava/util/Optional;"⟩ : MethodName) (head1 (Jvm.Cond.code (⟨"com/example/aturan/aturan/rules/AccessRule", "getAlgorithm", "()Ljava/util/Optional;"⟩ : MethodName) prog_32_method_4_code 1 (some (.object "java/util/Optional")) :: ws) ({ frames := 3, cells := 1, slots := 2, locals := 41 } : Room)) (fun a U => a = #[(.ref x0)] ∧ Z.Warmed39 U.vm ∧ U.heap = h0) (fun _ _ _ _ _ => True) (fun _ U o U' => ∃ v L, o = .returned v ∧ Q_rmGA0 Z x0 q k n vs dv aV kV a1 a2 oE h0 n0 v U'.heap L ∧ FrameEnd U o U' L ({ frames := 3, cells := 1, slots := 2, locals := 41 } : Room).cells ({ frames := 3, cells := 1, slots := 2, locals := 41 } : Room).slots) := by
  refine MetFree.of_bodySF (plainFor_of_name pn_0) hisR ?_
  intro p e s m args below meth c s₁ Bd hml0 hP hK
  obtain ⟨rfl, hZ, hh⟩ := hP
  have hx := Bd.exec
  have hby := Bd.bytes
  have hml : c.maxLocals = 1 := hml0
  have hown : s.vm.findClass "com/example/aturan/aturan/rules/AccessRule" = some m.cls := findClass_of_methodNamed Bd.named
  have hnm := (name_of_methodNamed Bd.named Bd.method).1
  have X0 : Stand p l e ({ frames := 3, cells := 1, slots := 2, locals := 41 } : Room) s m #[(.ref x0)] below meth c s₁ [] 0 0 := Stand.of_body Bd
  have e0 : s₁.heap = h0 := by rw [← hh, Bd.state]; rfl
  have N0 := Fr.nil n0
  show own_Ends p e below s ({ frames := 3, cells := 1, slots := 2, locals := 41 } : Room).cells ({ frames := 3, cells := 1, slots := 2, locals := 41 } : Room).slots (Q_rmGA0 Z x0 q k n vs dv aV kV a1 a2 oE h0 n0) (s₁.setTop (entryFrame m #[(.ref x0)] 1))
  rw [ef_17_R]
  refine own_step (st' := s₁.setTop (mkF m 1 #[.val (.ref x0)] [(.ref x0)])) (fun t k => XS.aloadN X0.here hx rfl (hb hby d17_0) rfl rfl k) ?_
  obtain ⟨T1, X1, e1, st1⟩ := getF X0 hx hZ hown (host := "") (Or.inl (hw _ (List.mem_of_getElem? (i := 68) rfl))) Via.refl e0 p_0 (g := (mkF m 1 #[.val (.ref x0)] [(.ref x0)])) rfl rfl (hb hby d17_1)
  refine own_step (st' := T1.setTop (mkF m 4 #[.val (.ref x0)] [(.ref q)])) st1 ?_
  refine own_step (st' := T1.setTop (mkF m 13 #[.val (.ref x0)] [])) (fun t k => XS.ifnonnullYes X1.here hx rfl (pc0 := 4) (pc' := 13) rfl (hb hby d17_4) rfl (by decide) (by decide) k) ?_
  refine own_step (st' := T1.setTop (mkF m 14 #[.val (.ref x0)] [(.ref x0)])) (fun t k => XS.aloadN X1.here hx rfl (hb hby d17_13) rfl rfl k) ?_
  obtain ⟨T2, X2, e2, st2⟩ := getF X1 hx hZ hown (host := "") (Or.inl (hw _ (List.mem_of_getElem? (i := 68) rfl))) Via.refl e1 p_0 (g := (mkF m 14 #[.val (.ref x0)] [(.ref x0)])) rfl rfl (hb hby d17_14)
  refine own_step (st' := T2.setTop (mkF m 17 #[.val (.ref x0)] [(.ref q)])) st2 ?_
  refine own_step (st' := T2.setTop (mkF m 18 #[.val (.ref x0)] [(.int n)])) (fun t k => own_len X2 hx hZ e2 p_1 (g := (mkF m 17 #[.val (.ref x0)] [(.ref q)])) rfl rfl (hb hby d17_17) t k) ?_
  obtain ⟨_, _, ⟨T3, L3, k3, n3⟩, -, X3, ⟨Lc3, hQ3, l3, y3, z3⟩, st3⟩ := Jvm.LawKit.callS X2 hx (y := (⟨"com/example/aturan/aturan/rules/HashAlgorithm", "forLength", "(I)Ljava/util/Optional;"⟩ : MethodName)) hown (mvT hZ (hw _ (List.mem_of_getElem? (i := 132) rfl))) (mvT hZ (hw _ (List.mem_of_getElem? (i := 133) rfl))) (mvT hZ (hw _ (List.mem_of_getElem? (i := 134) rfl))) (mvT hZ (hw _ (List.mem_of_getElem? (i := 135) rfl))) (by decide) (backOf (W := 0) (rmFL0 l Z a0 hw [] n aV kV a1 a2 oE h0 n0 Z0 O0 p_2 p_3 p_4 p_5 p_6 p_7 p_8 p_9 p_10 p_11 p_12 p_13) hZ (hw _ (List.mem_of_getElem? (i := 135) rfl)) (hw _ (List.mem_of_getElem? (i := 134) rfl)) (by decide) (by decide)) (g := (mkF m 18 #[.val (.ref x0)] [(.int n)])) rfl (by rw [hml]; rfl) (argsL := [(.int n)]) (rest := []) (lenOf pd_15 rfl) rfl (by show 2 * 0 + _ ≤ _; exact Nat.le_of_eq rfl) (hb hby d17_18) (fun _ _ => ⟨rfl, e2, (by decide : 0 + 1 ≤ _), (by decide : 0 + 2 ≤ _)⟩)
  dsimp only [Pt.U, Pt.locs, Pt.cells, Pt.slots] at X3 l3 y3 z3 st3 hQ3
  subst l3 y3 z3
  obtain ⟨rfl, N3q, K3⟩ := hQ3
  have N3 := Fr.app N0 N3q
  obtain ⟨h3, e3⟩ : ∃ z, T3.heap = z := ⟨_, rfl⟩
  rw [e3] at K3
  have f4 := p_0.keep K3 nin0
  have f5 := p_1.keep K3 nin0
  have O6 := O0.keep K3 all0
  have K7 : Keep h0 h3 [] := (Keep.refl h0 []).trans K3 all0
  have Z8 : n0 ≤ h3.size := Nat.le_trans Z0 K3.1
  refine own_step (st' := T3.setTop (mkF m 21 #[.val (.ref x0)] [(.ref oE)])) st3 ?_
  refine own_ret X3 Bd.notSynchronized (some (.ref oE)) (fun h => by rw [Bd.returns] at h; cases h) (fun fs hr => retOut X3 hx Bd.returns rfl (Or.inr (Or.inr (Or.inr (Or.inr ⟨rfl, rfl, rfl⟩)))) (hb hby d17_21) hr) ?_ (by decide) (by decide)
  rw [e3]
  exact ⟨rfl, N3, K7⟩
def Q_rmGA1 (Z : State) (x0 : Addr) (q : Addr) (k : ClassId) (n : Int32) (vs : List Value) (dv : Value) (aV : Addr) (kV : ClassId) (a1 : Addr) (a2 : Addr) (oE : Addr) (h0 : Heap) (n0 : Nat) (v : Option Value) (h : Heap) (L : List Loc) : Prop := ∃ r : Addr, v = some (.ref r) ∧ Fr n0 L ∧ Keep h0 h [] ∧ h0.size ≤ r ∧ Exa Z h r "java/util/Optional" ∧ Fld Z h r "java/util/Optional" "value" "Ljava/lang/Object;" (.ref a1)
set_option maxRecDepth 65536 in
set_option maxHeartbeats 40000000 in
theorem rmGA1 (l : Launch) (Z : State) (a0 : Array Value) (hw : ∀ d ∈ tables_1, d.before a0 Z = true) (ws : List Jvm.Cond) (x0 : Addr) (q : Addr) (k : ClassId) (n : Int32) (vs : List Value) (dv : Value) (aV : Addr) (kV : ClassId) (a1 : Addr) (a2 : Addr) (oE : Addr) (h0 : Heap) (n0 : Nat) (Z0 : n0 ≤ h0.size) (O0 : Old Z n0 h0) (p_0 : Fld Z h0 x0 "com/example/aturan/aturan/rules/AccessRule" "certificateHash" "[B" (.ref q)) (p_1 : Arv Z h0 q k .byte n vs dv) (p_2 : Sta Z Z.heap "com/example/aturan/aturan/rules/HashAlgorithm" "$VALUES" "[Lcom/example/aturan/aturan/rules/HashAlgorithm;" (.ref aV)) (p_3 : Exa Z Z.heap aV "[Lcom/example/aturan/aturan/rules/HashAlgorithm;") (p_4 : Arv Z Z.heap aV kV (.object "com/example/aturan/aturan/rules/HashAlgorithm") (2 : Int32) [(.ref a1), (.ref a2)] .null) (p_5 : Fld Z Z.heap a1 "com/example/aturan/aturan/rules/HashAlgorithm" "length" "I" (.int (20 : Int32))) (p_6 : Fld Z Z.heap a2 "com/example/aturan/aturan/rules/HashAlgorithm" "length" "I" (.int (32 : Int32))) (p_7 : Exa Z Z.heap a1 "com/example/aturan/aturan/rules/HashAlgorithm") (p_8 : Exa Z Z.heap a2 "com/example/aturan/aturan/rules/HashAlgorithm") (p_9 : Sta Z Z.heap "java/util/Optional" "EMPTY" "Ljava/util/Optional;" (.ref oE)) (p_10 : Exa Z Z.heap oE "java/util/Optional") (p_11 : Fld Z Z.heap oE "java/util/Optional" "value" "Ljava/lang/Object;" .null) (p_12 : n = (20 : Int32)) :
    MetFree l (⟨"com/example/aturan/aturan/rules/AccessRule", "getAlgorithm", "()Ljava/util/Optional;"⟩ : MethodName) (head1 (Jvm.Cond.code (⟨"com/example/aturan/aturan/rules/AccessRule", "getAlgorithm", "()Ljava/util/Optional;"⟩ : MethodName) prog_32_method_4_code 1 (some (.object "java/util/Optional")) :: ws) ({ frames := 4, cells := 2, slots := 3, locals := 54 } : Room)) (fun a U => a = #[(.ref x0)] ∧ Z.Warmed39 U.vm ∧ U.heap = h0) (fun _ _ _ _ _ => True) (fun _ U o U' => ∃ v L, o = .returned v ∧ Q_rmGA1 Z x0 q k n vs dv aV kV a1 a2 oE h0 n0 v U'.heap L ∧ FrameEnd U o U' L ({ frames := 4, cells := 2, slots := 3, locals := 54 } : Room).cells ({ frames := 4, cells := 2, slots := 3, locals := 54 } : Room).slots) := by
  refine MetFree.of_bodySF (plainFor_of_name pn_0) hisR ?_
  intro p e s m args below meth c s₁ Bd hml0 hP hK
  obtain ⟨rfl, hZ, hh⟩ := hP
  have hx := Bd.exec
  have hby := Bd.bytes
  have hml : c.maxLocals = 1 := hml0
  have hown : s.vm.findClass "com/example/aturan/aturan/rules/AccessRule" = some m.cls := findClass_of_methodNamed Bd.named
  have hnm := (name_of_methodNamed Bd.named Bd.method).1
  have X0 : Stand p l e ({ frames := 4, cells := 2, slots := 3, locals := 54 } : Room) s m #[(.ref x0)] below meth c s₁ [] 0 0 := Stand.of_body Bd
  have e0 : s₁.heap = h0 := by rw [← hh, Bd.state]; rfl
  have N0 := Fr.nil n0
  show own_Ends p e below s ({ frames := 4, cells := 2, slots := 3, locals := 54 } : Room).cells ({ frames := 4, cells := 2, slots := 3, locals := 54 } : Room).slots (Q_rmGA1 Z x0 q k n vs dv aV kV a1 a2 oE h0 n0) (s₁.setTop (entryFrame m #[(.ref x0)] 1))
  rw [ef_17_R]
  refine own_step (st' := s₁.setTop (mkF m 1 #[.val (.ref x0)] [(.ref x0)])) (fun t k => XS.aloadN X0.here hx rfl (hb hby d17_0) rfl rfl k) ?_
  obtain ⟨T1, X1, e1, st1⟩ := getF X0 hx hZ hown (host := "") (Or.inl (hw _ (List.mem_of_getElem? (i := 68) rfl))) Via.refl e0 p_0 (g := (mkF m 1 #[.val (.ref x0)] [(.ref x0)])) rfl rfl (hb hby d17_1)
  refine own_step (st' := T1.setTop (mkF m 4 #[.val (.ref x0)] [(.ref q)])) st1 ?_
  refine own_step (st' := T1.setTop (mkF m 13 #[.val (.ref x0)] [])) (fun t k => XS.ifnonnullYes X1.here hx rfl (pc0 := 4) (pc' := 13) rfl (hb hby d17_4) rfl (by decide) (by decide) k) ?_
  refine own_step (st' := T1.setTop (mkF m 14 #[.val (.ref x0)] [(.ref x0)])) (fun t k => XS.aloadN X1.here hx rfl (hb hby d17_13) rfl rfl k) ?_
  obtain ⟨T2, X2, e2, st2⟩ := getF X1 hx hZ hown (host := "") (Or.inl (hw _ (List.mem_of_getElem? (i := 68) rfl))) Via.refl e1 p_0 (g := (mkF m 14 #[.val (.ref x0)] [(.ref x0)])) rfl rfl (hb hby d17_14)
  refine own_step (st' := T2.setTop (mkF m 17 #[.val (.ref x0)] [(.ref q)])) st2 ?_
  refine own_step (st' := T2.setTop (mkF m 18 #[.val (.ref x0)] [(.int n)])) (fun t k => own_len X2 hx hZ e2 p_1 (g := (mkF m 17 #[.val (.ref x0)] [(.ref q)])) rfl rfl (hb hby d17_17) t k) ?_
  obtain ⟨_, _, ⟨T3, L3, k3, n3⟩, -, X3, ⟨Lc3, hQ3, l3, y3, z3⟩, st3⟩ := Jvm.LawKit.callS X2 hx (y := (⟨"com/example/aturan/aturan/rules/HashAlgorithm", "forLength", "(I)Ljava/util/Optional;"⟩ : MethodName)) hown (mvT hZ (hw _ (List.mem_of_getElem? (i := 132) rfl))) (mvT hZ (hw _ (List.mem_of_getElem? (i := 133) rfl))) (mvT hZ (hw _ (List.mem_of_getElem? (i := 134) rfl))) (mvT hZ (hw _ (List.mem_of_getElem? (i := 135) rfl))) (by decide) (backOf (W := 0) (rmFL1 l Z a0 hw [] n aV kV a1 a2 oE h0 n0 Z0 O0 p_2 p_3 p_4 p_5 p_6 p_7 p_8 p_9 p_10 p_11 p_12) hZ (hw _ (List.mem_of_getElem? (i := 135) rfl)) (hw _ (List.mem_of_getElem? (i := 134) rfl)) (by decide) (by decide)) (g := (mkF m 18 #[.val (.ref x0)] [(.int n)])) rfl (by rw [hml]; rfl) (argsL := [(.int n)]) (rest := []) (lenOf pd_15 rfl) rfl (by show 2 * 0 + _ ≤ _; exact Nat.le_of_eq rfl) (hb hby d17_18) (fun _ _ => ⟨rfl, e2, (by decide : 0 + 2 ≤ _), (by decide : 0 + 3 ≤ _)⟩)
  dsimp only [Pt.U, Pt.locs, Pt.cells, Pt.slots] at X3 l3 y3 z3 st3 hQ3
  subst l3 y3 z3
  obtain ⟨r_3, rfl, N3q, K3, pq3_0, pq3_1, pq3_2⟩ := hQ3
  have N3 := Fr.app N0 N3q
  obtain ⟨h3, e3⟩ : ∃ z, T3.heap = z := ⟨_, rfl⟩
  rw [e3] at K3 pq3_1 pq3_2
  have ne4 : x0 ≠ r_3 := Nat.ne_of_lt (Nat.lt_of_lt_of_le p_0.lt pq3_0)
  have ne5 : q ≠ r_3 := Nat.ne_of_lt (Nat.lt_of_lt_of_le p_1.lt pq3_0)
  have ne6 : aV ≠ r_3 := Nat.ne_of_lt (Nat.lt_of_lt_of_le (p_3.ext O0.2).lt pq3_0)
  have ne7 : a1 ≠ r_3 := Nat.ne_of_lt (Nat.lt_of_lt_of_le (p_5.ext O0.2).lt pq3_0)
  have ne8 : a2 ≠ r_3 := Nat.ne_of_lt (Nat.lt_of_lt_of_le (p_6.ext O0.2).lt pq3_0)
  have ne9 : oE ≠ r_3 := Nat.ne_of_lt (Nat.lt_of_lt_of_le (p_10.ext O0.2).lt pq3_0)
  have g_r_3 : n0 ≤ r_3 := Nat.le_trans Z0 pq3_0
  have sz_r_3 : h0.size ≤ r_3 := Nat.le_trans (Keep.refl h0 []).1 pq3_0
  have f10 := p_0.keep K3 nin0
  have f11 := p_1.keep K3 nin0
  have O12 := O0.keep K3 all0
  have K13 : Keep h0 h3 [] := (Keep.refl h0 []).trans K3 all0
  have Z14 : n0 ≤ h3.size := Nat.le_trans Z0 K3.1
  refine own_step (st' := T3.setTop (mkF m 21 #[.val (.ref x0)] [(.ref r_3)])) st3 ?_
  refine own_ret X3 Bd.notSynchronized (some (.ref r_3)) (fun h => by rw [Bd.returns] at h; cases h) (fun fs hr => retOut X3 hx Bd.returns rfl (Or.inr (Or.inr (Or.inr (Or.inr ⟨rfl, rfl, rfl⟩)))) (hb hby d17_21) hr) ?_ (by decide) (by decide)
  rw [e3]
  exact ⟨r_3, rfl, N3, K13, sz_r_3, pq3_1, pq3_2⟩
def Q_rmGA2 (Z : State) (x0 : Addr) (q : Addr) (k : ClassId) (n : Int32) (vs : List Value) (dv : Value) (aV : Addr) (kV : ClassId) (a1 : Addr) (a2 : Addr) (oE : Addr) (h0 : Heap) (n0 : Nat) (v : Option Value) (h : Heap) (L : List Loc) : Prop := ∃ r : Addr, v = some (.ref r) ∧ Fr n0 L ∧ Keep h0 h [] ∧ h0.size ≤ r ∧ Exa Z h r "java/util/Optional" ∧ Fld Z h r "java/util/Optional" "value" "Ljava/lang/Object;" (.ref a2)
set_option maxRecDepth 65536 in
set_option maxHeartbeats 40000000 in
theorem rmGA2 (l : Launch) (Z : State) (a0 : Array Value) (hw : ∀ d ∈ tables_1, d.before a0 Z = true) (ws : List Jvm.Cond) (x0 : Addr) (q : Addr) (k : ClassId) (n : Int32) (vs : List Value) (dv : Value) (aV : Addr) (kV : ClassId) (a1 : Addr) (a2 : Addr) (oE : Addr) (h0 : Heap) (n0 : Nat) (Z0 : n0 ≤ h0.size) (O0 : Old Z n0 h0) (p_0 : Fld Z h0 x0 "com/example/aturan/aturan/rules/AccessRule" "certificateHash" "[B" (.ref q)) (p_1 : Arv Z h0 q k .byte n vs dv) (p_2 : Sta Z Z.heap "com/example/aturan/aturan/rules/HashAlgorithm" "$VALUES" "[Lcom/example/aturan/aturan/rules/HashAlgorithm;" (.ref aV)) (p_3 : Exa Z Z.heap aV "[Lcom/example/aturan/aturan/rules/HashAlgorithm;") (p_4 : Arv Z Z.heap aV kV (.object "com/example/aturan/aturan/rules/HashAlgorithm") (2 : Int32) [(.ref a1), (.ref a2)] .null) (p_5 : Fld Z Z.heap a1 "com/example/aturan/aturan/rules/HashAlgorithm" "length" "I" (.int (20 : Int32))) (p_6 : Fld Z Z.heap a2 "com/example/aturan/aturan/rules/HashAlgorithm" "length" "I" (.int (32 : Int32))) (p_7 : Exa Z Z.heap a1 "com/example/aturan/aturan/rules/HashAlgorithm") (p_8 : Exa Z Z.heap a2 "com/example/aturan/aturan/rules/HashAlgorithm") (p_9 : Sta Z Z.heap "java/util/Optional" "EMPTY" "Ljava/util/Optional;" (.ref oE)) (p_10 : Exa Z Z.heap oE "java/util/Optional") (p_11 : Fld Z Z.heap oE "java/util/Optional" "value" "Ljava/lang/Object;" .null) (p_12 : n = (32 : Int32)) :
    MetFree l (⟨"com/example/aturan/aturan/rules/AccessRule", "getAlgorithm", "()Ljava/util/Optional;"⟩ : MethodName) (head1 (Jvm.Cond.code (⟨"com/example/aturan/aturan/rules/AccessRule", "getAlgorithm", "()Ljava/util/Optional;"⟩ : MethodName) prog_32_method_4_code 1 (some (.object "java/util/Optional")) :: ws) ({ frames := 4, cells := 2, slots := 3, locals := 54 } : Room)) (fun a U => a = #[(.ref x0)] ∧ Z.Warmed39 U.vm ∧ U.heap = h0) (fun _ _ _ _ _ => True) (fun _ U o U' => ∃ v L, o = .returned v ∧ Q_rmGA2 Z x0 q k n vs dv aV kV a1 a2 oE h0 n0 v U'.heap L ∧ FrameEnd U o U' L ({ frames := 4, cells := 2, slots := 3, locals := 54 } : Room).cells ({ frames := 4, cells := 2, slots := 3, locals := 54 } : Room).slots) := by
  refine MetFree.of_bodySF (plainFor_of_name pn_0) hisR ?_
  intro p e s m args below meth c s₁ Bd hml0 hP hK
  obtain ⟨rfl, hZ, hh⟩ := hP
  have hx := Bd.exec
  have hby := Bd.bytes
  have hml : c.maxLocals = 1 := hml0
  have hown : s.vm.findClass "com/example/aturan/aturan/rules/AccessRule" = some m.cls := findClass_of_methodNamed Bd.named
  have hnm := (name_of_methodNamed Bd.named Bd.method).1
  have X0 : Stand p l e ({ frames := 4, cells := 2, slots := 3, locals := 54 } : Room) s m #[(.ref x0)] below meth c s₁ [] 0 0 := Stand.of_body Bd
  have e0 : s₁.heap = h0 := by rw [← hh, Bd.state]; rfl
  have N0 := Fr.nil n0
  show own_Ends p e below s ({ frames := 4, cells := 2, slots := 3, locals := 54 } : Room).cells ({ frames := 4, cells := 2, slots := 3, locals := 54 } : Room).slots (Q_rmGA2 Z x0 q k n vs dv aV kV a1 a2 oE h0 n0) (s₁.setTop (entryFrame m #[(.ref x0)] 1))
  rw [ef_17_R]
  refine own_step (st' := s₁.setTop (mkF m 1 #[.val (.ref x0)] [(.ref x0)])) (fun t k => XS.aloadN X0.here hx rfl (hb hby d17_0) rfl rfl k) ?_
  obtain ⟨T1, X1, e1, st1⟩ := getF X0 hx hZ hown (host := "") (Or.inl (hw _ (List.mem_of_getElem? (i := 68) rfl))) Via.refl e0 p_0 (g := (mkF m 1 #[.val (.ref x0)] [(.ref x0)])) rfl rfl (hb hby d17_1)
  refine own_step (st' := T1.setTop (mkF m 4 #[.val (.ref x0)] [(.ref q)])) st1 ?_
  refine own_step (st' := T1.setTop (mkF m 13 #[.val (.ref x0)] [])) (fun t k => XS.ifnonnullYes X1.here hx rfl (pc0 := 4) (pc' := 13) rfl (hb hby d17_4) rfl (by decide) (by decide) k) ?_
  refine own_step (st' := T1.setTop (mkF m 14 #[.val (.ref x0)] [(.ref x0)])) (fun t k => XS.aloadN X1.here hx rfl (hb hby d17_13) rfl rfl k) ?_
  obtain ⟨T2, X2, e2, st2⟩ := getF X1 hx hZ hown (host := "") (Or.inl (hw _ (List.mem_of_getElem? (i := 68) rfl))) Via.refl e1 p_0 (g := (mkF m 14 #[.val (.ref x0)] [(.ref x0)])) rfl rfl (hb hby d17_14)
  refine own_step (st' := T2.setTop (mkF m 17 #[.val (.ref x0)] [(.ref q)])) st2 ?_
  refine own_step (st' := T2.setTop (mkF m 18 #[.val (.ref x0)] [(.int n)])) (fun t k => own_len X2 hx hZ e2 p_1 (g := (mkF m 17 #[.val (.ref x0)] [(.ref q)])) rfl rfl (hb hby d17_17) t k) ?_
  obtain ⟨_, _, ⟨T3, L3, k3, n3⟩, -, X3, ⟨Lc3, hQ3, l3, y3, z3⟩, st3⟩ := Jvm.LawKit.callS X2 hx (y := (⟨"com/example/aturan/aturan/rules/HashAlgorithm", "forLength", "(I)Ljava/util/Optional;"⟩ : MethodName)) hown (mvT hZ (hw _ (List.mem_of_getElem? (i := 132) rfl))) (mvT hZ (hw _ (List.mem_of_getElem? (i := 133) rfl))) (mvT hZ (hw _ (List.mem_of_getElem? (i := 134) rfl))) (mvT hZ (hw _ (List.mem_of_getElem? (i := 135) rfl))) (by decide) (backOf (W := 0) (rmFL2 l Z a0 hw [] n aV kV a1 a2 oE h0 n0 Z0 O0 p_2 p_3 p_4 p_5 p_6 p_7 p_8 p_9 p_10 p_11 p_12) hZ (hw _ (List.mem_of_getElem? (i := 135) rfl)) (hw _ (List.mem_of_getElem? (i := 134) rfl)) (by decide) (by decide)) (g := (mkF m 18 #[.val (.ref x0)] [(.int n)])) rfl (by rw [hml]; rfl) (argsL := [(.int n)]) (rest := []) (lenOf pd_15 rfl) rfl (by show 2 * 0 + _ ≤ _; exact Nat.le_of_eq rfl) (hb hby d17_18) (fun _ _ => ⟨rfl, e2, (by decide : 0 + 2 ≤ _), (by decide : 0 + 3 ≤ _)⟩)
  dsimp only [Pt.U, Pt.locs, Pt.cells, Pt.slots] at X3 l3 y3 z3 st3 hQ3
  subst l3 y3 z3
  obtain ⟨r_3, rfl, N3q, K3, pq3_0, pq3_1, pq3_2⟩ := hQ3
  have N3 := Fr.app N0 N3q
  obtain ⟨h3, e3⟩ : ∃ z, T3.heap = z := ⟨_, rfl⟩
  rw [e3] at K3 pq3_1 pq3_2
  have ne4 : x0 ≠ r_3 := Nat.ne_of_lt (Nat.lt_of_lt_of_le p_0.lt pq3_0)
  have ne5 : q ≠ r_3 := Nat.ne_of_lt (Nat.lt_of_lt_of_le p_1.lt pq3_0)
  have ne6 : aV ≠ r_3 := Nat.ne_of_lt (Nat.lt_of_lt_of_le (p_3.ext O0.2).lt pq3_0)
  have ne7 : a1 ≠ r_3 := Nat.ne_of_lt (Nat.lt_of_lt_of_le (p_5.ext O0.2).lt pq3_0)
  have ne8 : a2 ≠ r_3 := Nat.ne_of_lt (Nat.lt_of_lt_of_le (p_6.ext O0.2).lt pq3_0)
  have ne9 : oE ≠ r_3 := Nat.ne_of_lt (Nat.lt_of_lt_of_le (p_10.ext O0.2).lt pq3_0)
  have g_r_3 : n0 ≤ r_3 := Nat.le_trans Z0 pq3_0
  have sz_r_3 : h0.size ≤ r_3 := Nat.le_trans (Keep.refl h0 []).1 pq3_0
  have f10 := p_0.keep K3 nin0
  have f11 := p_1.keep K3 nin0
  have O12 := O0.keep K3 all0
  have K13 : Keep h0 h3 [] := (Keep.refl h0 []).trans K3 all0
  have Z14 : n0 ≤ h3.size := Nat.le_trans Z0 K3.1
  refine own_step (st' := T3.setTop (mkF m 21 #[.val (.ref x0)] [(.ref r_3)])) st3 ?_
  refine own_ret X3 Bd.notSynchronized (some (.ref r_3)) (fun h => by rw [Bd.returns] at h; cases h) (fun fs hr => retOut X3 hx Bd.returns rfl (Or.inr (Or.inr (Or.inr (Or.inr ⟨rfl, rfl, rfl⟩)))) (hb hby d17_21) hr) ?_ (by decide) (by decide)
  rw [e3]
  exact ⟨r_3, rfl, N3, K13, sz_r_3, pq3_1, pq3_2⟩

theorem own_lt3 {z : Int32} (h : ¬ (0 : Int32) < z) : z < (3 : Int32) := by
  rw [Int32.lt_iff_toInt_lt] at h ⊢
  have d0 : (0 : Int32).toInt = 0 := by decide
  have d3 : (3 : Int32).toInt = 3 := by decide
  omega
theorem own_lt2 {z : Int32} (h : ¬ (0 : Int32) < z) : z < (2 : Int32) := by
  rw [Int32.lt_iff_toInt_lt] at h ⊢
  have d0 : (0 : Int32).toInt = 0 := by decide
  have d3 : (2 : Int32).toInt = 2 := by decide
  omega
theorem own_lt23 {z : Int32} (h : z < (2 : Int32)) : z < (3 : Int32) := by
  rw [Int32.lt_iff_toInt_lt] at h ⊢
  have d0 : (2 : Int32).toInt = 2 := by decide
  have d3 : (3 : Int32).toInt = 3 := by decide
  omega
theorem own_pos {z : Int32} (h : (0 : Int32) < z) : 0 < z.toInt := by
  rw [Int32.lt_iff_toInt_lt] at h
  have d0 : (0 : Int32).toInt = 0 := by decide
  omega
theorem own_ge3 {z : Int32} (h : ¬ z < (3 : Int32)) : 3 ≤ z.toInt := by
  rw [Int32.lt_iff_toInt_lt] at h
  have d0 : (3 : Int32).toInt = 3 := by decide
  omega
theorem own_i0 {z : Int32} (h : 0 < z.toInt) : ¬ (0 : Int32) < 0 ∧ (0 : Int32) < z := ⟨by decide, by rw [Int32.lt_iff_toInt_lt]; have d0 : (0 : Int32).toInt = 0 := (by decide); omega⟩
theorem own_i1 {z : Int32} (h : 0 < z.toInt) (q : z.toInt ≤ 33) : (¬ (z - (1 : Int32)) < 0 ∧ (z - (1 : Int32)) < z) ∧ (z - (1 : Int32)).toNatClampNeg < 33 := by
  have e := own_one ⟨h, q⟩
  exact ⟨own_in (by omega) (by omega), own_nat ⟨by omega, by omega⟩⟩
theorem own_i2 {z : Int32} (h : 3 ≤ z.toInt) (q : z.toInt ≤ 33) : (¬ (z / (2 : Int32)) < 0 ∧ (z / (2 : Int32)) < z) ∧ (z / (2 : Int32)).toNatClampNeg < 33 := by
  have e := own_half (len := z) ⟨by omega, q⟩
  exact ⟨own_in (by omega) (by omega), own_nat ⟨by omega, by omega⟩⟩
theorem own_n0 : (0 : Int32).toNatClampNeg < 33 := by decide
theorem own_eqN {t : Term} {args : Array Value} {s : State} (hq : (Jvm.Cond.eq t .null).value args s none s [] = some true) : t.eval args s none [] s = some .null := by
  simp only [Cond.value, Term.eval] at hq
  split at hq <;> simp_all

theorem ef_0_IIIII (m : MethodId) (x0 : Int32) (x1 : Int32) (x2 : Int32) (x3 : Int32) (x4 : Int32) : entryFrame m #[(.int x0), (.int x1), (.int x2), (.int x3), (.int x4)] maxLocals = mkF m 0 #[.val (.int x0), .val (.int x1), .val (.int x2), .val (.int x3), .val (.int x4), .unset, .unset, .unset, .unset, .unset, .unset, .unset, .unset, .unset, .unset, .unset, .unset, .unset] [] := by first | (simp [entryFrame, mkF, argsToLocals, Value.category, maxLocals]; done) | rfl
def Q_rm0 (Z : State) (x0 : Int32) (x1 : Int32) (x2 : Int32) (x3 : Int32) (x4 : Int32) (oL : Addr) (aV : Addr) (kV : ClassId) (a1 : Addr) (a2 : Addr) (oE : Addr) (i1 : Addr) (i2 : Addr) (i3 : Addr) (h0 : Heap) (n0 : Nat) (v : Option Value) (h : Heap) (L : List Loc) : Prop := v = some (.int (1 : Int32)) ∧ Fr n0 L
set_option maxRecDepth 65536 in
set_option maxHeartbeats 40000000 in
theorem rm0 (l : Launch) (Z : State) (a0 : Array Value) (hw : ∀ d ∈ tables_1, d.before a0 Z = true) (ws : List Jvm.Cond) (x0 : Int32) (x1 : Int32) (x2 : Int32) (x3 : Int32) (x4 : Int32) (oL : Addr) (aV : Addr) (kV : ClassId) (a1 : Addr) (a2 : Addr) (oE : Addr) (i1 : Addr) (i2 : Addr) (i3 : Addr) (h0 : Heap) (n0 : Nat) (Z0 : n0 ≤ h0.size) (O0 : Old Z n0 h0) (p_0 : Sta Z Z.heap "java/util/OptionalLong" "EMPTY" "Ljava/util/OptionalLong;" (.ref oL)) (p_1 : Exa Z Z.heap oL "java/util/OptionalLong") (p_2 : Fld Z Z.heap oL "java/util/OptionalLong" "isPresent" "Z" (.int (0 : Int32))) (p_3 : Sta Z Z.heap "com/example/aturan/aturan/rules/HashAlgorithm" "$VALUES" "[Lcom/example/aturan/aturan/rules/HashAlgorithm;" (.ref aV)) (p_4 : Exa Z Z.heap aV "[Lcom/example/aturan/aturan/rules/HashAlgorithm;") (p_5 : Arv Z Z.heap aV kV (.object "com/example/aturan/aturan/rules/HashAlgorithm") (2 : Int32) [(.ref a1), (.ref a2)] .null) (p_6 : Fld Z Z.heap a1 "com/example/aturan/aturan/rules/HashAlgorithm" "length" "I" (.int (20 : Int32))) (p_7 : Fld Z Z.heap a2 "com/example/aturan/aturan/rules/HashAlgorithm" "length" "I" (.int (32 : Int32))) (p_8 : Exa Z Z.heap a1 "com/example/aturan/aturan/rules/HashAlgorithm") (p_9 : Exa Z Z.heap a2 "com/example/aturan/aturan/rules/HashAlgorithm") (p_10 : Sta Z Z.heap "java/util/Optional" "EMPTY" "Ljava/util/Optional;" (.ref oE)) (p_11 : Exa Z Z.heap oE "java/util/Optional") (p_12 : Fld Z Z.heap oE "java/util/Optional" "value" "Ljava/lang/Object;" .null) (p_13 : Sta Z Z.heap "com/example/aturan/aturan/rules/IgnoreReason" "EMPTY_CERTIFICATE_HASH" "Lcom/example/aturan/aturan/rules/IgnoreReason;" (.ref i1)) (p_14 : Sta Z Z.heap "com/example/aturan/aturan/rules/IgnoreReason" "NO_PERMISSION_MASK" "Lcom/example/aturan/aturan/rules/IgnoreReason;" (.ref i2)) (p_15 : Sta Z Z.heap "com/example/aturan/aturan/rules/IgnoreReason" "HASH_LENGTH" "Lcom/example/aturan/aturan/rules/IgnoreReason;" (.ref i3)) (p_16 : Sta Z Z.heap "com/example/aturan/aturan/rules/HashAlgorithm" "SHA_1" "Lcom/example/aturan/aturan/rules/HashAlgorithm;" (.ref a1)) (p_17 : Sta Z Z.heap "com/example/aturan/aturan/rules/HashAlgorithm" "SHA_256" "Lcom/example/aturan/aturan/rules/HashAlgorithm;" (.ref a2)) :
    MetFree l x (head1 (Jvm.Cond.code x code maxLocals ret :: ws) room_1) (fun a U => a = #[(.int x0), (.int x1), (.int x2), (.int x3), (.int x4)] ∧ Z.WarmedH U.vm ∧ U.heap = h0) (fun _ _ _ _ _ => True) (fun _ U o U' => ∃ v L, o = .returned v ∧ Q_rm0 Z x0 x1 x2 x3 x4 oL aV kV a1 a2 oE i1 i2 i3 h0 n0 v U'.heap L ∧ FrameEnd U o U' L room_1.cells room_1.slots) := by
  refine MetFree.of_bodySF (plainFor_of_name pn_2) hisR ?_
  intro p e s m args below meth c s₁ Bd hml0 hP hK
  obtain ⟨rfl, hZH, hh⟩ := hP
  have hZ := hZH.wide
  have hx := Bd.exec
  have hby := Bd.bytes
  have hml : c.maxLocals = 18 := hml0
  have hown : s.vm.findClass "com/example/aturan/aturan/rules/AraMRuleBuilderCertificateHashPinLaw" = some m.cls := findClass_of_methodNamed Bd.named
  have hnm := (name_of_methodNamed Bd.named Bd.method).1
  have X0 : Stand p l e room_1 s m #[(.int x0), (.int x1), (.int x2), (.int x3), (.int x4)] below meth c s₁ [] 0 0 := Stand.of_body Bd
  have e0 : s₁.heap = h0 := by rw [← hh, Bd.state]; rfl
  have N0 := Fr.nil n0
  show own_Ends p e below s room_1.cells room_1.slots (Q_rm0 Z x0 x1 x2 x3 x4 oL aV kV a1 a2 oE i1 i2 i3 h0 n0) (s₁.setTop (entryFrame m #[(.int x0), (.int x1), (.int x2), (.int x3), (.int x4)] maxLocals))
  rw [ef_0_IIIII]
  refine own_step (st' := s₁.setTop (mkF m 1 #[.val (.int x0), .val (.int x1), .val (.int x2), .val (.int x3), .val (.int x4), .unset, .unset, .unset, .unset, .unset, .unset, .unset, .unset, .unset, .unset, .unset, .unset, .unset] [(.int x0)])) (fun t k => XS.iloadN X0.here hx rfl (hb hby at_0) rfl k) ?_
  obtain ⟨_, _, ⟨T1, L1, k1, n1⟩, -, X1, ⟨Lc1, hQ1, l1, y1, z1⟩, st1⟩ := Jvm.LawKit.callS X0 hx (y := (⟨"com/example/aturan/aturan/rules/AraMRuleBuilderCertificateHashPinLaw", "lengthOf", "(I)I"⟩ : MethodName)) hown (mvT hZ (hw _ (List.mem_of_getElem? (i := 0) rfl))) (mvT hZ (hw _ (List.mem_of_getElem? (i := 1) rfl))) (mvT hZ (hw _ (List.mem_of_getElem? (i := 2) rfl))) (mvT hZ (hw _ (List.mem_of_getElem? (i := 3) rfl))) (by decide) (backOf (W := 0) (rm1 l Z a0 hw [] x0 h0 n0 Z0) hZ (hw _ (List.mem_of_getElem? (i := 3) rfl)) (hw _ (List.mem_of_getElem? (i := 2) rfl)) (by decide) (by decide)) (g := (mkF m 1 #[.val (.int x0), .val (.int x1), .val (.int x2), .val (.int x3), .val (.int x4), .unset, .unset, .unset, .unset, .unset, .unset, .unset, .unset, .unset, .unset, .unset, .unset, .unset] [(.int x0)])) rfl (by rw [hml]; rfl) (argsL := [(.int x0)]) (rest := []) (lenOf pd_0 rfl) rfl (by show 2 * 0 + _ ≤ _; exact Nat.le_of_eq rfl) (hb hby at_1) (fun _ _ => ⟨rfl, e0, (by decide : 0 + 1 ≤ _), (by decide : 0 + 8 ≤ _)⟩)
  dsimp only [Pt.U, Pt.locs, Pt.cells, Pt.slots] at X1 l1 y1 z1 st1 hQ1
  subst l1 y1 z1
  obtain ⟨z_1, rfl, N1q, K1, pq1_0⟩ := hQ1
  have N1 := Fr.app N0 N1q
  obtain ⟨h1, e1⟩ : ∃ z, T1.heap = z := ⟨_, rfl⟩
  rw [e1] at K1
  have O2 := O0.keep K1 all0
  have Z3 : n0 ≤ h1.size := Nat.le_trans Z0 K1.1
  refine own_step (st' := T1.setTop (mkF m 4 #[.val (.int x0), .val (.int x1), .val (.int x2), .val (.int x3), .val (.int x4), .unset, .unset, .unset, .unset, .unset, .unset, .unset, .unset, .unset, .unset, .unset, .unset, .unset] [(.int z_1)])) st1 ?_
  have hz := pq1_0
  refine own_step (st' := T1.setTop (mkF m 6 #[.val (.int x0), .val (.int x1), .val (.int x2), .val (.int x3), .val (.int x4), .val (.int z_1), .unset, .unset, .unset, .unset, .unset, .unset, .unset, .unset, .unset, .unset, .unset, .unset] [])) (fun t k => XS.istore X1.here hx rfl (hb hby at_4) rfl (l' := #[.val (.int x0), .val (.int x1), .val (.int x2), .val (.int x3), .val (.int x4), .val (.int z_1), .unset, .unset, .unset, .unset, .unset, .unset, .unset, .unset, .unset, .unset, .unset, .unset]) rfl k) ?_
  refine own_step (st' := T1.setTop (mkF m 8 #[.val (.int x0), .val (.int x1), .val (.int x2), .val (.int x3), .val (.int x4), .val (.int z_1), .unset, .unset, .unset, .unset, .unset, .unset, .unset, .unset, .unset, .unset, .unset, .unset] [(.int z_1)])) (fun t k => XS.iload X1.here hx rfl (hb hby at_6) rfl k) ?_
  obtain ⟨T4, h4, k4, X4, e4, E4, A4, Ex4, st4⟩ := newPE X1 hx hZ (hw _ (List.mem_of_getElem? (i := 5) rfl)) e1 (g := (mkF m 8 #[.val (.int x0), .val (.int x1), .val (.int x2), .val (.int x3), .val (.int x4), .val (.int z_1), .unset, .unset, .unset, .unset, .unset, .unset, .unset, .unset, .unset, .unset, .unset, .unset] [(.int z_1)])) rfl (hb hby at_8) rfl (own_ofNeg hz.1) (cap := 33) (own_le33 hz) (by decide) (by decide) (by decide) (ad := "[B") (by decide +kernel)
  obtain ⟨b4, g4⟩ : ∃ z, z = h1.size := ⟨_, rfl⟩
  rw [← g4] at A4 Ex4 st4
  have ne5 : oL ≠ b4 := Nat.ne_of_lt (Nat.lt_of_lt_of_le (p_1.ext O2.2).lt (Nat.le_of_eq g4.symm))
  have ne6 : aV ≠ b4 := Nat.ne_of_lt (Nat.lt_of_lt_of_le (p_4.ext O2.2).lt (Nat.le_of_eq g4.symm))
  have ne7 : a1 ≠ b4 := Nat.ne_of_lt (Nat.lt_of_lt_of_le (p_6.ext O2.2).lt (Nat.le_of_eq g4.symm))
  have ne8 : a2 ≠ b4 := Nat.ne_of_lt (Nat.lt_of_lt_of_le (p_7.ext O2.2).lt (Nat.le_of_eq g4.symm))
  have ne9 : oE ≠ b4 := Nat.ne_of_lt (Nat.lt_of_lt_of_le (p_11.ext O2.2).lt (Nat.le_of_eq g4.symm))
  have g_b4 : n0 ≤ b4 := Nat.le_trans Z3 (Nat.le_of_eq g4.symm)
  have O10 := O2.ext E4
  have Z11 : n0 ≤ h4.size := Nat.le_trans Z3 E4.1
  have V4 : Arv Z h4 b4 k4 .byte z_1 [] (.int (0 : Int32)) := Arv.new A4 (own_ofNeg hz.1)
  refine own_step (st' := T4.setTop (mkF m 10 #[.val (.int x0), .val (.int x1), .val (.int x2), .val (.int x3), .val (.int x4), .val (.int z_1), .unset, .unset, .unset, .unset, .unset, .unset, .unset, .unset, .unset, .unset, .unset, .unset] [(.ref b4)])) st4 ?_
  have vp12 : Arv Z h4 b4 k4 .byte z_1 (List.replicate 33 (.int (0 : Int32))) (.int (0 : Int32)) := V4.pad (pad_rep [] _ 33)
  refine own_step (st' := T4.setTop (mkF m 12 #[.val (.int x0), .val (.int x1), .val (.int x2), .val (.int x3), .val (.int x4), .val (.int z_1), .val (.ref b4), .unset, .unset, .unset, .unset, .unset, .unset, .unset, .unset, .unset, .unset, .unset] [])) (fun t k => XS.astore X4.here hx rfl (hb hby at_10) rfl rfl (l' := #[.val (.int x0), .val (.int x1), .val (.int x2), .val (.int x3), .val (.int x4), .val (.int z_1), .val (.ref b4), .unset, .unset, .unset, .unset, .unset, .unset, .unset, .unset, .unset, .unset, .unset]) rfl k) ?_
  have J13 : ∀ (T13 : State) (h13 : Heap) (lc13 : List Loc) (vh : List Value) (X13 : Stand p l e room_1 s m #[(.int x0), (.int x1), (.int x2), (.int x3), (.int x4)] below meth c T13 lc13 2 41) (e13 : T13.heap = h13) (N13 : Fr n0 lc13) (Z13 : n0 ≤ h13.size) (f14 : Arv Z h13 b4 k4 .byte z_1 vh (.int (0 : Int32))) (f15 : Exa Z h13 b4 "[B") (O13 : Old Z n0 h13) (hh : own_Hold z_1 x1 x2 x3 vh), own_Ends p e below s room_1.cells room_1.slots (Q_rm0 Z x0 x1 x2 x3 x4 oL aV kV a1 a2 oE i1 i2 i3 h0 n0) (T13.setTop (mkF m 47 #[.val (.int x0), .val (.int x1), .val (.int x2), .val (.int x3), .val (.int x4), .val (.int z_1), .val (.ref b4), .unset, .unset, .unset, .unset, .unset, .unset, .unset, .unset, .unset, .unset, .unset] [])) := by
    intro T13 h13 lc13 vh X13 e13 N13 Z13 f14 f15 O13 hh
    refine own_step (st' := T13.setTop (mkF m 49 #[.val (.int x0), .val (.int x1), .val (.int x2), .val (.int x3), .val (.int x4), .val (.int z_1), .val (.ref b4), .unset, .unset, .unset, .unset, .unset, .unset, .unset, .unset, .unset, .unset, .unset] [(.int z_1)])) (fun t k => XS.iload X13.here hx rfl (hb hby at_47) rfl k) ?_
    refine own_step (st' := T13.setTop (mkF m 69 #[.val (.int x0), .val (.int x1), .val (.int x2), .val (.int x3), .val (.int x4), .val (.int z_1), .val (.ref b4), .unset, .unset, .unset, .unset, .unset, .unset, .unset, .unset, .unset, .unset, .unset] [(.int (if z_1 = (0 : Int32) then (0 : Int32) else (if z_1 = (1 : Int32) then (x2.toInt8.toInt32) else (x1.toInt8.toInt32))))])) (fun t k => ?_) ?_
    · by_cases hc16 : z_1 = (0 : Int32)
      · refine XS.ifNo X13.here hx rfl (hb hby at_49) rfl ((if0 _ _).trans (teq hc16).2) (?_ : Steps p.tables e below (T13.setTop (mkF m 52 #[.val (.int x0), .val (.int x1), .val (.int x2), .val (.int x3), .val (.int x4), .val (.int z_1), .val (.ref b4), .unset, .unset, .unset, .unset, .unset, .unset, .unset, .unset, .unset, .unset, .unset] [])) _)
        refine XS.iconst X13.here hx rfl (hb hby at_52) (?_ : Steps p.tables e below (T13.setTop (mkF m 53 #[.val (.int x0), .val (.int x1), .val (.int x2), .val (.int x3), .val (.int x4), .val (.int z_1), .val (.ref b4), .unset, .unset, .unset, .unset, .unset, .unset, .unset, .unset, .unset, .unset, .unset] [(.int (0 : Int32))])) _)
        refine XS.goto X13.here hx rfl (pc0 := 53) (pc' := 69) rfl (hb hby at_53) (by decide) (by decide) (?_ : Steps p.tables e below (T13.setTop (mkF m 69 #[.val (.int x0), .val (.int x1), .val (.int x2), .val (.int x3), .val (.int x4), .val (.int z_1), .val (.ref b4), .unset, .unset, .unset, .unset, .unset, .unset, .unset, .unset, .unset, .unset, .unset] [(.int (0 : Int32))])) _)
        simpa only [if_pos hc16] using k
      · refine XS.ifYes X13.here hx rfl (pc0 := 49) (pc' := 56) rfl (hb hby at_49) rfl ((if0 _ _).trans (feq hc16).2) (by decide) (by decide) (?_ : Steps p.tables e below (T13.setTop (mkF m 56 #[.val (.int x0), .val (.int x1), .val (.int x2), .val (.int x3), .val (.int x4), .val (.int z_1), .val (.ref b4), .unset, .unset, .unset, .unset, .unset, .unset, .unset, .unset, .unset, .unset, .unset] [])) _)
        refine XS.iload X13.here hx rfl (hb hby at_56) rfl (?_ : Steps p.tables e below (T13.setTop (mkF m 58 #[.val (.int x0), .val (.int x1), .val (.int x2), .val (.int x3), .val (.int x4), .val (.int z_1), .val (.ref b4), .unset, .unset, .unset, .unset, .unset, .unset, .unset, .unset, .unset, .unset, .unset] [(.int z_1)])) _)
        refine XS.iconst X13.here hx rfl (hb hby at_58) (?_ : Steps p.tables e below (T13.setTop (mkF m 59 #[.val (.int x0), .val (.int x1), .val (.int x2), .val (.int x3), .val (.int x4), .val (.int z_1), .val (.ref b4), .unset, .unset, .unset, .unset, .unset, .unset, .unset, .unset, .unset, .unset, .unset] [(.int (1 : Int32)), (.int z_1)])) _)
        refine own_sstep (st' := T13.setTop (mkF m 69 #[.val (.int x0), .val (.int x1), .val (.int x2), .val (.int x3), .val (.int x4), .val (.int z_1), .val (.ref b4), .unset, .unset, .unset, .unset, .unset, .unset, .unset, .unset, .unset, .unset, .unset] [(.int (if z_1 = (1 : Int32) then (x2.toInt8.toInt32) else (x1.toInt8.toInt32)))])) (fun t k => ?_) ?_
        · by_cases hc17 : z_1 = (1 : Int32)
          · refine XS.icmpNo X13.here hx rfl (hb hby at_59) rfl (teq hc17).2 (?_ : Steps p.tables e below (T13.setTop (mkF m 62 #[.val (.int x0), .val (.int x1), .val (.int x2), .val (.int x3), .val (.int x4), .val (.int z_1), .val (.ref b4), .unset, .unset, .unset, .unset, .unset, .unset, .unset, .unset, .unset, .unset, .unset] [])) _)
            refine XS.iloadN X13.here hx rfl (hb hby at_62) rfl (?_ : Steps p.tables e below (T13.setTop (mkF m 63 #[.val (.int x0), .val (.int x1), .val (.int x2), .val (.int x3), .val (.int x4), .val (.int z_1), .val (.ref b4), .unset, .unset, .unset, .unset, .unset, .unset, .unset, .unset, .unset, .unset, .unset] [(.int x2)])) _)
            refine XS.i2b X13.here hx rfl (hb hby at_63) rfl (?_ : Steps p.tables e below (T13.setTop (mkF m 64 #[.val (.int x0), .val (.int x1), .val (.int x2), .val (.int x3), .val (.int x4), .val (.int z_1), .val (.ref b4), .unset, .unset, .unset, .unset, .unset, .unset, .unset, .unset, .unset, .unset, .unset] [(.int (x2.toInt8.toInt32))])) _)
            refine XS.goto X13.here hx rfl (pc0 := 64) (pc' := 69) rfl (hb hby at_64) (by decide) (by decide) (?_ : Steps p.tables e below (T13.setTop (mkF m 69 #[.val (.int x0), .val (.int x1), .val (.int x2), .val (.int x3), .val (.int x4), .val (.int z_1), .val (.ref b4), .unset, .unset, .unset, .unset, .unset, .unset, .unset, .unset, .unset, .unset, .unset] [(.int (x2.toInt8.toInt32))])) _)
            simpa only [if_pos hc17] using k
          · refine XS.icmpYes X13.here hx rfl (pc0 := 59) (pc' := 67) rfl (hb hby at_59) rfl (feq hc17).2 (by decide) (by decide) (?_ : Steps p.tables e below (T13.setTop (mkF m 67 #[.val (.int x0), .val (.int x1), .val (.int x2), .val (.int x3), .val (.int x4), .val (.int z_1), .val (.ref b4), .unset, .unset, .unset, .unset, .unset, .unset, .unset, .unset, .unset, .unset, .unset] [])) _)
            refine XS.iloadN X13.here hx rfl (hb hby at_67) rfl (?_ : Steps p.tables e below (T13.setTop (mkF m 68 #[.val (.int x0), .val (.int x1), .val (.int x2), .val (.int x3), .val (.int x4), .val (.int z_1), .val (.ref b4), .unset, .unset, .unset, .unset, .unset, .unset, .unset, .unset, .unset, .unset, .unset] [(.int x1)])) _)
            refine XS.i2b X13.here hx rfl (hb hby at_68) rfl (?_ : Steps p.tables e below (T13.setTop (mkF m 69 #[.val (.int x0), .val (.int x1), .val (.int x2), .val (.int x3), .val (.int x4), .val (.int z_1), .val (.ref b4), .unset, .unset, .unset, .unset, .unset, .unset, .unset, .unset, .unset, .unset, .unset] [(.int (x1.toInt8.toInt32))])) _)
            simpa only [if_neg hc17] using k
        simpa only [if_neg hc16] using k
    obtain ⟨vf, e_vf⟩ : ∃ z : Int32, z = (if z_1 = (0 : Int32) then (0 : Int32) else (if z_1 = (1 : Int32) then (x2.toInt8.toInt32) else (x1.toInt8.toInt32))) := ⟨_, rfl⟩
    rw [← e_vf]
    refine own_step (st' := T13.setTop (mkF m 71 #[.val (.int x0), .val (.int x1), .val (.int x2), .val (.int x3), .val (.int x4), .val (.int z_1), .val (.ref b4), .val (.int vf), .unset, .unset, .unset, .unset, .unset, .unset, .unset, .unset, .unset, .unset] [])) (fun t k => XS.istore X13.here hx rfl (hb hby at_69) rfl (l' := #[.val (.int x0), .val (.int x1), .val (.int x2), .val (.int x3), .val (.int x4), .val (.int z_1), .val (.ref b4), .val (.int vf), .unset, .unset, .unset, .unset, .unset, .unset, .unset, .unset, .unset, .unset]) rfl k) ?_
    refine own_step (st' := T13.setTop (mkF m 73 #[.val (.int x0), .val (.int x1), .val (.int x2), .val (.int x3), .val (.int x4), .val (.int z_1), .val (.ref b4), .val (.int vf), .unset, .unset, .unset, .unset, .unset, .unset, .unset, .unset, .unset, .unset] [(.int z_1)])) (fun t k => XS.iload X13.here hx rfl (hb hby at_71) rfl k) ?_
    refine own_step (st' := T13.setTop (mkF m 82 #[.val (.int x0), .val (.int x1), .val (.int x2), .val (.int x3), .val (.int x4), .val (.int z_1), .val (.ref b4), .val (.int vf), .unset, .unset, .unset, .unset, .unset, .unset, .unset, .unset, .unset, .unset] [(.int (if z_1 = (0 : Int32) then (0 : Int32) else (x2.toInt8.toInt32)))])) (fun t k => ?_) ?_
    · by_cases hc18 : z_1 = (0 : Int32)
      · refine XS.ifNo X13.here hx rfl (hb hby at_73) rfl ((if0 _ _).trans (teq hc18).2) (?_ : Steps p.tables e below (T13.setTop (mkF m 76 #[.val (.int x0), .val (.int x1), .val (.int x2), .val (.int x3), .val (.int x4), .val (.int z_1), .val (.ref b4), .val (.int vf), .unset, .unset, .unset, .unset, .unset, .unset, .unset, .unset, .unset, .unset] [])) _)
        refine XS.iconst X13.here hx rfl (hb hby at_76) (?_ : Steps p.tables e below (T13.setTop (mkF m 77 #[.val (.int x0), .val (.int x1), .val (.int x2), .val (.int x3), .val (.int x4), .val (.int z_1), .val (.ref b4), .val (.int vf), .unset, .unset, .unset, .unset, .unset, .unset, .unset, .unset, .unset, .unset] [(.int (0 : Int32))])) _)
        refine XS.goto X13.here hx rfl (pc0 := 77) (pc' := 82) rfl (hb hby at_77) (by decide) (by decide) (?_ : Steps p.tables e below (T13.setTop (mkF m 82 #[.val (.int x0), .val (.int x1), .val (.int x2), .val (.int x3), .val (.int x4), .val (.int z_1), .val (.ref b4), .val (.int vf), .unset, .unset, .unset, .unset, .unset, .unset, .unset, .unset, .unset, .unset] [(.int (0 : Int32))])) _)
        simpa only [if_pos hc18] using k
      · refine XS.ifYes X13.here hx rfl (pc0 := 73) (pc' := 80) rfl (hb hby at_73) rfl ((if0 _ _).trans (feq hc18).2) (by decide) (by decide) (?_ : Steps p.tables e below (T13.setTop (mkF m 80 #[.val (.int x0), .val (.int x1), .val (.int x2), .val (.int x3), .val (.int x4), .val (.int z_1), .val (.ref b4), .val (.int vf), .unset, .unset, .unset, .unset, .unset, .unset, .unset, .unset, .unset, .unset] [])) _)
        refine XS.iloadN X13.here hx rfl (hb hby at_80) rfl (?_ : Steps p.tables e below (T13.setTop (mkF m 81 #[.val (.int x0), .val (.int x1), .val (.int x2), .val (.int x3), .val (.int x4), .val (.int z_1), .val (.ref b4), .val (.int vf), .unset, .unset, .unset, .unset, .unset, .unset, .unset, .unset, .unset, .unset] [(.int x2)])) _)
        refine XS.i2b X13.here hx rfl (hb hby at_81) rfl (?_ : Steps p.tables e below (T13.setTop (mkF m 82 #[.val (.int x0), .val (.int x1), .val (.int x2), .val (.int x3), .val (.int x4), .val (.int z_1), .val (.ref b4), .val (.int vf), .unset, .unset, .unset, .unset, .unset, .unset, .unset, .unset, .unset, .unset] [(.int (x2.toInt8.toInt32))])) _)
        simpa only [if_neg hc18] using k
    obtain ⟨vl, e_vl⟩ : ∃ z : Int32, z = (if z_1 = (0 : Int32) then (0 : Int32) else (x2.toInt8.toInt32)) := ⟨_, rfl⟩
    rw [← e_vl]
    refine own_step (st' := T13.setTop (mkF m 84 #[.val (.int x0), .val (.int x1), .val (.int x2), .val (.int x3), .val (.int x4), .val (.int z_1), .val (.ref b4), .val (.int vf), .val (.int vl), .unset, .unset, .unset, .unset, .unset, .unset, .unset, .unset, .unset] [])) (fun t k => XS.istore X13.here hx rfl (hb hby at_82) rfl (l' := #[.val (.int x0), .val (.int x1), .val (.int x2), .val (.int x3), .val (.int x4), .val (.int z_1), .val (.ref b4), .val (.int vf), .val (.int vl), .unset, .unset, .unset, .unset, .unset, .unset, .unset, .unset, .unset]) rfl k) ?_
    refine own_step (st' := T13.setTop (mkF m 86 #[.val (.int x0), .val (.int x1), .val (.int x2), .val (.int x3), .val (.int x4), .val (.int z_1), .val (.ref b4), .val (.int vf), .val (.int vl), .unset, .unset, .unset, .unset, .unset, .unset, .unset, .unset, .unset] [(.int z_1)])) (fun t k => XS.iload X13.here hx rfl (hb hby at_84) rfl k) ?_
    refine own_step (st' := T13.setTop (mkF m 87 #[.val (.int x0), .val (.int x1), .val (.int x2), .val (.int x3), .val (.int x4), .val (.int z_1), .val (.ref b4), .val (.int vf), .val (.int vl), .unset, .unset, .unset, .unset, .unset, .unset, .unset, .unset, .unset] [(.int (3 : Int32)), (.int z_1)])) (fun t k => XS.iconst X13.here hx rfl (hb hby at_86) k) ?_
    refine own_step (st' := T13.setTop (mkF m 96 #[.val (.int x0), .val (.int x1), .val (.int x2), .val (.int x3), .val (.int x4), .val (.int z_1), .val (.ref b4), .val (.int vf), .val (.int vl), .unset, .unset, .unset, .unset, .unset, .unset, .unset, .unset, .unset] [(.int (if z_1 < (3 : Int32) then (0 : Int32) else (x3.toInt8.toInt32)))])) (fun t k => ?_) ?_
    · by_cases hc19 : z_1 < (3 : Int32)
      · refine XS.icmpYes X13.here hx rfl (pc0 := 87) (pc' := 95) rfl (hb hby at_87) rfl (tlt hc19).1 (by decide) (by decide) (?_ : Steps p.tables e below (T13.setTop (mkF m 95 #[.val (.int x0), .val (.int x1), .val (.int x2), .val (.int x3), .val (.int x4), .val (.int z_1), .val (.ref b4), .val (.int vf), .val (.int vl), .unset, .unset, .unset, .unset, .unset, .unset, .unset, .unset, .unset] [])) _)
        refine XS.iconst X13.here hx rfl (hb hby at_95) (?_ : Steps p.tables e below (T13.setTop (mkF m 96 #[.val (.int x0), .val (.int x1), .val (.int x2), .val (.int x3), .val (.int x4), .val (.int z_1), .val (.ref b4), .val (.int vf), .val (.int vl), .unset, .unset, .unset, .unset, .unset, .unset, .unset, .unset, .unset] [(.int (0 : Int32))])) _)
        simpa only [if_pos hc19] using k
      · refine XS.icmpNo X13.here hx rfl (hb hby at_87) rfl (flt hc19).1 (?_ : Steps p.tables e below (T13.setTop (mkF m 90 #[.val (.int x0), .val (.int x1), .val (.int x2), .val (.int x3), .val (.int x4), .val (.int z_1), .val (.ref b4), .val (.int vf), .val (.int vl), .unset, .unset, .unset, .unset, .unset, .unset, .unset, .unset, .unset] [])) _)
        refine XS.iloadN X13.here hx rfl (hb hby at_90) rfl (?_ : Steps p.tables e below (T13.setTop (mkF m 91 #[.val (.int x0), .val (.int x1), .val (.int x2), .val (.int x3), .val (.int x4), .val (.int z_1), .val (.ref b4), .val (.int vf), .val (.int vl), .unset, .unset, .unset, .unset, .unset, .unset, .unset, .unset, .unset] [(.int x3)])) _)
        refine XS.i2b X13.here hx rfl (hb hby at_91) rfl (?_ : Steps p.tables e below (T13.setTop (mkF m 92 #[.val (.int x0), .val (.int x1), .val (.int x2), .val (.int x3), .val (.int x4), .val (.int z_1), .val (.ref b4), .val (.int vf), .val (.int vl), .unset, .unset, .unset, .unset, .unset, .unset, .unset, .unset, .unset] [(.int (x3.toInt8.toInt32))])) _)
        refine XS.goto X13.here hx rfl (pc0 := 92) (pc' := 96) rfl (hb hby at_92) (by decide) (by decide) (?_ : Steps p.tables e below (T13.setTop (mkF m 96 #[.val (.int x0), .val (.int x1), .val (.int x2), .val (.int x3), .val (.int x4), .val (.int z_1), .val (.ref b4), .val (.int vf), .val (.int vl), .unset, .unset, .unset, .unset, .unset, .unset, .unset, .unset, .unset] [(.int (x3.toInt8.toInt32))])) _)
        simpa only [if_neg hc19] using k
    obtain ⟨vm, e_vm⟩ : ∃ z : Int32, z = (if z_1 < (3 : Int32) then (0 : Int32) else (x3.toInt8.toInt32)) := ⟨_, rfl⟩
    rw [← e_vm]
    refine own_step (st' := T13.setTop (mkF m 98 #[.val (.int x0), .val (.int x1), .val (.int x2), .val (.int x3), .val (.int x4), .val (.int z_1), .val (.ref b4), .val (.int vf), .val (.int vl), .val (.int vm), .unset, .unset, .unset, .unset, .unset, .unset, .unset, .unset] [])) (fun t k => XS.istore X13.here hx rfl (hb hby at_96) rfl (l' := #[.val (.int x0), .val (.int x1), .val (.int x2), .val (.int x3), .val (.int x4), .val (.int z_1), .val (.ref b4), .val (.int vf), .val (.int vl), .val (.int vm), .unset, .unset, .unset, .unset, .unset, .unset, .unset, .unset]) rfl k) ?_
    refine own_step (st' := T13.setTop (mkF m 100 #[.val (.int x0), .val (.int x1), .val (.int x2), .val (.int x3), .val (.int x4), .val (.int z_1), .val (.ref b4), .val (.int vf), .val (.int vl), .val (.int vm), .unset, .unset, .unset, .unset, .unset, .unset, .unset, .unset] [(.int x4)])) (fun t k => XS.iload X13.here hx rfl (hb hby at_98) rfl k) ?_
    refine own_step (st' := T13.setTop (mkF m 101 #[.val (.int x0), .val (.int x1), .val (.int x2), .val (.int x3), .val (.int x4), .val (.int z_1), .val (.ref b4), .val (.int vf), .val (.int vl), .val (.int vm), .unset, .unset, .unset, .unset, .unset, .unset, .unset, .unset] [(.int (3 : Int32)), (.int x4)])) (fun t k => XS.iconst X13.here hx rfl (hb hby at_100) k) ?_
    refine own_step (st' := T13.setTop (mkF m 102 #[.val (.int x0), .val (.int x1), .val (.int x2), .val (.int x3), .val (.int x4), .val (.int z_1), .val (.ref b4), .val (.int vf), .val (.int vl), .val (.int vm), .unset, .unset, .unset, .unset, .unset, .unset, .unset, .unset] [(.int ((x4.toUInt32 >>> ((3 : Int32) &&& 31).toUInt32).toInt32))])) (fun t k => XS.iushr X13.here hx rfl (hb hby at_101) rfl k) ?_
    obtain ⟨_, _, ⟨T20, L20, k20, n20⟩, -, X20, ⟨Lc20, hQ20, l20, y20, z20⟩, st20⟩ := Jvm.LawKit.callS X13 hx (y := (⟨"com/example/aturan/aturan/rules/AraMRuleBuilderCertificateHashPinLaw", "lengthOf", "(I)I"⟩ : MethodName)) hown (mvT hZ (hw _ (List.mem_of_getElem? (i := 0) rfl))) (mvT hZ (hw _ (List.mem_of_getElem? (i := 1) rfl))) (mvT hZ (hw _ (List.mem_of_getElem? (i := 2) rfl))) (mvT hZ (hw _ (List.mem_of_getElem? (i := 3) rfl))) (by decide) (backOf (W := 0) (rm1 l Z a0 hw [] ((x4.toUInt32 >>> ((3 : Int32) &&& 31).toUInt32).toInt32) h13 n0 Z13) hZ (hw _ (List.mem_of_getElem? (i := 3) rfl)) (hw _ (List.mem_of_getElem? (i := 2) rfl)) (by decide) (by decide)) (g := (mkF m 102 #[.val (.int x0), .val (.int x1), .val (.int x2), .val (.int x3), .val (.int x4), .val (.int z_1), .val (.ref b4), .val (.int vf), .val (.int vl), .val (.int vm), .unset, .unset, .unset, .unset, .unset, .unset, .unset, .unset] [(.int ((x4.toUInt32 >>> ((3 : Int32) &&& 31).toUInt32).toInt32))])) rfl (by rw [hml]; rfl) (argsL := [(.int ((x4.toUInt32 >>> ((3 : Int32) &&& 31).toUInt32).toInt32))]) (rest := []) (lenOf pd_0 rfl) rfl (by show 2 * 0 + _ ≤ _; exact Nat.le_of_eq rfl) (hb hby at_102) (fun _ _ => ⟨rfl, e13, (by decide : 2 + 1 ≤ _), (by decide : 41 + 8 ≤ _)⟩)
    dsimp only [Pt.U, Pt.locs, Pt.cells, Pt.slots] at X20 l20 y20 z20 st20 hQ20
    subst l20 y20 z20
    obtain ⟨z_20, rfl, N20q, K20, pq20_0⟩ := hQ20
    have N20 := Fr.app N13 N20q
    obtain ⟨h20, e20⟩ : ∃ z, T20.heap = z := ⟨_, rfl⟩
    rw [e20] at K20
    have f21 := f14.keep K20 nin0
    have f22 := f15.keep K20
    have O23 := O13.keep K20 all0
    have Z24 : n0 ≤ h20.size := Nat.le_trans Z13 K20.1
    refine own_step (st' := T20.setTop (mkF m 105 #[.val (.int x0), .val (.int x1), .val (.int x2), .val (.int x3), .val (.int x4), .val (.int z_1), .val (.ref b4), .val (.int vf), .val (.int vl), .val (.int vm), .unset, .unset, .unset, .unset, .unset, .unset, .unset, .unset] [(.int z_20)])) st20 ?_
    have hz2 := pq20_0
    obtain ⟨T25, h25, k25, X25, e25, E25, A25, Ex25, st25⟩ := newPE X20 hx hZ (hw _ (List.mem_of_getElem? (i := 5) rfl)) e20 (g := (mkF m 105 #[.val (.int x0), .val (.int x1), .val (.int x2), .val (.int x3), .val (.int x4), .val (.int z_1), .val (.ref b4), .val (.int vf), .val (.int vl), .val (.int vm), .unset, .unset, .unset, .unset, .unset, .unset, .unset, .unset] [(.int z_20)])) rfl (hb hby at_105) rfl (own_ofNeg hz2.1) (cap := 33) (own_le33 hz2) (by decide) (by decide) (by decide) (ad := "[B") (by decide +kernel)
    obtain ⟨b25, g25⟩ : ∃ z, z = h20.size := ⟨_, rfl⟩
    rw [← g25] at A25 Ex25 st25
    have ne26 : oL ≠ b25 := Nat.ne_of_lt (Nat.lt_of_lt_of_le (p_1.ext O23.2).lt (Nat.le_of_eq g25.symm))
    have ne27 : aV ≠ b25 := Nat.ne_of_lt (Nat.lt_of_lt_of_le (p_4.ext O23.2).lt (Nat.le_of_eq g25.symm))
    have ne28 : a1 ≠ b25 := Nat.ne_of_lt (Nat.lt_of_lt_of_le (p_6.ext O23.2).lt (Nat.le_of_eq g25.symm))
    have ne29 : a2 ≠ b25 := Nat.ne_of_lt (Nat.lt_of_lt_of_le (p_7.ext O23.2).lt (Nat.le_of_eq g25.symm))
    have ne30 : oE ≠ b25 := Nat.ne_of_lt (Nat.lt_of_lt_of_le (p_11.ext O23.2).lt (Nat.le_of_eq g25.symm))
    have ne31 : b4 ≠ b25 := Nat.ne_of_lt (Nat.lt_of_lt_of_le f21.lt (Nat.le_of_eq g25.symm))
    have g_b25 : n0 ≤ b25 := Nat.le_trans Z24 (Nat.le_of_eq g25.symm)
    have f32 := f21.ext E25
    have f33 := f22.ext E25
    have O34 := O23.ext E25
    have Z35 : n0 ≤ h25.size := Nat.le_trans Z24 E25.1
    have V25 : Arv Z h25 b25 k25 .byte z_20 [] (.int (0 : Int32)) := Arv.new A25 (own_ofNeg hz2.1)
    refine own_step (st' := T25.setTop (mkF m 107 #[.val (.int x0), .val (.int x1), .val (.int x2), .val (.int x3), .val (.int x4), .val (.int z_1), .val (.ref b4), .val (.int vf), .val (.int vl), .val (.int vm), .unset, .unset, .unset, .unset, .unset, .unset, .unset, .unset] [(.ref b25)])) st25 ?_
    have vp36 : Arv Z h25 b25 k25 .byte z_20 (List.replicate 33 (.int (0 : Int32))) (.int (0 : Int32)) := V25.pad (pad_rep [] _ 33)
    refine own_step (st' := T25.setTop (mkF m 109 #[.val (.int x0), .val (.int x1), .val (.int x2), .val (.int x3), .val (.int x4), .val (.int z_1), .val (.ref b4), .val (.int vf), .val (.int vl), .val (.int vm), .val (.ref b25), .unset, .unset, .unset, .unset, .unset, .unset, .unset] [])) (fun t k => XS.astore X25.here hx rfl (hb hby at_107) rfl rfl (l' := #[.val (.int x0), .val (.int x1), .val (.int x2), .val (.int x3), .val (.int x4), .val (.int z_1), .val (.ref b4), .val (.int vf), .val (.int vl), .val (.int vm), .val (.ref b25), .unset, .unset, .unset, .unset, .unset, .unset, .unset]) rfl k) ?_
    have J37 : ∀ (T37 : State) (h37 : Heap) (lc37 : List Loc) (vo : List Value) (X37 : Stand p l e room_1 s m #[(.int x0), (.int x1), (.int x2), (.int x3), (.int x4)] below meth c T37 lc37 4 82) (e37 : T37.heap = h37) (N37 : Fr n0 lc37) (Z37 : n0 ≤ h37.size) (f38 : Arv Z h37 b4 k4 .byte z_1 vh (.int (0 : Int32))) (f39 : Exa Z h37 b4 "[B") (f40 : Arv Z h37 b25 k25 .byte z_20 vo (.int (0 : Int32))) (f41 : Exa Z h37 b25 "[B") (O37 : Old Z n0 h37), own_Ends p e below s room_1.cells room_1.slots (Q_rm0 Z x0 x1 x2 x3 x4 oL aV kV a1 a2 oE i1 i2 i3 h0 n0) (T37.setTop (mkF m 124 #[.val (.int x0), .val (.int x1), .val (.int x2), .val (.int x3), .val (.int x4), .val (.int z_1), .val (.ref b4), .val (.int vf), .val (.int vl), .val (.int vm), .val (.ref b25), .unset, .unset, .unset, .unset, .unset, .unset, .unset] [])) := by
      intro T37 h37 lc37 vo X37 e37 N37 Z37 f38 f39 f40 f41 O37
      obtain ⟨T42, h42, X42, e42, E42, A42, D42, -, st42⟩ := newO X37 hx hZ hown (hw _ (List.mem_of_getElem? (i := 6) rfl)) (hw _ (List.mem_of_getElem? (i := 7) rfl)) (hw _ (List.mem_of_getElem? (i := 8) rfl)) e37 (g := (mkF m 124 #[.val (.int x0), .val (.int x1), .val (.int x2), .val (.int x3), .val (.int x4), .val (.int z_1), .val (.ref b4), .val (.int vf), .val (.int vl), .val (.int vm), .val (.ref b25), .unset, .unset, .unset, .unset, .unset, .unset, .unset] [])) rfl (hb hby at_124) (by decide) (by decide)
      obtain ⟨b42, g42⟩ : ∃ z, z = h37.size := ⟨_, rfl⟩
      rw [← g42] at A42 D42 st42
      have ne43 : oL ≠ b42 := Nat.ne_of_lt (Nat.lt_of_lt_of_le (p_1.ext O37.2).lt (Nat.le_of_eq g42.symm))
      have ne44 : aV ≠ b42 := Nat.ne_of_lt (Nat.lt_of_lt_of_le (p_4.ext O37.2).lt (Nat.le_of_eq g42.symm))
      have ne45 : a1 ≠ b42 := Nat.ne_of_lt (Nat.lt_of_lt_of_le (p_6.ext O37.2).lt (Nat.le_of_eq g42.symm))
      have ne46 : a2 ≠ b42 := Nat.ne_of_lt (Nat.lt_of_lt_of_le (p_7.ext O37.2).lt (Nat.le_of_eq g42.symm))
      have ne47 : oE ≠ b42 := Nat.ne_of_lt (Nat.lt_of_lt_of_le (p_11.ext O37.2).lt (Nat.le_of_eq g42.symm))
      have ne48 : b4 ≠ b42 := Nat.ne_of_lt (Nat.lt_of_lt_of_le f38.lt (Nat.le_of_eq g42.symm))
      have ne49 : b25 ≠ b42 := Nat.ne_of_lt (Nat.lt_of_lt_of_le f40.lt (Nat.le_of_eq g42.symm))
      have g_b42 : n0 ≤ b42 := Nat.le_trans Z37 (Nat.le_of_eq g42.symm)
      have f50 := f38.ext E42
      have f51 := f39.ext E42
      have f52 := f40.ext E42
      have f53 := f41.ext E42
      have O54 := O37.ext E42
      have Z55 : n0 ≤ h42.size := Nat.le_trans Z37 E42.1
      have f56 : Fld Z h42 b42 "com/example/aturan/aturan/rules/AraMRuleBuilder" "permissions" "Ljava/util/OptionalLong;" .null := D42 (Or.inl (hw _ (List.mem_of_getElem? (i := 21) rfl))) (ty := (.object "java/util/OptionalLong")) (by decide)
      have f57 : Fld Z h42 b42 "com/example/aturan/aturan/rules/AraMRuleBuilder" "certificateHash" "[B" .null := D42 (Or.inl (hw _ (List.mem_of_getElem? (i := 37) rfl))) (ty := (.array .byte)) (by decide)
      have f58 : Fld Z h42 b42 "com/example/aturan/aturan/rules/AraMRuleBuilder" "aid" "[B" .null := D42 (Or.inl (hw _ (List.mem_of_getElem? (i := 44) rfl))) (ty := (.array .byte)) (by decide)
      have f59 : Fld Z h42 b42 "com/example/aturan/aturan/rules/AraMRuleBuilder" "packageName" "Ljava/lang/String;" .null := D42 (Or.inl (hw _ (List.mem_of_getElem? (i := 55) rfl))) (ty := (.object "java/lang/String")) (by decide)
      have f60 : Fld Z h42 b42 "com/example/aturan/aturan/rules/AraMRuleBuilder" "apduRule" "Lcom/example/aturan/aturan/rules/ApduRule;" .null := D42 (Or.inl (hw _ (List.mem_of_getElem? (i := 57) rfl))) (ty := (.object "com/example/aturan/aturan/rules/ApduRule")) (by decide)
      have f61 : Fld Z h42 b42 "com/example/aturan/aturan/rules/AraMRuleBuilder" "nfcRule" "Lcom/example/aturan/aturan/rules/Access;" .null := D42 (Or.inl (hw _ (List.mem_of_getElem? (i := 59) rfl))) (ty := (.object "com/example/aturan/aturan/rules/Access")) (by decide)
      refine own_step (st' := T42.setTop (mkF m 127 #[.val (.int x0), .val (.int x1), .val (.int x2), .val (.int x3), .val (.int x4), .val (.int z_1), .val (.ref b4), .val (.int vf), .val (.int vl), .val (.int vm), .val (.ref b25), .unset, .unset, .unset, .unset, .unset, .unset, .unset] [(.ref b42)])) st42 ?_
      refine own_step (st' := T42.setTop (mkF m 128 #[.val (.int x0), .val (.int x1), .val (.int x2), .val (.int x3), .val (.int x4), .val (.int z_1), .val (.ref b4), .val (.int vf), .val (.int vl), .val (.int vm), .val (.ref b25), .unset, .unset, .unset, .unset, .unset, .unset, .unset] [(.ref b42), (.ref b42)])) (fun t k => XS.dup X42.here hx rfl (hb hby at_127) rfl rfl k) ?_
      obtain ⟨_, _, ⟨T62, L62, k62, n62⟩, -, X62, ⟨Lc62, hQ62, l62, y62, z62⟩, st62⟩ := X42.specialBack hx (y := (⟨"com/example/aturan/aturan/rules/AraMRuleBuilder", "<init>", "()V"⟩ : MethodName)) rfl hown (mvT hZ (hw _ (List.mem_of_getElem? (i := 9) rfl))) (mvT hZ (hw _ (List.mem_of_getElem? (i := 10) rfl))) (mvT hZ (hw _ (List.mem_of_getElem? (i := 11) rfl))) (by decide) (backOf (W := 1) (rm2 l Z a0 hw [] b42 oL h42 n0 Z55 O54 f56 f57 f58 f59 f60 f61 A42 g_b42 p_0 p_1 p_2) hZ (hw _ (List.mem_of_getElem? (i := 11) rfl)) (hw _ (List.mem_of_getElem? (i := 8) rfl)) (by decide) (by decide)) (g := (mkF m 128 #[.val (.int x0), .val (.int x1), .val (.int x2), .val (.int x3), .val (.int x4), .val (.int z_1), .val (.ref b4), .val (.int vf), .val (.int vl), .val (.int vm), .val (.ref b25), .unset, .unset, .unset, .unset, .unset, .unset, .unset] [(.ref b42), (.ref b42)])) rfl (by rw [hml]; rfl) (Steps.refl _) (a := b42) (argsL := []) (rest := [(.ref b42)]) (lenOf pd_1 rfl) rfl (by show 2 * 0 + _ ≤ _; exact Nat.le_of_eq rfl) (hb hby at_128) (fun _ _ => ⟨rfl, e42, (by decide : 5 + 0 ≤ _), (by decide : 88 + 0 ≤ _)⟩)
      dsimp only [Pt.U, Pt.locs, Pt.cells, Pt.slots] at X62 l62 y62 z62 st62 hQ62
      subst l62 y62 z62
      obtain ⟨rfl, N62q, K62, pq62_0, pq62_1, pq62_2, pq62_3, pq62_4, pq62_5⟩ := hQ62
      have N62 := Fr.app N37 N62q
      obtain ⟨h62, e62⟩ : ∃ z, T62.heap = z := ⟨_, rfl⟩
      rw [e62] at K62 pq62_0 pq62_1 pq62_2 pq62_3 pq62_4 pq62_5
      have f63 := f50.keep K62 (ninS ne48 nin0)
      have f64 := f51.keep K62
      have f65 := f52.keep K62 (ninS ne49 nin0)
      have f66 := f53.keep K62
      have f67 := A42.keep K62
      have O68 := O54.keep K62 (allS g_b42 all0)
      have Z69 : n0 ≤ h62.size := Nat.le_trans Z55 K62.1
      refine own_step (st' := T62.setTop (mkF m 131 #[.val (.int x0), .val (.int x1), .val (.int x2), .val (.int x3), .val (.int x4), .val (.int z_1), .val (.ref b4), .val (.int vf), .val (.int vl), .val (.int vm), .val (.ref b25), .unset, .unset, .unset, .unset, .unset, .unset, .unset] [(.ref b42)])) (fun t k => st62.trans k) ?_
      refine own_step (st' := T62.setTop (mkF m 133 #[.val (.int x0), .val (.int x1), .val (.int x2), .val (.int x3), .val (.int x4), .val (.int z_1), .val (.ref b4), .val (.int vf), .val (.int vl), .val (.int vm), .val (.ref b25), .val (.ref b42), .unset, .unset, .unset, .unset, .unset, .unset] [])) (fun t k => XS.astore X62.here hx rfl (hb hby at_131) rfl rfl (l' := #[.val (.int x0), .val (.int x1), .val (.int x2), .val (.int x3), .val (.int x4), .val (.int z_1), .val (.ref b4), .val (.int vf), .val (.int vl), .val (.int vm), .val (.ref b25), .val (.ref b42), .unset, .unset, .unset, .unset, .unset, .unset]) rfl k) ?_
      refine own_step (st' := T62.setTop (mkF m 134 #[.val (.int x0), .val (.int x1), .val (.int x2), .val (.int x3), .val (.int x4), .val (.int z_1), .val (.ref b4), .val (.int vf), .val (.int vl), .val (.int vm), .val (.ref b25), .val (.ref b42), .unset, .unset, .unset, .unset, .unset, .unset] [(.int (1 : Int32))])) (fun t k => XS.iconst X62.here hx rfl (hb hby at_133) k) ?_
      refine own_step (st' := T62.setTop (mkF m 136 #[.val (.int x0), .val (.int x1), .val (.int x2), .val (.int x3), .val (.int x4), .val (.int z_1), .val (.ref b4), .val (.int vf), .val (.int vl), .val (.int vm), .val (.ref b25), .val (.ref b42), .val (.int (1 : Int32)), .unset, .unset, .unset, .unset, .unset] [])) (fun t k => XS.istore X62.here hx rfl (hb hby at_134) rfl (l' := #[.val (.int x0), .val (.int x1), .val (.int x2), .val (.int x3), .val (.int x4), .val (.int z_1), .val (.ref b4), .val (.int vf), .val (.int vl), .val (.int vm), .val (.ref b25), .val (.ref b42), .val (.int (1 : Int32)), .unset, .unset, .unset, .unset, .unset]) rfl k) ?_
      have J70 : ∀ (T70 : State) (h70 : Heap) (lc70 : List Loc) (uu : Value) (X70 : Stand p l e room_1 s m #[(.int x0), (.int x1), (.int x2), (.int x3), (.int x4)] below meth c T70 lc70 6 121) (e70 : T70.heap = h70) (N70 : Fr n0 lc70) (Z70 : n0 ≤ h70.size) (f71 : Arv Z h70 b4 k4 .byte z_1 vh (.int (0 : Int32))) (f72 : Exa Z h70 b4 "[B") (f73 : Arv Z h70 b25 k25 .byte z_20 vo (.int (0 : Int32))) (f74 : Exa Z h70 b25 "[B") (f75 : Exa Z h70 b42 "com/example/aturan/aturan/rules/AraMRuleBuilder") (f76 : Fld Z h70 b42 "com/example/aturan/aturan/rules/AraMRuleBuilder" "permissions" "Ljava/util/OptionalLong;" (.ref oL)) (f77 : Fld Z h70 b42 "com/example/aturan/aturan/rules/AraMRuleBuilder" "certificateHash" "[B" uu) (f78 : Fld Z h70 b42 "com/example/aturan/aturan/rules/AraMRuleBuilder" "aid" "[B" .null) (f79 : Fld Z h70 b42 "com/example/aturan/aturan/rules/AraMRuleBuilder" "packageName" "Ljava/lang/String;" .null) (f80 : Fld Z h70 b42 "com/example/aturan/aturan/rules/AraMRuleBuilder" "apduRule" "Lcom/example/aturan/aturan/rules/ApduRule;" .null) (f81 : Fld Z h70 b42 "com/example/aturan/aturan/rules/AraMRuleBuilder" "nfcRule" "Lcom/example/aturan/aturan/rules/Access;" .null) (O70 : Old Z n0 h70), own_Ends p e below s room_1.cells room_1.slots (Q_rm0 Z x0 x1 x2 x3 x4 oL aV kV a1 a2 oE i1 i2 i3 h0 n0) (T70.setTop (mkF m 162 #[.val (.int x0), .val (.int x1), .val (.int x2), .val (.int x3), .val (.int x4), .val (.int z_1), .val (.ref b4), .val (.int vf), .val (.int vl), .val (.int vm), .val (.ref b25), .val (.ref b42), .val (.int (1 : Int32)), .unset, .unset, .unset, .unset, .unset] [])) := by
        intro T70 h70 lc70 uu X70 e70 N70 Z70 f71 f72 f73 f74 f75 f76 f77 f78 f79 f80 f81 O70
        refine own_step (st' := T70.setTop (mkF m 164 #[.val (.int x0), .val (.int x1), .val (.int x2), .val (.int x3), .val (.int x4), .val (.int z_1), .val (.ref b4), .val (.int vf), .val (.int vl), .val (.int vm), .val (.ref b25), .val (.ref b42), .val (.int (1 : Int32)), .unset, .unset, .unset, .unset, .unset] [(.ref b42)])) (fun t k => XS.aload X70.here hx rfl (hb hby at_162) rfl rfl k) ?_
        refine own_step (st' := T70.setTop (mkF m 166 #[.val (.int x0), .val (.int x1), .val (.int x2), .val (.int x3), .val (.int x4), .val (.int z_1), .val (.ref b4), .val (.int vf), .val (.int vl), .val (.int vm), .val (.ref b25), .val (.ref b42), .val (.int (1 : Int32)), .unset, .unset, .unset, .unset, .unset] [(.ref b4), (.ref b42)])) (fun t k => XS.aload X70.here hx rfl (hb hby at_164) rfl rfl k) ?_
        obtain ⟨cq82, kq82, q82a, q82b, q82c⟩ := isOf hZ e70 f75
        obtain ⟨_, _, ⟨T82, L82, k82, n82⟩, -, X82, ⟨Lc82, hQ82, l82, y82, z82⟩, st82⟩ := X70.virtualBack hx (y := (⟨"com/example/aturan/aturan/rules/AraMRuleBuilder", "certificateHash", "([B)Lcom/example/aturan/aturan/rules/AraMRuleBuilder;"⟩ : MethodName)) (z := (⟨"com/example/aturan/aturan/rules/AraMRuleBuilder", "certificateHash", "([B)Lcom/example/aturan/aturan/rules/AraMRuleBuilder;"⟩ : MethodName)) hown (mvT hZ (hw _ (List.mem_of_getElem? (i := 22) rfl))) (mvT hZ (hw _ (List.mem_of_getElem? (i := 23) rfl))) (notFace_of_selects (args := #[]) (mvT hZ (hw _ (List.mem_of_getElem? (i := 25) rfl)))) (mvT hZ (hw _ (List.mem_of_getElem? (i := 25) rfl))) (mvT hZ (hw _ (List.mem_of_getElem? (i := 24) rfl))) (by decide) (backOf (W := 0) (rm5 l Z a0 hw [] b42 b4 uu oL k4 z_1 vh (.int (0 : Int32)) h70 n0 Z70 f77 f76 f78 f79 f80 f81 f75 g_b42 ne48 f71 f72 hz) hZ (hw _ (List.mem_of_getElem? (i := 26) rfl)) (hw _ (List.mem_of_getElem? (i := 8) rfl)) (by decide) (by decide)) q82a q82c (g := (mkF m 166 #[.val (.int x0), .val (.int x1), .val (.int x2), .val (.int x3), .val (.int x4), .val (.int z_1), .val (.ref b4), .val (.int vf), .val (.int vl), .val (.int vm), .val (.ref b25), .val (.ref b42), .val (.int (1 : Int32)), .unset, .unset, .unset, .unset, .unset] [(.ref b4), (.ref b42)])) rfl (by rw [hml]; rfl) (Steps.refl _) (argsL := [(.ref b4)]) (rest := []) (lenOf pd_3 rfl) rfl (by show 2 * 0 + _ ≤ _; exact Nat.le_of_eq rfl) (hb hby at_166) (fun _ _ => ⟨rfl, e70, (by decide : 6 + 1 ≤ _), (by decide : 121 + 33 ≤ _)⟩)
        dsimp only [Pt.U, Pt.locs, Pt.cells, Pt.slots] at X82 l82 y82 z82 st82 hQ82
        subst l82 y82 z82
        obtain ⟨b_82, rfl, N82q, K82, pq82_0, pq82_1, pq82_2, pq82_3, pq82_4, pq82_5, pq82_6, pq82_7, pq82_8⟩ := hQ82
        have N82 := Fr.app N70 N82q
        obtain ⟨h82, e82⟩ : ∃ z, T82.heap = z := ⟨_, rfl⟩
        rw [e82] at K82 pq82_1 pq82_2 pq82_3 pq82_4 pq82_5 pq82_6 pq82_7 pq82_8
        have ne83 : oL ≠ b_82 := Nat.ne_of_lt (Nat.lt_of_lt_of_le (p_1.ext O70.2).lt pq82_0)
        have ne84 : aV ≠ b_82 := Nat.ne_of_lt (Nat.lt_of_lt_of_le (p_4.ext O70.2).lt pq82_0)
        have ne85 : a1 ≠ b_82 := Nat.ne_of_lt (Nat.lt_of_lt_of_le (p_6.ext O70.2).lt pq82_0)
        have ne86 : a2 ≠ b_82 := Nat.ne_of_lt (Nat.lt_of_lt_of_le (p_7.ext O70.2).lt pq82_0)
        have ne87 : oE ≠ b_82 := Nat.ne_of_lt (Nat.lt_of_lt_of_le (p_11.ext O70.2).lt pq82_0)
        have ne88 : b4 ≠ b_82 := Nat.ne_of_lt (Nat.lt_of_lt_of_le f71.lt pq82_0)
        have ne89 : b25 ≠ b_82 := Nat.ne_of_lt (Nat.lt_of_lt_of_le f73.lt pq82_0)
        have ne90 : b42 ≠ b_82 := Nat.ne_of_lt (Nat.lt_of_lt_of_le f75.lt pq82_0)
        have g_b_82 : n0 ≤ b_82 := Nat.le_trans Z70 pq82_0
        have f91 := f71.keep K82 (ninS ne48 nin0)
        have f92 := f72.keep K82
        have f93 := f73.keep K82 (ninS ne49 nin0)
        have f94 := f74.keep K82
        have f95 := f75.keep K82
        have O96 := O70.keep K82 (allS g_b42 all0)
        have Z97 : n0 ≤ h82.size := Nat.le_trans Z70 K82.1
        refine own_step (st' := T82.setTop (mkF m 169 #[.val (.int x0), .val (.int x1), .val (.int x2), .val (.int x3), .val (.int x4), .val (.int z_1), .val (.ref b4), .val (.int vf), .val (.int vl), .val (.int vm), .val (.ref b25), .val (.ref b42), .val (.int (1 : Int32)), .unset, .unset, .unset, .unset, .unset] [(.ref b42)])) (fun t k => st82.trans k) ?_
        refine own_step (st' := T82.setTop (mkF m 171 #[.val (.int x0), .val (.int x1), .val (.int x2), .val (.int x3), .val (.int x4), .val (.int z_1), .val (.ref b4), .val (.int vf), .val (.int vl), .val (.int vm), .val (.ref b25), .val (.ref b42), .val (.int (1 : Int32)), .unset, .unset, .unset, .unset, .unset] [(.ref b42), (.ref b42)])) (fun t k => XS.aload X82.here hx rfl (hb hby at_169) rfl rfl k) ?_
        refine own_step (st' := T82.setTop (mkF m 174 #[.val (.int x0), .val (.int x1), .val (.int x2), .val (.int x3), .val (.int x4), .val (.int z_1), .val (.ref b4), .val (.int vf), .val (.int vl), .val (.int vm), .val (.ref b25), .val (.ref b42), .val (.int (1 : Int32)), .unset, .unset, .unset, .unset, .unset] [])) (fun t k => Jvm.RoadKit.acmp (g := (mkF m 171 #[.val (.int x0), .val (.int x1), .val (.int x2), .val (.int x3), .val (.int x4), .val (.int z_1), .val (.ref b4), .val (.int vf), .val (.int vl), .val (.int vm), .val (.ref b25), .val (.ref b42), .val (.int (1 : Int32)), .unset, .unset, .unset, .unset, .unset] [(.ref b42), (.ref b42)])) X82 hx rfl rfl rfl (pc0 := 171) (pc' := 174) (same := true) rfl (hb hby at_171) rfl (decide_eq_true rfl) (by decide) (by decide) k) ?_
        refine own_step (st' := T82.setTop (mkF m 175 #[.val (.int x0), .val (.int x1), .val (.int x2), .val (.int x3), .val (.int x4), .val (.int z_1), .val (.ref b4), .val (.int vf), .val (.int vl), .val (.int vm), .val (.ref b25), .val (.ref b42), .val (.int (1 : Int32)), .unset, .unset, .unset, .unset, .unset] [(.int (1 : Int32))])) (fun t k => XS.iconst X82.here hx rfl (hb hby at_174) k) ?_
        refine own_step (st' := T82.setTop (mkF m 179 #[.val (.int x0), .val (.int x1), .val (.int x2), .val (.int x3), .val (.int x4), .val (.int z_1), .val (.ref b4), .val (.int vf), .val (.int vl), .val (.int vm), .val (.ref b25), .val (.ref b42), .val (.int (1 : Int32)), .unset, .unset, .unset, .unset, .unset] [(.int (1 : Int32))])) (fun t k => XS.goto X82.here hx rfl (pc0 := 175) (pc' := 179) rfl (hb hby at_175) (by decide) (by decide) k) ?_
        refine own_step (st' := T82.setTop (mkF m 181 #[.val (.int x0), .val (.int x1), .val (.int x2), .val (.int x3), .val (.int x4), .val (.int z_1), .val (.ref b4), .val (.int vf), .val (.int vl), .val (.int vm), .val (.ref b25), .val (.ref b42), .val (.int (1 : Int32)), .val (.int (1 : Int32)), .unset, .unset, .unset, .unset] [])) (fun t k => XS.istore X82.here hx rfl (hb hby at_179) rfl (l' := #[.val (.int x0), .val (.int x1), .val (.int x2), .val (.int x3), .val (.int x4), .val (.int z_1), .val (.ref b4), .val (.int vf), .val (.int vl), .val (.int vm), .val (.ref b25), .val (.ref b42), .val (.int (1 : Int32)), .val (.int (1 : Int32)), .unset, .unset, .unset, .unset]) rfl k) ?_
        have J98 : ∀ (T98 : State) (h98 : Heap) (lc98 : List Loc) (X98 : Stand p l e room_1 s m #[(.int x0), (.int x1), (.int x2), (.int x3), (.int x4)] below meth c T98 lc98 7 154) (e98 : T98.heap = h98) (N98 : Fr n0 lc98) (Z98 : n0 ≤ h98.size) (f99 : Exa Z h98 b4 "[B") (f100 : Arv Z h98 b25 k25 .byte z_20 vo (.int (0 : Int32))) (f101 : Exa Z h98 b25 "[B") (f102 : Exa Z h98 b42 "com/example/aturan/aturan/rules/AraMRuleBuilder") (f103 : Fld Z h98 b42 "com/example/aturan/aturan/rules/AraMRuleBuilder" "certificateHash" "[B" (.ref b_82)) (f104 : Fld Z h98 b42 "com/example/aturan/aturan/rules/AraMRuleBuilder" "permissions" "Ljava/util/OptionalLong;" (.ref oL)) (f105 : Fld Z h98 b42 "com/example/aturan/aturan/rules/AraMRuleBuilder" "aid" "[B" .null) (f106 : Fld Z h98 b42 "com/example/aturan/aturan/rules/AraMRuleBuilder" "packageName" "Ljava/lang/String;" .null) (f107 : Fld Z h98 b42 "com/example/aturan/aturan/rules/AraMRuleBuilder" "apduRule" "Lcom/example/aturan/aturan/rules/ApduRule;" .null) (f108 : Fld Z h98 b42 "com/example/aturan/aturan/rules/AraMRuleBuilder" "nfcRule" "Lcom/example/aturan/aturan/rules/Access;" .null) (f109 : Arv Z h98 b_82 k4 .byte z_1 vh (.int (0 : Int32))) (f110 : Exa Z h98 b_82 "[B") (O98 : Old Z n0 h98), own_Ends p e below s room_1.cells room_1.slots (Q_rm0 Z x0 x1 x2 x3 x4 oL aV kV a1 a2 oE i1 i2 i3 h0 n0) (T98.setTop (mkF m 243 #[.val (.int x0), .val (.int x1), .val (.int x2), .val (.int x3), .val (.int x4), .val (.int z_1), .val (.ref b4), .val (.int vf), .val (.int vl), .val (.int vm), .val (.ref b25), .val (.ref b42), .val (.int (1 : Int32)), .val (.int (1 : Int32)), .unset, .unset, .unset, .unset] [])) := by
          intro T98 h98 lc98 X98 e98 N98 Z98 f99 f100 f101 f102 f103 f104 f105 f106 f107 f108 f109 f110 O98
          refine own_step (st' := T98.setTop (mkF m 245 #[.val (.int x0), .val (.int x1), .val (.int x2), .val (.int x3), .val (.int x4), .val (.int z_1), .val (.ref b4), .val (.int vf), .val (.int vl), .val (.int vm), .val (.ref b25), .val (.ref b42), .val (.int (1 : Int32)), .val (.int (1 : Int32)), .unset, .unset, .unset, .unset] [(.ref b42)])) (fun t k => XS.aload X98.here hx rfl (hb hby at_243) rfl rfl k) ?_
          obtain ⟨cq111, kq111, q111a, q111b, q111c⟩ := isOf hZ e98 f102
          obtain ⟨_, _, ⟨T111, L111, k111, n111⟩, -, X111, ⟨Lc111, hQ111, l111, y111, z111⟩, st111⟩ := X98.virtualBack hx (y := (⟨"com/example/aturan/aturan/rules/AraMRuleBuilder", "build", "()Lcom/example/aturan/aturan/rules/AccessRule;"⟩ : MethodName)) (z := (⟨"com/example/aturan/aturan/rules/AraMRuleBuilder", "build", "()Lcom/example/aturan/aturan/rules/AccessRule;"⟩ : MethodName)) hown (mvT hZ (hw _ (List.mem_of_getElem? (i := 38) rfl))) (mvT hZ (hw _ (List.mem_of_getElem? (i := 39) rfl))) (notFace_of_selects (args := #[]) (mvT hZ (hw _ (List.mem_of_getElem? (i := 41) rfl)))) (mvT hZ (hw _ (List.mem_of_getElem? (i := 41) rfl))) (mvT hZ (hw _ (List.mem_of_getElem? (i := 40) rfl))) (by decide) (backOf (W := 0) (rm6 l Z a0 hw [] b42 b_82 k4 z_1 vh (.int (0 : Int32)) oL aV kV a1 a2 oE i1 i2 i3 h98 n0 Z98 O98 f103 f104 f105 f106 f107 f108 f109 f110 hz p_0 p_1 p_2 p_3 p_4 p_5 p_6 p_7 p_8 p_9 p_10 p_11 p_12 p_13 p_14 p_15) hZ (hw _ (List.mem_of_getElem? (i := 42) rfl)) (hw _ (List.mem_of_getElem? (i := 8) rfl)) (by decide) (by decide)) q111a q111c (g := (mkF m 245 #[.val (.int x0), .val (.int x1), .val (.int x2), .val (.int x3), .val (.int x4), .val (.int z_1), .val (.ref b4), .val (.int vf), .val (.int vl), .val (.int vm), .val (.ref b25), .val (.ref b42), .val (.int (1 : Int32)), .val (.int (1 : Int32)), .unset, .unset, .unset, .unset] [(.ref b42)])) rfl (by rw [hml]; rfl) (Steps.refl _) (argsL := []) (rest := []) (lenOf pd_5 rfl) rfl (by show 2 * 0 + _ ≤ _; exact Nat.le_of_eq rfl) (hb hby at_245) (fun _ _ => ⟨rfl, e98, (by decide : 7 + 4 ≤ _), (by decide : 154 + 43 ≤ _)⟩)
          dsimp only [Pt.U, Pt.locs, Pt.cells, Pt.slots] at X111 l111 y111 z111 st111 hQ111
          subst l111 y111 z111
          obtain ⟨r_111, b_111, rfl, N111q, K111, pq111_0, pq111_1, pq111_2, pq111_3, pq111_4, pq111_5, pq111_6⟩ := hQ111
          have N111 := Fr.app N98 N111q
          obtain ⟨h111, e111⟩ : ∃ z, T111.heap = z := ⟨_, rfl⟩
          rw [e111] at K111 pq111_3 pq111_4 pq111_5 pq111_6
          have ne112 : oL ≠ r_111 := Nat.ne_of_lt (Nat.lt_of_lt_of_le (p_1.ext O98.2).lt pq111_0)
          have ne113 : aV ≠ r_111 := Nat.ne_of_lt (Nat.lt_of_lt_of_le (p_4.ext O98.2).lt pq111_0)
          have ne114 : a1 ≠ r_111 := Nat.ne_of_lt (Nat.lt_of_lt_of_le (p_6.ext O98.2).lt pq111_0)
          have ne115 : a2 ≠ r_111 := Nat.ne_of_lt (Nat.lt_of_lt_of_le (p_7.ext O98.2).lt pq111_0)
          have ne116 : oE ≠ r_111 := Nat.ne_of_lt (Nat.lt_of_lt_of_le (p_11.ext O98.2).lt pq111_0)
          have ne117 : b4 ≠ r_111 := Nat.ne_of_lt (Nat.lt_of_lt_of_le f99.lt pq111_0)
          have ne118 : b25 ≠ r_111 := Nat.ne_of_lt (Nat.lt_of_lt_of_le f100.lt pq111_0)
          have ne119 : b42 ≠ r_111 := Nat.ne_of_lt (Nat.lt_of_lt_of_le f102.lt pq111_0)
          have ne120 : b_82 ≠ r_111 := Nat.ne_of_lt (Nat.lt_of_lt_of_le f109.lt pq111_0)
          have g_r_111 : n0 ≤ r_111 := Nat.le_trans Z98 pq111_0
          have ne121 : oL ≠ b_111 := Nat.ne_of_lt (Nat.lt_of_lt_of_le (p_1.ext O98.2).lt pq111_1)
          have ne122 : aV ≠ b_111 := Nat.ne_of_lt (Nat.lt_of_lt_of_le (p_4.ext O98.2).lt pq111_1)
          have ne123 : a1 ≠ b_111 := Nat.ne_of_lt (Nat.lt_of_lt_of_le (p_6.ext O98.2).lt pq111_1)
          have ne124 : a2 ≠ b_111 := Nat.ne_of_lt (Nat.lt_of_lt_of_le (p_7.ext O98.2).lt pq111_1)
          have ne125 : oE ≠ b_111 := Nat.ne_of_lt (Nat.lt_of_lt_of_le (p_11.ext O98.2).lt pq111_1)
          have ne126 : b4 ≠ b_111 := Nat.ne_of_lt (Nat.lt_of_lt_of_le f99.lt pq111_1)
          have ne127 : b25 ≠ b_111 := Nat.ne_of_lt (Nat.lt_of_lt_of_le f100.lt pq111_1)
          have ne128 : b42 ≠ b_111 := Nat.ne_of_lt (Nat.lt_of_lt_of_le f102.lt pq111_1)
          have ne129 : b_82 ≠ b_111 := Nat.ne_of_lt (Nat.lt_of_lt_of_le f109.lt pq111_1)
          have g_b_111 : n0 ≤ b_111 := Nat.le_trans Z98 pq111_1
          have f130 := f99.keep K111
          have f131 := f100.keep K111 nin0
          have f132 := f101.keep K111
          have f133 := f102.keep K111
          have f134 := f103.keep K111 nin0
          have f135 := f104.keep K111 nin0
          have f136 := f105.keep K111 nin0
          have f137 := f106.keep K111 nin0
          have f138 := f107.keep K111 nin0
          have f139 := f108.keep K111 nin0
          have f140 := f109.keep K111 nin0
          have f141 := f110.keep K111
          have O142 := O98.keep K111 all0
          have Z143 : n0 ≤ h111.size := Nat.le_trans Z98 K111.1
          refine own_step (st' := T111.setTop (mkF m 248 #[.val (.int x0), .val (.int x1), .val (.int x2), .val (.int x3), .val (.int x4), .val (.int z_1), .val (.ref b4), .val (.int vf), .val (.int vl), .val (.int vm), .val (.ref b25), .val (.ref b42), .val (.int (1 : Int32)), .val (.int (1 : Int32)), .unset, .unset, .unset, .unset] [(.ref r_111)])) (fun t k => st111.trans k) ?_
          refine own_step (st' := T111.setTop (mkF m 250 #[.val (.int x0), .val (.int x1), .val (.int x2), .val (.int x3), .val (.int x4), .val (.int z_1), .val (.ref b4), .val (.int vf), .val (.int vl), .val (.int vm), .val (.ref b25), .val (.ref b42), .val (.int (1 : Int32)), .val (.int (1 : Int32)), .val (.ref r_111), .unset, .unset, .unset] [])) (fun t k => XS.astore X111.here hx rfl (hb hby at_248) rfl rfl (l' := #[.val (.int x0), .val (.int x1), .val (.int x2), .val (.int x3), .val (.int x4), .val (.int z_1), .val (.ref b4), .val (.int vf), .val (.int vl), .val (.int vm), .val (.ref b25), .val (.ref b42), .val (.int (1 : Int32)), .val (.int (1 : Int32)), .val (.ref r_111), .unset, .unset, .unset]) rfl k) ?_
          refine own_step (st' := T111.setTop (mkF m 252 #[.val (.int x0), .val (.int x1), .val (.int x2), .val (.int x3), .val (.int x4), .val (.int z_1), .val (.ref b4), .val (.int vf), .val (.int vl), .val (.int vm), .val (.ref b25), .val (.ref b42), .val (.int (1 : Int32)), .val (.int (1 : Int32)), .val (.ref r_111), .unset, .unset, .unset] [(.ref r_111)])) (fun t k => XS.aload X111.here hx rfl (hb hby at_250) rfl rfl k) ?_
          obtain ⟨cq144, kq144, q144a, q144b, q144c⟩ := isOf hZ e111 pq111_3
          obtain ⟨_, _, ⟨T144, L144, k144, n144⟩, -, X144, ⟨Lc144, hQ144, l144, y144, z144⟩, st144⟩ := X111.virtualBack hx (y := (⟨"com/example/aturan/aturan/rules/AccessRule", "getCertificateHash", "()Ljava/util/Optional;"⟩ : MethodName)) (z := (⟨"com/example/aturan/aturan/rules/AccessRule", "getCertificateHash", "()Ljava/util/Optional;"⟩ : MethodName)) hown (mvT hZ (hw _ (List.mem_of_getElem? (i := 80) rfl))) (mvT hZ (hw _ (List.mem_of_getElem? (i := 81) rfl))) (notFace_of_selects (args := #[]) (mvT hZ (hw _ (List.mem_of_getElem? (i := 83) rfl)))) (mvT hZ (hw _ (List.mem_of_getElem? (i := 83) rfl))) (mvT hZ (hw _ (List.mem_of_getElem? (i := 82) rfl))) (by decide) (own_backH (W := 0) (rm9 l Z a0 hw [] r_111 b_111 k4 z_1 vh (.int (0 : Int32)) h111 n0 Z143 O142 pq111_4 pq111_5 pq111_6 hz) hZH (hw _ (List.mem_of_getElem? (i := 84) rfl)) (hw _ (List.mem_of_getElem? (i := 53) rfl)) (by decide) (by decide)) q144a q144c (g := (mkF m 252 #[.val (.int x0), .val (.int x1), .val (.int x2), .val (.int x3), .val (.int x4), .val (.int z_1), .val (.ref b4), .val (.int vf), .val (.int vl), .val (.int vm), .val (.ref b25), .val (.ref b42), .val (.int (1 : Int32)), .val (.int (1 : Int32)), .val (.ref r_111), .unset, .unset, .unset] [(.ref r_111)])) rfl (by rw [hml]; rfl) (Steps.refl _) (argsL := []) (rest := []) (lenOf pd_8 rfl) rfl (by show 2 * 0 + _ ≤ _; exact Nat.le_of_eq rfl) (hb hby at_252) (fun _ _ => ⟨rfl, e111, (by decide : 11 + 3 ≤ _), (by decide : 197 + 35 ≤ _)⟩)
          dsimp only [Pt.U, Pt.locs, Pt.cells, Pt.slots] at X144 l144 y144 z144 st144 hQ144
          subst l144 y144 z144
          obtain ⟨r_144, b_144, rfl, N144q, K144, pq144_0, pq144_1, pq144_2, pq144_3, pq144_4, pq144_5, pq144_6⟩ := hQ144
          have N144 := Fr.app N111 N144q
          obtain ⟨h144, e144⟩ : ∃ z, T144.heap = z := ⟨_, rfl⟩
          rw [e144] at K144 pq144_3 pq144_4 pq144_5 pq144_6
          have ne145 : oL ≠ r_144 := Nat.ne_of_lt (Nat.lt_of_lt_of_le (p_1.ext O142.2).lt pq144_0)
          have ne146 : aV ≠ r_144 := Nat.ne_of_lt (Nat.lt_of_lt_of_le (p_4.ext O142.2).lt pq144_0)
          have ne147 : a1 ≠ r_144 := Nat.ne_of_lt (Nat.lt_of_lt_of_le (p_6.ext O142.2).lt pq144_0)
          have ne148 : a2 ≠ r_144 := Nat.ne_of_lt (Nat.lt_of_lt_of_le (p_7.ext O142.2).lt pq144_0)
          have ne149 : oE ≠ r_144 := Nat.ne_of_lt (Nat.lt_of_lt_of_le (p_11.ext O142.2).lt pq144_0)
          have ne150 : b4 ≠ r_144 := Nat.ne_of_lt (Nat.lt_of_lt_of_le f130.lt pq144_0)
          have ne151 : b25 ≠ r_144 := Nat.ne_of_lt (Nat.lt_of_lt_of_le f131.lt pq144_0)
          have ne152 : b42 ≠ r_144 := Nat.ne_of_lt (Nat.lt_of_lt_of_le f133.lt pq144_0)
          have ne153 : b_82 ≠ r_144 := Nat.ne_of_lt (Nat.lt_of_lt_of_le f140.lt pq144_0)
          have ne154 : r_111 ≠ r_144 := Nat.ne_of_lt (Nat.lt_of_lt_of_le pq111_3.lt pq144_0)
          have ne155 : b_111 ≠ r_144 := Nat.ne_of_lt (Nat.lt_of_lt_of_le pq111_5.lt pq144_0)
          have g_r_144 : n0 ≤ r_144 := Nat.le_trans Z143 pq144_0
          have ne156 : oL ≠ b_144 := Nat.ne_of_lt (Nat.lt_of_lt_of_le (p_1.ext O142.2).lt pq144_1)
          have ne157 : aV ≠ b_144 := Nat.ne_of_lt (Nat.lt_of_lt_of_le (p_4.ext O142.2).lt pq144_1)
          have ne158 : a1 ≠ b_144 := Nat.ne_of_lt (Nat.lt_of_lt_of_le (p_6.ext O142.2).lt pq144_1)
          have ne159 : a2 ≠ b_144 := Nat.ne_of_lt (Nat.lt_of_lt_of_le (p_7.ext O142.2).lt pq144_1)
          have ne160 : oE ≠ b_144 := Nat.ne_of_lt (Nat.lt_of_lt_of_le (p_11.ext O142.2).lt pq144_1)
          have ne161 : b4 ≠ b_144 := Nat.ne_of_lt (Nat.lt_of_lt_of_le f130.lt pq144_1)
          have ne162 : b25 ≠ b_144 := Nat.ne_of_lt (Nat.lt_of_lt_of_le f131.lt pq144_1)
          have ne163 : b42 ≠ b_144 := Nat.ne_of_lt (Nat.lt_of_lt_of_le f133.lt pq144_1)
          have ne164 : b_82 ≠ b_144 := Nat.ne_of_lt (Nat.lt_of_lt_of_le f140.lt pq144_1)
          have ne165 : r_111 ≠ b_144 := Nat.ne_of_lt (Nat.lt_of_lt_of_le pq111_3.lt pq144_1)
          have ne166 : b_111 ≠ b_144 := Nat.ne_of_lt (Nat.lt_of_lt_of_le pq111_5.lt pq144_1)
          have g_b_144 : n0 ≤ b_144 := Nat.le_trans Z143 pq144_1
          have f167 := f130.keep K144
          have f168 := f131.keep K144 nin0
          have f169 := f132.keep K144
          have f170 := f133.keep K144
          have f171 := f134.keep K144 nin0
          have f172 := f135.keep K144 nin0
          have f173 := f136.keep K144 nin0
          have f174 := f137.keep K144 nin0
          have f175 := f138.keep K144 nin0
          have f176 := f139.keep K144 nin0
          have f177 := f140.keep K144 nin0
          have f178 := f141.keep K144
          have f179 := pq111_3.keep K144
          have f180 := pq111_4.keep K144 nin0
          have f181 := pq111_5.keep K144 nin0
          have f182 := pq111_6.keep K144
          have O183 := O142.keep K144 all0
          have Z184 : n0 ≤ h144.size := Nat.le_trans Z143 K144.1
          refine own_step (st' := T144.setTop (mkF m 255 #[.val (.int x0), .val (.int x1), .val (.int x2), .val (.int x3), .val (.int x4), .val (.int z_1), .val (.ref b4), .val (.int vf), .val (.int vl), .val (.int vm), .val (.ref b25), .val (.ref b42), .val (.int (1 : Int32)), .val (.int (1 : Int32)), .val (.ref r_111), .unset, .unset, .unset] [(.ref r_144)])) (fun t k => st144.trans k) ?_
          refine own_step (st' := T144.setTop (mkF m 256 #[.val (.int x0), .val (.int x1), .val (.int x2), .val (.int x3), .val (.int x4), .val (.int z_1), .val (.ref b4), .val (.int vf), .val (.int vl), .val (.int vm), .val (.ref b25), .val (.ref b42), .val (.int (1 : Int32)), .val (.int (1 : Int32)), .val (.ref r_111), .unset, .unset, .unset] [.null, (.ref r_144)])) (fun t k => XS.aconstNull X144.here hx rfl (hb hby at_255) k) ?_
          obtain ⟨cq185, kq185, q185a, q185b, q185c⟩ := isOf hZ e144 pq144_3
          obtain ⟨_, _, ⟨T185, L185, k185, n185⟩, -, X185, ⟨Lc185, hQ185, l185, y185, z185⟩, st185⟩ := X144.virtualBack hx (y := (⟨"java/util/Optional", "orElse", "(Ljava/lang/Object;)Ljava/lang/Object;"⟩ : MethodName)) (z := (⟨"java/util/Optional", "orElse", "(Ljava/lang/Object;)Ljava/lang/Object;"⟩ : MethodName)) hown (mvT hZ (hw _ (List.mem_of_getElem? (i := 121) rfl))) (mvT hZ (hw _ (List.mem_of_getElem? (i := 122) rfl))) (notFace_of_selects (args := #[]) (mvT hZ (hw _ (List.mem_of_getElem? (i := 124) rfl)))) (mvT hZ (hw _ (List.mem_of_getElem? (i := 124) rfl))) (mvT hZ (hw _ (List.mem_of_getElem? (i := 123) rfl))) (by decide) (backOf (W := 0) (rmOR l Z a0 hw [] r_144 b_144 h144 n0 Z184 pq144_4) hZ (hw _ (List.mem_of_getElem? (i := 125) rfl)) (hw _ (List.mem_of_getElem? (i := 87) rfl)) (by decide) (by decide)) q185a q185c (g := (mkF m 256 #[.val (.int x0), .val (.int x1), .val (.int x2), .val (.int x3), .val (.int x4), .val (.int z_1), .val (.ref b4), .val (.int vf), .val (.int vl), .val (.int vm), .val (.ref b25), .val (.ref b42), .val (.int (1 : Int32)), .val (.int (1 : Int32)), .val (.ref r_111), .unset, .unset, .unset] [.null, (.ref r_144)])) rfl (by rw [hml]; rfl) (Steps.refl _) (argsL := [.null]) (rest := []) (lenOf pd_12 rfl) rfl (by show 2 * 0 + _ ≤ _; exact Nat.le_of_eq rfl) (hb hby at_256) (fun _ _ => ⟨rfl, e144, (by decide : 14 + 0 ≤ _), (by decide : 232 + 0 ≤ _)⟩)
          dsimp only [Pt.U, Pt.locs, Pt.cells, Pt.slots] at X185 l185 y185 z185 st185 hQ185
          subst l185 y185 z185
          obtain ⟨rfl, N185q, e185⟩ := hQ185
          have N185 := Fr.app N144 N185q
          refine own_step (st' := T185.setTop (mkF m 259 #[.val (.int x0), .val (.int x1), .val (.int x2), .val (.int x3), .val (.int x4), .val (.int z_1), .val (.ref b4), .val (.int vf), .val (.int vl), .val (.int vm), .val (.ref b25), .val (.ref b42), .val (.int (1 : Int32)), .val (.int (1 : Int32)), .val (.ref r_111), .unset, .unset, .unset] [(.ref b_144)])) (fun t k => st185.trans k) ?_
          obtain ⟨T186, X186, e186, st186⟩ := castY X185 hx hZ hown (hw _ (List.mem_of_getElem? (i := 126) rfl)) e185 (Ins.self pq144_6) (g := (mkF m 259 #[.val (.int x0), .val (.int x1), .val (.int x2), .val (.int x3), .val (.int x4), .val (.int z_1), .val (.ref b4), .val (.int vf), .val (.int vl), .val (.int vm), .val (.ref b25), .val (.ref b42), .val (.int (1 : Int32)), .val (.int (1 : Int32)), .val (.ref r_111), .unset, .unset, .unset] [(.ref b_144)])) rfl rfl (hb hby at_259)
          refine own_step (st' := T186.setTop (mkF m 262 #[.val (.int x0), .val (.int x1), .val (.int x2), .val (.int x3), .val (.int x4), .val (.int z_1), .val (.ref b4), .val (.int vf), .val (.int vl), .val (.int vm), .val (.ref b25), .val (.ref b42), .val (.int (1 : Int32)), .val (.int (1 : Int32)), .val (.ref r_111), .unset, .unset, .unset] [(.ref b_144)])) st186 ?_
          refine own_step (st' := T186.setTop (mkF m 264 #[.val (.int x0), .val (.int x1), .val (.int x2), .val (.int x3), .val (.int x4), .val (.int z_1), .val (.ref b4), .val (.int vf), .val (.int vl), .val (.int vm), .val (.ref b25), .val (.ref b42), .val (.int (1 : Int32)), .val (.int (1 : Int32)), .val (.ref r_111), .val (.ref b_144), .unset, .unset] [])) (fun t k => XS.astore X186.here hx rfl (hb hby at_262) rfl rfl (l' := #[.val (.int x0), .val (.int x1), .val (.int x2), .val (.int x3), .val (.int x4), .val (.int z_1), .val (.ref b4), .val (.int vf), .val (.int vl), .val (.int vm), .val (.ref b25), .val (.ref b42), .val (.int (1 : Int32)), .val (.int (1 : Int32)), .val (.ref r_111), .val (.ref b_144), .unset, .unset]) rfl k) ?_
          refine own_step (st' := T186.setTop (mkF m 266 #[.val (.int x0), .val (.int x1), .val (.int x2), .val (.int x3), .val (.int x4), .val (.int z_1), .val (.ref b4), .val (.int vf), .val (.int vl), .val (.int vm), .val (.ref b25), .val (.ref b42), .val (.int (1 : Int32)), .val (.int (1 : Int32)), .val (.ref r_111), .val (.ref b_144), .unset, .unset] [(.ref b_144)])) (fun t k => XS.aload X186.here hx rfl (hb hby at_264) rfl rfl k) ?_
          refine own_step (st' := T186.setTop (mkF m 269 #[.val (.int x0), .val (.int x1), .val (.int x2), .val (.int x3), .val (.int x4), .val (.int z_1), .val (.ref b4), .val (.int vf), .val (.int vl), .val (.int vm), .val (.ref b25), .val (.ref b42), .val (.int (1 : Int32)), .val (.int (1 : Int32)), .val (.ref r_111), .val (.ref b_144), .unset, .unset] [])) (fun t k => XS.ifnullNo X186.here hx rfl (hb hby at_266) rfl k) ?_
          refine own_step (st' := T186.setTop (mkF m 271 #[.val (.int x0), .val (.int x1), .val (.int x2), .val (.int x3), .val (.int x4), .val (.int z_1), .val (.ref b4), .val (.int vf), .val (.int vl), .val (.int vm), .val (.ref b25), .val (.ref b42), .val (.int (1 : Int32)), .val (.int (1 : Int32)), .val (.ref r_111), .val (.ref b_144), .unset, .unset] [(.ref b_144)])) (fun t k => XS.aload X186.here hx rfl (hb hby at_269) rfl rfl k) ?_
          refine own_step (st' := T186.setTop (mkF m 272 #[.val (.int x0), .val (.int x1), .val (.int x2), .val (.int x3), .val (.int x4), .val (.int z_1), .val (.ref b4), .val (.int vf), .val (.int vl), .val (.int vm), .val (.ref b25), .val (.ref b42), .val (.int (1 : Int32)), .val (.int (1 : Int32)), .val (.ref r_111), .val (.ref b_144), .unset, .unset] [(.int z_1)])) (fun t k => own_len X186 hx hZ e186 pq144_5 (g := (mkF m 271 #[.val (.int x0), .val (.int x1), .val (.int x2), .val (.int x3), .val (.int x4), .val (.int z_1), .val (.ref b4), .val (.int vf), .val (.int vl), .val (.int vm), .val (.ref b25), .val (.ref b42), .val (.int (1 : Int32)), .val (.int (1 : Int32)), .val (.ref r_111), .val (.ref b_144), .unset, .unset] [(.ref b_144)])) rfl rfl (hb hby at_271) t k) ?_
          refine own_step (st' := T186.setTop (mkF m 274 #[.val (.int x0), .val (.int x1), .val (.int x2), .val (.int x3), .val (.int x4), .val (.int z_1), .val (.ref b4), .val (.int vf), .val (.int vl), .val (.int vm), .val (.ref b25), .val (.ref b42), .val (.int (1 : Int32)), .val (.int (1 : Int32)), .val (.ref r_111), .val (.ref b_144), .unset, .unset] [(.int z_1), (.int z_1)])) (fun t k => XS.iload X186.here hx rfl (hb hby at_272) rfl k) ?_
          refine own_step (st' := T186.setTop (mkF m 279 #[.val (.int x0), .val (.int x1), .val (.int x2), .val (.int x3), .val (.int x4), .val (.int z_1), .val (.ref b4), .val (.int vf), .val (.int vl), .val (.int vm), .val (.ref b25), .val (.ref b42), .val (.int (1 : Int32)), .val (.int (1 : Int32)), .val (.ref r_111), .val (.ref b_144), .unset, .unset] [])) (fun t k => XS.icmpYes X186.here hx rfl (pc0 := 274) (pc' := 279) rfl (hb hby at_274) rfl (teq rfl).1 (by decide) (by decide) k) ?_
          have J187 : ∀ (T187 : State) (h187 : Heap) (lc187 : List Loc) (X187 : Stand p l e room_1 s m #[(.int x0), (.int x1), (.int x2), (.int x3), (.int x4)] below meth c T187 lc187 14 232) (e187 : T187.heap = h187) (N187 : Fr n0 lc187) (Z187 : n0 ≤ h187.size) (f188 : Exa Z h187 b4 "[B") (f189 : Arv Z h187 b25 k25 .byte z_20 vo (.int (0 : Int32))) (f190 : Exa Z h187 b25 "[B") (f191 : Exa Z h187 b42 "com/example/aturan/aturan/rules/AraMRuleBuilder") (f192 : Fld Z h187 b42 "com/example/aturan/aturan/rules/AraMRuleBuilder" "certificateHash" "[B" (.ref b_82)) (f193 : Fld Z h187 b42 "com/example/aturan/aturan/rules/AraMRuleBuilder" "permissions" "Ljava/util/OptionalLong;" (.ref oL)) (f194 : Fld Z h187 b42 "com/example/aturan/aturan/rules/AraMRuleBuilder" "aid" "[B" .null) (f195 : Fld Z h187 b42 "com/example/aturan/aturan/rules/AraMRuleBuilder" "packageName" "Ljava/lang/String;" .null) (f196 : Fld Z h187 b42 "com/example/aturan/aturan/rules/AraMRuleBuilder" "apduRule" "Lcom/example/aturan/aturan/rules/ApduRule;" .null) (f197 : Fld Z h187 b42 "com/example/aturan/aturan/rules/AraMRuleBuilder" "nfcRule" "Lcom/example/aturan/aturan/rules/Access;" .null) (f198 : Arv Z h187 b_82 k4 .byte z_1 vh (.int (0 : Int32))) (f199 : Exa Z h187 b_82 "[B") (f200 : Exa Z h187 r_111 "com/example/aturan/aturan/rules/AccessRule") (f201 : Fld Z h187 r_111 "com/example/aturan/aturan/rules/AccessRule" "certificateHash" "[B" (.ref b_111)) (f202 : Arv Z h187 b_111 k4 .byte z_1 vh (.int (0 : Int32))) (f203 : Exa Z h187 b_111 "[B") (f204 : Exa Z h187 r_144 "java/util/Optional") (f205 : Fld Z h187 r_144 "java/util/Optional" "value" "Ljava/lang/Object;" (.ref b_144)) (f206 : Arv Z h187 b_144 k4 .byte z_1 vh (.int (0 : Int32))) (f207 : Exa Z h187 b_144 "[B") (O187 : Old Z n0 h187), own_Ends p e below s room_1.cells room_1.slots (Q_rm0 Z x0 x1 x2 x3 x4 oL aV kV a1 a2 oE i1 i2 i3 h0 n0) (T187.setTop (mkF m 327 #[.val (.int x0), .val (.int x1), .val (.int x2), .val (.int x3), .val (.int x4), .val (.int z_1), .val (.ref b4), .val (.int vf), .val (.int vl), .val (.int vm), .val (.ref b25), .val (.ref b42), .val (.int (1 : Int32)), .val (.int (1 : Int32)), .val (.ref r_111), .val (.ref b_144), .unset, .unset] [])) := by
            intro T187 h187 lc187 X187 e187 N187 Z187 f188 f189 f190 f191 f192 f193 f194 f195 f196 f197 f198 f199 f200 f201 f202 f203 f204 f205 f206 f207 O187
            refine own_step (st' := T187.setTop (mkF m 329 #[.val (.int x0), .val (.int x1), .val (.int x2), .val (.int x3), .val (.int x4), .val (.int z_1), .val (.ref b4), .val (.int vf), .val (.int vl), .val (.int vm), .val (.ref b25), .val (.ref b42), .val (.int (1 : Int32)), .val (.int (1 : Int32)), .val (.ref r_111), .val (.ref b_144), .unset, .unset] [(.ref r_111)])) (fun t k => XS.aload X187.here hx rfl (hb hby at_327) rfl rfl k) ?_
            by_cases hc208 : (20 : Int32) = z_1
            · obtain ⟨cq209, kq209, q209a, q209b, q209c⟩ := isOf hZ e187 f200
              obtain ⟨_, _, ⟨T209, L209, k209, n209⟩, -, X209, ⟨Lc209, hQ209, l209, y209, z209⟩, st209⟩ := X187.virtualBack hx (y := (⟨"com/example/aturan/aturan/rules/AccessRule", "getAlgorithm", "()Ljava/util/Optional;"⟩ : MethodName)) (z := (⟨"com/example/aturan/aturan/rules/AccessRule", "getAlgorithm", "()Ljava/util/Optional;"⟩ : MethodName)) hown (mvT hZ (hw _ (List.mem_of_getElem? (i := 127) rfl))) (mvT hZ (hw _ (List.mem_of_getElem? (i := 128) rfl))) (notFace_of_selects (args := #[]) (mvT hZ (hw _ (List.mem_of_getElem? (i := 130) rfl)))) (mvT hZ (hw _ (List.mem_of_getElem? (i := 130) rfl))) (mvT hZ (hw _ (List.mem_of_getElem? (i := 129) rfl))) (by decide) (backOf (W := 0) (rmGA1 l Z a0 hw [] r_111 b_111 k4 z_1 vh (.int (0 : Int32)) aV kV a1 a2 oE h187 n0 Z187 O187 f201 f202 p_3 p_4 p_5 p_6 p_7 p_8 p_9 p_10 p_11 p_12 hc208.symm) hZ (hw _ (List.mem_of_getElem? (i := 131) rfl)) (hw _ (List.mem_of_getElem? (i := 53) rfl)) (by decide) (by decide)) q209a q209c (g := (mkF m 329 #[.val (.int x0), .val (.int x1), .val (.int x2), .val (.int x3), .val (.int x4), .val (.int z_1), .val (.ref b4), .val (.int vf), .val (.int vl), .val (.int vm), .val (.ref b25), .val (.ref b42), .val (.int (1 : Int32)), .val (.int (1 : Int32)), .val (.ref r_111), .val (.ref b_144), .unset, .unset] [(.ref r_111)])) rfl (by rw [hml]; rfl) (Steps.refl _) (argsL := []) (rest := []) (lenOf pd_8 rfl) rfl (by show 2 * 0 + _ ≤ _; exact Nat.le_of_eq rfl) (hb hby at_329) (fun _ _ => ⟨rfl, e187, (by decide : 14 + 2 ≤ _), (by decide : 232 + 3 ≤ _)⟩)
              dsimp only [Pt.U, Pt.locs, Pt.cells, Pt.slots] at X209 l209 y209 z209 st209 hQ209
              subst l209 y209 z209
              obtain ⟨r_209, rfl, N209q, K209, pq209_0, pq209_1, pq209_2⟩ := hQ209
              have N209 := Fr.app N187 N209q
              obtain ⟨h209, e209⟩ : ∃ z, T209.heap = z := ⟨_, rfl⟩
              rw [e209] at K209 pq209_1 pq209_2
              have ne210 : oL ≠ r_209 := Nat.ne_of_lt (Nat.lt_of_lt_of_le (p_1.ext O187.2).lt pq209_0)
              have ne211 : aV ≠ r_209 := Nat.ne_of_lt (Nat.lt_of_lt_of_le (p_4.ext O187.2).lt pq209_0)
              have ne212 : a1 ≠ r_209 := Nat.ne_of_lt (Nat.lt_of_lt_of_le (p_6.ext O187.2).lt pq209_0)
              have ne213 : a2 ≠ r_209 := Nat.ne_of_lt (Nat.lt_of_lt_of_le (p_7.ext O187.2).lt pq209_0)
              have ne214 : oE ≠ r_209 := Nat.ne_of_lt (Nat.lt_of_lt_of_le (p_11.ext O187.2).lt pq209_0)
              have ne215 : b4 ≠ r_209 := Nat.ne_of_lt (Nat.lt_of_lt_of_le f188.lt pq209_0)
              have ne216 : b25 ≠ r_209 := Nat.ne_of_lt (Nat.lt_of_lt_of_le f189.lt pq209_0)
              have ne217 : b42 ≠ r_209 := Nat.ne_of_lt (Nat.lt_of_lt_of_le f191.lt pq209_0)
              have ne218 : b_82 ≠ r_209 := Nat.ne_of_lt (Nat.lt_of_lt_of_le f198.lt pq209_0)
              have ne219 : r_111 ≠ r_209 := Nat.ne_of_lt (Nat.lt_of_lt_of_le f200.lt pq209_0)
              have ne220 : b_111 ≠ r_209 := Nat.ne_of_lt (Nat.lt_of_lt_of_le f202.lt pq209_0)
              have ne221 : r_144 ≠ r_209 := Nat.ne_of_lt (Nat.lt_of_lt_of_le f204.lt pq209_0)
              have ne222 : b_144 ≠ r_209 := Nat.ne_of_lt (Nat.lt_of_lt_of_le f206.lt pq209_0)
              have g_r_209 : n0 ≤ r_209 := Nat.le_trans Z187 pq209_0
              have f223 := f188.keep K209
              have f224 := f189.keep K209 nin0
              have f225 := f190.keep K209
              have f226 := f191.keep K209
              have f227 := f192.keep K209 nin0
              have f228 := f193.keep K209 nin0
              have f229 := f194.keep K209 nin0
              have f230 := f195.keep K209 nin0
              have f231 := f196.keep K209 nin0
              have f232 := f197.keep K209 nin0
              have f233 := f198.keep K209 nin0
              have f234 := f199.keep K209
              have f235 := f200.keep K209
              have f236 := f201.keep K209 nin0
              have f237 := f202.keep K209 nin0
              have f238 := f203.keep K209
              have f239 := f204.keep K209
              have f240 := f205.keep K209 nin0
              have f241 := f206.keep K209 nin0
              have f242 := f207.keep K209
              have O243 := O187.keep K209 all0
              have Z244 : n0 ≤ h209.size := Nat.le_trans Z187 K209.1
              refine own_step (st' := T209.setTop (mkF m 332 #[.val (.int x0), .val (.int x1), .val (.int x2), .val (.int x3), .val (.int x4), .val (.int z_1), .val (.ref b4), .val (.int vf), .val (.int vl), .val (.int vm), .val (.ref b25), .val (.ref b42), .val (.int (1 : Int32)), .val (.int (1 : Int32)), .val (.ref r_111), .val (.ref b_144), .unset, .unset] [(.ref r_209)])) (fun t k => st209.trans k) ?_
              refine own_step (st' := T209.setTop (mkF m 333 #[.val (.int x0), .val (.int x1), .val (.int x2), .val (.int x3), .val (.int x4), .val (.int z_1), .val (.ref b4), .val (.int vf), .val (.int vl), .val (.int vm), .val (.ref b25), .val (.ref b42), .val (.int (1 : Int32)), .val (.int (1 : Int32)), .val (.ref r_111), .val (.ref b_144), .unset, .unset] [.null, (.ref r_209)])) (fun t k => XS.aconstNull X209.here hx rfl (hb hby at_332) k) ?_
              obtain ⟨cq245, kq245, q245a, q245b, q245c⟩ := isOf hZ e209 pq209_1
              obtain ⟨_, _, ⟨T245, L245, k245, n245⟩, -, X245, ⟨Lc245, hQ245, l245, y245, z245⟩, st245⟩ := X209.virtualBack hx (y := (⟨"java/util/Optional", "orElse", "(Ljava/lang/Object;)Ljava/lang/Object;"⟩ : MethodName)) (z := (⟨"java/util/Optional", "orElse", "(Ljava/lang/Object;)Ljava/lang/Object;"⟩ : MethodName)) hown (mvT hZ (hw _ (List.mem_of_getElem? (i := 121) rfl))) (mvT hZ (hw _ (List.mem_of_getElem? (i := 122) rfl))) (notFace_of_selects (args := #[]) (mvT hZ (hw _ (List.mem_of_getElem? (i := 124) rfl)))) (mvT hZ (hw _ (List.mem_of_getElem? (i := 124) rfl))) (mvT hZ (hw _ (List.mem_of_getElem? (i := 123) rfl))) (by decide) (backOf (W := 0) (rmOR l Z a0 hw [] r_209 a1 h209 n0 Z244 pq209_2) hZ (hw _ (List.mem_of_getElem? (i := 125) rfl)) (hw _ (List.mem_of_getElem? (i := 87) rfl)) (by decide) (by decide)) q245a q245c (g := (mkF m 333 #[.val (.int x0), .val (.int x1), .val (.int x2), .val (.int x3), .val (.int x4), .val (.int z_1), .val (.ref b4), .val (.int vf), .val (.int vl), .val (.int vm), .val (.ref b25), .val (.ref b42), .val (.int (1 : Int32)), .val (.int (1 : Int32)), .val (.ref r_111), .val (.ref b_144), .unset, .unset] [.null, (.ref r_209)])) rfl (by rw [hml]; rfl) (Steps.refl _) (argsL := [.null]) (rest := []) (lenOf pd_12 rfl) rfl (by show 2 * 0 + _ ≤ _; exact Nat.le_of_eq rfl) (hb hby at_333) (fun _ _ => ⟨rfl, e209, (by decide : 16 + 0 ≤ _), (by decide : 235 + 0 ≤ _)⟩)
              dsimp only [Pt.U, Pt.locs, Pt.cells, Pt.slots] at X245 l245 y245 z245 st245 hQ245
              subst l245 y245 z245
              obtain ⟨rfl, N245q, e245⟩ := hQ245
              have N245 := Fr.app N209 N245q
              refine own_step (st' := T245.setTop (mkF m 336 #[.val (.int x0), .val (.int x1), .val (.int x2), .val (.int x3), .val (.int x4), .val (.int z_1), .val (.ref b4), .val (.int vf), .val (.int vl), .val (.int vm), .val (.ref b25), .val (.ref b42), .val (.int (1 : Int32)), .val (.int (1 : Int32)), .val (.ref r_111), .val (.ref b_144), .unset, .unset] [(.ref a1)])) (fun t k => st245.trans k) ?_
              obtain ⟨T246, X246, e246, st246⟩ := castY X245 hx hZ hown (hw _ (List.mem_of_getElem? (i := 170) rfl)) e245 (Ins.self (p_8.ext O243.2)) (g := (mkF m 336 #[.val (.int x0), .val (.int x1), .val (.int x2), .val (.int x3), .val (.int x4), .val (.int z_1), .val (.ref b4), .val (.int vf), .val (.int vl), .val (.int vm), .val (.ref b25), .val (.ref b42), .val (.int (1 : Int32)), .val (.int (1 : Int32)), .val (.ref r_111), .val (.ref b_144), .unset, .unset] [(.ref a1)])) rfl rfl (hb hby at_336)
              refine own_step (st' := T246.setTop (mkF m 339 #[.val (.int x0), .val (.int x1), .val (.int x2), .val (.int x3), .val (.int x4), .val (.int z_1), .val (.ref b4), .val (.int vf), .val (.int vl), .val (.int vm), .val (.ref b25), .val (.ref b42), .val (.int (1 : Int32)), .val (.int (1 : Int32)), .val (.ref r_111), .val (.ref b_144), .unset, .unset] [(.ref a1)])) st246 ?_
              refine own_step (st' := T246.setTop (mkF m 341 #[.val (.int x0), .val (.int x1), .val (.int x2), .val (.int x3), .val (.int x4), .val (.int z_1), .val (.ref b4), .val (.int vf), .val (.int vl), .val (.int vm), .val (.ref b25), .val (.ref b42), .val (.int (1 : Int32)), .val (.int (1 : Int32)), .val (.ref r_111), .val (.ref b_144), .val (.ref a1), .unset] [])) (fun t k => XS.astore X246.here hx rfl (hb hby at_339) rfl rfl (l' := #[.val (.int x0), .val (.int x1), .val (.int x2), .val (.int x3), .val (.int x4), .val (.int z_1), .val (.ref b4), .val (.int vf), .val (.int vl), .val (.int vm), .val (.ref b25), .val (.ref b42), .val (.int (1 : Int32)), .val (.int (1 : Int32)), .val (.ref r_111), .val (.ref b_144), .val (.ref a1), .unset]) rfl k) ?_
              refine own_step (st' := T246.setTop (mkF m 343 #[.val (.int x0), .val (.int x1), .val (.int x2), .val (.int x3), .val (.int x4), .val (.int z_1), .val (.ref b4), .val (.int vf), .val (.int vl), .val (.int vm), .val (.ref b25), .val (.ref b42), .val (.int (1 : Int32)), .val (.int (1 : Int32)), .val (.ref r_111), .val (.ref b_144), .val (.ref a1), .unset] [(.int z_1)])) (fun t k => XS.iload X246.here hx rfl (hb hby at_341) rfl k) ?_
              refine own_step (st' := T246.setTop (mkF m 345 #[.val (.int x0), .val (.int x1), .val (.int x2), .val (.int x3), .val (.int x4), .val (.int z_1), .val (.ref b4), .val (.int vf), .val (.int vl), .val (.int vm), .val (.ref b25), .val (.ref b42), .val (.int (1 : Int32)), .val (.int (1 : Int32)), .val (.ref r_111), .val (.ref b_144), .val (.ref a1), .unset] [(.int (20 : Int32)), (.int z_1)])) (fun t k => XS.bipush X246.here hx rfl (hb hby at_343) k) ?_
              refine own_step (st' := T246.setTop (mkF m 348 #[.val (.int x0), .val (.int x1), .val (.int x2), .val (.int x3), .val (.int x4), .val (.int z_1), .val (.ref b4), .val (.int vf), .val (.int vl), .val (.int vm), .val (.ref b25), .val (.ref b42), .val (.int (1 : Int32)), .val (.int (1 : Int32)), .val (.ref r_111), .val (.ref b_144), .val (.ref a1), .unset] [])) (fun t k => XS.icmpNo X246.here hx rfl (hb hby at_345) rfl (teq hc208.symm).2 k) ?_
              obtain ⟨T247, X247, e247, st247⟩ := getS2 X246 hx hZ hown (host := "") (Or.inl (hw _ (List.mem_of_getElem? (i := 172) rfl))) Via.refl e246 (p_16.ext O243.2) (g := (mkF m 348 #[.val (.int x0), .val (.int x1), .val (.int x2), .val (.int x3), .val (.int x4), .val (.int z_1), .val (.ref b4), .val (.int vf), .val (.int vl), .val (.int vm), .val (.ref b25), .val (.ref b42), .val (.int (1 : Int32)), .val (.int (1 : Int32)), .val (.ref r_111), .val (.ref b_144), .val (.ref a1), .unset] [])) rfl (hb hby at_348)
              refine own_step (st' := T247.setTop (mkF m 351 #[.val (.int x0), .val (.int x1), .val (.int x2), .val (.int x3), .val (.int x4), .val (.int z_1), .val (.ref b4), .val (.int vf), .val (.int vl), .val (.int vm), .val (.ref b25), .val (.ref b42), .val (.int (1 : Int32)), .val (.int (1 : Int32)), .val (.ref r_111), .val (.ref b_144), .val (.ref a1), .unset] [(.ref a1)])) st247 ?_
              refine own_step (st' := T247.setTop (mkF m 368 #[.val (.int x0), .val (.int x1), .val (.int x2), .val (.int x3), .val (.int x4), .val (.int z_1), .val (.ref b4), .val (.int vf), .val (.int vl), .val (.int vm), .val (.ref b25), .val (.ref b42), .val (.int (1 : Int32)), .val (.int (1 : Int32)), .val (.ref r_111), .val (.ref b_144), .val (.ref a1), .unset] [(.ref a1)])) (fun t k => XS.goto X247.here hx rfl (pc0 := 351) (pc' := 368) rfl (hb hby at_351) (by decide) (by decide) k) ?_
              refine own_step (st' := T247.setTop (mkF m 370 #[.val (.int x0), .val (.int x1), .val (.int x2), .val (.int x3), .val (.int x4), .val (.int z_1), .val (.ref b4), .val (.int vf), .val (.int vl), .val (.int vm), .val (.ref b25), .val (.ref b42), .val (.int (1 : Int32)), .val (.int (1 : Int32)), .val (.ref r_111), .val (.ref b_144), .val (.ref a1), .val (.ref a1)] [])) (fun t k => XS.astore X247.here hx rfl (hb hby at_368) rfl rfl (l' := #[.val (.int x0), .val (.int x1), .val (.int x2), .val (.int x3), .val (.int x4), .val (.int z_1), .val (.ref b4), .val (.int vf), .val (.int vl), .val (.int vm), .val (.ref b25), .val (.ref b42), .val (.int (1 : Int32)), .val (.int (1 : Int32)), .val (.ref r_111), .val (.ref b_144), .val (.ref a1), .val (.ref a1)]) rfl k) ?_
              refine own_step (st' := T247.setTop (mkF m 372 #[.val (.int x0), .val (.int x1), .val (.int x2), .val (.int x3), .val (.int x4), .val (.int z_1), .val (.ref b4), .val (.int vf), .val (.int vl), .val (.int vm), .val (.ref b25), .val (.ref b42), .val (.int (1 : Int32)), .val (.int (1 : Int32)), .val (.ref r_111), .val (.ref b_144), .val (.ref a1), .val (.ref a1)] [(.int (1 : Int32))])) (fun t k => XS.iload X247.here hx rfl (hb hby at_370) rfl k) ?_
              refine own_step (st' := T247.setTop (mkF m 375 #[.val (.int x0), .val (.int x1), .val (.int x2), .val (.int x3), .val (.int x4), .val (.int z_1), .val (.ref b4), .val (.int vf), .val (.int vl), .val (.int vm), .val (.ref b25), .val (.ref b42), .val (.int (1 : Int32)), .val (.int (1 : Int32)), .val (.ref r_111), .val (.ref b_144), .val (.ref a1), .val (.ref a1)] [])) (fun t k => XS.ifNo X247.here hx rfl (hb hby at_372) rfl ((if0 _ _).trans (feq (by decide)).1) k) ?_
              refine own_step (st' := T247.setTop (mkF m 377 #[.val (.int x0), .val (.int x1), .val (.int x2), .val (.int x3), .val (.int x4), .val (.int z_1), .val (.ref b4), .val (.int vf), .val (.int vl), .val (.int vm), .val (.ref b25), .val (.ref b42), .val (.int (1 : Int32)), .val (.int (1 : Int32)), .val (.ref r_111), .val (.ref b_144), .val (.ref a1), .val (.ref a1)] [(.int (1 : Int32))])) (fun t k => XS.iload X247.here hx rfl (hb hby at_375) rfl k) ?_
              refine own_step (st' := T247.setTop (mkF m 380 #[.val (.int x0), .val (.int x1), .val (.int x2), .val (.int x3), .val (.int x4), .val (.int z_1), .val (.ref b4), .val (.int vf), .val (.int vl), .val (.int vm), .val (.ref b25), .val (.ref b42), .val (.int (1 : Int32)), .val (.int (1 : Int32)), .val (.ref r_111), .val (.ref b_144), .val (.ref a1), .val (.ref a1)] [])) (fun t k => XS.ifNo X247.here hx rfl (hb hby at_377) rfl ((if0 _ _).trans (feq (by decide)).1) k) ?_
              refine own_step (st' := T247.setTop (mkF m 382 #[.val (.int x0), .val (.int x1), .val (.int x2), .val (.int x3), .val (.int x4), .val (.int z_1), .val (.ref b4), .val (.int vf), .val (.int vl), .val (.int vm), .val (.ref b25), .val (.ref b42), .val (.int (1 : Int32)), .val (.int (1 : Int32)), .val (.ref r_111), .val (.ref b_144), .val (.ref a1), .val (.ref a1)] [(.ref a1)])) (fun t k => XS.aload X247.here hx rfl (hb hby at_380) rfl rfl k) ?_
              refine own_step (st' := T247.setTop (mkF m 384 #[.val (.int x0), .val (.int x1), .val (.int x2), .val (.int x3), .val (.int x4), .val (.int z_1), .val (.ref b4), .val (.int vf), .val (.int vl), .val (.int vm), .val (.ref b25), .val (.ref b42), .val (.int (1 : Int32)), .val (.int (1 : Int32)), .val (.ref r_111), .val (.ref b_144), .val (.ref a1), .val (.ref a1)] [(.ref a1), (.ref a1)])) (fun t k => XS.aload X247.here hx rfl (hb hby at_382) rfl rfl k) ?_
              refine own_step (st' := T247.setTop (mkF m 387 #[.val (.int x0), .val (.int x1), .val (.int x2), .val (.int x3), .val (.int x4), .val (.int z_1), .val (.ref b4), .val (.int vf), .val (.int vl), .val (.int vm), .val (.ref b25), .val (.ref b42), .val (.int (1 : Int32)), .val (.int (1 : Int32)), .val (.ref r_111), .val (.ref b_144), .val (.ref a1), .val (.ref a1)] [])) (fun t k => Jvm.RoadKit.acmp (g := (mkF m 384 #[.val (.int x0), .val (.int x1), .val (.int x2), .val (.int x3), .val (.int x4), .val (.int z_1), .val (.ref b4), .val (.int vf), .val (.int vl), .val (.int vm), .val (.ref b25), .val (.ref b42), .val (.int (1 : Int32)), .val (.int (1 : Int32)), .val (.ref r_111), .val (.ref b_144), .val (.ref a1), .val (.ref a1)] [(.ref a1), (.ref a1)])) X247 hx rfl rfl rfl (pc0 := 384) (pc' := 387) (same := true) rfl (hb hby at_384) rfl (decide_eq_true rfl) (by decide) (by decide) k) ?_
              refine own_step (st' := T247.setTop (mkF m 388 #[.val (.int x0), .val (.int x1), .val (.int x2), .val (.int x3), .val (.int x4), .val (.int z_1), .val (.ref b4), .val (.int vf), .val (.int vl), .val (.int vm), .val (.ref b25), .val (.ref b42), .val (.int (1 : Int32)), .val (.int (1 : Int32)), .val (.ref r_111), .val (.ref b_144), .val (.ref a1), .val (.ref a1)] [(.int (1 : Int32))])) (fun t k => XS.iconst X247.here hx rfl (hb hby at_387) k) ?_
              refine own_step (st' := T247.setTop (mkF m 392 #[.val (.int x0), .val (.int x1), .val (.int x2), .val (.int x3), .val (.int x4), .val (.int z_1), .val (.ref b4), .val (.int vf), .val (.int vl), .val (.int vm), .val (.ref b25), .val (.ref b42), .val (.int (1 : Int32)), .val (.int (1 : Int32)), .val (.ref r_111), .val (.ref b_144), .val (.ref a1), .val (.ref a1)] [(.int (1 : Int32))])) (fun t k => XS.goto X247.here hx rfl (pc0 := 388) (pc' := 392) rfl (hb hby at_388) (by decide) (by decide) k) ?_
              refine own_ret X247 Bd.notSynchronized (some (.int (1 : Int32))) (fun h => by rw [Bd.returns] at h; cases h) (fun fs hr => retN X247 hx (t := .boolean) Bd.returns (by simp) (hb hby at_392) hr) ?_ (by decide) (by decide)
              rw [e247]
              exact ⟨rfl, N245⟩
            · by_cases hc248 : (32 : Int32) = z_1
              · obtain ⟨cq249, kq249, q249a, q249b, q249c⟩ := isOf hZ e187 f200
                obtain ⟨_, _, ⟨T249, L249, k249, n249⟩, -, X249, ⟨Lc249, hQ249, l249, y249, z249⟩, st249⟩ := X187.virtualBack hx (y := (⟨"com/example/aturan/aturan/rules/AccessRule", "getAlgorithm", "()Ljava/util/Optional;"⟩ : MethodName)) (z := (⟨"com/example/aturan/aturan/rules/AccessRule", "getAlgorithm", "()Ljava/util/Optional;"⟩ : MethodName)) hown (mvT hZ (hw _ (List.mem_of_getElem? (i := 127) rfl))) (mvT hZ (hw _ (List.mem_of_getElem? (i := 128) rfl))) (notFace_of_selects (args := #[]) (mvT hZ (hw _ (List.mem_of_getElem? (i := 130) rfl)))) (mvT hZ (hw _ (List.mem_of_getElem? (i := 130) rfl))) (mvT hZ (hw _ (List.mem_of_getElem? (i := 129) rfl))) (by decide) (backOf (W := 0) (rmGA2 l Z a0 hw [] r_111 b_111 k4 z_1 vh (.int (0 : Int32)) aV kV a1 a2 oE h187 n0 Z187 O187 f201 f202 p_3 p_4 p_5 p_6 p_7 p_8 p_9 p_10 p_11 p_12 hc248.symm) hZ (hw _ (List.mem_of_getElem? (i := 131) rfl)) (hw _ (List.mem_of_getElem? (i := 53) rfl)) (by decide) (by decide)) q249a q249c (g := (mkF m 329 #[.val (.int x0), .val (.int x1), .val (.int x2), .val (.int x3), .val (.int x4), .val (.int z_1), .val (.ref b4), .val (.int vf), .val (.int vl), .val (.int vm), .val (.ref b25), .val (.ref b42), .val (.int (1 : Int32)), .val (.int (1 : Int32)), .val (.ref r_111), .val (.ref b_144), .unset, .unset] [(.ref r_111)])) rfl (by rw [hml]; rfl) (Steps.refl _) (argsL := []) (rest := []) (lenOf pd_8 rfl) rfl (by show 2 * 0 + _ ≤ _; exact Nat.le_of_eq rfl) (hb hby at_329) (fun _ _ => ⟨rfl, e187, (by decide : 14 + 2 ≤ _), (by decide : 232 + 3 ≤ _)⟩)
                dsimp only [Pt.U, Pt.locs, Pt.cells, Pt.slots] at X249 l249 y249 z249 st249 hQ249
                subst l249 y249 z249
                obtain ⟨r_249, rfl, N249q, K249, pq249_0, pq249_1, pq249_2⟩ := hQ249
                have N249 := Fr.app N187 N249q
                obtain ⟨h249, e249⟩ : ∃ z, T249.heap = z := ⟨_, rfl⟩
                rw [e249] at K249 pq249_1 pq249_2
                have ne250 : oL ≠ r_249 := Nat.ne_of_lt (Nat.lt_of_lt_of_le (p_1.ext O187.2).lt pq249_0)
                have ne251 : aV ≠ r_249 := Nat.ne_of_lt (Nat.lt_of_lt_of_le (p_4.ext O187.2).lt pq249_0)
                have ne252 : a1 ≠ r_249 := Nat.ne_of_lt (Nat.lt_of_lt_of_le (p_6.ext O187.2).lt pq249_0)
                have ne253 : a2 ≠ r_249 := Nat.ne_of_lt (Nat.lt_of_lt_of_le (p_7.ext O187.2).lt pq249_0)
                have ne254 : oE ≠ r_249 := Nat.ne_of_lt (Nat.lt_of_lt_of_le (p_11.ext O187.2).lt pq249_0)
                have ne255 : b4 ≠ r_249 := Nat.ne_of_lt (Nat.lt_of_lt_of_le f188.lt pq249_0)
                have ne256 : b25 ≠ r_249 := Nat.ne_of_lt (Nat.lt_of_lt_of_le f189.lt pq249_0)
                have ne257 : b42 ≠ r_249 := Nat.ne_of_lt (Nat.lt_of_lt_of_le f191.lt pq249_0)
                have ne258 : b_82 ≠ r_249 := Nat.ne_of_lt (Nat.lt_of_lt_of_le f198.lt pq249_0)
                have ne259 : r_111 ≠ r_249 := Nat.ne_of_lt (Nat.lt_of_lt_of_le f200.lt pq249_0)
                have ne260 : b_111 ≠ r_249 := Nat.ne_of_lt (Nat.lt_of_lt_of_le f202.lt pq249_0)
                have ne261 : r_144 ≠ r_249 := Nat.ne_of_lt (Nat.lt_of_lt_of_le f204.lt pq249_0)
                have ne262 : b_144 ≠ r_249 := Nat.ne_of_lt (Nat.lt_of_lt_of_le f206.lt pq249_0)
                have g_r_249 : n0 ≤ r_249 := Nat.le_trans Z187 pq249_0
                have f263 := f188.keep K249
                have f264 := f189.keep K249 nin0
                have f265 := f190.keep K249
                have f266 := f191.keep K249
                have f267 := f192.keep K249 nin0
                have f268 := f193.keep K249 nin0
                have f269 := f194.keep K249 nin0
                have f270 := f195.keep K249 nin0
                have f271 := f196.keep K249 nin0
                have f272 := f197.keep K249 nin0
                have f273 := f198.keep K249 nin0
                have f274 := f199.keep K249
                have f275 := f200.keep K249
                have f276 := f201.keep K249 nin0
                have f277 := f202.keep K249 nin0
                have f278 := f203.keep K249
                have f279 := f204.keep K249
                have f280 := f205.keep K249 nin0
                have f281 := f206.keep K249 nin0
                have f282 := f207.keep K249
                have O283 := O187.keep K249 all0
                have Z284 : n0 ≤ h249.size := Nat.le_trans Z187 K249.1
                refine own_step (st' := T249.setTop (mkF m 332 #[.val (.int x0), .val (.int x1), .val (.int x2), .val (.int x3), .val (.int x4), .val (.int z_1), .val (.ref b4), .val (.int vf), .val (.int vl), .val (.int vm), .val (.ref b25), .val (.ref b42), .val (.int (1 : Int32)), .val (.int (1 : Int32)), .val (.ref r_111), .val (.ref b_144), .unset, .unset] [(.ref r_249)])) (fun t k => st249.trans k) ?_
                refine own_step (st' := T249.setTop (mkF m 333 #[.val (.int x0), .val (.int x1), .val (.int x2), .val (.int x3), .val (.int x4), .val (.int z_1), .val (.ref b4), .val (.int vf), .val (.int vl), .val (.int vm), .val (.ref b25), .val (.ref b42), .val (.int (1 : Int32)), .val (.int (1 : Int32)), .val (.ref r_111), .val (.ref b_144), .unset, .unset] [.null, (.ref r_249)])) (fun t k => XS.aconstNull X249.here hx rfl (hb hby at_332) k) ?_
                obtain ⟨cq285, kq285, q285a, q285b, q285c⟩ := isOf hZ e249 pq249_1
                obtain ⟨_, _, ⟨T285, L285, k285, n285⟩, -, X285, ⟨Lc285, hQ285, l285, y285, z285⟩, st285⟩ := X249.virtualBack hx (y := (⟨"java/util/Optional", "orElse", "(Ljava/lang/Object;)Ljava/lang/Object;"⟩ : MethodName)) (z := (⟨"java/util/Optional", "orElse", "(Ljava/lang/Object;)Ljava/lang/Object;"⟩ : MethodName)) hown (mvT hZ (hw _ (List.mem_of_getElem? (i := 121) rfl))) (mvT hZ (hw _ (List.mem_of_getElem? (i := 122) rfl))) (notFace_of_selects (args := #[]) (mvT hZ (hw _ (List.mem_of_getElem? (i := 124) rfl)))) (mvT hZ (hw _ (List.mem_of_getElem? (i := 124) rfl))) (mvT hZ (hw _ (List.mem_of_getElem? (i := 123) rfl))) (by decide) (backOf (W := 0) (rmOR l Z a0 hw [] r_249 a2 h249 n0 Z284 pq249_2) hZ (hw _ (List.mem_of_getElem? (i := 125) rfl)) (hw _ (List.mem_of_getElem? (i := 87) rfl)) (by decide) (by decide)) q285a q285c (g := (mkF m 333 #[.val (.int x0), .val (.int x1), .val (.int x2), .val (.int x3), .val (.int x4), .val (.int z_1), .val (.ref b4), .val (.int vf), .val (.int vl), .val (.int vm), .val (.ref b25), .val (.ref b42), .val (.int (1 : Int32)), .val (.int (1 : Int32)), .val (.ref r_111), .val (.ref b_144), .unset, .unset] [.null, (.ref r_249)])) rfl (by rw [hml]; rfl) (Steps.refl _) (argsL := [.null]) (rest := []) (lenOf pd_12 rfl) rfl (by show 2 * 0 + _ ≤ _; exact Nat.le_of_eq rfl) (hb hby at_333) (fun _ _ => ⟨rfl, e249, (by decide : 16 + 0 ≤ _), (by decide : 235 + 0 ≤ _)⟩)
                dsimp only [Pt.U, Pt.locs, Pt.cells, Pt.slots] at X285 l285 y285 z285 st285 hQ285
                subst l285 y285 z285
                obtain ⟨rfl, N285q, e285⟩ := hQ285
                have N285 := Fr.app N249 N285q
                refine own_step (st' := T285.setTop (mkF m 336 #[.val (.int x0), .val (.int x1), .val (.int x2), .val (.int x3), .val (.int x4), .val (.int z_1), .val (.ref b4), .val (.int vf), .val (.int vl), .val (.int vm), .val (.ref b25), .val (.ref b42), .val (.int (1 : Int32)), .val (.int (1 : Int32)), .val (.ref r_111), .val (.ref b_144), .unset, .unset] [(.ref a2)])) (fun t k => st285.trans k) ?_
                obtain ⟨T286, X286, e286, st286⟩ := castY X285 hx hZ hown (hw _ (List.mem_of_getElem? (i := 170) rfl)) e285 (Ins.self (p_9.ext O283.2)) (g := (mkF m 336 #[.val (.int x0), .val (.int x1), .val (.int x2), .val (.int x3), .val (.int x4), .val (.int z_1), .val (.ref b4), .val (.int vf), .val (.int vl), .val (.int vm), .val (.ref b25), .val (.ref b42), .val (.int (1 : Int32)), .val (.int (1 : Int32)), .val (.ref r_111), .val (.ref b_144), .unset, .unset] [(.ref a2)])) rfl rfl (hb hby at_336)
                refine own_step (st' := T286.setTop (mkF m 339 #[.val (.int x0), .val (.int x1), .val (.int x2), .val (.int x3), .val (.int x4), .val (.int z_1), .val (.ref b4), .val (.int vf), .val (.int vl), .val (.int vm), .val (.ref b25), .val (.ref b42), .val (.int (1 : Int32)), .val (.int (1 : Int32)), .val (.ref r_111), .val (.ref b_144), .unset, .unset] [(.ref a2)])) st286 ?_
                refine own_step (st' := T286.setTop (mkF m 341 #[.val (.int x0), .val (.int x1), .val (.int x2), .val (.int x3), .val (.int x4), .val (.int z_1), .val (.ref b4), .val (.int vf), .val (.int vl), .val (.int vm), .val (.ref b25), .val (.ref b42), .val (.int (1 : Int32)), .val (.int (1 : Int32)), .val (.ref r_111), .val (.ref b_144), .val (.ref a2), .unset] [])) (fun t k => XS.astore X286.here hx rfl (hb hby at_339) rfl rfl (l' := #[.val (.int x0), .val (.int x1), .val (.int x2), .val (.int x3), .val (.int x4), .val (.int z_1), .val (.ref b4), .val (.int vf), .val (.int vl), .val (.int vm), .val (.ref b25), .val (.ref b42), .val (.int (1 : Int32)), .val (.int (1 : Int32)), .val (.ref r_111), .val (.ref b_144), .val (.ref a2), .unset]) rfl k) ?_
                refine own_step (st' := T286.setTop (mkF m 343 #[.val (.int x0), .val (.int x1), .val (.int x2), .val (.int x3), .val (.int x4), .val (.int z_1), .val (.ref b4), .val (.int vf), .val (.int vl), .val (.int vm), .val (.ref b25), .val (.ref b42), .val (.int (1 : Int32)), .val (.int (1 : Int32)), .val (.ref r_111), .val (.ref b_144), .val (.ref a2), .unset] [(.int z_1)])) (fun t k => XS.iload X286.here hx rfl (hb hby at_341) rfl k) ?_
                refine own_step (st' := T286.setTop (mkF m 345 #[.val (.int x0), .val (.int x1), .val (.int x2), .val (.int x3), .val (.int x4), .val (.int z_1), .val (.ref b4), .val (.int vf), .val (.int vl), .val (.int vm), .val (.ref b25), .val (.ref b42), .val (.int (1 : Int32)), .val (.int (1 : Int32)), .val (.ref r_111), .val (.ref b_144), .val (.ref a2), .unset] [(.int (20 : Int32)), (.int z_1)])) (fun t k => XS.bipush X286.here hx rfl (hb hby at_343) k) ?_
                refine own_step (st' := T286.setTop (mkF m 354 #[.val (.int x0), .val (.int x1), .val (.int x2), .val (.int x3), .val (.int x4), .val (.int z_1), .val (.ref b4), .val (.int vf), .val (.int vl), .val (.int vm), .val (.ref b25), .val (.ref b42), .val (.int (1 : Int32)), .val (.int (1 : Int32)), .val (.ref r_111), .val (.ref b_144), .val (.ref a2), .unset] [])) (fun t k => XS.icmpYes X286.here hx rfl (pc0 := 345) (pc' := 354) rfl (hb hby at_345) rfl (feq (fun q => hc208 q.symm)).2 (by decide) (by decide) k) ?_
                refine own_step (st' := T286.setTop (mkF m 356 #[.val (.int x0), .val (.int x1), .val (.int x2), .val (.int x3), .val (.int x4), .val (.int z_1), .val (.ref b4), .val (.int vf), .val (.int vl), .val (.int vm), .val (.ref b25), .val (.ref b42), .val (.int (1 : Int32)), .val (.int (1 : Int32)), .val (.ref r_111), .val (.ref b_144), .val (.ref a2), .unset] [(.int z_1)])) (fun t k => XS.iload X286.here hx rfl (hb hby at_354) rfl k) ?_
                refine own_step (st' := T286.setTop (mkF m 358 #[.val (.int x0), .val (.int x1), .val (.int x2), .val (.int x3), .val (.int x4), .val (.int z_1), .val (.ref b4), .val (.int vf), .val (.int vl), .val (.int vm), .val (.ref b25), .val (.ref b42), .val (.int (1 : Int32)), .val (.int (1 : Int32)), .val (.ref r_111), .val (.ref b_144), .val (.ref a2), .unset] [(.int (32 : Int32)), (.int z_1)])) (fun t k => XS.bipush X286.here hx rfl (hb hby at_356) k) ?_
                refine own_step (st' := T286.setTop (mkF m 361 #[.val (.int x0), .val (.int x1), .val (.int x2), .val (.int x3), .val (.int x4), .val (.int z_1), .val (.ref b4), .val (.int vf), .val (.int vl), .val (.int vm), .val (.ref b25), .val (.ref b42), .val (.int (1 : Int32)), .val (.int (1 : Int32)), .val (.ref r_111), .val (.ref b_144), .val (.ref a2), .unset] [])) (fun t k => XS.icmpNo X286.here hx rfl (hb hby at_358) rfl (teq hc248.symm).2 k) ?_
                obtain ⟨T287, X287, e287, st287⟩ := getS2 X286 hx hZ hown (host := "") (Or.inl (hw _ (List.mem_of_getElem? (i := 175) rfl))) Via.refl e286 (p_17.ext O283.2) (g := (mkF m 361 #[.val (.int x0), .val (.int x1), .val (.int x2), .val (.int x3), .val (.int x4), .val (.int z_1), .val (.ref b4), .val (.int vf), .val (.int vl), .val (.int vm), .val (.ref b25), .val (.ref b42), .val (.int (1 : Int32)), .val (.int (1 : Int32)), .val (.ref r_111), .val (.ref b_144), .val (.ref a2), .unset] [])) rfl (hb hby at_361)
                refine own_step (st' := T287.setTop (mkF m 364 #[.val (.int x0), .val (.int x1), .val (.int x2), .val (.int x3), .val (.int x4), .val (.int z_1), .val (.ref b4), .val (.int vf), .val (.int vl), .val (.int vm), .val (.ref b25), .val (.ref b42), .val (.int (1 : Int32)), .val (.int (1 : Int32)), .val (.ref r_111), .val (.ref b_144), .val (.ref a2), .unset] [(.ref a2)])) st287 ?_
                refine own_step (st' := T287.setTop (mkF m 368 #[.val (.int x0), .val (.int x1), .val (.int x2), .val (.int x3), .val (.int x4), .val (.int z_1), .val (.ref b4), .val (.int vf), .val (.int vl), .val (.int vm), .val (.ref b25), .val (.ref b42), .val (.int (1 : Int32)), .val (.int (1 : Int32)), .val (.ref r_111), .val (.ref b_144), .val (.ref a2), .unset] [(.ref a2)])) (fun t k => XS.goto X287.here hx rfl (pc0 := 364) (pc' := 368) rfl (hb hby at_364) (by decide) (by decide) k) ?_
                refine own_step (st' := T287.setTop (mkF m 370 #[.val (.int x0), .val (.int x1), .val (.int x2), .val (.int x3), .val (.int x4), .val (.int z_1), .val (.ref b4), .val (.int vf), .val (.int vl), .val (.int vm), .val (.ref b25), .val (.ref b42), .val (.int (1 : Int32)), .val (.int (1 : Int32)), .val (.ref r_111), .val (.ref b_144), .val (.ref a2), .val (.ref a2)] [])) (fun t k => XS.astore X287.here hx rfl (hb hby at_368) rfl rfl (l' := #[.val (.int x0), .val (.int x1), .val (.int x2), .val (.int x3), .val (.int x4), .val (.int z_1), .val (.ref b4), .val (.int vf), .val (.int vl), .val (.int vm), .val (.ref b25), .val (.ref b42), .val (.int (1 : Int32)), .val (.int (1 : Int32)), .val (.ref r_111), .val (.ref b_144), .val (.ref a2), .val (.ref a2)]) rfl k) ?_
                refine own_step (st' := T287.setTop (mkF m 372 #[.val (.int x0), .val (.int x1), .val (.int x2), .val (.int x3), .val (.int x4), .val (.int z_1), .val (.ref b4), .val (.int vf), .val (.int vl), .val (.int vm), .val (.ref b25), .val (.ref b42), .val (.int (1 : Int32)), .val (.int (1 : Int32)), .val (.ref r_111), .val (.ref b_144), .val (.ref a2), .val (.ref a2)] [(.int (1 : Int32))])) (fun t k => XS.iload X287.here hx rfl (hb hby at_370) rfl k) ?_
                refine own_step (st' := T287.setTop (mkF m 375 #[.val (.int x0), .val (.int x1), .val (.int x2), .val (.int x3), .val (.int x4), .val (.int z_1), .val (.ref b4), .val (.int vf), .val (.int vl), .val (.int vm), .val (.ref b25), .val (.ref b42), .val (.int (1 : Int32)), .val (.int (1 : Int32)), .val (.ref r_111), .val (.ref b_144), .val (.ref a2), .val (.ref a2)] [])) (fun t k => XS.ifNo X287.here hx rfl (hb hby at_372) rfl ((if0 _ _).trans (feq (by decide)).1) k) ?_
                refine own_step (st' := T287.setTop (mkF m 377 #[.val (.int x0), .val (.int x1), .val (.int x2), .val (.int x3), .val (.int x4), .val (.int z_1), .val (.ref b4), .val (.int vf), .val (.int vl), .val (.int vm), .val (.ref b25), .val (.ref b42), .val (.int (1 : Int32)), .val (.int (1 : Int32)), .val (.ref r_111), .val (.ref b_144), .val (.ref a2), .val (.ref a2)] [(.int (1 : Int32))])) (fun t k => XS.iload X287.here hx rfl (hb hby at_375) rfl k) ?_
                refine own_step (st' := T287.setTop (mkF m 380 #[.val (.int x0), .val (.int x1), .val (.int x2), .val (.int x3), .val (.int x4), .val (.int z_1), .val (.ref b4), .val (.int vf), .val (.int vl), .val (.int vm), .val (.ref b25), .val (.ref b42), .val (.int (1 : Int32)), .val (.int (1 : Int32)), .val (.ref r_111), .val (.ref b_144), .val (.ref a2), .val (.ref a2)] [])) (fun t k => XS.ifNo X287.here hx rfl (hb hby at_377) rfl ((if0 _ _).trans (feq (by decide)).1) k) ?_
                refine own_step (st' := T287.setTop (mkF m 382 #[.val (.int x0), .val (.int x1), .val (.int x2), .val (.int x3), .val (.int x4), .val (.int z_1), .val (.ref b4), .val (.int vf), .val (.int vl), .val (.int vm), .val (.ref b25), .val (.ref b42), .val (.int (1 : Int32)), .val (.int (1 : Int32)), .val (.ref r_111), .val (.ref b_144), .val (.ref a2), .val (.ref a2)] [(.ref a2)])) (fun t k => XS.aload X287.here hx rfl (hb hby at_380) rfl rfl k) ?_
                refine own_step (st' := T287.setTop (mkF m 384 #[.val (.int x0), .val (.int x1), .val (.int x2), .val (.int x3), .val (.int x4), .val (.int z_1), .val (.ref b4), .val (.int vf), .val (.int vl), .val (.int vm), .val (.ref b25), .val (.ref b42), .val (.int (1 : Int32)), .val (.int (1 : Int32)), .val (.ref r_111), .val (.ref b_144), .val (.ref a2), .val (.ref a2)] [(.ref a2), (.ref a2)])) (fun t k => XS.aload X287.here hx rfl (hb hby at_382) rfl rfl k) ?_
                refine own_step (st' := T287.setTop (mkF m 387 #[.val (.int x0), .val (.int x1), .val (.int x2), .val (.int x3), .val (.int x4), .val (.int z_1), .val (.ref b4), .val (.int vf), .val (.int vl), .val (.int vm), .val (.ref b25), .val (.ref b42), .val (.int (1 : Int32)), .val (.int (1 : Int32)), .val (.ref r_111), .val (.ref b_144), .val (.ref a2), .val (.ref a2)] [])) (fun t k => Jvm.RoadKit.acmp (g := (mkF m 384 #[.val (.int x0), .val (.int x1), .val (.int x2), .val (.int x3), .val (.int x4), .val (.int z_1), .val (.ref b4), .val (.int vf), .val (.int vl), .val (.int vm), .val (.ref b25), .val (.ref b42), .val (.int (1 : Int32)), .val (.int (1 : Int32)), .val (.ref r_111), .val (.ref b_144), .val (.ref a2), .val (.ref a2)] [(.ref a2), (.ref a2)])) X287 hx rfl rfl rfl (pc0 := 384) (pc' := 387) (same := true) rfl (hb hby at_384) rfl (decide_eq_true rfl) (by decide) (by decide) k) ?_
                refine own_step (st' := T287.setTop (mkF m 388 #[.val (.int x0), .val (.int x1), .val (.int x2), .val (.int x3), .val (.int x4), .val (.int z_1), .val (.ref b4), .val (.int vf), .val (.int vl), .val (.int vm), .val (.ref b25), .val (.ref b42), .val (.int (1 : Int32)), .val (.int (1 : Int32)), .val (.ref r_111), .val (.ref b_144), .val (.ref a2), .val (.ref a2)] [(.int (1 : Int32))])) (fun t k => XS.iconst X287.here hx rfl (hb hby at_387) k) ?_
                refine own_step (st' := T287.setTop (mkF m 392 #[.val (.int x0), .val (.int x1), .val (.int x2), .val (.int x3), .val (.int x4), .val (.int z_1), .val (.ref b4), .val (.int vf), .val (.int vl), .val (.int vm), .val (.ref b25), .val (.ref b42), .val (.int (1 : Int32)), .val (.int (1 : Int32)), .val (.ref r_111), .val (.ref b_144), .val (.ref a2), .val (.ref a2)] [(.int (1 : Int32))])) (fun t k => XS.goto X287.here hx rfl (pc0 := 388) (pc' := 392) rfl (hb hby at_388) (by decide) (by decide) k) ?_
                refine own_ret X287 Bd.notSynchronized (some (.int (1 : Int32))) (fun h => by rw [Bd.returns] at h; cases h) (fun fs hr => retN X287 hx (t := .boolean) Bd.returns (by simp) (hb hby at_392) hr) ?_ (by decide) (by decide)
                rw [e287]
                exact ⟨rfl, N285⟩
              · obtain ⟨cq288, kq288, q288a, q288b, q288c⟩ := isOf hZ e187 f200
                obtain ⟨_, _, ⟨T288, L288, k288, n288⟩, -, X288, ⟨Lc288, hQ288, l288, y288, z288⟩, st288⟩ := X187.virtualBack hx (y := (⟨"com/example/aturan/aturan/rules/AccessRule", "getAlgorithm", "()Ljava/util/Optional;"⟩ : MethodName)) (z := (⟨"com/example/aturan/aturan/rules/AccessRule", "getAlgorithm", "()Ljava/util/Optional;"⟩ : MethodName)) hown (mvT hZ (hw _ (List.mem_of_getElem? (i := 127) rfl))) (mvT hZ (hw _ (List.mem_of_getElem? (i := 128) rfl))) (notFace_of_selects (args := #[]) (mvT hZ (hw _ (List.mem_of_getElem? (i := 130) rfl)))) (mvT hZ (hw _ (List.mem_of_getElem? (i := 130) rfl))) (mvT hZ (hw _ (List.mem_of_getElem? (i := 129) rfl))) (by decide) (backOf (W := 0) (rmGA0 l Z a0 hw [] r_111 b_111 k4 z_1 vh (.int (0 : Int32)) aV kV a1 a2 oE h187 n0 Z187 O187 f201 f202 p_3 p_4 p_5 p_6 p_7 p_8 p_9 p_10 p_11 p_12 hc208 hc248) hZ (hw _ (List.mem_of_getElem? (i := 131) rfl)) (hw _ (List.mem_of_getElem? (i := 53) rfl)) (by decide) (by decide)) q288a q288c (g := (mkF m 329 #[.val (.int x0), .val (.int x1), .val (.int x2), .val (.int x3), .val (.int x4), .val (.int z_1), .val (.ref b4), .val (.int vf), .val (.int vl), .val (.int vm), .val (.ref b25), .val (.ref b42), .val (.int (1 : Int32)), .val (.int (1 : Int32)), .val (.ref r_111), .val (.ref b_144), .unset, .unset] [(.ref r_111)])) rfl (by rw [hml]; rfl) (Steps.refl _) (argsL := []) (rest := []) (lenOf pd_8 rfl) rfl (by show 2 * 0 + _ ≤ _; exact Nat.le_of_eq rfl) (hb hby at_329) (fun _ _ => ⟨rfl, e187, (by decide : 14 + 1 ≤ _), (by decide : 232 + 2 ≤ _)⟩)
                dsimp only [Pt.U, Pt.locs, Pt.cells, Pt.slots] at X288 l288 y288 z288 st288 hQ288
                subst l288 y288 z288
                obtain ⟨rfl, N288q, K288⟩ := hQ288
                have N288 := Fr.app N187 N288q
                obtain ⟨h288, e288⟩ : ∃ z, T288.heap = z := ⟨_, rfl⟩
                rw [e288] at K288
                have f289 := f188.keep K288
                have f290 := f189.keep K288 nin0
                have f291 := f190.keep K288
                have f292 := f191.keep K288
                have f293 := f192.keep K288 nin0
                have f294 := f193.keep K288 nin0
                have f295 := f194.keep K288 nin0
                have f296 := f195.keep K288 nin0
                have f297 := f196.keep K288 nin0
                have f298 := f197.keep K288 nin0
                have f299 := f198.keep K288 nin0
                have f300 := f199.keep K288
                have f301 := f200.keep K288
                have f302 := f201.keep K288 nin0
                have f303 := f202.keep K288 nin0
                have f304 := f203.keep K288
                have f305 := f204.keep K288
                have f306 := f205.keep K288 nin0
                have f307 := f206.keep K288 nin0
                have f308 := f207.keep K288
                have O309 := O187.keep K288 all0
                have Z310 : n0 ≤ h288.size := Nat.le_trans Z187 K288.1
                refine own_step (st' := T288.setTop (mkF m 332 #[.val (.int x0), .val (.int x1), .val (.int x2), .val (.int x3), .val (.int x4), .val (.int z_1), .val (.ref b4), .val (.int vf), .val (.int vl), .val (.int vm), .val (.ref b25), .val (.ref b42), .val (.int (1 : Int32)), .val (.int (1 : Int32)), .val (.ref r_111), .val (.ref b_144), .unset, .unset] [(.ref oE)])) (fun t k => st288.trans k) ?_
                refine own_step (st' := T288.setTop (mkF m 333 #[.val (.int x0), .val (.int x1), .val (.int x2), .val (.int x3), .val (.int x4), .val (.int z_1), .val (.ref b4), .val (.int vf), .val (.int vl), .val (.int vm), .val (.ref b25), .val (.ref b42), .val (.int (1 : Int32)), .val (.int (1 : Int32)), .val (.ref r_111), .val (.ref b_144), .unset, .unset] [.null, (.ref oE)])) (fun t k => XS.aconstNull X288.here hx rfl (hb hby at_332) k) ?_
                obtain ⟨cq311, kq311, q311a, q311b, q311c⟩ := isOf hZ e288 (p_11.ext O309.2)
                obtain ⟨_, _, ⟨T311, L311, k311, n311⟩, -, X311, ⟨Lc311, hQ311, l311, y311, z311⟩, st311⟩ := X288.virtualBack hx (y := (⟨"java/util/Optional", "orElse", "(Ljava/lang/Object;)Ljava/lang/Object;"⟩ : MethodName)) (z := (⟨"java/util/Optional", "orElse", "(Ljava/lang/Object;)Ljava/lang/Object;"⟩ : MethodName)) hown (mvT hZ (hw _ (List.mem_of_getElem? (i := 121) rfl))) (mvT hZ (hw _ (List.mem_of_getElem? (i := 122) rfl))) (notFace_of_selects (args := #[]) (mvT hZ (hw _ (List.mem_of_getElem? (i := 124) rfl)))) (mvT hZ (hw _ (List.mem_of_getElem? (i := 124) rfl))) (mvT hZ (hw _ (List.mem_of_getElem? (i := 123) rfl))) (by decide) (backOf (W := 0) (rmON l Z a0 hw [] oE h288 n0 Z310 (p_12.ext O309.2)) hZ (hw _ (List.mem_of_getElem? (i := 125) rfl)) (hw _ (List.mem_of_getElem? (i := 87) rfl)) (by decide) (by decide)) q311a q311c (g := (mkF m 333 #[.val (.int x0), .val (.int x1), .val (.int x2), .val (.int x3), .val (.int x4), .val (.int z_1), .val (.ref b4), .val (.int vf), .val (.int vl), .val (.int vm), .val (.ref b25), .val (.ref b42), .val (.int (1 : Int32)), .val (.int (1 : Int32)), .val (.ref r_111), .val (.ref b_144), .unset, .unset] [.null, (.ref oE)])) rfl (by rw [hml]; rfl) (Steps.refl _) (argsL := [.null]) (rest := []) (lenOf pd_12 rfl) rfl (by show 2 * 0 + _ ≤ _; exact Nat.le_of_eq rfl) (hb hby at_333) (fun _ _ => ⟨rfl, e288, (by decide : 15 + 0 ≤ _), (by decide : 234 + 0 ≤ _)⟩)
                dsimp only [Pt.U, Pt.locs, Pt.cells, Pt.slots] at X311 l311 y311 z311 st311 hQ311
                subst l311 y311 z311
                obtain ⟨rfl, N311q, e311⟩ := hQ311
                have N311 := Fr.app N288 N311q
                refine own_step (st' := T311.setTop (mkF m 336 #[.val (.int x0), .val (.int x1), .val (.int x2), .val (.int x3), .val (.int x4), .val (.int z_1), .val (.ref b4), .val (.int vf), .val (.int vl), .val (.int vm), .val (.ref b25), .val (.ref b42), .val (.int (1 : Int32)), .val (.int (1 : Int32)), .val (.ref r_111), .val (.ref b_144), .unset, .unset] [.null])) (fun t k => st311.trans k) ?_
                refine own_step (st' := T311.setTop (mkF m 339 #[.val (.int x0), .val (.int x1), .val (.int x2), .val (.int x3), .val (.int x4), .val (.int z_1), .val (.ref b4), .val (.int vf), .val (.int vl), .val (.int vm), .val (.ref b25), .val (.ref b42), .val (.int (1 : Int32)), .val (.int (1 : Int32)), .val (.ref r_111), .val (.ref b_144), .unset, .unset] [.null])) (fun t k => X311.checkcastNull hx (g := (mkF m 336 #[.val (.int x0), .val (.int x1), .val (.int x2), .val (.int x3), .val (.int x4), .val (.int z_1), .val (.ref b4), .val (.int vf), .val (.int vl), .val (.int vm), .val (.ref b25), .val (.ref b42), .val (.int (1 : Int32)), .val (.int (1 : Int32)), .val (.ref r_111), .val (.ref b_144), .unset, .unset] [.null])) rfl rfl (hb hby at_336) t k) ?_
                refine own_step (st' := T311.setTop (mkF m 341 #[.val (.int x0), .val (.int x1), .val (.int x2), .val (.int x3), .val (.int x4), .val (.int z_1), .val (.ref b4), .val (.int vf), .val (.int vl), .val (.int vm), .val (.ref b25), .val (.ref b42), .val (.int (1 : Int32)), .val (.int (1 : Int32)), .val (.ref r_111), .val (.ref b_144), .val .null, .unset] [])) (fun t k => XS.astore X311.here hx rfl (hb hby at_339) rfl rfl (l' := #[.val (.int x0), .val (.int x1), .val (.int x2), .val (.int x3), .val (.int x4), .val (.int z_1), .val (.ref b4), .val (.int vf), .val (.int vl), .val (.int vm), .val (.ref b25), .val (.ref b42), .val (.int (1 : Int32)), .val (.int (1 : Int32)), .val (.ref r_111), .val (.ref b_144), .val .null, .unset]) rfl k) ?_
                refine own_step (st' := T311.setTop (mkF m 343 #[.val (.int x0), .val (.int x1), .val (.int x2), .val (.int x3), .val (.int x4), .val (.int z_1), .val (.ref b4), .val (.int vf), .val (.int vl), .val (.int vm), .val (.ref b25), .val (.ref b42), .val (.int (1 : Int32)), .val (.int (1 : Int32)), .val (.ref r_111), .val (.ref b_144), .val .null, .unset] [(.int z_1)])) (fun t k => XS.iload X311.here hx rfl (hb hby at_341) rfl k) ?_
                refine own_step (st' := T311.setTop (mkF m 345 #[.val (.int x0), .val (.int x1), .val (.int x2), .val (.int x3), .val (.int x4), .val (.int z_1), .val (.ref b4), .val (.int vf), .val (.int vl), .val (.int vm), .val (.ref b25), .val (.ref b42), .val (.int (1 : Int32)), .val (.int (1 : Int32)), .val (.ref r_111), .val (.ref b_144), .val .null, .unset] [(.int (20 : Int32)), (.int z_1)])) (fun t k => XS.bipush X311.here hx rfl (hb hby at_343) k) ?_
                refine own_step (st' := T311.setTop (mkF m 354 #[.val (.int x0), .val (.int x1), .val (.int x2), .val (.int x3), .val (.int x4), .val (.int z_1), .val (.ref b4), .val (.int vf), .val (.int vl), .val (.int vm), .val (.ref b25), .val (.ref b42), .val (.int (1 : Int32)), .val (.int (1 : Int32)), .val (.ref r_111), .val (.ref b_144), .val .null, .unset] [])) (fun t k => XS.icmpYes X311.here hx rfl (pc0 := 345) (pc' := 354) rfl (hb hby at_345) rfl (feq (fun q => hc208 q.symm)).2 (by decide) (by decide) k) ?_
                refine own_step (st' := T311.setTop (mkF m 356 #[.val (.int x0), .val (.int x1), .val (.int x2), .val (.int x3), .val (.int x4), .val (.int z_1), .val (.ref b4), .val (.int vf), .val (.int vl), .val (.int vm), .val (.ref b25), .val (.ref b42), .val (.int (1 : Int32)), .val (.int (1 : Int32)), .val (.ref r_111), .val (.ref b_144), .val .null, .unset] [(.int z_1)])) (fun t k => XS.iload X311.here hx rfl (hb hby at_354) rfl k) ?_
                refine own_step (st' := T311.setTop (mkF m 358 #[.val (.int x0), .val (.int x1), .val (.int x2), .val (.int x3), .val (.int x4), .val (.int z_1), .val (.ref b4), .val (.int vf), .val (.int vl), .val (.int vm), .val (.ref b25), .val (.ref b42), .val (.int (1 : Int32)), .val (.int (1 : Int32)), .val (.ref r_111), .val (.ref b_144), .val .null, .unset] [(.int (32 : Int32)), (.int z_1)])) (fun t k => XS.bipush X311.here hx rfl (hb hby at_356) k) ?_
                refine own_step (st' := T311.setTop (mkF m 367 #[.val (.int x0), .val (.int x1), .val (.int x2), .val (.int x3), .val (.int x4), .val (.int z_1), .val (.ref b4), .val (.int vf), .val (.int vl), .val (.int vm), .val (.ref b25), .val (.ref b42), .val (.int (1 : Int32)), .val (.int (1 : Int32)), .val (.ref r_111), .val (.ref b_144), .val .null, .unset] [])) (fun t k => XS.icmpYes X311.here hx rfl (pc0 := 358) (pc' := 367) rfl (hb hby at_358) rfl (feq (fun q => hc248 q.symm)).2 (by decide) (by decide) k) ?_
                refine own_step (st' := T311.setTop (mkF m 368 #[.val (.int x0), .val (.int x1), .val (.int x2), .val (.int x3), .val (.int x4), .val (.int z_1), .val (.ref b4), .val (.int vf), .val (.int vl), .val (.int vm), .val (.ref b25), .val (.ref b42), .val (.int (1 : Int32)), .val (.int (1 : Int32)), .val (.ref r_111), .val (.ref b_144), .val .null, .unset] [.null])) (fun t k => XS.aconstNull X311.here hx rfl (hb hby at_367) k) ?_
                refine own_step (st' := T311.setTop (mkF m 370 #[.val (.int x0), .val (.int x1), .val (.int x2), .val (.int x3), .val (.int x4), .val (.int z_1), .val (.ref b4), .val (.int vf), .val (.int vl), .val (.int vm), .val (.ref b25), .val (.ref b42), .val (.int (1 : Int32)), .val (.int (1 : Int32)), .val (.ref r_111), .val (.ref b_144), .val .null, .val .null] [])) (fun t k => XS.astore X311.here hx rfl (hb hby at_368) rfl rfl (l' := #[.val (.int x0), .val (.int x1), .val (.int x2), .val (.int x3), .val (.int x4), .val (.int z_1), .val (.ref b4), .val (.int vf), .val (.int vl), .val (.int vm), .val (.ref b25), .val (.ref b42), .val (.int (1 : Int32)), .val (.int (1 : Int32)), .val (.ref r_111), .val (.ref b_144), .val .null, .val .null]) rfl k) ?_
                refine own_step (st' := T311.setTop (mkF m 372 #[.val (.int x0), .val (.int x1), .val (.int x2), .val (.int x3), .val (.int x4), .val (.int z_1), .val (.ref b4), .val (.int vf), .val (.int vl), .val (.int vm), .val (.ref b25), .val (.ref b42), .val (.int (1 : Int32)), .val (.int (1 : Int32)), .val (.ref r_111), .val (.ref b_144), .val .null, .val .null] [(.int (1 : Int32))])) (fun t k => XS.iload X311.here hx rfl (hb hby at_370) rfl k) ?_
                refine own_step (st' := T311.setTop (mkF m 375 #[.val (.int x0), .val (.int x1), .val (.int x2), .val (.int x3), .val (.int x4), .val (.int z_1), .val (.ref b4), .val (.int vf), .val (.int vl), .val (.int vm), .val (.ref b25), .val (.ref b42), .val (.int (1 : Int32)), .val (.int (1 : Int32)), .val (.ref r_111), .val (.ref b_144), .val .null, .val .null] [])) (fun t k => XS.ifNo X311.here hx rfl (hb hby at_372) rfl ((if0 _ _).trans (feq (by decide)).1) k) ?_
                refine own_step (st' := T311.setTop (mkF m 377 #[.val (.int x0), .val (.int x1), .val (.int x2), .val (.int x3), .val (.int x4), .val (.int z_1), .val (.ref b4), .val (.int vf), .val (.int vl), .val (.int vm), .val (.ref b25), .val (.ref b42), .val (.int (1 : Int32)), .val (.int (1 : Int32)), .val (.ref r_111), .val (.ref b_144), .val .null, .val .null] [(.int (1 : Int32))])) (fun t k => XS.iload X311.here hx rfl (hb hby at_375) rfl k) ?_
                refine own_step (st' := T311.setTop (mkF m 380 #[.val (.int x0), .val (.int x1), .val (.int x2), .val (.int x3), .val (.int x4), .val (.int z_1), .val (.ref b4), .val (.int vf), .val (.int vl), .val (.int vm), .val (.ref b25), .val (.ref b42), .val (.int (1 : Int32)), .val (.int (1 : Int32)), .val (.ref r_111), .val (.ref b_144), .val .null, .val .null] [])) (fun t k => XS.ifNo X311.here hx rfl (hb hby at_377) rfl ((if0 _ _).trans (feq (by decide)).1) k) ?_
                refine own_step (st' := T311.setTop (mkF m 382 #[.val (.int x0), .val (.int x1), .val (.int x2), .val (.int x3), .val (.int x4), .val (.int z_1), .val (.ref b4), .val (.int vf), .val (.int vl), .val (.int vm), .val (.ref b25), .val (.ref b42), .val (.int (1 : Int32)), .val (.int (1 : Int32)), .val (.ref r_111), .val (.ref b_144), .val .null, .val .null] [.null])) (fun t k => XS.aload X311.here hx rfl (hb hby at_380) rfl rfl k) ?_
                refine own_step (st' := T311.setTop (mkF m 384 #[.val (.int x0), .val (.int x1), .val (.int x2), .val (.int x3), .val (.int x4), .val (.int z_1), .val (.ref b4), .val (.int vf), .val (.int vl), .val (.int vm), .val (.ref b25), .val (.ref b42), .val (.int (1 : Int32)), .val (.int (1 : Int32)), .val (.ref r_111), .val (.ref b_144), .val .null, .val .null] [.null, .null])) (fun t k => XS.aload X311.here hx rfl (hb hby at_382) rfl rfl k) ?_
                refine own_step (st' := T311.setTop (mkF m 387 #[.val (.int x0), .val (.int x1), .val (.int x2), .val (.int x3), .val (.int x4), .val (.int z_1), .val (.ref b4), .val (.int vf), .val (.int vl), .val (.int vm), .val (.ref b25), .val (.ref b42), .val (.int (1 : Int32)), .val (.int (1 : Int32)), .val (.ref r_111), .val (.ref b_144), .val .null, .val .null] [])) (fun t k => Jvm.RoadKit.acmp (g := (mkF m 384 #[.val (.int x0), .val (.int x1), .val (.int x2), .val (.int x3), .val (.int x4), .val (.int z_1), .val (.ref b4), .val (.int vf), .val (.int vl), .val (.int vm), .val (.ref b25), .val (.ref b42), .val (.int (1 : Int32)), .val (.int (1 : Int32)), .val (.ref r_111), .val (.ref b_144), .val .null, .val .null] [.null, .null])) X311 hx rfl rfl rfl (pc0 := 384) (pc' := 387) (same := true) rfl (hb hby at_384) rfl (decide_eq_true rfl) (by decide) (by decide) k) ?_
                refine own_step (st' := T311.setTop (mkF m 388 #[.val (.int x0), .val (.int x1), .val (.int x2), .val (.int x3), .val (.int x4), .val (.int z_1), .val (.ref b4), .val (.int vf), .val (.int vl), .val (.int vm), .val (.ref b25), .val (.ref b42), .val (.int (1 : Int32)), .val (.int (1 : Int32)), .val (.ref r_111), .val (.ref b_144), .val .null, .val .null] [(.int (1 : Int32))])) (fun t k => XS.iconst X311.here hx rfl (hb hby at_387) k) ?_
                refine own_step (st' := T311.setTop (mkF m 392 #[.val (.int x0), .val (.int x1), .val (.int x2), .val (.int x3), .val (.int x4), .val (.int z_1), .val (.ref b4), .val (.int vf), .val (.int vl), .val (.int vm), .val (.ref b25), .val (.ref b42), .val (.int (1 : Int32)), .val (.int (1 : Int32)), .val (.ref r_111), .val (.ref b_144), .val .null, .val .null] [(.int (1 : Int32))])) (fun t k => XS.goto X311.here hx rfl (pc0 := 388) (pc' := 392) rfl (hb hby at_388) (by decide) (by decide) k) ?_
                refine own_ret X311 Bd.notSynchronized (some (.int (1 : Int32))) (fun h => by rw [Bd.returns] at h; cases h) (fun fs hr => retN X311 hx (t := .boolean) Bd.returns (by simp) (hb hby at_392) hr) ?_ (by decide) (by decide)
                rw [e311]
                exact ⟨rfl, N311⟩
          refine own_step (st' := T186.setTop (mkF m 281 #[.val (.int x0), .val (.int x1), .val (.int x2), .val (.int x3), .val (.int x4), .val (.int z_1), .val (.ref b4), .val (.int vf), .val (.int vl), .val (.int vm), .val (.ref b25), .val (.ref b42), .val (.int (1 : Int32)), .val (.int (1 : Int32)), .val (.ref r_111), .val (.ref b_144), .unset, .unset] [(.int z_1)])) (fun t k => XS.iload X186.here hx rfl (hb hby at_279) rfl k) ?_
          by_cases hc312 : (0 : Int32) < z_1
          · refine own_step (st' := T186.setTop (mkF m 284 #[.val (.int x0), .val (.int x1), .val (.int x2), .val (.int x3), .val (.int x4), .val (.int z_1), .val (.ref b4), .val (.int vf), .val (.int vl), .val (.int vm), .val (.ref b25), .val (.ref b42), .val (.int (1 : Int32)), .val (.int (1 : Int32)), .val (.ref r_111), .val (.ref b_144), .unset, .unset] [])) (fun t k => XS.ifNo X186.here hx rfl (hb hby at_281) rfl ((if0 _ _).trans (tlt hc312).2.2.2) k) ?_
            refine own_step (st' := T186.setTop (mkF m 286 #[.val (.int x0), .val (.int x1), .val (.int x2), .val (.int x3), .val (.int x4), .val (.int z_1), .val (.ref b4), .val (.int vf), .val (.int vl), .val (.int vm), .val (.ref b25), .val (.ref b42), .val (.int (1 : Int32)), .val (.int (1 : Int32)), .val (.ref r_111), .val (.ref b_144), .unset, .unset] [(.ref b_144)])) (fun t k => XS.aload X186.here hx rfl (hb hby at_284) rfl rfl k) ?_
            refine own_step (st' := T186.setTop (mkF m 287 #[.val (.int x0), .val (.int x1), .val (.int x2), .val (.int x3), .val (.int x4), .val (.int z_1), .val (.ref b4), .val (.int vf), .val (.int vl), .val (.int vm), .val (.ref b25), .val (.ref b42), .val (.int (1 : Int32)), .val (.int (1 : Int32)), .val (.ref r_111), .val (.ref b_144), .unset, .unset] [(.int (0 : Int32)), (.ref b_144)])) (fun t k => XS.iconst X186.here hx rfl (hb hby at_286) k) ?_
            refine own_step (st' := T186.setTop (mkF m 288 #[.val (.int x0), .val (.int x1), .val (.int x2), .val (.int x3), .val (.int x4), .val (.int z_1), .val (.ref b4), .val (.int vf), .val (.int vl), .val (.int vm), .val (.ref b25), .val (.ref b42), .val (.int (1 : Int32)), .val (.int (1 : Int32)), .val (.ref r_111), .val (.ref b_144), .unset, .unset] [(.int (own_first z_1 x1 x2))])) (fun t k => own_ldB X186 hx hZ e186 pq144_5 (j := (0 : Int32)) (v := (.int (own_first z_1 x1 x2))) (own_i0 (own_pos hc312)) (hh.2.1 (own_pos hc312)).1 (g := (mkF m 287 #[.val (.int x0), .val (.int x1), .val (.int x2), .val (.int x3), .val (.int x4), .val (.int z_1), .val (.ref b4), .val (.int vf), .val (.int vl), .val (.int vm), .val (.ref b25), .val (.ref b42), .val (.int (1 : Int32)), .val (.int (1 : Int32)), .val (.ref r_111), .val (.ref b_144), .unset, .unset] [(.int (0 : Int32)), (.ref b_144)])) rfl rfl (hb hby at_287) t k) ?_
            refine own_step (st' := T186.setTop (mkF m 290 #[.val (.int x0), .val (.int x1), .val (.int x2), .val (.int x3), .val (.int x4), .val (.int z_1), .val (.ref b4), .val (.int vf), .val (.int vl), .val (.int vm), .val (.ref b25), .val (.ref b42), .val (.int (1 : Int32)), .val (.int (1 : Int32)), .val (.ref r_111), .val (.ref b_144), .unset, .unset] [(.int vf), (.int (own_first z_1 x1 x2))])) (fun t k => XS.iload X186.here hx rfl (hb hby at_288) rfl k) ?_
            refine own_step (st' := T186.setTop (mkF m 293 #[.val (.int x0), .val (.int x1), .val (.int x2), .val (.int x3), .val (.int x4), .val (.int z_1), .val (.ref b4), .val (.int vf), .val (.int vl), .val (.int vm), .val (.ref b25), .val (.ref b42), .val (.int (1 : Int32)), .val (.int (1 : Int32)), .val (.ref r_111), .val (.ref b_144), .unset, .unset] [])) (fun t k => XS.icmpNo X186.here hx rfl (hb hby at_290) rfl (teq e_vf.symm).2 k) ?_
            refine own_step (st' := T186.setTop (mkF m 295 #[.val (.int x0), .val (.int x1), .val (.int x2), .val (.int x3), .val (.int x4), .val (.int z_1), .val (.ref b4), .val (.int vf), .val (.int vl), .val (.int vm), .val (.ref b25), .val (.ref b42), .val (.int (1 : Int32)), .val (.int (1 : Int32)), .val (.ref r_111), .val (.ref b_144), .unset, .unset] [(.ref b_144)])) (fun t k => XS.aload X186.here hx rfl (hb hby at_293) rfl rfl k) ?_
            refine own_step (st' := T186.setTop (mkF m 297 #[.val (.int x0), .val (.int x1), .val (.int x2), .val (.int x3), .val (.int x4), .val (.int z_1), .val (.ref b4), .val (.int vf), .val (.int vl), .val (.int vm), .val (.ref b25), .val (.ref b42), .val (.int (1 : Int32)), .val (.int (1 : Int32)), .val (.ref r_111), .val (.ref b_144), .unset, .unset] [(.int z_1), (.ref b_144)])) (fun t k => XS.iload X186.here hx rfl (hb hby at_295) rfl k) ?_
            refine own_step (st' := T186.setTop (mkF m 298 #[.val (.int x0), .val (.int x1), .val (.int x2), .val (.int x3), .val (.int x4), .val (.int z_1), .val (.ref b4), .val (.int vf), .val (.int vl), .val (.int vm), .val (.ref b25), .val (.ref b42), .val (.int (1 : Int32)), .val (.int (1 : Int32)), .val (.ref r_111), .val (.ref b_144), .unset, .unset] [(.int (1 : Int32)), (.int z_1), (.ref b_144)])) (fun t k => XS.iconst X186.here hx rfl (hb hby at_297) k) ?_
            refine own_step (st' := T186.setTop (mkF m 299 #[.val (.int x0), .val (.int x1), .val (.int x2), .val (.int x3), .val (.int x4), .val (.int z_1), .val (.ref b4), .val (.int vf), .val (.int vl), .val (.int vm), .val (.ref b25), .val (.ref b42), .val (.int (1 : Int32)), .val (.int (1 : Int32)), .val (.ref r_111), .val (.ref b_144), .unset, .unset] [(.int (z_1 - (1 : Int32))), (.ref b_144)])) (fun t k => XS.isub X186.here hx rfl (hb hby at_298) rfl k) ?_
            refine own_step (st' := T186.setTop (mkF m 300 #[.val (.int x0), .val (.int x1), .val (.int x2), .val (.int x3), .val (.int x4), .val (.int z_1), .val (.ref b4), .val (.int vf), .val (.int vl), .val (.int vm), .val (.ref b25), .val (.ref b42), .val (.int (1 : Int32)), .val (.int (1 : Int32)), .val (.ref r_111), .val (.ref b_144), .unset, .unset] [(.int (own_last z_1 x2))])) (fun t k => own_ldB X186 hx hZ e186 pq144_5 (j := (z_1 - (1 : Int32))) (v := (.int (own_last z_1 x2))) (own_i1 (own_pos hc312) hz.2).1 (hh.2.1 (own_pos hc312)).2 (g := (mkF m 299 #[.val (.int x0), .val (.int x1), .val (.int x2), .val (.int x3), .val (.int x4), .val (.int z_1), .val (.ref b4), .val (.int vf), .val (.int vl), .val (.int vm), .val (.ref b25), .val (.ref b42), .val (.int (1 : Int32)), .val (.int (1 : Int32)), .val (.ref r_111), .val (.ref b_144), .unset, .unset] [(.int (z_1 - (1 : Int32))), (.ref b_144)])) rfl rfl (hb hby at_299) t k) ?_
            refine own_step (st' := T186.setTop (mkF m 302 #[.val (.int x0), .val (.int x1), .val (.int x2), .val (.int x3), .val (.int x4), .val (.int z_1), .val (.ref b4), .val (.int vf), .val (.int vl), .val (.int vm), .val (.ref b25), .val (.ref b42), .val (.int (1 : Int32)), .val (.int (1 : Int32)), .val (.ref r_111), .val (.ref b_144), .unset, .unset] [(.int vl), (.int (own_last z_1 x2))])) (fun t k => XS.iload X186.here hx rfl (hb hby at_300) rfl k) ?_
            refine own_step (st' := T186.setTop (mkF m 307 #[.val (.int x0), .val (.int x1), .val (.int x2), .val (.int x3), .val (.int x4), .val (.int z_1), .val (.ref b4), .val (.int vf), .val (.int vl), .val (.int vm), .val (.ref b25), .val (.ref b42), .val (.int (1 : Int32)), .val (.int (1 : Int32)), .val (.ref r_111), .val (.ref b_144), .unset, .unset] [])) (fun t k => XS.icmpYes X186.here hx rfl (pc0 := 302) (pc' := 307) rfl (hb hby at_302) rfl (teq e_vl.symm).1 (by decide) (by decide) k) ?_
            refine own_step (st' := T186.setTop (mkF m 309 #[.val (.int x0), .val (.int x1), .val (.int x2), .val (.int x3), .val (.int x4), .val (.int z_1), .val (.ref b4), .val (.int vf), .val (.int vl), .val (.int vm), .val (.ref b25), .val (.ref b42), .val (.int (1 : Int32)), .val (.int (1 : Int32)), .val (.ref r_111), .val (.ref b_144), .unset, .unset] [(.int z_1)])) (fun t k => XS.iload X186.here hx rfl (hb hby at_307) rfl k) ?_
            refine own_step (st' := T186.setTop (mkF m 310 #[.val (.int x0), .val (.int x1), .val (.int x2), .val (.int x3), .val (.int x4), .val (.int z_1), .val (.ref b4), .val (.int vf), .val (.int vl), .val (.int vm), .val (.ref b25), .val (.ref b42), .val (.int (1 : Int32)), .val (.int (1 : Int32)), .val (.ref r_111), .val (.ref b_144), .unset, .unset] [(.int (3 : Int32)), (.int z_1)])) (fun t k => XS.iconst X186.here hx rfl (hb hby at_309) k) ?_
            by_cases hc313 : z_1 < (3 : Int32)
            · refine own_step (st' := T186.setTop (mkF m 327 #[.val (.int x0), .val (.int x1), .val (.int x2), .val (.int x3), .val (.int x4), .val (.int z_1), .val (.ref b4), .val (.int vf), .val (.int vl), .val (.int vm), .val (.ref b25), .val (.ref b42), .val (.int (1 : Int32)), .val (.int (1 : Int32)), .val (.ref r_111), .val (.ref b_144), .unset, .unset] [])) (fun t k => XS.icmpYes X186.here hx rfl (pc0 := 310) (pc' := 327) rfl (hb hby at_310) rfl (tlt hc313).1 (by decide) (by decide) k) ?_
              exact J187 _ _ _ X186 e186 N185 Z184 f167 f168 f169 f170 f171 f172 f173 f174 f175 f176 f177 f178 f179 f180 f181 f182 pq144_3 pq144_4 pq144_5 pq144_6 O183
            · refine own_step (st' := T186.setTop (mkF m 313 #[.val (.int x0), .val (.int x1), .val (.int x2), .val (.int x3), .val (.int x4), .val (.int z_1), .val (.ref b4), .val (.int vf), .val (.int vl), .val (.int vm), .val (.ref b25), .val (.ref b42), .val (.int (1 : Int32)), .val (.int (1 : Int32)), .val (.ref r_111), .val (.ref b_144), .unset, .unset] [])) (fun t k => XS.icmpNo X186.here hx rfl (hb hby at_310) rfl (flt hc313).1 k) ?_
              refine own_step (st' := T186.setTop (mkF m 315 #[.val (.int x0), .val (.int x1), .val (.int x2), .val (.int x3), .val (.int x4), .val (.int z_1), .val (.ref b4), .val (.int vf), .val (.int vl), .val (.int vm), .val (.ref b25), .val (.ref b42), .val (.int (1 : Int32)), .val (.int (1 : Int32)), .val (.ref r_111), .val (.ref b_144), .unset, .unset] [(.ref b_144)])) (fun t k => XS.aload X186.here hx rfl (hb hby at_313) rfl rfl k) ?_
              refine own_step (st' := T186.setTop (mkF m 317 #[.val (.int x0), .val (.int x1), .val (.int x2), .val (.int x3), .val (.int x4), .val (.int z_1), .val (.ref b4), .val (.int vf), .val (.int vl), .val (.int vm), .val (.ref b25), .val (.ref b42), .val (.int (1 : Int32)), .val (.int (1 : Int32)), .val (.ref r_111), .val (.ref b_144), .unset, .unset] [(.int z_1), (.ref b_144)])) (fun t k => XS.iload X186.here hx rfl (hb hby at_315) rfl k) ?_
              refine own_step (st' := T186.setTop (mkF m 318 #[.val (.int x0), .val (.int x1), .val (.int x2), .val (.int x3), .val (.int x4), .val (.int z_1), .val (.ref b4), .val (.int vf), .val (.int vl), .val (.int vm), .val (.ref b25), .val (.ref b42), .val (.int (1 : Int32)), .val (.int (1 : Int32)), .val (.ref r_111), .val (.ref b_144), .unset, .unset] [(.int (2 : Int32)), (.int z_1), (.ref b_144)])) (fun t k => XS.iconst X186.here hx rfl (hb hby at_317) k) ?_
              refine own_step (st' := T186.setTop (mkF m 319 #[.val (.int x0), .val (.int x1), .val (.int x2), .val (.int x3), .val (.int x4), .val (.int z_1), .val (.ref b4), .val (.int vf), .val (.int vl), .val (.int vm), .val (.ref b25), .val (.ref b42), .val (.int (1 : Int32)), .val (.int (1 : Int32)), .val (.ref r_111), .val (.ref b_144), .unset, .unset] [(.int (z_1 / (2 : Int32))), (.ref b_144)])) (fun t k => XS.idiv X186.here hx rfl (hb hby at_318) rfl (by decide) k) ?_
              refine own_step (st' := T186.setTop (mkF m 320 #[.val (.int x0), .val (.int x1), .val (.int x2), .val (.int x3), .val (.int x4), .val (.int z_1), .val (.ref b4), .val (.int vf), .val (.int vl), .val (.int vm), .val (.ref b25), .val (.ref b42), .val (.int (1 : Int32)), .val (.int (1 : Int32)), .val (.ref r_111), .val (.ref b_144), .unset, .unset] [(.int (own_mid z_1 x3))])) (fun t k => own_ldB X186 hx hZ e186 pq144_5 (j := (z_1 / (2 : Int32))) (v := (.int (own_mid z_1 x3))) (own_i2 (own_ge3 hc313) hz.2).1 (hh.2.2 (own_ge3 hc313)) (g := (mkF m 319 #[.val (.int x0), .val (.int x1), .val (.int x2), .val (.int x3), .val (.int x4), .val (.int z_1), .val (.ref b4), .val (.int vf), .val (.int vl), .val (.int vm), .val (.ref b25), .val (.ref b42), .val (.int (1 : Int32)), .val (.int (1 : Int32)), .val (.ref r_111), .val (.ref b_144), .unset, .unset] [(.int (z_1 / (2 : Int32))), (.ref b_144)])) rfl rfl (hb hby at_319) t k) ?_
              refine own_step (st' := T186.setTop (mkF m 322 #[.val (.int x0), .val (.int x1), .val (.int x2), .val (.int x3), .val (.int x4), .val (.int z_1), .val (.ref b4), .val (.int vf), .val (.int vl), .val (.int vm), .val (.ref b25), .val (.ref b42), .val (.int (1 : Int32)), .val (.int (1 : Int32)), .val (.ref r_111), .val (.ref b_144), .unset, .unset] [(.int vm), (.int (own_mid z_1 x3))])) (fun t k => XS.iload X186.here hx rfl (hb hby at_320) rfl k) ?_
              refine own_step (st' := T186.setTop (mkF m 327 #[.val (.int x0), .val (.int x1), .val (.int x2), .val (.int x3), .val (.int x4), .val (.int z_1), .val (.ref b4), .val (.int vf), .val (.int vl), .val (.int vm), .val (.ref b25), .val (.ref b42), .val (.int (1 : Int32)), .val (.int (1 : Int32)), .val (.ref r_111), .val (.ref b_144), .unset, .unset] [])) (fun t k => XS.icmpYes X186.here hx rfl (pc0 := 322) (pc' := 327) rfl (hb hby at_322) rfl (teq e_vm.symm).1 (by decide) (by decide) k) ?_
              exact J187 _ _ _ X186 e186 N185 Z184 f167 f168 f169 f170 f171 f172 f173 f174 f175 f176 f177 f178 f179 f180 f181 f182 pq144_3 pq144_4 pq144_5 pq144_6 O183
          · refine own_step (st' := T186.setTop (mkF m 307 #[.val (.int x0), .val (.int x1), .val (.int x2), .val (.int x3), .val (.int x4), .val (.int z_1), .val (.ref b4), .val (.int vf), .val (.int vl), .val (.int vm), .val (.ref b25), .val (.ref b42), .val (.int (1 : Int32)), .val (.int (1 : Int32)), .val (.ref r_111), .val (.ref b_144), .unset, .unset] [])) (fun t k => XS.ifYes X186.here hx rfl (pc0 := 281) (pc' := 307) rfl (hb hby at_281) rfl ((if0 _ _).trans (flt hc312).2.2.2) (by decide) (by decide) k) ?_
            refine own_step (st' := T186.setTop (mkF m 309 #[.val (.int x0), .val (.int x1), .val (.int x2), .val (.int x3), .val (.int x4), .val (.int z_1), .val (.ref b4), .val (.int vf), .val (.int vl), .val (.int vm), .val (.ref b25), .val (.ref b42), .val (.int (1 : Int32)), .val (.int (1 : Int32)), .val (.ref r_111), .val (.ref b_144), .unset, .unset] [(.int z_1)])) (fun t k => XS.iload X186.here hx rfl (hb hby at_307) rfl k) ?_
            refine own_step (st' := T186.setTop (mkF m 310 #[.val (.int x0), .val (.int x1), .val (.int x2), .val (.int x3), .val (.int x4), .val (.int z_1), .val (.ref b4), .val (.int vf), .val (.int vl), .val (.int vm), .val (.ref b25), .val (.ref b42), .val (.int (1 : Int32)), .val (.int (1 : Int32)), .val (.ref r_111), .val (.ref b_144), .unset, .unset] [(.int (3 : Int32)), (.int z_1)])) (fun t k => XS.iconst X186.here hx rfl (hb hby at_309) k) ?_
            refine own_step (st' := T186.setTop (mkF m 327 #[.val (.int x0), .val (.int x1), .val (.int x2), .val (.int x3), .val (.int x4), .val (.int z_1), .val (.ref b4), .val (.int vf), .val (.int vl), .val (.int vm), .val (.ref b25), .val (.ref b42), .val (.int (1 : Int32)), .val (.int (1 : Int32)), .val (.ref r_111), .val (.ref b_144), .unset, .unset] [])) (fun t k => XS.icmpYes X186.here hx rfl (pc0 := 310) (pc' := 327) rfl (hb hby at_310) rfl (tlt (own_lt3 hc312)).1 (by decide) (by decide) k) ?_
            exact J187 _ _ _ X186 e186 N185 Z184 f167 f168 f169 f170 f171 f172 f173 f174 f175 f176 f177 f178 f179 f180 f181 f182 pq144_3 pq144_4 pq144_5 pq144_6 O183
        refine own_step (st' := T82.setTop (mkF m 183 #[.val (.int x0), .val (.int x1), .val (.int x2), .val (.int x3), .val (.int x4), .val (.int z_1), .val (.ref b4), .val (.int vf), .val (.int vl), .val (.int vm), .val (.ref b25), .val (.ref b42), .val (.int (1 : Int32)), .val (.int (1 : Int32)), .unset, .unset, .unset, .unset] [(.int z_1)])) (fun t k => XS.iload X82.here hx rfl (hb hby at_181) rfl k) ?_
        by_cases hc314 : (0 : Int32) < z_1
        · refine own_step (st' := T82.setTop (mkF m 186 #[.val (.int x0), .val (.int x1), .val (.int x2), .val (.int x3), .val (.int x4), .val (.int z_1), .val (.ref b4), .val (.int vf), .val (.int vl), .val (.int vm), .val (.ref b25), .val (.ref b42), .val (.int (1 : Int32)), .val (.int (1 : Int32)), .unset, .unset, .unset, .unset] [])) (fun t k => XS.ifNo X82.here hx rfl (hb hby at_183) rfl ((if0 _ _).trans (tlt hc314).2.2.2) k) ?_
          refine own_step (st' := T82.setTop (mkF m 188 #[.val (.int x0), .val (.int x1), .val (.int x2), .val (.int x3), .val (.int x4), .val (.int z_1), .val (.ref b4), .val (.int vf), .val (.int vl), .val (.int vm), .val (.ref b25), .val (.ref b42), .val (.int (1 : Int32)), .val (.int (1 : Int32)), .unset, .unset, .unset, .unset] [(.ref b4)])) (fun t k => XS.aload X82.here hx rfl (hb hby at_186) rfl rfl k) ?_
          refine own_step (st' := T82.setTop (mkF m 189 #[.val (.int x0), .val (.int x1), .val (.int x2), .val (.int x3), .val (.int x4), .val (.int z_1), .val (.ref b4), .val (.int vf), .val (.int vl), .val (.int vm), .val (.ref b25), .val (.ref b42), .val (.int (1 : Int32)), .val (.int (1 : Int32)), .unset, .unset, .unset, .unset] [(.int (0 : Int32)), (.ref b4)])) (fun t k => XS.iconst X82.here hx rfl (hb hby at_188) k) ?_
          refine own_step (st' := T82.setTop (mkF m 191 #[.val (.int x0), .val (.int x1), .val (.int x2), .val (.int x3), .val (.int x4), .val (.int z_1), .val (.ref b4), .val (.int vf), .val (.int vl), .val (.int vm), .val (.ref b25), .val (.ref b42), .val (.int (1 : Int32)), .val (.int (1 : Int32)), .unset, .unset, .unset, .unset] [(.ref b4), (.int (0 : Int32)), (.ref b4)])) (fun t k => XS.aload X82.here hx rfl (hb hby at_189) rfl rfl k) ?_
          refine own_step (st' := T82.setTop (mkF m 192 #[.val (.int x0), .val (.int x1), .val (.int x2), .val (.int x3), .val (.int x4), .val (.int z_1), .val (.ref b4), .val (.int vf), .val (.int vl), .val (.int vm), .val (.ref b25), .val (.ref b42), .val (.int (1 : Int32)), .val (.int (1 : Int32)), .unset, .unset, .unset, .unset] [(.int (0 : Int32)), (.ref b4), (.int (0 : Int32)), (.ref b4)])) (fun t k => XS.iconst X82.here hx rfl (hb hby at_191) k) ?_
          obtain ⟨w315, hw315⟩ : ∃ w : Int32, List.getD vh (0 : Int32).toNatClampNeg (.int (0 : Int32)) = .int w := by
            exact ⟨_, (hh.2.1 (own_pos hc314)).1⟩
          refine own_step (st' := T82.setTop (mkF m 193 #[.val (.int x0), .val (.int x1), .val (.int x2), .val (.int x3), .val (.int x4), .val (.int z_1), .val (.ref b4), .val (.int vf), .val (.int vl), .val (.int vm), .val (.ref b25), .val (.ref b42), .val (.int (1 : Int32)), .val (.int (1 : Int32)), .unset, .unset, .unset, .unset] [(.int w315), (.int (0 : Int32)), (.ref b4)])) (fun t k => own_ldB X82 hx hZ e82 f91 (j := (0 : Int32)) (v := (.int w315)) (own_i0 (own_pos hc314)) hw315 (g := (mkF m 192 #[.val (.int x0), .val (.int x1), .val (.int x2), .val (.int x3), .val (.int x4), .val (.int z_1), .val (.ref b4), .val (.int vf), .val (.int vl), .val (.int vm), .val (.ref b25), .val (.ref b42), .val (.int (1 : Int32)), .val (.int (1 : Int32)), .unset, .unset, .unset, .unset] [(.int (0 : Int32)), (.ref b4), (.int (0 : Int32)), (.ref b4)])) rfl rfl (hb hby at_192) t k) ?_
          refine own_step (st' := T82.setTop (mkF m 194 #[.val (.int x0), .val (.int x1), .val (.int x2), .val (.int x3), .val (.int x4), .val (.int z_1), .val (.ref b4), .val (.int vf), .val (.int vl), .val (.int vm), .val (.ref b25), .val (.ref b42), .val (.int (1 : Int32)), .val (.int (1 : Int32)), .unset, .unset, .unset, .unset] [(.int (-1 : Int32)), (.int w315), (.int (0 : Int32)), (.ref b4)])) (fun t k => XS.iconst X82.here hx rfl (hb hby at_193) k) ?_
          refine own_step (st' := T82.setTop (mkF m 195 #[.val (.int x0), .val (.int x1), .val (.int x2), .val (.int x3), .val (.int x4), .val (.int z_1), .val (.ref b4), .val (.int vf), .val (.int vl), .val (.int vm), .val (.ref b25), .val (.ref b42), .val (.int (1 : Int32)), .val (.int (1 : Int32)), .unset, .unset, .unset, .unset] [(.int (w315 ^^^ (-1 : Int32))), (.int (0 : Int32)), (.ref b4)])) (fun t k => XS.ixor X82.here hx rfl (hb hby at_194) rfl k) ?_
          refine own_step (st' := T82.setTop (mkF m 196 #[.val (.int x0), .val (.int x1), .val (.int x2), .val (.int x3), .val (.int x4), .val (.int z_1), .val (.ref b4), .val (.int vf), .val (.int vl), .val (.int vm), .val (.ref b25), .val (.ref b42), .val (.int (1 : Int32)), .val (.int (1 : Int32)), .unset, .unset, .unset, .unset] [(.int ((w315 ^^^ (-1 : Int32)).toInt8.toInt32)), (.int (0 : Int32)), (.ref b4)])) (fun t k => XS.i2b X82.here hx rfl (hb hby at_195) rfl k) ?_
          obtain ⟨T316, h316, X316, e316, W316, V316, st316⟩ := own_stB X82 hx hZ e82 f91 (j := (0 : Int32)) (i := (0 : Int32).toNatClampNeg) (own_i0 (own_pos hc314)) rfl (by rw [hh.1]; exact own_n0) (g := (mkF m 196 #[.val (.int x0), .val (.int x1), .val (.int x2), .val (.int x3), .val (.int x4), .val (.int z_1), .val (.ref b4), .val (.int vf), .val (.int vl), .val (.int vm), .val (.ref b25), .val (.ref b42), .val (.int (1 : Int32)), .val (.int (1 : Int32)), .unset, .unset, .unset, .unset] [(.int ((w315 ^^^ (-1 : Int32)).toInt8.toInt32)), (.int (0 : Int32)), (.ref b4)])) rfl rfl (hb hby at_196)
          have V316 : Arv Z h316 b4 k4 .byte z_1 (vh.set (0 : Int32).toNatClampNeg (.int (((w315 ^^^ (-1 : Int32)).toInt8.toInt32).toInt8.toInt32))) (.int (0 : Int32)) := V316
          have f317 := f92.wr W316
          have f318 := f93.other W316 (Ne.symm ne31)
          have f319 := f94.wr W316
          have f320 := f95.wr W316
          have f321 := pq82_1.other W316 (Or.inl (Ne.symm ne48))
          have f322 := pq82_2.other W316 (Or.inl (Ne.symm ne48))
          have f323 := pq82_3.other W316 (Or.inl (Ne.symm ne48))
          have f324 := pq82_4.other W316 (Or.inl (Ne.symm ne48))
          have f325 := pq82_5.other W316 (Or.inl (Ne.symm ne48))
          have f326 := pq82_6.other W316 (Or.inl (Ne.symm ne48))
          have f327 := pq82_7.other W316 (Ne.symm ne88)
          have f328 := pq82_8.wr W316
          have O329 := O96.wr W316 g_b4
          have Z330 : n0 ≤ h316.size := Nat.le_trans Z97 (Keep.of_wr W316).1
          have N331 := Fr.snoc X316 N82 g_b4
          refine own_step (st' := T316.setTop (mkF m 197 #[.val (.int x0), .val (.int x1), .val (.int x2), .val (.int x3), .val (.int x4), .val (.int z_1), .val (.ref b4), .val (.int vf), .val (.int vl), .val (.int vm), .val (.ref b25), .val (.ref b42), .val (.int (1 : Int32)), .val (.int (1 : Int32)), .unset, .unset, .unset, .unset] [])) st316 ?_
          refine own_step (st' := T316.setTop (mkF m 199 #[.val (.int x0), .val (.int x1), .val (.int x2), .val (.int x3), .val (.int x4), .val (.int z_1), .val (.ref b4), .val (.int vf), .val (.int vl), .val (.int vm), .val (.ref b25), .val (.ref b42), .val (.int (1 : Int32)), .val (.int (1 : Int32)), .unset, .unset, .unset, .unset] [(.int z_1)])) (fun t k => XS.iload X316.here hx rfl (hb hby at_197) rfl k) ?_
          refine own_step (st' := T316.setTop (mkF m 200 #[.val (.int x0), .val (.int x1), .val (.int x2), .val (.int x3), .val (.int x4), .val (.int z_1), .val (.ref b4), .val (.int vf), .val (.int vl), .val (.int vm), .val (.ref b25), .val (.ref b42), .val (.int (1 : Int32)), .val (.int (1 : Int32)), .unset, .unset, .unset, .unset] [(.int (2 : Int32)), (.int z_1)])) (fun t k => XS.iconst X316.here hx rfl (hb hby at_199) k) ?_
          by_cases hc332 : z_1 < (2 : Int32)
          · refine own_step (st' := T316.setTop (mkF m 220 #[.val (.int x0), .val (.int x1), .val (.int x2), .val (.int x3), .val (.int x4), .val (.int z_1), .val (.ref b4), .val (.int vf), .val (.int vl), .val (.int vm), .val (.ref b25), .val (.ref b42), .val (.int (1 : Int32)), .val (.int (1 : Int32)), .unset, .unset, .unset, .unset] [])) (fun t k => XS.icmpYes X316.here hx rfl (pc0 := 200) (pc' := 220) rfl (hb hby at_200) rfl (tlt hc332).1 (by decide) (by decide) k) ?_
            refine own_step (st' := T316.setTop (mkF m 222 #[.val (.int x0), .val (.int x1), .val (.int x2), .val (.int x3), .val (.int x4), .val (.int z_1), .val (.ref b4), .val (.int vf), .val (.int vl), .val (.int vm), .val (.ref b25), .val (.ref b42), .val (.int (1 : Int32)), .val (.int (1 : Int32)), .unset, .unset, .unset, .unset] [(.int z_1)])) (fun t k => XS.iload X316.here hx rfl (hb hby at_220) rfl k) ?_
            refine own_step (st' := T316.setTop (mkF m 223 #[.val (.int x0), .val (.int x1), .val (.int x2), .val (.int x3), .val (.int x4), .val (.int z_1), .val (.ref b4), .val (.int vf), .val (.int vl), .val (.int vm), .val (.ref b25), .val (.ref b42), .val (.int (1 : Int32)), .val (.int (1 : Int32)), .unset, .unset, .unset, .unset] [(.int (3 : Int32)), (.int z_1)])) (fun t k => XS.iconst X316.here hx rfl (hb hby at_222) k) ?_
            refine own_step (st' := T316.setTop (mkF m 243 #[.val (.int x0), .val (.int x1), .val (.int x2), .val (.int x3), .val (.int x4), .val (.int z_1), .val (.ref b4), .val (.int vf), .val (.int vl), .val (.int vm), .val (.ref b25), .val (.ref b42), .val (.int (1 : Int32)), .val (.int (1 : Int32)), .unset, .unset, .unset, .unset] [])) (fun t k => XS.icmpYes X316.here hx rfl (pc0 := 223) (pc' := 243) rfl (hb hby at_223) rfl (tlt (own_lt23 hc332)).1 (by decide) (by decide) k) ?_
            exact J98 _ _ _ (X316.mono (by decide) (by decide)) e316 N331 Z330 f317 f318 f319 f320 f321 f322 f323 f324 f325 f326 f327 f328 O329
          · refine own_step (st' := T316.setTop (mkF m 203 #[.val (.int x0), .val (.int x1), .val (.int x2), .val (.int x3), .val (.int x4), .val (.int z_1), .val (.ref b4), .val (.int vf), .val (.int vl), .val (.int vm), .val (.ref b25), .val (.ref b42), .val (.int (1 : Int32)), .val (.int (1 : Int32)), .unset, .unset, .unset, .unset] [])) (fun t k => XS.icmpNo X316.here hx rfl (hb hby at_200) rfl (flt hc332).1 k) ?_
            refine own_step (st' := T316.setTop (mkF m 205 #[.val (.int x0), .val (.int x1), .val (.int x2), .val (.int x3), .val (.int x4), .val (.int z_1), .val (.ref b4), .val (.int vf), .val (.int vl), .val (.int vm), .val (.ref b25), .val (.ref b42), .val (.int (1 : Int32)), .val (.int (1 : Int32)), .unset, .unset, .unset, .unset] [(.ref b4)])) (fun t k => XS.aload X316.here hx rfl (hb hby at_203) rfl rfl k) ?_
            refine own_step (st' := T316.setTop (mkF m 207 #[.val (.int x0), .val (.int x1), .val (.int x2), .val (.int x3), .val (.int x4), .val (.int z_1), .val (.ref b4), .val (.int vf), .val (.int vl), .val (.int vm), .val (.ref b25), .val (.ref b42), .val (.int (1 : Int32)), .val (.int (1 : Int32)), .unset, .unset, .unset, .unset] [(.int z_1), (.ref b4)])) (fun t k => XS.iload X316.here hx rfl (hb hby at_205) rfl k) ?_
            refine own_step (st' := T316.setTop (mkF m 208 #[.val (.int x0), .val (.int x1), .val (.int x2), .val (.int x3), .val (.int x4), .val (.int z_1), .val (.ref b4), .val (.int vf), .val (.int vl), .val (.int vm), .val (.ref b25), .val (.ref b42), .val (.int (1 : Int32)), .val (.int (1 : Int32)), .unset, .unset, .unset, .unset] [(.int (1 : Int32)), (.int z_1), (.ref b4)])) (fun t k => XS.iconst X316.here hx rfl (hb hby at_207) k) ?_
            refine own_step (st' := T316.setTop (mkF m 209 #[.val (.int x0), .val (.int x1), .val (.int x2), .val (.int x3), .val (.int x4), .val (.int z_1), .val (.ref b4), .val (.int vf), .val (.int vl), .val (.int vm), .val (.ref b25), .val (.ref b42), .val (.int (1 : Int32)), .val (.int (1 : Int32)), .unset, .unset, .unset, .unset] [(.int (z_1 - (1 : Int32))), (.ref b4)])) (fun t k => XS.isub X316.here hx rfl (hb hby at_208) rfl k) ?_
            refine own_step (st' := T316.setTop (mkF m 211 #[.val (.int x0), .val (.int x1), .val (.int x2), .val (.int x3), .val (.int x4), .val (.int z_1), .val (.ref b4), .val (.int vf), .val (.int vl), .val (.int vm), .val (.ref b25), .val (.ref b42), .val (.int (1 : Int32)), .val (.int (1 : Int32)), .unset, .unset, .unset, .unset] [(.ref b4), (.int (z_1 - (1 : Int32))), (.ref b4)])) (fun t k => XS.aload X316.here hx rfl (hb hby at_209) rfl rfl k) ?_
            refine own_step (st' := T316.setTop (mkF m 213 #[.val (.int x0), .val (.int x1), .val (.int x2), .val (.int x3), .val (.int x4), .val (.int z_1), .val (.ref b4), .val (.int vf), .val (.int vl), .val (.int vm), .val (.ref b25), .val (.ref b42), .val (.int (1 : Int32)), .val (.int (1 : Int32)), .unset, .unset, .unset, .unset] [(.int z_1), (.ref b4), (.int (z_1 - (1 : Int32))), (.ref b4)])) (fun t k => XS.iload X316.here hx rfl (hb hby at_211) rfl k) ?_
            refine own_step (st' := T316.setTop (mkF m 214 #[.val (.int x0), .val (.int x1), .val (.int x2), .val (.int x3), .val (.int x4), .val (.int z_1), .val (.ref b4), .val (.int vf), .val (.int vl), .val (.int vm), .val (.ref b25), .val (.ref b42), .val (.int (1 : Int32)), .val (.int (1 : Int32)), .unset, .unset, .unset, .unset] [(.int (1 : Int32)), (.int z_1), (.ref b4), (.int (z_1 - (1 : Int32))), (.ref b4)])) (fun t k => XS.iconst X316.here hx rfl (hb hby at_213) k) ?_
            refine own_step (st' := T316.setTop (mkF m 215 #[.val (.int x0), .val (.int x1), .val (.int x2), .val (.int x3), .val (.int x4), .val (.int z_1), .val (.ref b4), .val (.int vf), .val (.int vl), .val (.int vm), .val (.ref b25), .val (.ref b42), .val (.int (1 : Int32)), .val (.int (1 : Int32)), .unset, .unset, .unset, .unset] [(.int (z_1 - (1 : Int32))), (.ref b4), (.int (z_1 - (1 : Int32))), (.ref b4)])) (fun t k => XS.isub X316.here hx rfl (hb hby at_214) rfl k) ?_
            obtain ⟨w333, hw333⟩ : ∃ w : Int32, List.getD (vh.set (0 : Int32).toNatClampNeg (.int (((w315 ^^^ (-1 : Int32)).toInt8.toInt32).toInt8.toInt32))) (z_1 - (1 : Int32)).toNatClampNeg (.int (0 : Int32)) = .int w := by
              rw [own_set]
              split
              · exact ⟨_, rfl⟩
              exact ⟨_, (hh.2.1 (own_pos hc314)).2⟩
            refine own_step (st' := T316.setTop (mkF m 216 #[.val (.int x0), .val (.int x1), .val (.int x2), .val (.int x3), .val (.int x4), .val (.int z_1), .val (.ref b4), .val (.int vf), .val (.int vl), .val (.int vm), .val (.ref b25), .val (.ref b42), .val (.int (1 : Int32)), .val (.int (1 : Int32)), .unset, .unset, .unset, .unset] [(.int w333), (.int (z_1 - (1 : Int32))), (.ref b4)])) (fun t k => own_ldB X316 hx hZ e316 V316 (j := (z_1 - (1 : Int32))) (v := (.int w333)) (own_i1 (own_pos hc314) hz.2).1 hw333 (g := (mkF m 215 #[.val (.int x0), .val (.int x1), .val (.int x2), .val (.int x3), .val (.int x4), .val (.int z_1), .val (.ref b4), .val (.int vf), .val (.int vl), .val (.int vm), .val (.ref b25), .val (.ref b42), .val (.int (1 : Int32)), .val (.int (1 : Int32)), .unset, .unset, .unset, .unset] [(.int (z_1 - (1 : Int32))), (.ref b4), (.int (z_1 - (1 : Int32))), (.ref b4)])) rfl rfl (hb hby at_215) t k) ?_
            refine own_step (st' := T316.setTop (mkF m 217 #[.val (.int x0), .val (.int x1), .val (.int x2), .val (.int x3), .val (.int x4), .val (.int z_1), .val (.ref b4), .val (.int vf), .val (.int vl), .val (.int vm), .val (.ref b25), .val (.ref b42), .val (.int (1 : Int32)), .val (.int (1 : Int32)), .unset, .unset, .unset, .unset] [(.int (-1 : Int32)), (.int w333), (.int (z_1 - (1 : Int32))), (.ref b4)])) (fun t k => XS.iconst X316.here hx rfl (hb hby at_216) k) ?_
            refine own_step (st' := T316.setTop (mkF m 218 #[.val (.int x0), .val (.int x1), .val (.int x2), .val (.int x3), .val (.int x4), .val (.int z_1), .val (.ref b4), .val (.int vf), .val (.int vl), .val (.int vm), .val (.ref b25), .val (.ref b42), .val (.int (1 : Int32)), .val (.int (1 : Int32)), .unset, .unset, .unset, .unset] [(.int (w333 ^^^ (-1 : Int32))), (.int (z_1 - (1 : Int32))), (.ref b4)])) (fun t k => XS.ixor X316.here hx rfl (hb hby at_217) rfl k) ?_
            refine own_step (st' := T316.setTop (mkF m 219 #[.val (.int x0), .val (.int x1), .val (.int x2), .val (.int x3), .val (.int x4), .val (.int z_1), .val (.ref b4), .val (.int vf), .val (.int vl), .val (.int vm), .val (.ref b25), .val (.ref b42), .val (.int (1 : Int32)), .val (.int (1 : Int32)), .unset, .unset, .unset, .unset] [(.int ((w333 ^^^ (-1 : Int32)).toInt8.toInt32)), (.int (z_1 - (1 : Int32))), (.ref b4)])) (fun t k => XS.i2b X316.here hx rfl (hb hby at_218) rfl k) ?_
            obtain ⟨T334, h334, X334, e334, W334, V334, st334⟩ := own_stB X316 hx hZ e316 V316 (j := (z_1 - (1 : Int32))) (i := (z_1 - (1 : Int32)).toNatClampNeg) (own_i1 (own_pos hc314) hz.2).1 rfl (by simp only [List.length_set]; rw [hh.1]; exact (own_i1 (own_pos hc314) hz.2).2) (g := (mkF m 219 #[.val (.int x0), .val (.int x1), .val (.int x2), .val (.int x3), .val (.int x4), .val (.int z_1), .val (.ref b4), .val (.int vf), .val (.int vl), .val (.int vm), .val (.ref b25), .val (.ref b42), .val (.int (1 : Int32)), .val (.int (1 : Int32)), .unset, .unset, .unset, .unset] [(.int ((w333 ^^^ (-1 : Int32)).toInt8.toInt32)), (.int (z_1 - (1 : Int32))), (.ref b4)])) rfl rfl (hb hby at_219)
            have V334 : Arv Z h334 b4 k4 .byte z_1 ((vh.set (0 : Int32).toNatClampNeg (.int (((w315 ^^^ (-1 : Int32)).toInt8.toInt32).toInt8.toInt32))).set (z_1 - (1 : Int32)).toNatClampNeg (.int (((w333 ^^^ (-1 : Int32)).toInt8.toInt32).toInt8.toInt32))) (.int (0 : Int32)) := V334
            have f335 := f317.wr W334
            have f336 := f318.other W334 (Ne.symm ne31)
            have f337 := f319.wr W334
            have f338 := f320.wr W334
            have f339 := f321.other W334 (Or.inl (Ne.symm ne48))
            have f340 := f322.other W334 (Or.inl (Ne.symm ne48))
            have f341 := f323.other W334 (Or.inl (Ne.symm ne48))
            have f342 := f324.other W334 (Or.inl (Ne.symm ne48))
            have f343 := f325.other W334 (Or.inl (Ne.symm ne48))
            have f344 := f326.other W334 (Or.inl (Ne.symm ne48))
            have f345 := f327.other W334 (Ne.symm ne88)
            have f346 := f328.wr W334
            have O347 := O329.wr W334 g_b4
            have Z348 : n0 ≤ h334.size := Nat.le_trans Z330 (Keep.of_wr W334).1
            have N349 := Fr.snoc X334 N331 g_b4
            refine own_step (st' := T334.setTop (mkF m 220 #[.val (.int x0), .val (.int x1), .val (.int x2), .val (.int x3), .val (.int x4), .val (.int z_1), .val (.ref b4), .val (.int vf), .val (.int vl), .val (.int vm), .val (.ref b25), .val (.ref b42), .val (.int (1 : Int32)), .val (.int (1 : Int32)), .unset, .unset, .unset, .unset] [])) st334 ?_
            refine own_step (st' := T334.setTop (mkF m 222 #[.val (.int x0), .val (.int x1), .val (.int x2), .val (.int x3), .val (.int x4), .val (.int z_1), .val (.ref b4), .val (.int vf), .val (.int vl), .val (.int vm), .val (.ref b25), .val (.ref b42), .val (.int (1 : Int32)), .val (.int (1 : Int32)), .unset, .unset, .unset, .unset] [(.int z_1)])) (fun t k => XS.iload X334.here hx rfl (hb hby at_220) rfl k) ?_
            refine own_step (st' := T334.setTop (mkF m 223 #[.val (.int x0), .val (.int x1), .val (.int x2), .val (.int x3), .val (.int x4), .val (.int z_1), .val (.ref b4), .val (.int vf), .val (.int vl), .val (.int vm), .val (.ref b25), .val (.ref b42), .val (.int (1 : Int32)), .val (.int (1 : Int32)), .unset, .unset, .unset, .unset] [(.int (3 : Int32)), (.int z_1)])) (fun t k => XS.iconst X334.here hx rfl (hb hby at_222) k) ?_
            by_cases hc350 : z_1 < (3 : Int32)
            · refine own_step (st' := T334.setTop (mkF m 243 #[.val (.int x0), .val (.int x1), .val (.int x2), .val (.int x3), .val (.int x4), .val (.int z_1), .val (.ref b4), .val (.int vf), .val (.int vl), .val (.int vm), .val (.ref b25), .val (.ref b42), .val (.int (1 : Int32)), .val (.int (1 : Int32)), .unset, .unset, .unset, .unset] [])) (fun t k => XS.icmpYes X334.here hx rfl (pc0 := 223) (pc' := 243) rfl (hb hby at_223) rfl (tlt hc350).1 (by decide) (by decide) k) ?_
              exact J98 _ _ _ (X334.mono (by decide) (by decide)) e334 N349 Z348 f335 f336 f337 f338 f339 f340 f341 f342 f343 f344 f345 f346 O347
            · refine own_step (st' := T334.setTop (mkF m 226 #[.val (.int x0), .val (.int x1), .val (.int x2), .val (.int x3), .val (.int x4), .val (.int z_1), .val (.ref b4), .val (.int vf), .val (.int vl), .val (.int vm), .val (.ref b25), .val (.ref b42), .val (.int (1 : Int32)), .val (.int (1 : Int32)), .unset, .unset, .unset, .unset] [])) (fun t k => XS.icmpNo X334.here hx rfl (hb hby at_223) rfl (flt hc350).1 k) ?_
              refine own_step (st' := T334.setTop (mkF m 228 #[.val (.int x0), .val (.int x1), .val (.int x2), .val (.int x3), .val (.int x4), .val (.int z_1), .val (.ref b4), .val (.int vf), .val (.int vl), .val (.int vm), .val (.ref b25), .val (.ref b42), .val (.int (1 : Int32)), .val (.int (1 : Int32)), .unset, .unset, .unset, .unset] [(.ref b4)])) (fun t k => XS.aload X334.here hx rfl (hb hby at_226) rfl rfl k) ?_
              refine own_step (st' := T334.setTop (mkF m 230 #[.val (.int x0), .val (.int x1), .val (.int x2), .val (.int x3), .val (.int x4), .val (.int z_1), .val (.ref b4), .val (.int vf), .val (.int vl), .val (.int vm), .val (.ref b25), .val (.ref b42), .val (.int (1 : Int32)), .val (.int (1 : Int32)), .unset, .unset, .unset, .unset] [(.int z_1), (.ref b4)])) (fun t k => XS.iload X334.here hx rfl (hb hby at_228) rfl k) ?_
              refine own_step (st' := T334.setTop (mkF m 231 #[.val (.int x0), .val (.int x1), .val (.int x2), .val (.int x3), .val (.int x4), .val (.int z_1), .val (.ref b4), .val (.int vf), .val (.int vl), .val (.int vm), .val (.ref b25), .val (.ref b42), .val (.int (1 : Int32)), .val (.int (1 : Int32)), .unset, .unset, .unset, .unset] [(.int (2 : Int32)), (.int z_1), (.ref b4)])) (fun t k => XS.iconst X334.here hx rfl (hb hby at_230) k) ?_
              refine own_step (st' := T334.setTop (mkF m 232 #[.val (.int x0), .val (.int x1), .val (.int x2), .val (.int x3), .val (.int x4), .val (.int z_1), .val (.ref b4), .val (.int vf), .val (.int vl), .val (.int vm), .val (.ref b25), .val (.ref b42), .val (.int (1 : Int32)), .val (.int (1 : Int32)), .unset, .unset, .unset, .unset] [(.int (z_1 / (2 : Int32))), (.ref b4)])) (fun t k => XS.idiv X334.here hx rfl (hb hby at_231) rfl (by decide) k) ?_
              refine own_step (st' := T334.setTop (mkF m 234 #[.val (.int x0), .val (.int x1), .val (.int x2), .val (.int x3), .val (.int x4), .val (.int z_1), .val (.ref b4), .val (.int vf), .val (.int vl), .val (.int vm), .val (.ref b25), .val (.ref b42), .val (.int (1 : Int32)), .val (.int (1 : Int32)), .unset, .unset, .unset, .unset] [(.ref b4), (.int (z_1 / (2 : Int32))), (.ref b4)])) (fun t k => XS.aload X334.here hx rfl (hb hby at_232) rfl rfl k) ?_
              refine own_step (st' := T334.setTop (mkF m 236 #[.val (.int x0), .val (.int x1), .val (.int x2), .val (.int x3), .val (.int x4), .val (.int z_1), .val (.ref b4), .val (.int vf), .val (.int vl), .val (.int vm), .val (.ref b25), .val (.ref b42), .val (.int (1 : Int32)), .val (.int (1 : Int32)), .unset, .unset, .unset, .unset] [(.int z_1), (.ref b4), (.int (z_1 / (2 : Int32))), (.ref b4)])) (fun t k => XS.iload X334.here hx rfl (hb hby at_234) rfl k) ?_
              refine own_step (st' := T334.setTop (mkF m 237 #[.val (.int x0), .val (.int x1), .val (.int x2), .val (.int x3), .val (.int x4), .val (.int z_1), .val (.ref b4), .val (.int vf), .val (.int vl), .val (.int vm), .val (.ref b25), .val (.ref b42), .val (.int (1 : Int32)), .val (.int (1 : Int32)), .unset, .unset, .unset, .unset] [(.int (2 : Int32)), (.int z_1), (.ref b4), (.int (z_1 / (2 : Int32))), (.ref b4)])) (fun t k => XS.iconst X334.here hx rfl (hb hby at_236) k) ?_
              refine own_step (st' := T334.setTop (mkF m 238 #[.val (.int x0), .val (.int x1), .val (.int x2), .val (.int x3), .val (.int x4), .val (.int z_1), .val (.ref b4), .val (.int vf), .val (.int vl), .val (.int vm), .val (.ref b25), .val (.ref b42), .val (.int (1 : Int32)), .val (.int (1 : Int32)), .unset, .unset, .unset, .unset] [(.int (z_1 / (2 : Int32))), (.ref b4), (.int (z_1 / (2 : Int32))), (.ref b4)])) (fun t k => XS.idiv X334.here hx rfl (hb hby at_237) rfl (by decide) k) ?_
              obtain ⟨w351, hw351⟩ : ∃ w : Int32, List.getD ((vh.set (0 : Int32).toNatClampNeg (.int (((w315 ^^^ (-1 : Int32)).toInt8.toInt32).toInt8.toInt32))).set (z_1 - (1 : Int32)).toNatClampNeg (.int (((w333 ^^^ (-1 : Int32)).toInt8.toInt32).toInt8.toInt32))) (z_1 / (2 : Int32)).toNatClampNeg (.int (0 : Int32)) = .int w := by
                rw [own_set]
                split
                · exact ⟨_, rfl⟩
                rw [own_set]
                split
                · exact ⟨_, rfl⟩
                exact ⟨_, hh.2.2 (own_ge3 hc350)⟩
              refine own_step (st' := T334.setTop (mkF m 239 #[.val (.int x0), .val (.int x1), .val (.int x2), .val (.int x3), .val (.int x4), .val (.int z_1), .val (.ref b4), .val (.int vf), .val (.int vl), .val (.int vm), .val (.ref b25), .val (.ref b42), .val (.int (1 : Int32)), .val (.int (1 : Int32)), .unset, .unset, .unset, .unset] [(.int w351), (.int (z_1 / (2 : Int32))), (.ref b4)])) (fun t k => own_ldB X334 hx hZ e334 V334 (j := (z_1 / (2 : Int32))) (v := (.int w351)) (own_i2 (own_ge3 hc350) hz.2).1 hw351 (g := (mkF m 238 #[.val (.int x0), .val (.int x1), .val (.int x2), .val (.int x3), .val (.int x4), .val (.int z_1), .val (.ref b4), .val (.int vf), .val (.int vl), .val (.int vm), .val (.ref b25), .val (.ref b42), .val (.int (1 : Int32)), .val (.int (1 : Int32)), .unset, .unset, .unset, .unset] [(.int (z_1 / (2 : Int32))), (.ref b4), (.int (z_1 / (2 : Int32))), (.ref b4)])) rfl rfl (hb hby at_238) t k) ?_
              refine own_step (st' := T334.setTop (mkF m 240 #[.val (.int x0), .val (.int x1), .val (.int x2), .val (.int x3), .val (.int x4), .val (.int z_1), .val (.ref b4), .val (.int vf), .val (.int vl), .val (.int vm), .val (.ref b25), .val (.ref b42), .val (.int (1 : Int32)), .val (.int (1 : Int32)), .unset, .unset, .unset, .unset] [(.int (-1 : Int32)), (.int w351), (.int (z_1 / (2 : Int32))), (.ref b4)])) (fun t k => XS.iconst X334.here hx rfl (hb hby at_239) k) ?_
              refine own_step (st' := T334.setTop (mkF m 241 #[.val (.int x0), .val (.int x1), .val (.int x2), .val (.int x3), .val (.int x4), .val (.int z_1), .val (.ref b4), .val (.int vf), .val (.int vl), .val (.int vm), .val (.ref b25), .val (.ref b42), .val (.int (1 : Int32)), .val (.int (1 : Int32)), .unset, .unset, .unset, .unset] [(.int (w351 ^^^ (-1 : Int32))), (.int (z_1 / (2 : Int32))), (.ref b4)])) (fun t k => XS.ixor X334.here hx rfl (hb hby at_240) rfl k) ?_
              refine own_step (st' := T334.setTop (mkF m 242 #[.val (.int x0), .val (.int x1), .val (.int x2), .val (.int x3), .val (.int x4), .val (.int z_1), .val (.ref b4), .val (.int vf), .val (.int vl), .val (.int vm), .val (.ref b25), .val (.ref b42), .val (.int (1 : Int32)), .val (.int (1 : Int32)), .unset, .unset, .unset, .unset] [(.int ((w351 ^^^ (-1 : Int32)).toInt8.toInt32)), (.int (z_1 / (2 : Int32))), (.ref b4)])) (fun t k => XS.i2b X334.here hx rfl (hb hby at_241) rfl k) ?_
              obtain ⟨T352, h352, X352, e352, W352, V352, st352⟩ := own_stB X334 hx hZ e334 V334 (j := (z_1 / (2 : Int32))) (i := (z_1 / (2 : Int32)).toNatClampNeg) (own_i2 (own_ge3 hc350) hz.2).1 rfl (by simp only [List.length_set]; rw [hh.1]; exact (own_i2 (own_ge3 hc350) hz.2).2) (g := (mkF m 242 #[.val (.int x0), .val (.int x1), .val (.int x2), .val (.int x3), .val (.int x4), .val (.int z_1), .val (.ref b4), .val (.int vf), .val (.int vl), .val (.int vm), .val (.ref b25), .val (.ref b42), .val (.int (1 : Int32)), .val (.int (1 : Int32)), .unset, .unset, .unset, .unset] [(.int ((w351 ^^^ (-1 : Int32)).toInt8.toInt32)), (.int (z_1 / (2 : Int32))), (.ref b4)])) rfl rfl (hb hby at_242)
              have V352 : Arv Z h352 b4 k4 .byte z_1 (((vh.set (0 : Int32).toNatClampNeg (.int (((w315 ^^^ (-1 : Int32)).toInt8.toInt32).toInt8.toInt32))).set (z_1 - (1 : Int32)).toNatClampNeg (.int (((w333 ^^^ (-1 : Int32)).toInt8.toInt32).toInt8.toInt32))).set (z_1 / (2 : Int32)).toNatClampNeg (.int (((w351 ^^^ (-1 : Int32)).toInt8.toInt32).toInt8.toInt32))) (.int (0 : Int32)) := V352
              have f353 := f335.wr W352
              have f354 := f336.other W352 (Ne.symm ne31)
              have f355 := f337.wr W352
              have f356 := f338.wr W352
              have f357 := f339.other W352 (Or.inl (Ne.symm ne48))
              have f358 := f340.other W352 (Or.inl (Ne.symm ne48))
              have f359 := f341.other W352 (Or.inl (Ne.symm ne48))
              have f360 := f342.other W352 (Or.inl (Ne.symm ne48))
              have f361 := f343.other W352 (Or.inl (Ne.symm ne48))
              have f362 := f344.other W352 (Or.inl (Ne.symm ne48))
              have f363 := f345.other W352 (Ne.symm ne88)
              have f364 := f346.wr W352
              have O365 := O347.wr W352 g_b4
              have Z366 : n0 ≤ h352.size := Nat.le_trans Z348 (Keep.of_wr W352).1
              have N367 := Fr.snoc X352 N349 g_b4
              refine own_step (st' := T352.setTop (mkF m 243 #[.val (.int x0), .val (.int x1), .val (.int x2), .val (.int x3), .val (.int x4), .val (.int z_1), .val (.ref b4), .val (.int vf), .val (.int vl), .val (.int vm), .val (.ref b25), .val (.ref b42), .val (.int (1 : Int32)), .val (.int (1 : Int32)), .unset, .unset, .unset, .unset] [])) st352 ?_
              exact J98 _ _ _ (X352.mono (by decide) (by decide)) e352 N367 Z366 f353 f354 f355 f356 f357 f358 f359 f360 f361 f362 f363 f364 O365
        · refine own_step (st' := T82.setTop (mkF m 197 #[.val (.int x0), .val (.int x1), .val (.int x2), .val (.int x3), .val (.int x4), .val (.int z_1), .val (.ref b4), .val (.int vf), .val (.int vl), .val (.int vm), .val (.ref b25), .val (.ref b42), .val (.int (1 : Int32)), .val (.int (1 : Int32)), .unset, .unset, .unset, .unset] [])) (fun t k => XS.ifYes X82.here hx rfl (pc0 := 183) (pc' := 197) rfl (hb hby at_183) rfl ((if0 _ _).trans (flt hc314).2.2.2) (by decide) (by decide) k) ?_
          refine own_step (st' := T82.setTop (mkF m 199 #[.val (.int x0), .val (.int x1), .val (.int x2), .val (.int x3), .val (.int x4), .val (.int z_1), .val (.ref b4), .val (.int vf), .val (.int vl), .val (.int vm), .val (.ref b25), .val (.ref b42), .val (.int (1 : Int32)), .val (.int (1 : Int32)), .unset, .unset, .unset, .unset] [(.int z_1)])) (fun t k => XS.iload X82.here hx rfl (hb hby at_197) rfl k) ?_
          refine own_step (st' := T82.setTop (mkF m 200 #[.val (.int x0), .val (.int x1), .val (.int x2), .val (.int x3), .val (.int x4), .val (.int z_1), .val (.ref b4), .val (.int vf), .val (.int vl), .val (.int vm), .val (.ref b25), .val (.ref b42), .val (.int (1 : Int32)), .val (.int (1 : Int32)), .unset, .unset, .unset, .unset] [(.int (2 : Int32)), (.int z_1)])) (fun t k => XS.iconst X82.here hx rfl (hb hby at_199) k) ?_
          refine own_step (st' := T82.setTop (mkF m 220 #[.val (.int x0), .val (.int x1), .val (.int x2), .val (.int x3), .val (.int x4), .val (.int z_1), .val (.ref b4), .val (.int vf), .val (.int vl), .val (.int vm), .val (.ref b25), .val (.ref b42), .val (.int (1 : Int32)), .val (.int (1 : Int32)), .unset, .unset, .unset, .unset] [])) (fun t k => XS.icmpYes X82.here hx rfl (pc0 := 200) (pc' := 220) rfl (hb hby at_200) rfl (tlt (own_lt2 hc314)).1 (by decide) (by decide) k) ?_
          refine own_step (st' := T82.setTop (mkF m 222 #[.val (.int x0), .val (.int x1), .val (.int x2), .val (.int x3), .val (.int x4), .val (.int z_1), .val (.ref b4), .val (.int vf), .val (.int vl), .val (.int vm), .val (.ref b25), .val (.ref b42), .val (.int (1 : Int32)), .val (.int (1 : Int32)), .unset, .unset, .unset, .unset] [(.int z_1)])) (fun t k => XS.iload X82.here hx rfl (hb hby at_220) rfl k) ?_
          refine own_step (st' := T82.setTop (mkF m 223 #[.val (.int x0), .val (.int x1), .val (.int x2), .val (.int x3), .val (.int x4), .val (.int z_1), .val (.ref b4), .val (.int vf), .val (.int vl), .val (.int vm), .val (.ref b25), .val (.ref b42), .val (.int (1 : Int32)), .val (.int (1 : Int32)), .unset, .unset, .unset, .unset] [(.int (3 : Int32)), (.int z_1)])) (fun t k => XS.iconst X82.here hx rfl (hb hby at_222) k) ?_
          refine own_step (st' := T82.setTop (mkF m 243 #[.val (.int x0), .val (.int x1), .val (.int x2), .val (.int x3), .val (.int x4), .val (.int z_1), .val (.ref b4), .val (.int vf), .val (.int vl), .val (.int vm), .val (.ref b25), .val (.ref b42), .val (.int (1 : Int32)), .val (.int (1 : Int32)), .unset, .unset, .unset, .unset] [])) (fun t k => XS.icmpYes X82.here hx rfl (pc0 := 223) (pc' := 243) rfl (hb hby at_223) rfl (tlt (own_lt3 hc314)).1 (by decide) (by decide) k) ?_
          exact J98 _ _ _ (X82.mono (by decide) (by decide)) e82 N82 Z97 f92 f93 f94 f95 pq82_1 pq82_2 pq82_3 pq82_4 pq82_5 pq82_6 pq82_7 pq82_8 O96
      refine own_step (st' := T62.setTop (mkF m 138 #[.val (.int x0), .val (.int x1), .val (.int x2), .val (.int x3), .val (.int x4), .val (.int z_1), .val (.ref b4), .val (.int vf), .val (.int vl), .val (.int vm), .val (.ref b25), .val (.ref b42), .val (.int (1 : Int32)), .unset, .unset, .unset, .unset, .unset] [(.int x4)])) (fun t k => XS.iload X62.here hx rfl (hb hby at_136) rfl k) ?_
      refine own_step (st' := T62.setTop (mkF m 139 #[.val (.int x0), .val (.int x1), .val (.int x2), .val (.int x3), .val (.int x4), .val (.int z_1), .val (.ref b4), .val (.int vf), .val (.int vl), .val (.int vm), .val (.ref b25), .val (.ref b42), .val (.int (1 : Int32)), .unset, .unset, .unset, .unset, .unset] [(.int (1 : Int32)), (.int x4)])) (fun t k => XS.iconst X62.here hx rfl (hb hby at_138) k) ?_
      refine own_step (st' := T62.setTop (mkF m 140 #[.val (.int x0), .val (.int x1), .val (.int x2), .val (.int x3), .val (.int x4), .val (.int z_1), .val (.ref b4), .val (.int vf), .val (.int vl), .val (.int vm), .val (.ref b25), .val (.ref b42), .val (.int (1 : Int32)), .unset, .unset, .unset, .unset, .unset] [(.int (x4 &&& (1 : Int32)))])) (fun t k => XS.iand X62.here hx rfl (hb hby at_139) rfl k) ?_
      by_cases hc368 : (x4 &&& (1 : Int32)) = (0 : Int32)
      · refine own_step (st' := T62.setTop (mkF m 162 #[.val (.int x0), .val (.int x1), .val (.int x2), .val (.int x3), .val (.int x4), .val (.int z_1), .val (.ref b4), .val (.int vf), .val (.int vl), .val (.int vm), .val (.ref b25), .val (.ref b42), .val (.int (1 : Int32)), .unset, .unset, .unset, .unset, .unset] [])) (fun t k => XS.ifYes X62.here hx rfl (pc0 := 140) (pc' := 162) rfl (hb hby at_140) rfl ((if0 _ _).trans (teq hc368).1) (by decide) (by decide) k) ?_
        exact J70 _ _ _ .null (X62.mono (by decide) (by decide)) e62 N62 Z69 f63 f64 f65 f66 f67 pq62_0 pq62_1 pq62_2 pq62_3 pq62_4 pq62_5 O68
      · refine own_step (st' := T62.setTop (mkF m 143 #[.val (.int x0), .val (.int x1), .val (.int x2), .val (.int x3), .val (.int x4), .val (.int z_1), .val (.ref b4), .val (.int vf), .val (.int vl), .val (.int vm), .val (.ref b25), .val (.ref b42), .val (.int (1 : Int32)), .unset, .unset, .unset, .unset, .unset] [])) (fun t k => XS.ifNo X62.here hx rfl (hb hby at_140) rfl ((if0 _ _).trans (feq hc368).1) k) ?_
        refine own_step (st' := T62.setTop (mkF m 145 #[.val (.int x0), .val (.int x1), .val (.int x2), .val (.int x3), .val (.int x4), .val (.int z_1), .val (.ref b4), .val (.int vf), .val (.int vl), .val (.int vm), .val (.ref b25), .val (.ref b42), .val (.int (1 : Int32)), .unset, .unset, .unset, .unset, .unset] [(.ref b42)])) (fun t k => XS.aload X62.here hx rfl (hb hby at_143) rfl rfl k) ?_
        refine own_step (st' := T62.setTop (mkF m 147 #[.val (.int x0), .val (.int x1), .val (.int x2), .val (.int x3), .val (.int x4), .val (.int z_1), .val (.ref b4), .val (.int vf), .val (.int vl), .val (.int vm), .val (.ref b25), .val (.ref b42), .val (.int (1 : Int32)), .unset, .unset, .unset, .unset, .unset] [(.ref b25), (.ref b42)])) (fun t k => XS.aload X62.here hx rfl (hb hby at_145) rfl rfl k) ?_
        obtain ⟨cq369, kq369, q369a, q369b, q369c⟩ := isOf hZ e62 f67
        obtain ⟨_, _, ⟨T369, L369, k369, n369⟩, -, X369, ⟨Lc369, hQ369, l369, y369, z369⟩, st369⟩ := X62.virtualBack hx (y := (⟨"com/example/aturan/aturan/rules/AraMRuleBuilder", "certificateHash", "([B)Lcom/example/aturan/aturan/rules/AraMRuleBuilder;"⟩ : MethodName)) (z := (⟨"com/example/aturan/aturan/rules/AraMRuleBuilder", "certificateHash", "([B)Lcom/example/aturan/aturan/rules/AraMRuleBuilder;"⟩ : MethodName)) hown (mvT hZ (hw _ (List.mem_of_getElem? (i := 22) rfl))) (mvT hZ (hw _ (List.mem_of_getElem? (i := 23) rfl))) (notFace_of_selects (args := #[]) (mvT hZ (hw _ (List.mem_of_getElem? (i := 25) rfl)))) (mvT hZ (hw _ (List.mem_of_getElem? (i := 25) rfl))) (mvT hZ (hw _ (List.mem_of_getElem? (i := 24) rfl))) (by decide) (backOf (W := 0) (rm5 l Z a0 hw [] b42 b25 .null oL k25 z_20 vo (.int (0 : Int32)) h62 n0 Z69 pq62_1 pq62_0 pq62_2 pq62_3 pq62_4 pq62_5 f67 g_b42 ne49 f65 f66 hz2) hZ (hw _ (List.mem_of_getElem? (i := 26) rfl)) (hw _ (List.mem_of_getElem? (i := 8) rfl)) (by decide) (by decide)) q369a q369c (g := (mkF m 147 #[.val (.int x0), .val (.int x1), .val (.int x2), .val (.int x3), .val (.int x4), .val (.int z_1), .val (.ref b4), .val (.int vf), .val (.int vl), .val (.int vm), .val (.ref b25), .val (.ref b42), .val (.int (1 : Int32)), .unset, .unset, .unset, .unset, .unset] [(.ref b25), (.ref b42)])) rfl (by rw [hml]; rfl) (Steps.refl _) (argsL := [(.ref b25)]) (rest := []) (lenOf pd_3 rfl) rfl (by show 2 * 0 + _ ≤ _; exact Nat.le_of_eq rfl) (hb hby at_147) (fun _ _ => ⟨rfl, e62, (by decide : 5 + 1 ≤ _), (by decide : 88 + 33 ≤ _)⟩)
        dsimp only [Pt.U, Pt.locs, Pt.cells, Pt.slots] at X369 l369 y369 z369 st369 hQ369
        subst l369 y369 z369
        obtain ⟨b_369, rfl, N369q, K369, pq369_0, pq369_1, pq369_2, pq369_3, pq369_4, pq369_5, pq369_6, pq369_7, pq369_8⟩ := hQ369
        have N369 := Fr.app N62 N369q
        obtain ⟨h369, e369⟩ : ∃ z, T369.heap = z := ⟨_, rfl⟩
        rw [e369] at K369 pq369_1 pq369_2 pq369_3 pq369_4 pq369_5 pq369_6 pq369_7 pq369_8
        have ne370 : oL ≠ b_369 := Nat.ne_of_lt (Nat.lt_of_lt_of_le (p_1.ext O68.2).lt pq369_0)
        have ne371 : aV ≠ b_369 := Nat.ne_of_lt (Nat.lt_of_lt_of_le (p_4.ext O68.2).lt pq369_0)
        have ne372 : a1 ≠ b_369 := Nat.ne_of_lt (Nat.lt_of_lt_of_le (p_6.ext O68.2).lt pq369_0)
        have ne373 : a2 ≠ b_369 := Nat.ne_of_lt (Nat.lt_of_lt_of_le (p_7.ext O68.2).lt pq369_0)
        have ne374 : oE ≠ b_369 := Nat.ne_of_lt (Nat.lt_of_lt_of_le (p_11.ext O68.2).lt pq369_0)
        have ne375 : b4 ≠ b_369 := Nat.ne_of_lt (Nat.lt_of_lt_of_le f63.lt pq369_0)
        have ne376 : b25 ≠ b_369 := Nat.ne_of_lt (Nat.lt_of_lt_of_le f65.lt pq369_0)
        have ne377 : b42 ≠ b_369 := Nat.ne_of_lt (Nat.lt_of_lt_of_le f67.lt pq369_0)
        have g_b_369 : n0 ≤ b_369 := Nat.le_trans Z69 pq369_0
        have f378 := f63.keep K369 (ninS ne48 nin0)
        have f379 := f64.keep K369
        have f380 := f65.keep K369 (ninS ne49 nin0)
        have f381 := f66.keep K369
        have f382 := f67.keep K369
        have O383 := O68.keep K369 (allS g_b42 all0)
        have Z384 : n0 ≤ h369.size := Nat.le_trans Z69 K369.1
        refine own_step (st' := T369.setTop (mkF m 150 #[.val (.int x0), .val (.int x1), .val (.int x2), .val (.int x3), .val (.int x4), .val (.int z_1), .val (.ref b4), .val (.int vf), .val (.int vl), .val (.int vm), .val (.ref b25), .val (.ref b42), .val (.int (1 : Int32)), .unset, .unset, .unset, .unset, .unset] [(.ref b42)])) (fun t k => st369.trans k) ?_
        refine own_step (st' := T369.setTop (mkF m 152 #[.val (.int x0), .val (.int x1), .val (.int x2), .val (.int x3), .val (.int x4), .val (.int z_1), .val (.ref b4), .val (.int vf), .val (.int vl), .val (.int vm), .val (.ref b25), .val (.ref b42), .val (.int (1 : Int32)), .unset, .unset, .unset, .unset, .unset] [(.ref b42), (.ref b42)])) (fun t k => XS.aload X369.here hx rfl (hb hby at_150) rfl rfl k) ?_
        refine own_step (st' := T369.setTop (mkF m 155 #[.val (.int x0), .val (.int x1), .val (.int x2), .val (.int x3), .val (.int x4), .val (.int z_1), .val (.ref b4), .val (.int vf), .val (.int vl), .val (.int vm), .val (.ref b25), .val (.ref b42), .val (.int (1 : Int32)), .unset, .unset, .unset, .unset, .unset] [])) (fun t k => Jvm.RoadKit.acmp (g := (mkF m 152 #[.val (.int x0), .val (.int x1), .val (.int x2), .val (.int x3), .val (.int x4), .val (.int z_1), .val (.ref b4), .val (.int vf), .val (.int vl), .val (.int vm), .val (.ref b25), .val (.ref b42), .val (.int (1 : Int32)), .unset, .unset, .unset, .unset, .unset] [(.ref b42), (.ref b42)])) X369 hx rfl rfl rfl (pc0 := 152) (pc' := 155) (same := true) rfl (hb hby at_152) rfl (decide_eq_true rfl) (by decide) (by decide) k) ?_
        refine own_step (st' := T369.setTop (mkF m 156 #[.val (.int x0), .val (.int x1), .val (.int x2), .val (.int x3), .val (.int x4), .val (.int z_1), .val (.ref b4), .val (.int vf), .val (.int vl), .val (.int vm), .val (.ref b25), .val (.ref b42), .val (.int (1 : Int32)), .unset, .unset, .unset, .unset, .unset] [(.int (1 : Int32))])) (fun t k => XS.iconst X369.here hx rfl (hb hby at_155) k) ?_
        refine own_step (st' := T369.setTop (mkF m 160 #[.val (.int x0), .val (.int x1), .val (.int x2), .val (.int x3), .val (.int x4), .val (.int z_1), .val (.ref b4), .val (.int vf), .val (.int vl), .val (.int vm), .val (.ref b25), .val (.ref b42), .val (.int (1 : Int32)), .unset, .unset, .unset, .unset, .unset] [(.int (1 : Int32))])) (fun t k => XS.goto X369.here hx rfl (pc0 := 156) (pc' := 160) rfl (hb hby at_156) (by decide) (by decide) k) ?_
        refine own_step (st' := T369.setTop (mkF m 162 #[.val (.int x0), .val (.int x1), .val (.int x2), .val (.int x3), .val (.int x4), .val (.int z_1), .val (.ref b4), .val (.int vf), .val (.int vl), .val (.int vm), .val (.ref b25), .val (.ref b42), .val (.int (1 : Int32)), .unset, .unset, .unset, .unset, .unset] [])) (fun t k => XS.istore X369.here hx rfl (hb hby at_160) rfl (l' := #[.val (.int x0), .val (.int x1), .val (.int x2), .val (.int x3), .val (.int x4), .val (.int z_1), .val (.ref b4), .val (.int vf), .val (.int vl), .val (.int vm), .val (.ref b25), .val (.ref b42), .val (.int (1 : Int32)), .unset, .unset, .unset, .unset, .unset]) rfl k) ?_
        exact J70 _ _ _ (.ref b_369) (X369.mono (by decide) (by decide)) e369 N369 Z384 f378 f379 f380 f381 f382 pq369_2 pq369_1 pq369_3 pq369_4 pq369_5 pq369_6 O383
    refine own_step (st' := T25.setTop (mkF m 111 #[.val (.int x0), .val (.int x1), .val (.int x2), .val (.int x3), .val (.int x4), .val (.int z_1), .val (.ref b4), .val (.int vf), .val (.int vl), .val (.int vm), .val (.ref b25), .unset, .unset, .unset, .unset, .unset, .unset, .unset] [(.ref b25)])) (fun t k => XS.aload X25.here hx rfl (hb hby at_109) rfl rfl k) ?_
    refine own_step (st' := T25.setTop (mkF m 112 #[.val (.int x0), .val (.int x1), .val (.int x2), .val (.int x3), .val (.int x4), .val (.int z_1), .val (.ref b4), .val (.int vf), .val (.int vl), .val (.int vm), .val (.ref b25), .unset, .unset, .unset, .unset, .unset, .unset, .unset] [(.int z_20)])) (fun t k => own_len X25 hx hZ e25 vp36 (g := (mkF m 111 #[.val (.int x0), .val (.int x1), .val (.int x2), .val (.int x3), .val (.int x4), .val (.int z_1), .val (.ref b4), .val (.int vf), .val (.int vl), .val (.int vm), .val (.ref b25), .unset, .unset, .unset, .unset, .unset, .unset, .unset] [(.ref b25)])) rfl rfl (hb hby at_111) t k) ?_
    by_cases hc385 : (0 : Int32) < z_20
    · refine own_step (st' := T25.setTop (mkF m 115 #[.val (.int x0), .val (.int x1), .val (.int x2), .val (.int x3), .val (.int x4), .val (.int z_1), .val (.ref b4), .val (.int vf), .val (.int vl), .val (.int vm), .val (.ref b25), .unset, .unset, .unset, .unset, .unset, .unset, .unset] [])) (fun t k => XS.ifNo X25.here hx rfl (hb hby at_112) rfl ((if0 _ _).trans (tlt hc385).2.2.2) k) ?_
      refine own_step (st' := T25.setTop (mkF m 117 #[.val (.int x0), .val (.int x1), .val (.int x2), .val (.int x3), .val (.int x4), .val (.int z_1), .val (.ref b4), .val (.int vf), .val (.int vl), .val (.int vm), .val (.ref b25), .unset, .unset, .unset, .unset, .unset, .unset, .unset] [(.ref b25)])) (fun t k => XS.aload X25.here hx rfl (hb hby at_115) rfl rfl k) ?_
      refine own_step (st' := T25.setTop (mkF m 118 #[.val (.int x0), .val (.int x1), .val (.int x2), .val (.int x3), .val (.int x4), .val (.int z_1), .val (.ref b4), .val (.int vf), .val (.int vl), .val (.int vm), .val (.ref b25), .unset, .unset, .unset, .unset, .unset, .unset, .unset] [(.int (0 : Int32)), (.ref b25)])) (fun t k => XS.iconst X25.here hx rfl (hb hby at_117) k) ?_
      refine own_step (st' := T25.setTop (mkF m 120 #[.val (.int x0), .val (.int x1), .val (.int x2), .val (.int x3), .val (.int x4), .val (.int z_1), .val (.ref b4), .val (.int vf), .val (.int vl), .val (.int vm), .val (.ref b25), .unset, .unset, .unset, .unset, .unset, .unset, .unset] [(.int vf), (.int (0 : Int32)), (.ref b25)])) (fun t k => XS.iload X25.here hx rfl (hb hby at_118) rfl k) ?_
      refine own_step (st' := T25.setTop (mkF m 121 #[.val (.int x0), .val (.int x1), .val (.int x2), .val (.int x3), .val (.int x4), .val (.int z_1), .val (.ref b4), .val (.int vf), .val (.int vl), .val (.int vm), .val (.ref b25), .unset, .unset, .unset, .unset, .unset, .unset, .unset] [(.int (1 : Int32)), (.int vf), (.int (0 : Int32)), (.ref b25)])) (fun t k => XS.iconst X25.here hx rfl (hb hby at_120) k) ?_
      refine own_step (st' := T25.setTop (mkF m 122 #[.val (.int x0), .val (.int x1), .val (.int x2), .val (.int x3), .val (.int x4), .val (.int z_1), .val (.ref b4), .val (.int vf), .val (.int vl), .val (.int vm), .val (.ref b25), .unset, .unset, .unset, .unset, .unset, .unset, .unset] [(.int (vf + (1 : Int32))), (.int (0 : Int32)), (.ref b25)])) (fun t k => XS.iadd X25.here hx rfl (hb hby at_121) rfl k) ?_
      refine own_step (st' := T25.setTop (mkF m 123 #[.val (.int x0), .val (.int x1), .val (.int x2), .val (.int x3), .val (.int x4), .val (.int z_1), .val (.ref b4), .val (.int vf), .val (.int vl), .val (.int vm), .val (.ref b25), .unset, .unset, .unset, .unset, .unset, .unset, .unset] [(.int ((vf + (1 : Int32)).toInt8.toInt32)), (.int (0 : Int32)), (.ref b25)])) (fun t k => XS.i2b X25.here hx rfl (hb hby at_122) rfl k) ?_
      obtain ⟨T386, h386, X386, e386, W386, V386, st386⟩ := own_stB X25 hx hZ e25 vp36 (j := (0 : Int32)) (i := (0 : Int32).toNatClampNeg) (own_i0 (own_pos hc385)) rfl (by rw [List.length_replicate]; exact own_n0) (g := (mkF m 123 #[.val (.int x0), .val (.int x1), .val (.int x2), .val (.int x3), .val (.int x4), .val (.int z_1), .val (.ref b4), .val (.int vf), .val (.int vl), .val (.int vm), .val (.ref b25), .unset, .unset, .unset, .unset, .unset, .unset, .unset] [(.int ((vf + (1 : Int32)).toInt8.toInt32)), (.int (0 : Int32)), (.ref b25)])) rfl rfl (hb hby at_123)
      have V386 : Arv Z h386 b25 k25 .byte z_20 ((List.replicate 33 (.int (0 : Int32))).set (0 : Int32).toNatClampNeg (.int (((vf + (1 : Int32)).toInt8.toInt32).toInt8.toInt32))) (.int (0 : Int32)) := V386
      have f387 := f32.other W386 ne31
      have f388 := f33.wr W386
      have f389 := Ex25.wr W386
      have O390 := O34.wr W386 g_b25
      have Z391 : n0 ≤ h386.size := Nat.le_trans Z35 (Keep.of_wr W386).1
      have N392 := Fr.snoc X386 N20 g_b25
      refine own_step (st' := T386.setTop (mkF m 124 #[.val (.int x0), .val (.int x1), .val (.int x2), .val (.int x3), .val (.int x4), .val (.int z_1), .val (.ref b4), .val (.int vf), .val (.int vl), .val (.int vm), .val (.ref b25), .unset, .unset, .unset, .unset, .unset, .unset, .unset] [])) st386 ?_
      exact J37 _ _ _ ((List.replicate 33 (.int (0 : Int32))).set (0 : Int32).toNatClampNeg (.int (((vf + (1 : Int32)).toInt8.toInt32).toInt8.toInt32))) (X386.mono (by decide) (by decide)) e386 N392 Z391 f387 f388 V386 f389 O390
    · refine own_step (st' := T25.setTop (mkF m 124 #[.val (.int x0), .val (.int x1), .val (.int x2), .val (.int x3), .val (.int x4), .val (.int z_1), .val (.ref b4), .val (.int vf), .val (.int vl), .val (.int vm), .val (.ref b25), .unset, .unset, .unset, .unset, .unset, .unset, .unset] [])) (fun t k => XS.ifYes X25.here hx rfl (pc0 := 112) (pc' := 124) rfl (hb hby at_112) rfl ((if0 _ _).trans (flt hc385).2.2.2) (by decide) (by decide) k) ?_
      exact J37 _ _ _ (List.replicate 33 (.int (0 : Int32))) (X25.mono (by decide) (by decide)) e25 N20 Z35 f32 f33 vp36 Ex25 O34
  refine own_step (st' := T4.setTop (mkF m 14 #[.val (.int x0), .val (.int x1), .val (.int x2), .val (.int x3), .val (.int x4), .val (.int z_1), .val (.ref b4), .unset, .unset, .unset, .unset, .unset, .unset, .unset, .unset, .unset, .unset, .unset] [(.int z_1)])) (fun t k => XS.iload X4.here hx rfl (hb hby at_12) rfl k) ?_
  by_cases hc393 : (0 : Int32) < z_1
  · refine own_step (st' := T4.setTop (mkF m 17 #[.val (.int x0), .val (.int x1), .val (.int x2), .val (.int x3), .val (.int x4), .val (.int z_1), .val (.ref b4), .unset, .unset, .unset, .unset, .unset, .unset, .unset, .unset, .unset, .unset, .unset] [])) (fun t k => XS.ifNo X4.here hx rfl (hb hby at_14) rfl ((if0 _ _).trans (tlt hc393).2.2.2) k) ?_
    refine own_step (st' := T4.setTop (mkF m 19 #[.val (.int x0), .val (.int x1), .val (.int x2), .val (.int x3), .val (.int x4), .val (.int z_1), .val (.ref b4), .unset, .unset, .unset, .unset, .unset, .unset, .unset, .unset, .unset, .unset, .unset] [(.ref b4)])) (fun t k => XS.aload X4.here hx rfl (hb hby at_17) rfl rfl k) ?_
    refine own_step (st' := T4.setTop (mkF m 20 #[.val (.int x0), .val (.int x1), .val (.int x2), .val (.int x3), .val (.int x4), .val (.int z_1), .val (.ref b4), .unset, .unset, .unset, .unset, .unset, .unset, .unset, .unset, .unset, .unset, .unset] [(.int (0 : Int32)), (.ref b4)])) (fun t k => XS.iconst X4.here hx rfl (hb hby at_19) k) ?_
    refine own_step (st' := T4.setTop (mkF m 21 #[.val (.int x0), .val (.int x1), .val (.int x2), .val (.int x3), .val (.int x4), .val (.int z_1), .val (.ref b4), .unset, .unset, .unset, .unset, .unset, .unset, .unset, .unset, .unset, .unset, .unset] [(.int x1), (.int (0 : Int32)), (.ref b4)])) (fun t k => XS.iloadN X4.here hx rfl (hb hby at_20) rfl k) ?_
    refine own_step (st' := T4.setTop (mkF m 22 #[.val (.int x0), .val (.int x1), .val (.int x2), .val (.int x3), .val (.int x4), .val (.int z_1), .val (.ref b4), .unset, .unset, .unset, .unset, .unset, .unset, .unset, .unset, .unset, .unset, .unset] [(.int (x1.toInt8.toInt32)), (.int (0 : Int32)), (.ref b4)])) (fun t k => XS.i2b X4.here hx rfl (hb hby at_21) rfl k) ?_
    obtain ⟨T394, h394, X394, e394, W394, V394, st394⟩ := own_stB X4 hx hZ e4 vp12 (j := (0 : Int32)) (i := (0 : Int32).toNatClampNeg) (own_i0 (own_pos hc393)) rfl (by rw [List.length_replicate]; exact own_n0) (g := (mkF m 22 #[.val (.int x0), .val (.int x1), .val (.int x2), .val (.int x3), .val (.int x4), .val (.int z_1), .val (.ref b4), .unset, .unset, .unset, .unset, .unset, .unset, .unset, .unset, .unset, .unset, .unset] [(.int (x1.toInt8.toInt32)), (.int (0 : Int32)), (.ref b4)])) rfl rfl (hb hby at_22)
    have V394 : Arv Z h394 b4 k4 .byte z_1 ((List.replicate 33 (.int (0 : Int32))).set (0 : Int32).toNatClampNeg (.int ((x1.toInt8.toInt32).toInt8.toInt32))) (.int (0 : Int32)) := V394
    have f395 := Ex4.wr W394
    have O396 := O10.wr W394 g_b4
    have Z397 : n0 ≤ h394.size := Nat.le_trans Z11 (Keep.of_wr W394).1
    have N398 := Fr.snoc X394 N1 g_b4
    refine own_step (st' := T394.setTop (mkF m 23 #[.val (.int x0), .val (.int x1), .val (.int x2), .val (.int x3), .val (.int x4), .val (.int z_1), .val (.ref b4), .unset, .unset, .unset, .unset, .unset, .unset, .unset, .unset, .unset, .unset, .unset] [])) st394 ?_
    refine own_step (st' := T394.setTop (mkF m 25 #[.val (.int x0), .val (.int x1), .val (.int x2), .val (.int x3), .val (.int x4), .val (.int z_1), .val (.ref b4), .unset, .unset, .unset, .unset, .unset, .unset, .unset, .unset, .unset, .unset, .unset] [(.ref b4)])) (fun t k => XS.aload X394.here hx rfl (hb hby at_23) rfl rfl k) ?_
    refine own_step (st' := T394.setTop (mkF m 27 #[.val (.int x0), .val (.int x1), .val (.int x2), .val (.int x3), .val (.int x4), .val (.int z_1), .val (.ref b4), .unset, .unset, .unset, .unset, .unset, .unset, .unset, .unset, .unset, .unset, .unset] [(.int z_1), (.ref b4)])) (fun t k => XS.iload X394.here hx rfl (hb hby at_25) rfl k) ?_
    refine own_step (st' := T394.setTop (mkF m 28 #[.val (.int x0), .val (.int x1), .val (.int x2), .val (.int x3), .val (.int x4), .val (.int z_1), .val (.ref b4), .unset, .unset, .unset, .unset, .unset, .unset, .unset, .unset, .unset, .unset, .unset] [(.int (1 : Int32)), (.int z_1), (.ref b4)])) (fun t k => XS.iconst X394.here hx rfl (hb hby at_27) k) ?_
    refine own_step (st' := T394.setTop (mkF m 29 #[.val (.int x0), .val (.int x1), .val (.int x2), .val (.int x3), .val (.int x4), .val (.int z_1), .val (.ref b4), .unset, .unset, .unset, .unset, .unset, .unset, .unset, .unset, .unset, .unset, .unset] [(.int (z_1 - (1 : Int32))), (.ref b4)])) (fun t k => XS.isub X394.here hx rfl (hb hby at_28) rfl k) ?_
    refine own_step (st' := T394.setTop (mkF m 30 #[.val (.int x0), .val (.int x1), .val (.int x2), .val (.int x3), .val (.int x4), .val (.int z_1), .val (.ref b4), .unset, .unset, .unset, .unset, .unset, .unset, .unset, .unset, .unset, .unset, .unset] [(.int x2), (.int (z_1 - (1 : Int32))), (.ref b4)])) (fun t k => XS.iloadN X394.here hx rfl (hb hby at_29) rfl k) ?_
    refine own_step (st' := T394.setTop (mkF m 31 #[.val (.int x0), .val (.int x1), .val (.int x2), .val (.int x3), .val (.int x4), .val (.int z_1), .val (.ref b4), .unset, .unset, .unset, .unset, .unset, .unset, .unset, .unset, .unset, .unset, .unset] [(.int (x2.toInt8.toInt32)), (.int (z_1 - (1 : Int32))), (.ref b4)])) (fun t k => XS.i2b X394.here hx rfl (hb hby at_30) rfl k) ?_
    obtain ⟨T399, h399, X399, e399, W399, V399, st399⟩ := own_stB X394 hx hZ e394 V394 (j := (z_1 - (1 : Int32))) (i := (z_1 - (1 : Int32)).toNatClampNeg) (own_i1 (own_pos hc393) hz.2).1 rfl (by simp only [List.length_set]; rw [List.length_replicate]; exact (own_i1 (own_pos hc393) hz.2).2) (g := (mkF m 31 #[.val (.int x0), .val (.int x1), .val (.int x2), .val (.int x3), .val (.int x4), .val (.int z_1), .val (.ref b4), .unset, .unset, .unset, .unset, .unset, .unset, .unset, .unset, .unset, .unset, .unset] [(.int (x2.toInt8.toInt32)), (.int (z_1 - (1 : Int32))), (.ref b4)])) rfl rfl (hb hby at_31)
    have V399 : Arv Z h399 b4 k4 .byte z_1 (((List.replicate 33 (.int (0 : Int32))).set (0 : Int32).toNatClampNeg (.int ((x1.toInt8.toInt32).toInt8.toInt32))).set (z_1 - (1 : Int32)).toNatClampNeg (.int ((x2.toInt8.toInt32).toInt8.toInt32))) (.int (0 : Int32)) := V399
    have f400 := f395.wr W399
    have O401 := O396.wr W399 g_b4
    have Z402 : n0 ≤ h399.size := Nat.le_trans Z397 (Keep.of_wr W399).1
    have N403 := Fr.snoc X399 N398 g_b4
    refine own_step (st' := T399.setTop (mkF m 32 #[.val (.int x0), .val (.int x1), .val (.int x2), .val (.int x3), .val (.int x4), .val (.int z_1), .val (.ref b4), .unset, .unset, .unset, .unset, .unset, .unset, .unset, .unset, .unset, .unset, .unset] [])) st399 ?_
    refine own_step (st' := T399.setTop (mkF m 34 #[.val (.int x0), .val (.int x1), .val (.int x2), .val (.int x3), .val (.int x4), .val (.int z_1), .val (.ref b4), .unset, .unset, .unset, .unset, .unset, .unset, .unset, .unset, .unset, .unset, .unset] [(.int z_1)])) (fun t k => XS.iload X399.here hx rfl (hb hby at_32) rfl k) ?_
    refine own_step (st' := T399.setTop (mkF m 35 #[.val (.int x0), .val (.int x1), .val (.int x2), .val (.int x3), .val (.int x4), .val (.int z_1), .val (.ref b4), .unset, .unset, .unset, .unset, .unset, .unset, .unset, .unset, .unset, .unset, .unset] [(.int (3 : Int32)), (.int z_1)])) (fun t k => XS.iconst X399.here hx rfl (hb hby at_34) k) ?_
    by_cases hc404 : z_1 < (3 : Int32)
    · refine own_step (st' := T399.setTop (mkF m 47 #[.val (.int x0), .val (.int x1), .val (.int x2), .val (.int x3), .val (.int x4), .val (.int z_1), .val (.ref b4), .unset, .unset, .unset, .unset, .unset, .unset, .unset, .unset, .unset, .unset, .unset] [])) (fun t k => XS.icmpYes X399.here hx rfl (pc0 := 35) (pc' := 47) rfl (hb hby at_35) rfl (tlt hc404).1 (by decide) (by decide) k) ?_
      exact J13 _ _ _ (((List.replicate 33 (.int (0 : Int32))).set (0 : Int32).toNatClampNeg (.int ((x1.toInt8.toInt32).toInt8.toInt32))).set (z_1 - (1 : Int32)).toNatClampNeg (.int ((x2.toInt8.toInt32).toInt8.toInt32))) (X399.mono (by decide) (by decide)) e399 N403 Z402 V399 f400 O401 (own_hold1' z_1 x1 x2 x3 hz hc393 hc404)
    · refine own_step (st' := T399.setTop (mkF m 38 #[.val (.int x0), .val (.int x1), .val (.int x2), .val (.int x3), .val (.int x4), .val (.int z_1), .val (.ref b4), .unset, .unset, .unset, .unset, .unset, .unset, .unset, .unset, .unset, .unset, .unset] [])) (fun t k => XS.icmpNo X399.here hx rfl (hb hby at_35) rfl (flt hc404).1 k) ?_
      refine own_step (st' := T399.setTop (mkF m 40 #[.val (.int x0), .val (.int x1), .val (.int x2), .val (.int x3), .val (.int x4), .val (.int z_1), .val (.ref b4), .unset, .unset, .unset, .unset, .unset, .unset, .unset, .unset, .unset, .unset, .unset] [(.ref b4)])) (fun t k => XS.aload X399.here hx rfl (hb hby at_38) rfl rfl k) ?_
      refine own_step (st' := T399.setTop (mkF m 42 #[.val (.int x0), .val (.int x1), .val (.int x2), .val (.int x3), .val (.int x4), .val (.int z_1), .val (.ref b4), .unset, .unset, .unset, .unset, .unset, .unset, .unset, .unset, .unset, .unset, .unset] [(.int z_1), (.ref b4)])) (fun t k => XS.iload X399.here hx rfl (hb hby at_40) rfl k) ?_
      refine own_step (st' := T399.setTop (mkF m 43 #[.val (.int x0), .val (.int x1), .val (.int x2), .val (.int x3), .val (.int x4), .val (.int z_1), .val (.ref b4), .unset, .unset, .unset, .unset, .unset, .unset, .unset, .unset, .unset, .unset, .unset] [(.int (2 : Int32)), (.int z_1), (.ref b4)])) (fun t k => XS.iconst X399.here hx rfl (hb hby at_42) k) ?_
      refine own_step (st' := T399.setTop (mkF m 44 #[.val (.int x0), .val (.int x1), .val (.int x2), .val (.int x3), .val (.int x4), .val (.int z_1), .val (.ref b4), .unset, .unset, .unset, .unset, .unset, .unset, .unset, .unset, .unset, .unset, .unset] [(.int (z_1 / (2 : Int32))), (.ref b4)])) (fun t k => XS.idiv X399.here hx rfl (hb hby at_43) rfl (by decide) k) ?_
      refine own_step (st' := T399.setTop (mkF m 45 #[.val (.int x0), .val (.int x1), .val (.int x2), .val (.int x3), .val (.int x4), .val (.int z_1), .val (.ref b4), .unset, .unset, .unset, .unset, .unset, .unset, .unset, .unset, .unset, .unset, .unset] [(.int x3), (.int (z_1 / (2 : Int32))), (.ref b4)])) (fun t k => XS.iloadN X399.here hx rfl (hb hby at_44) rfl k) ?_
      refine own_step (st' := T399.setTop (mkF m 46 #[.val (.int x0), .val (.int x1), .val (.int x2), .val (.int x3), .val (.int x4), .val (.int z_1), .val (.ref b4), .unset, .unset, .unset, .unset, .unset, .unset, .unset, .unset, .unset, .unset, .unset] [(.int (x3.toInt8.toInt32)), (.int (z_1 / (2 : Int32))), (.ref b4)])) (fun t k => XS.i2b X399.here hx rfl (hb hby at_45) rfl k) ?_
      obtain ⟨T405, h405, X405, e405, W405, V405, st405⟩ := own_stB X399 hx hZ e399 V399 (j := (z_1 / (2 : Int32))) (i := (z_1 / (2 : Int32)).toNatClampNeg) (own_i2 (own_ge3 hc404) hz.2).1 rfl (by simp only [List.length_set]; rw [List.length_replicate]; exact (own_i2 (own_ge3 hc404) hz.2).2) (g := (mkF m 46 #[.val (.int x0), .val (.int x1), .val (.int x2), .val (.int x3), .val (.int x4), .val (.int z_1), .val (.ref b4), .unset, .unset, .unset, .unset, .unset, .unset, .unset, .unset, .unset, .unset, .unset] [(.int (x3.toInt8.toInt32)), (.int (z_1 / (2 : Int32))), (.ref b4)])) rfl rfl (hb hby at_46)
      have V405 : Arv Z h405 b4 k4 .byte z_1 ((((List.replicate 33 (.int (0 : Int32))).set (0 : Int32).toNatClampNeg (.int ((x1.toInt8.toInt32).toInt8.toInt32))).set (z_1 - (1 : Int32)).toNatClampNeg (.int ((x2.toInt8.toInt32).toInt8.toInt32))).set (z_1 / (2 : Int32)).toNatClampNeg (.int ((x3.toInt8.toInt32).toInt8.toInt32))) (.int (0 : Int32)) := V405
      have f406 := f400.wr W405
      have O407 := O401.wr W405 g_b4
      have Z408 : n0 ≤ h405.size := Nat.le_trans Z402 (Keep.of_wr W405).1
      have N409 := Fr.snoc X405 N403 g_b4
      refine own_step (st' := T405.setTop (mkF m 47 #[.val (.int x0), .val (.int x1), .val (.int x2), .val (.int x3), .val (.int x4), .val (.int z_1), .val (.ref b4), .unset, .unset, .unset, .unset, .unset, .unset, .unset, .unset, .unset, .unset, .unset] [])) st405 ?_
      exact J13 _ _ _ ((((List.replicate 33 (.int (0 : Int32))).set (0 : Int32).toNatClampNeg (.int ((x1.toInt8.toInt32).toInt8.toInt32))).set (z_1 - (1 : Int32)).toNatClampNeg (.int ((x2.toInt8.toInt32).toInt8.toInt32))).set (z_1 / (2 : Int32)).toNatClampNeg (.int ((x3.toInt8.toInt32).toInt8.toInt32))) (X405.mono (by decide) (by decide)) e405 N409 Z408 V405 f406 O407 (own_hold3 z_1 x1 x2 x3 hz hc404)
  · refine own_step (st' := T4.setTop (mkF m 32 #[.val (.int x0), .val (.int x1), .val (.int x2), .val (.int x3), .val (.int x4), .val (.int z_1), .val (.ref b4), .unset, .unset, .unset, .unset, .unset, .unset, .unset, .unset, .unset, .unset, .unset] [])) (fun t k => XS.ifYes X4.here hx rfl (pc0 := 14) (pc' := 32) rfl (hb hby at_14) rfl ((if0 _ _).trans (flt hc393).2.2.2) (by decide) (by decide) k) ?_
    refine own_step (st' := T4.setTop (mkF m 34 #[.val (.int x0), .val (.int x1), .val (.int x2), .val (.int x3), .val (.int x4), .val (.int z_1), .val (.ref b4), .unset, .unset, .unset, .unset, .unset, .unset, .unset, .unset, .unset, .unset, .unset] [(.int z_1)])) (fun t k => XS.iload X4.here hx rfl (hb hby at_32) rfl k) ?_
    refine own_step (st' := T4.setTop (mkF m 35 #[.val (.int x0), .val (.int x1), .val (.int x2), .val (.int x3), .val (.int x4), .val (.int z_1), .val (.ref b4), .unset, .unset, .unset, .unset, .unset, .unset, .unset, .unset, .unset, .unset, .unset] [(.int (3 : Int32)), (.int z_1)])) (fun t k => XS.iconst X4.here hx rfl (hb hby at_34) k) ?_
    refine own_step (st' := T4.setTop (mkF m 47 #[.val (.int x0), .val (.int x1), .val (.int x2), .val (.int x3), .val (.int x4), .val (.int z_1), .val (.ref b4), .unset, .unset, .unset, .unset, .unset, .unset, .unset, .unset, .unset, .unset, .unset] [])) (fun t k => XS.icmpYes X4.here hx rfl (pc0 := 35) (pc' := 47) rfl (hb hby at_35) rfl (tlt (own_lt3 hc393)).1 (by decide) (by decide) k) ?_
    exact J13 _ _ _ (List.replicate 33 (.int (0 : Int32))) (X4.mono (by decide) (by decide)) e4 N1 Z11 vp12 Ex4 O10 (own_hold0 z_1 x1 x2 x3 hc393)
set_option maxRecDepth 65536 in
set_option maxHeartbeats 40000000 in
theorem comes_1 {Post : Tables → Env → Array Value → State → Outcome → State → Prop} (hpost : ∀ tb e args s v u, (limb_1_1.after args s (.returned v) u = true ∧ limb_1_2.after args s (.returned v) u = true ∧ True) → FrameEnd s (.returned v) u (Jvm.fieldLocs frame_1_writes args s ++ Jvm.arrayLocs frame_1_arrays args s ++ Jvm.staticLocs frame_1_statics s) 40 576 → Post tb e args s (.returned v) u) :
    ArmFor flags0 classFile x code maxLocals ret World_1 tables_1 room_1 Calls_1 rest_1 Pre_1 Post := by
  intro l hfl _ _ p e ha hc hk s m args below hf hA hF happ hP
  obtain ⟨hcalls, hrest, hpre⟩ := hP
  obtain ⟨-, -, -, hnamed, -, -, -, hat⟩ := (Spec.applies_iff hf).mp happ
  obtain ⟨hg, hn⟩ := and_e (Cond.before_iff.mp (show (Jvm.Cond.and given_1 narrow_1).before args s = true from hpre))
  obtain ⟨hcount, hg0⟩ := and_e hg
  obtain ⟨ha0, hg1⟩ := and_e hg0
  obtain ⟨ha1, hg2⟩ := and_e hg1
  obtain ⟨ha2, hg3⟩ := and_e hg2
  obtain ⟨ha3, hg4⟩ := and_e hg3
  obtain ⟨w0, w1, w2, w3, w4, rfl⟩ : ∃ w0 w1 w2 w3 w4 : Value, args = #[w0, w1, w2, w3, w4] := by
    have hs : args.size = 5 := by simpa [Cond.value, given_1] using hcount
    obtain ⟨L⟩ := args
    match L, hs with
    | [w0, w1, w2, w3, w4], _ => exact ⟨w0, w1, w2, w3, w4, rfl⟩
  have hw := fun d (hd : d ∈ tables_1) => atoms_spec (ws := Jvm.Cond.code x code maxLocals ret :: tables_1) hat d (List.mem_cons_of_mem _ hd)
  have hfit : Fit s := fun {y c} hc i hi => by
    obtain ⟨ha, rfl⟩ := Array.getElem?_eq_some_iff.mp hc
    have q := List.all_eq_true.mp ((Array.all_eq_true_iff_forall_mem.mp hF) _ (Array.getElem_mem ha)) i (List.mem_range.mpr hi)
    simpa [Array.getElem?_eq_getElem hi] using q
  obtain ⟨hsets, hown0⟩ := atoms_of _ (rest_1_c_eq ▸ (show rest_1_c.before _ s = true from hrest))
  have hr0 := Cond.before_iff.mp hown0
  obtain ⟨i0, ei0⟩ := is_v ha0
  obtain rfl : w0 = (.int i0) := Option.some.inj ei0
  obtain ⟨i1, ei1⟩ := is_v ha1
  obtain rfl : w1 = (.int i1) := Option.some.inj ei1
  obtain ⟨i2, ei2⟩ := is_v ha2
  obtain rfl : w2 = (.int i2) := Option.some.inj ei2
  obtain ⟨i3, ei3⟩ := is_v ha3
  obtain rfl : w3 = (.int i3) := Option.some.inj ei3
  obtain ⟨i4, ei4⟩ := is_v hg4
  obtain rfl : w4 = (.int i4) := Option.some.inj ei4
  obtain ⟨c0, r0⟩ := and_e hn
  obtain ⟨c1, r1⟩ := and_e r0
  obtain ⟨c2, r2⟩ := and_e r1
  obtain ⟨c3, r3⟩ := and_e r2
  obtain ⟨c4, r4⟩ := and_e r3
  obtain ⟨c5, r5⟩ := and_e r4
  obtain ⟨c6, r6⟩ := and_e r5
  obtain ⟨c7, r7⟩ := and_e r6
  obtain ⟨c8, r8⟩ := and_e r7
  obtain ⟨c9, r9⟩ := and_e r8
  obtain ⟨c10, r10⟩ := and_e r9
  obtain ⟨a_EMPTY_CERTIFICATE_HASH, _, _, _, ev_EMPTY_CERTIFICATE_HASH, -⟩ := Cond.exactly_spec (Cond.before_iff.mpr c0)
  have E_EMPTY_CERTIFICATE_HASH := Exa.start (Z := s) ev_EMPTY_CERTIFICATE_HASH c0
  have S_EMPTY_CERTIFICATE_HASH := Sta.start (Z := s) ev_EMPTY_CERTIFICATE_HASH (Or.inr ⟨(hw _ (List.mem_of_getElem? (i := 47) rfl)), (hw _ (List.mem_of_getElem? (i := 50) rfl))⟩)
  obtain ⟨a__VALUES, _, _, _, ev__VALUES, -⟩ := Cond.exactly_spec (Cond.before_iff.mpr c2)
  have E__VALUES := Exa.start (Z := s) ev__VALUES c2
  have S__VALUES := Sta.start (Z := s) ev__VALUES (Or.inr ⟨(hw _ (List.mem_of_getElem? (i := 134) rfl)), (hw _ (List.mem_of_getElem? (i := 140) rfl))⟩)
  obtain ⟨a_SHA_1, _, _, _, ev_SHA_1, -⟩ := Cond.exactly_spec (Cond.before_iff.mpr c4)
  have E_SHA_1 := Exa.start (Z := s) ev_SHA_1 c4
  have S_SHA_1 := Sta.start (Z := s) ev_SHA_1 (Or.inr ⟨(hw _ (List.mem_of_getElem? (i := 134) rfl)), (hw _ (List.mem_of_getElem? (i := 145) rfl))⟩)
  obtain ⟨a_SHA_256, _, _, _, ev_SHA_256, -⟩ := Cond.exactly_spec (Cond.before_iff.mpr c6)
  have E_SHA_256 := Exa.start (Z := s) ev_SHA_256 c6
  have S_SHA_256 := Sta.start (Z := s) ev_SHA_256 (Or.inr ⟨(hw _ (List.mem_of_getElem? (i := 134) rfl)), (hw _ (List.mem_of_getElem? (i := 146) rfl))⟩)
  obtain ⟨a_NO_PERMISSION_MASK, _, _, _, ev_NO_PERMISSION_MASK, -⟩ := Cond.exactly_spec (Cond.before_iff.mpr c10)
  have E_NO_PERMISSION_MASK := Exa.start (Z := s) ev_NO_PERMISSION_MASK c10
  have S_NO_PERMISSION_MASK := Sta.start (Z := s) ev_NO_PERMISSION_MASK (Or.inr ⟨(hw _ (List.mem_of_getElem? (i := 47) rfl)), (hw _ (List.mem_of_getElem? (i := 169) rfl))⟩)
  obtain ⟨a_HASH_LENGTH, _, _, _, ev_HASH_LENGTH, -⟩ := Cond.exactly_spec (Cond.before_iff.mpr r10)
  have E_HASH_LENGTH := Exa.start (Z := s) ev_HASH_LENGTH r10
  have S_HASH_LENGTH := Sta.start (Z := s) ev_HASH_LENGTH (Or.inr ⟨(hw _ (List.mem_of_getElem? (i := 47) rfl)), (hw _ (List.mem_of_getElem? (i := 174) rfl))⟩)
  have F_SHA_1_length : Fld s s.heap a_SHA_1 "com/example/aturan/aturan/rules/HashAlgorithm" "length" "I" (.int (20 : Int32)) := Fld.start ((fld_at ev_SHA_1).symm.trans (own_eqI c8))
  have F_SHA_256_length : Fld s s.heap a_SHA_256 "com/example/aturan/aturan/rules/HashAlgorithm" "length" "I" (.int (32 : Int32)) := Fld.start ((fld_at ev_SHA_256).symm.trans (own_eqI c9))
  obtain ⟨a_OL, _, _, _, ev_OL, -⟩ := Cond.exactly_spec (hsets _ (List.mem_of_getElem? (i := 2) rfl))
  have E_OL := Exa.start (Z := s) ev_OL (Cond.before_iff.mp (hsets _ (List.mem_of_getElem? (i := 2) rfl)))
  have S_OL := Sta.start (Z := s) ev_OL (Or.inl (hsets _ (List.mem_of_getElem? (i := 1) rfl)))
  obtain ⟨a_OE, _, _, _, ev_OE, -⟩ := Cond.exactly_spec (hsets _ (List.mem_of_getElem? (i := 7) rfl))
  have E_OE := Exa.start (Z := s) ev_OE (Cond.before_iff.mp (hsets _ (List.mem_of_getElem? (i := 7) rfl)))
  have S_OE := Sta.start (Z := s) ev_OE (Or.inl (hsets _ (List.mem_of_getElem? (i := 6) rfl)))
  have F_OL : Fld s s.heap a_OL "java/util/OptionalLong" "isPresent" "Z" (.int (0 : Int32)) := Fld.start ((fld_at ev_OL).symm.trans (own_eqI (Cond.before_iff.mp (hsets _ (List.mem_of_getElem? (i := 3) rfl)))))
  have F_OE : Fld s s.heap a_OE "java/util/Optional" "value" "Ljava/lang/Object;" .null := Fld.start ((fld_at ev_OE).symm.trans (own_eqN (Cond.before_iff.mp (hsets _ (List.mem_of_getElem? (i := 8) rfl)))))
  obtain ⟨clV, AV⟩ := Arr.start (Z := s) ev__VALUES c1
  obtain ⟨hl1, hl2⟩ := own_lenA ev__VALUES AV (own_eqI c3)
  have el0 := (elem_in (own_eqR c5 ev_SHA_1) ev__VALUES (Term.int_eval _) AV.1).2
  have el1 := (elem_in (own_eqR c7 ev_SHA_256) ev__VALUES (Term.int_eval _) AV.1).2
  have V0 : Arv s s.heap a__VALUES clV.cls (.object "com/example/aturan/aturan/rules/HashAlgorithm") (2 : Int32) [(.ref a_SHA_1), (.ref a_SHA_256)] .null := Arv.start hfit AV hl1 hl2 (by decide) rfl ⟨el0, el1, trivial⟩
  obtain ⟨n, o, h1, h2, h3, _, L, rfl, ⟨rfl, N⟩, hq⟩ := rm0 l s _ hw tables_1 i0 i1 i2 i3 i4 a_OL a__VALUES clV.cls a_SHA_1 a_SHA_256 a_OE a_EMPTY_CERTIFICATE_HASH a_NO_PERMISSION_MASK a_HASH_LENGTH s.heap s.heap.size (Nat.le_refl _) (Old.start s) S_OL E_OL F_OL S__VALUES E__VALUES V0 F_SHA_1_length F_SHA_256_length E_SHA_1 E_SHA_256 S_OE E_OE F_OE S_EMPTY_CERTIFICATE_HASH S_NO_PERMISSION_MASK S_HASH_LENGTH S_SHA_1 S_SHA_256 p e ha hc hk s m _ below hf ((Spec.applies_iff_loose hf).mp happ).1 ⟨rfl, State.WarmedH.refl s, rfl⟩ trivial
  refine ⟨n, _, h1, h2, h3, hpost _ _ _ _ _ _ ⟨Cond.after_iff.mpr rfl, Cond.after_iff.mpr (eq_i res_at (Term.int_eval (1)) rfl), trivial⟩ ⟨hq.1, hq.2.1, (hq.2.2.sift fun y hy => Or.inr (N y hy)).mono (by decide) (by decide)⟩⟩
theorem main_1_1 : Claimed_1_1 := comes_1 fun _ _ _ _ _ _ h hF => ⟨h.1, Jvm.RoadKit.wide hF⟩
theorem main_1_2 : Claimed_1_2 := comes_1 fun _ _ _ _ _ _ h hF => ⟨h.2.1, Jvm.RoadKit.wide hF⟩
end Jvm.Pilot.@@N@@
namespace Jvm.Pilot.@@N@@
open Jvm Jvm.ClassFile Sem Op Lib Jvm.Free Jvm.Stand Jvm.Pilot.@@N@@.Jvm.D
/-! MADE BY PROGRAM (witnessworld.py) out of the Statement's table words and the real class files: 21 classes; the members and pool entries that the words name. The judged class is class 1, her method 2. -/
namespace start1
open Jvm.ClassFile
def u (s : String) : CpInfo := .utf8 (stringToUtf16 s)
/-- a pool by its gaps: so many unusable entries, then the entry; so many at the end -/
def gap : Nat → List CpInfo → List CpInfo
  | 0, r => r
  | n + 1, r => .unusable :: gap n r
def poolList (es : List (Nat × CpInfo)) (last : Nat) : List CpInfo := es.foldr (fun e r => gap e.1 (e.2 :: r)) (gap last [])
def pool (es : List (Nat × CpInfo)) (last : Nat) : Array CpInfo := ⟨poolList es last⟩
def fileOf (pool : Array CpInfo) (this : Nat) (attrs : Array Attribute := #[]) (ms : Array MethodInfo := #[]) (fl : Nat := 33) (sup : Nat := 0) (ifs : Array Nat := #[]) (fds : Array FieldInfo := #[]) : ClassFile where
  minorVersion := 0
  majorVersion := 65
  constantPool := pool
  accessFlags := fl
  thisClass := this
  superClass := sup
  interfaces := ifs
  fields := fds
  methods := ms
  attributes := attrs
def plain (name : String) (sup : Option ClassId) : Class where
  name := name
  kind := .ordinary
  loader := none
  accessFlags := 33
  super := sup
  interfaces := #[]
  cf := none
  fields := #[]
  methods := #[]
  instanceTypes := #[]
  staticTypes := #[]
  resolved := #[]
  callSites := []
  init := .initialized
  statics := none
  mirror := none

def pool0 : Array CpInfo := pool [(5, u "<init>"), (0, u "()V"), (1, .class_ 10), (1, u "java/lang/Object"), (85, u "clone"), (0, u "()Ljava/lang/Object;")] 26

def k0c0 : Code := { maxStack := 0, maxLocals := 1, code := object_method_1_code, exceptionTable := #[], attributes := #[] }
def k0m0 : Method := { name := "<init>", desc := "()V", sig := { parameters := [], returnType := none }, accessFlags := 1, code := some k0c0 }
def k0m1 : Method := { name := "clone", desc := "()Ljava/lang/Object;", sig := { parameters := [], returnType := some (.object "java/lang/Object") }, accessFlags := 260, code := none }
/-- java/lang/Object -/
def k0 : Class := { plain "java/lang/Object" none with
  accessFlags := 33
  interfaces := #[]
  cf := some (fileOf pool0 8 #[] #[{ accessFlags := 1, nameIndex := 5, descriptorIndex := 6, attributes := #[] }, { accessFlags := 260, nameIndex := 96, descriptorIndex := 97, attributes := #[] }] 33 0 #[] #[])
  fields := #[]
  methods := #[k0m0, k0m1]
  instanceTypes := #[]
  staticTypes := #[]
  resolved := Array.replicate 124 none
  statics := none }

def pool1 : Array CpInfo := pool [(2, .class_ 4), (0, .nameAndType 5 6), (0, u "java/lang/Object"), (0, u "<init>"), (0, u "()V"), (0, .methodref 8 9), (0, .class_ 10), (0, .nameAndType 11 12), (0, u "com/example/aturan/aturan/rules/AraMRuleBuilderCertificateHashPinLaw"), (0, u "lengthOf"), (0, u "(I)I"), (0, .class_ 14), (0, u "com/example/aturan/aturan/rules/AraMRuleBuilder"), (0, .methodref 13 3), (0, .methodref 13 17), (0, .nameAndType 18 19), (0, u "certificateHash"), (0, u "([B)Lcom/example/aturan/aturan/rules/AraMRuleBuilder;"), (0, .methodref 13 21), (0, .nameAndType 22 23), (0, u "build"), (0, u "()Lcom/example/aturan/aturan/rules/AccessRule;"), (0, .methodref 25 26), (0, .class_ 27), (0, .nameAndType 28 29), (0, u "com/example/aturan/aturan/rules/AccessRule"), (0, u "getCertificateHash"), (0, u "()Ljava/util/Optional;"), (0, .methodref 31 32), (0, .class_ 33), (0, .nameAndType 34 35), (0, u "java/util/Optional"), (0, u "orElse"), (0, u "(Ljava/lang/Object;)Ljava/lang/Object;"), (0, .class_ 37), (0, u "[B"), (0, .methodref 25 39), (0, .nameAndType 40 29), (0, u "getAlgorithm"), (0, .class_ 42), (0, u "com/example/aturan/aturan/rules/HashAlgorithm"), (0, .fieldref 41 44), (0, .nameAndType 45 46), (0, u "SHA_1"), (0, u "Lcom/example/aturan/aturan/rules/HashAlgorithm;"), (0, .fieldref 41 48), (0, .nameAndType 49 46), (0, u "SHA_256"), (2, u "law"), (0, u "(IIIII)Z")] 3

def k1m0 : Method := { name := "<init>", desc := "()V", sig := { parameters := [], returnType := none }, accessFlags := 1, code := none }
def k1c1 : Code := { maxStack := 4, maxLocals := 2, code := method_2_code, exceptionTable := #[], attributes := #[] }
def k1m1 : Method := { name := "lengthOf", desc := "(I)I", sig := { parameters := [.int], returnType := some .int }, accessFlags := 10, code := some k1c1 }
def k1c2 : Code := { maxStack := 5, maxLocals := 18, code := code, exceptionTable := #[], attributes := #[] }
def k1m2 : Method := { name := "law", desc := "(IIIII)Z", sig := { parameters := [.int, .int, .int, .int, .int], returnType := some .boolean }, accessFlags := 9, code := some k1c2 }
/-- com/example/aturan/aturan/rules/AraMRuleBuilderCertificateHashPinLaw -/
def k1 : Class := { plain "com/example/aturan/aturan/rules/AraMRuleBuilderCertificateHashPinLaw" (some 0) with
  accessFlags := 49
  interfaces := #[]
  cf := some (fileOf pool1 8 #[] #[{ accessFlags := 1, nameIndex := 5, descriptorIndex := 6, attributes := #[] }, { accessFlags := 10, nameIndex := 11, descriptorIndex := 12, attributes := #[] }, { accessFlags := 9, nameIndex := 52, descriptorIndex := 53, attributes := #[] }] 49 2 #[] #[])
  fields := #[]
  methods := #[k1m0, k1m1, k1m2]
  instanceTypes := #[]
  staticTypes := #[]
  resolved := Array.replicate 57 none
  statics := none }

def pool2 : Array CpInfo := pool [(1, .methodref 2 3), (0, .class_ 4), (0, .nameAndType 5 6), (0, u "java/lang/Object"), (0, u "<init>"), (0, u "()V"), (0, .methodref 8 9), (0, .class_ 10), (0, .nameAndType 11 12), (0, u "java/util/OptionalLong"), (0, u "empty"), (0, u "()Ljava/util/OptionalLong;"), (0, .fieldref 14 15), (0, .class_ 16), (0, .nameAndType 17 18), (0, u "com/example/aturan/aturan/rules/AraMRuleBuilder"), (0, u "permissions"), (0, u "Ljava/util/OptionalLong;"), (11, .methodref 31 32), (0, .class_ 33), (0, .nameAndType 34 35), (0, u "[B"), (0, u "clone"), (0, u "()Ljava/lang/Object;"), (0, .fieldref 14 37), (0, .nameAndType 38 33), (0, u "aid"), (0, .fieldref 14 40), (0, .nameAndType 41 33), (0, u "certificateHash"), (31, .fieldref 14 74), (0, .nameAndType 75 76), (0, u "packageName"), (0, u "Ljava/lang/String;"), (10, .fieldref 14 88), (0, .nameAndType 89 90), (0, u "apduRule"), (0, u "Lcom/example/aturan/aturan/rules/ApduRule;"), (4, .fieldref 14 96), (0, .nameAndType 97 98), (0, u "nfcRule"), (0, u "Lcom/example/aturan/aturan/rules/Access;"), (9, .methodref 109 110), (0, .class_ 111), (0, .nameAndType 112 113), (0, u "com/example/aturan/aturan/rules/IgnoreReason"), (0, u "firstFor"), (0, u "([B[B)Lcom/example/aturan/aturan/rules/IgnoreReason;"), (0, .methodref 8 115), (0, .nameAndType 116 117), (0, u "isEmpty"), (0, u "()Z"), (0, .fieldref 109 119), (0, .nameAndType 120 121), (0, u "NO_PERMISSION_MASK"), (0, u "Lcom/example/aturan/aturan/rules/IgnoreReason;"), (0, .class_ 123), (0, u "com/example/aturan/aturan/rules/AccessRule"), (0, .methodref 122 125), (0, .nameAndType 5 126), (0, u "([B[BLjava/lang/String;Lcom/example/aturan/aturan/rules/ApduRule;Lcom/example/aturan/aturan/rules/Access;Ljava/util/OptionalLong;Lcom/example/aturan/aturan/rules/IgnoreReason;)V"), (2, u "([B)Lcom/example/aturan/aturan/rules/AraMRuleBuilder;"), (7, u "build"), (0, u "()Lcom/example/aturan/aturan/rules/AccessRule;")] 2

def k2c0 : Code := { maxStack := 2, maxLocals := 1, code := prog_37_method_1_code, exceptionTable := #[], attributes := #[] }
def k2m0 : Method := { name := "<init>", desc := "()V", sig := { parameters := [], returnType := none }, accessFlags := 1, code := some k2c0 }
def k2c1 : Code := { maxStack := 2, maxLocals := 2, code := prog_37_method_4_code, exceptionTable := #[], attributes := #[] }
def k2m1 : Method := { name := "certificateHash", desc := "([B)Lcom/example/aturan/aturan/rules/AraMRuleBuilder;", sig := { parameters := [(.array .byte)], returnType := some (.object "com/example/aturan/aturan/rules/AraMRuleBuilder") }, accessFlags := 1, code := some k2c1 }
def k2c2 : Code := { maxStack := 9, maxLocals := 2, code := prog_37_method_9_code, exceptionTable := #[], attributes := #[] }
def k2m2 : Method := { name := "build", desc := "()Lcom/example/aturan/aturan/rules/AccessRule;", sig := { parameters := [], returnType := some (.object "com/example/aturan/aturan/rules/AccessRule") }, accessFlags := 1, code := some k2c2 }
/-- com/example/aturan/aturan/rules/AraMRuleBuilder -/
def k2 : Class := { plain "com/example/aturan/aturan/rules/AraMRuleBuilder" (some 0) with
  accessFlags := 33
  interfaces := #[]
  cf := some (fileOf pool2 14 #[] #[{ accessFlags := 1, nameIndex := 5, descriptorIndex := 6, attributes := #[] }, { accessFlags := 1, nameIndex := 41, descriptorIndex := 129, attributes := #[] }, { accessFlags := 1, nameIndex := 137, descriptorIndex := 138, attributes := #[] }] 33 2 #[] #[{ accessFlags := 2, nameIndex := 38, descriptorIndex := 33, attributes := #[] }, { accessFlags := 2, nameIndex := 41, descriptorIndex := 33, attributes := #[] }, { accessFlags := 2, nameIndex := 75, descriptorIndex := 76, attributes := #[] }, { accessFlags := 2, nameIndex := 89, descriptorIndex := 90, attributes := #[] }, { accessFlags := 2, nameIndex := 97, descriptorIndex := 98, attributes := #[] }, { accessFlags := 2, nameIndex := 17, descriptorIndex := 18, attributes := #[] }])
  fields := #[{ name := "aid", type := (.array .byte), accessFlags := 2, slot := 0, constantValue := 0 }, { name := "certificateHash", type := (.array .byte), accessFlags := 2, slot := 1, constantValue := 0 }, { name := "packageName", type := (.object "java/lang/String"), accessFlags := 2, slot := 2, constantValue := 0 }, { name := "apduRule", type := (.object "com/example/aturan/aturan/rules/ApduRule"), accessFlags := 2, slot := 3, constantValue := 0 }, { name := "nfcRule", type := (.object "com/example/aturan/aturan/rules/Access"), accessFlags := 2, slot := 4, constantValue := 0 }, { name := "permissions", type := (.object "java/util/OptionalLong"), accessFlags := 2, slot := 5, constantValue := 0 }]
  methods := #[k2m0, k2m1, k2m2]
  instanceTypes := #[(.array .byte), (.array .byte), (.object "java/lang/String"), (.object "com/example/aturan/aturan/rules/ApduRule"), (.object "com/example/aturan/aturan/rules/Access"), (.object "java/util/OptionalLong")]
  staticTypes := #[]
  resolved := Array.replicate 141 none
  statics := none }

def pool3 : Array CpInfo := pool [(2, .class_ 4), (1, u "java/lang/Object"), (0, u "<init>"), (0, u "()V"), (0, .fieldref 8 9), (0, .class_ 10), (0, .nameAndType 11 12), (0, u "java/util/OptionalLong"), (0, u "isPresent"), (0, u "Z"), (2, u "value"), (0, u "J"), (0, .fieldref 8 18), (0, .nameAndType 19 20), (0, u "EMPTY"), (0, u "Ljava/util/OptionalLong;"), (28, u "empty"), (46, u "()Ljava/util/OptionalLong;"), (2, u "()Z"), (0, u "isEmpty")] 37

def k3m0 : Method := { name := "<init>", desc := "()V", sig := { parameters := [], returnType := none }, accessFlags := 2, code := none }
def k3c1 : Code := { maxStack := 1, maxLocals := 0, code := jdk_2650_method_2_code, exceptionTable := #[], attributes := #[] }
def k3m1 : Method := { name := "empty", desc := "()Ljava/util/OptionalLong;", sig := { parameters := [], returnType := some (.object "java/util/OptionalLong") }, accessFlags := 9, code := some k3c1 }
def k3c2 : Code := { maxStack := 1, maxLocals := 1, code := jdk_2650_method_7_code, exceptionTable := #[], attributes := #[] }
def k3m2 : Method := { name := "isEmpty", desc := "()Z", sig := { parameters := [], returnType := some .boolean }, accessFlags := 1, code := some k3c2 }
/-- java/util/OptionalLong -/
def k3 : Class := { plain "java/util/OptionalLong" (some 0) with
  accessFlags := 49
  interfaces := #[]
  cf := some (fileOf pool3 8 #[] #[{ accessFlags := 2, nameIndex := 5, descriptorIndex := 6, attributes := #[] }, { accessFlags := 9, nameIndex := 49, descriptorIndex := 96, attributes := #[] }, { accessFlags := 1, nameIndex := 100, descriptorIndex := 99, attributes := #[] }] 49 2 #[] #[{ accessFlags := 26, nameIndex := 19, descriptorIndex := 20, attributes := #[] }, { accessFlags := 18, nameIndex := 11, descriptorIndex := 12, attributes := #[] }, { accessFlags := 18, nameIndex := 15, descriptorIndex := 16, attributes := #[] }])
  fields := #[{ name := "EMPTY", type := (.object "java/util/OptionalLong"), accessFlags := 26, slot := 0, constantValue := 0 }, { name := "isPresent", type := .boolean, accessFlags := 18, slot := 0, constantValue := 0 }, { name := "value", type := .long, accessFlags := 18, slot := 1, constantValue := 0 }]
  methods := #[k3m0, k3m1, k3m2]
  instanceTypes := #[.boolean, .long]
  staticTypes := #[(.object "java/util/OptionalLong")]
  resolved := Array.replicate 138 none
  statics := some 0 }

def pool4 : Array CpInfo := pool [(1, .class_ 2), (0, u "java/lang/Cloneable"), (0, .class_ 4), (0, u "java/lang/Object")] 2

/-- java/lang/Cloneable -/
def k4 : Class := { plain "java/lang/Cloneable" (some 0) with
  accessFlags := 1537
  interfaces := #[]
  cf := some (fileOf pool4 1 #[] #[] 1537 3 #[] #[])
  fields := #[]
  methods := #[]
  instanceTypes := #[]
  staticTypes := #[]
  resolved := Array.replicate 7 none
  statics := none }

def pool5 : Array CpInfo := pool [(1, .class_ 2), (0, u "java/lang/constant/Constable"), (0, .class_ 4), (0, u "java/lang/Object")] 6

/-- java/lang/constant/Constable -/
def k5 : Class := { plain "java/lang/constant/Constable" (some 0) with
  accessFlags := 1537
  interfaces := #[]
  cf := some (fileOf pool5 1 #[] #[] 1537 3 #[] #[])
  fields := #[]
  methods := #[]
  instanceTypes := #[]
  staticTypes := #[]
  resolved := Array.replicate 11 none
  statics := none }

def pool6 : Array CpInfo := pool [(1, .class_ 2), (0, u "java/lang/Comparable"), (0, .class_ 4), (0, u "java/lang/Object")] 7

/-- java/lang/Comparable -/
def k6 : Class := { plain "java/lang/Comparable" (some 0) with
  accessFlags := 1537
  interfaces := #[]
  cf := some (fileOf pool6 1 #[] #[] 1537 3 #[] #[])
  fields := #[]
  methods := #[]
  instanceTypes := #[]
  staticTypes := #[]
  resolved := Array.replicate 12 none
  statics := none }

def pool7 : Array CpInfo := pool [(1, .class_ 2), (0, u "java/io/Serializable"), (0, .class_ 4), (0, u "java/lang/Object")] 2

/-- java/io/Serializable -/
def k7 : Class := { plain "java/io/Serializable" (some 0) with
  accessFlags := 1537
  interfaces := #[]
  cf := some (fileOf pool7 1 #[] #[] 1537 3 #[] #[])
  fields := #[]
  methods := #[]
  instanceTypes := #[]
  staticTypes := #[]
  resolved := Array.replicate 7 none
  statics := none }

def pool8 : Array CpInfo := pool [(2, .class_ 4), (1, u "java/lang/Enum"), (0, u "name"), (0, u "Ljava/lang/String;"), (2, u "ordinal"), (0, u "I"), (1, .class_ 14), (1, u "java/lang/Object"), (4, u "hash"), (86, .class_ 108), (1, u "java/lang/Enum$EnumDesc"), (2, .class_ 112), (0, u "java/lang/constant/Constable"), (0, .class_ 114), (0, u "java/lang/Comparable"), (0, .class_ 116), (0, u "java/io/Serializable")] 87

/-- java/lang/Enum -/
def k8 : Class := { plain "java/lang/Enum" (some 0) with
  accessFlags := 1057
  interfaces := #[5, 6, 7]
  cf := some (fileOf pool8 2 #[.nestMembers #[106]] #[] 1057 12 #[111, 113, 115] #[{ accessFlags := 18, nameIndex := 5, descriptorIndex := 6, attributes := #[] }, { accessFlags := 18, nameIndex := 9, descriptorIndex := 10, attributes := #[] }, { accessFlags := 2, nameIndex := 19, descriptorIndex := 10, attributes := #[] }])
  fields := #[{ name := "name", type := (.object "java/lang/String"), accessFlags := 18, slot := 0, constantValue := 0 }, { name := "ordinal", type := .int, accessFlags := 18, slot := 1, constantValue := 0 }, { name := "hash", type := .int, accessFlags := 2, slot := 2, constantValue := 0 }]
  methods := #[]
  instanceTypes := #[(.object "java/lang/String"), .int, .int]
  staticTypes := #[]
  resolved := Array.replicate 204 none
  statics := none }

def pool9 : Array CpInfo := pool [(1, .class_ 2), (0, u "com/example/aturan/aturan/rules/IgnoreReason"), (2, u "PACKAGE_WITHOUT_CERTIFICATE"), (0, u "Lcom/example/aturan/aturan/rules/IgnoreReason;"), (0, .fieldref 1 8), (0, .nameAndType 9 6), (0, u "EMPTY_CERTIFICATE_HASH"), (0, .fieldref 1 11), (0, .nameAndType 12 6), (0, u "HASH_LENGTH"), (2, u "OTHER_APPLET_AID"), (2, u "NO_PERMISSION_MASK"), (2, u "$VALUES"), (0, u "[Lcom/example/aturan/aturan/rules/IgnoreReason;"), (6, .class_ 31), (1, u "java/lang/Enum"), (6, .methodref 39 40), (0, .class_ 41), (0, .nameAndType 42 43), (0, u "com/example/aturan/aturan/rules/HashAlgorithm"), (0, u "forLength"), (0, u "(I)Ljava/util/Optional;"), (0, .methodref 45 46), (0, .class_ 47), (0, .nameAndType 48 49), (0, u "java/util/Optional"), (0, u "isEmpty"), (0, u "()Z"), (2, u "CARRIER_PRIVILEGE_AID"), (0, u "[B"), (23, u "firstFor"), (0, u "([B[B)Lcom/example/aturan/aturan/rules/IgnoreReason;")] 5

def k9c0 : Code := { maxStack := 2, maxLocals := 3, code := prog_48_method_4_code, exceptionTable := #[], attributes := #[] }
def k9m0 : Method := { name := "firstFor", desc := "([B[B)Lcom/example/aturan/aturan/rules/IgnoreReason;", sig := { parameters := [(.array .byte), (.array .byte)], returnType := some (.object "com/example/aturan/aturan/rules/IgnoreReason") }, accessFlags := 8, code := some k9c0 }
/-- com/example/aturan/aturan/rules/IgnoreReason -/
def k9 : Class := { plain "com/example/aturan/aturan/rules/IgnoreReason" (some 8) with
  accessFlags := 16433
  interfaces := #[]
  cf := some (fileOf pool9 1 #[] #[{ accessFlags := 8, nameIndex := 77, descriptorIndex := 78, attributes := #[] }] 16433 29 #[] #[{ accessFlags := 16409, nameIndex := 5, descriptorIndex := 6, attributes := #[] }, { accessFlags := 16409, nameIndex := 9, descriptorIndex := 6, attributes := #[] }, { accessFlags := 16409, nameIndex := 12, descriptorIndex := 6, attributes := #[] }, { accessFlags := 16409, nameIndex := 15, descriptorIndex := 6, attributes := #[] }, { accessFlags := 16409, nameIndex := 18, descriptorIndex := 6, attributes := #[] }, { accessFlags := 26, nameIndex := 52, descriptorIndex := 53, attributes := #[] }, { accessFlags := 4122, nameIndex := 21, descriptorIndex := 22, attributes := #[] }])
  fields := #[{ name := "PACKAGE_WITHOUT_CERTIFICATE", type := (.object "com/example/aturan/aturan/rules/IgnoreReason"), accessFlags := 16409, slot := 0, constantValue := 0 }, { name := "EMPTY_CERTIFICATE_HASH", type := (.object "com/example/aturan/aturan/rules/IgnoreReason"), accessFlags := 16409, slot := 1, constantValue := 0 }, { name := "HASH_LENGTH", type := (.object "com/example/aturan/aturan/rules/IgnoreReason"), accessFlags := 16409, slot := 2, constantValue := 0 }, { name := "OTHER_APPLET_AID", type := (.object "com/example/aturan/aturan/rules/IgnoreReason"), accessFlags := 16409, slot := 3, constantValue := 0 }, { name := "NO_PERMISSION_MASK", type := (.object "com/example/aturan/aturan/rules/IgnoreReason"), accessFlags := 16409, slot := 4, constantValue := 0 }, { name := "CARRIER_PRIVILEGE_AID", type := (.array .byte), accessFlags := 26, slot := 5, constantValue := 0 }, { name := "$VALUES", type := (.array (.object "com/example/aturan/aturan/rules/IgnoreReason")), accessFlags := 4122, slot := 6, constantValue := 0 }]
  methods := #[k9m0]
  instanceTypes := #[(.object "java/lang/String"), .int, .int]
  staticTypes := #[(.object "com/example/aturan/aturan/rules/IgnoreReason"), (.object "com/example/aturan/aturan/rules/IgnoreReason"), (.object "com/example/aturan/aturan/rules/IgnoreReason"), (.object "com/example/aturan/aturan/rules/IgnoreReason"), (.object "com/example/aturan/aturan/rules/IgnoreReason"), (.array .byte), (.array (.object "com/example/aturan/aturan/rules/IgnoreReason"))]
  resolved := Array.replicate 84 none
  statics := some 1 }

def pool10 : Array CpInfo := pool [(1, .methodref 2 3), (0, .class_ 4), (0, .nameAndType 5 6), (0, u "java/lang/Object"), (0, u "<init>"), (0, u "()V"), (0, .methodref 8 9), (0, .class_ 10), (0, .nameAndType 11 12), (0, u "[B"), (0, u "clone"), (0, u "()Ljava/lang/Object;"), (0, .fieldref 14 15), (0, .class_ 16), (0, .nameAndType 17 10), (0, u "com/example/aturan/aturan/rules/AccessRule"), (0, u "aid"), (0, .fieldref 14 19), (0, .nameAndType 20 10), (0, u "certificateHash"), (0, .fieldref 14 22), (0, .nameAndType 23 24), (0, u "packageName"), (0, u "Ljava/lang/String;"), (0, .fieldref 14 26), (0, .nameAndType 27 28), (0, u "apduRule"), (0, u "Lcom/example/aturan/aturan/rules/ApduRule;"), (0, .fieldref 14 30), (0, .nameAndType 31 32), (0, u "nfcRule"), (0, u "Lcom/example/aturan/aturan/rules/Access;"), (0, .fieldref 14 34), (0, .nameAndType 35 36), (0, u "permissions"), (0, u "Ljava/util/OptionalLong;"), (0, .fieldref 14 38), (0, .nameAndType 39 40), (0, u "ignoreReason"), (0, u "Lcom/example/aturan/aturan/rules/IgnoreReason;"), (0, .methodref 42 43), (0, .class_ 44), (0, .nameAndType 45 46), (0, u "java/util/Optional"), (0, u "ofNullable"), (0, u "(Ljava/lang/Object;)Ljava/util/Optional;"), (1, .nameAndType 49 50), (0, u "apply"), (0, u "()Ljava/util/function/Function;"), (0, .methodref 42 52), (0, .nameAndType 53 54), (0, u "map"), (0, u "(Ljava/util/function/Function;)Ljava/util/Optional;"), (0, .invokeDynamic 1 48), (0, .methodref 42 57), (0, .nameAndType 58 59), (0, u "empty"), (0, u "()Ljava/util/Optional;"), (0, .methodref 61 62), (0, .class_ 63), (0, .nameAndType 64 65), (0, u "com/example/aturan/aturan/rules/HashAlgorithm"), (0, u "forLength"), (0, u "(I)Ljava/util/Optional;"), (0, u "MAX_PER_CARD"), (0, u "I"), (2, u "([B[BLjava/lang/String;Lcom/example/aturan/aturan/rules/ApduRule;Lcom/example/aturan/aturan/rules/Access;Ljava/util/OptionalLong;Lcom/example/aturan/aturan/rules/IgnoreReason;)V"), (16, u "getCertificateHash"), (0, u "getAlgorithm"), (11, u "lambda$getCertificateHash$1"), (0, u "(Ljava/lang/Object;)[B"), (4, .methodType 107), (0, u "(Ljava/lang/Object;)Ljava/lang/Object;"), (3, .methodType 112), (0, u "([B)[B"), (0, .methodHandle 6 114), (0, .methodref 14 115), (0, .nameAndType 100 101), (0, .methodHandle 6 117), (0, .methodref 118 119), (0, .class_ 120), (0, .nameAndType 121 122), (0, u "java/lang/invoke/LambdaMetafactory"), (0, u "metafactory"), (0, u "(Ljava/lang/invoke/MethodHandles$Lookup;Ljava/lang/String;Ljava/lang/invoke/MethodType;Ljava/lang/invoke/MethodType;Ljava/lang/invoke/MethodHandle;Ljava/lang/invoke/MethodType;)Ljava/lang/invoke/CallSite;")] 6

def k10c0 : Code := { maxStack := 2, maxLocals := 8, code := prog_32_method_1_code, exceptionTable := #[], attributes := #[] }
def k10m0 : Method := { name := "<init>", desc := "([B[BLjava/lang/String;Lcom/example/aturan/aturan/rules/ApduRule;Lcom/example/aturan/aturan/rules/Access;Ljava/util/OptionalLong;Lcom/example/aturan/aturan/rules/IgnoreReason;)V", sig := { parameters := [(.array .byte), (.array .byte), (.object "java/lang/String"), (.object "com/example/aturan/aturan/rules/ApduRule"), (.object "com/example/aturan/aturan/rules/Access"), (.object "java/util/OptionalLong"), (.object "com/example/aturan/aturan/rules/IgnoreReason")], returnType := none }, accessFlags := 0, code := some k10c0 }
def k10c1 : Code := { maxStack := 2, maxLocals := 1, code := prog_32_method_3_code, exceptionTable := #[], attributes := #[] }
def k10m1 : Method := { name := "getCertificateHash", desc := "()Ljava/util/Optional;", sig := { parameters := [], returnType := some (.object "java/util/Optional") }, accessFlags := 1, code := some k10c1 }
def k10c2 : Code := { maxStack := 1, maxLocals := 1, code := prog_32_method_4_code, exceptionTable := #[], attributes := #[] }
def k10m2 : Method := { name := "getAlgorithm", desc := "()Ljava/util/Optional;", sig := { parameters := [], returnType := some (.object "java/util/Optional") }, accessFlags := 1, code := some k10c2 }
def k10c3 : Code := { maxStack := 1, maxLocals := 1, code := prog_32_method_10_code, exceptionTable := #[], attributes := #[] }
def k10m3 : Method := { name := "lambda$getCertificateHash$1", desc := "(Ljava/lang/Object;)[B", sig := { parameters := [(.object "java/lang/Object")], returnType := some (.array .byte) }, accessFlags := 4106, code := some k10c3 }
/-- com/example/aturan/aturan/rules/AccessRule -/
def k10 : Class := { plain "com/example/aturan/aturan/rules/AccessRule" (some 0) with
  accessFlags := 33
  interfaces := #[]
  cf := some (fileOf pool10 14 #[.bootstrapMethods #[⟨0, #[]⟩, ⟨116, #[106, 113, 111]⟩]] #[{ accessFlags := 0, nameIndex := 5, descriptorIndex := 70, attributes := #[] }, { accessFlags := 1, nameIndex := 87, descriptorIndex := 59, attributes := #[] }, { accessFlags := 1, nameIndex := 88, descriptorIndex := 59, attributes := #[] }, { accessFlags := 4106, nameIndex := 100, descriptorIndex := 101, attributes := #[] }] 33 2 #[] #[{ accessFlags := 25, nameIndex := 66, descriptorIndex := 67, attributes := #[] }, { accessFlags := 18, nameIndex := 17, descriptorIndex := 10, attributes := #[] }, { accessFlags := 18, nameIndex := 20, descriptorIndex := 10, attributes := #[] }, { accessFlags := 18, nameIndex := 23, descriptorIndex := 24, attributes := #[] }, { accessFlags := 18, nameIndex := 27, descriptorIndex := 28, attributes := #[] }, { accessFlags := 18, nameIndex := 31, descriptorIndex := 32, attributes := #[] }, { accessFlags := 18, nameIndex := 35, descriptorIndex := 36, attributes := #[] }, { accessFlags := 18, nameIndex := 39, descriptorIndex := 40, attributes := #[] }])
  fields := #[{ name := "MAX_PER_CARD", type := .int, accessFlags := 25, slot := 0, constantValue := 0 }, { name := "aid", type := (.array .byte), accessFlags := 18, slot := 0, constantValue := 0 }, { name := "certificateHash", type := (.array .byte), accessFlags := 18, slot := 1, constantValue := 0 }, { name := "packageName", type := (.object "java/lang/String"), accessFlags := 18, slot := 2, constantValue := 0 }, { name := "apduRule", type := (.object "com/example/aturan/aturan/rules/ApduRule"), accessFlags := 18, slot := 3, constantValue := 0 }, { name := "nfcRule", type := (.object "com/example/aturan/aturan/rules/Access"), accessFlags := 18, slot := 4, constantValue := 0 }, { name := "permissions", type := (.object "java/util/OptionalLong"), accessFlags := 18, slot := 5, constantValue := 0 }, { name := "ignoreReason", type := (.object "com/example/aturan/aturan/rules/IgnoreReason"), accessFlags := 18, slot := 6, constantValue := 0 }]
  methods := #[k10m0, k10m1, k10m2, k10m3]
  instanceTypes := #[(.array .byte), (.array .byte), (.object "java/lang/String"), (.object "com/example/aturan/aturan/rules/ApduRule"), (.object "com/example/aturan/aturan/rules/Access"), (.object "java/util/OptionalLong"), (.object "com/example/aturan/aturan/rules/IgnoreReason")]
  staticTypes := #[.int]
  resolved := Array.replicate 129 none
  callSites := [(1, 7, .constant 4)]
  statics := none }

def pool11 : Array CpInfo := pool [(1, .fieldref 2 3), (0, .class_ 4), (0, .nameAndType 5 6), (0, u "java/util/Optional"), (0, u "EMPTY"), (0, u "Ljava/util/Optional;"), (0, .methodref 8 9), (0, .class_ 10), (0, .nameAndType 11 12), (0, u "java/lang/Object"), (0, u "<init>"), (0, u "()V"), (0, .fieldref 2 14), (0, .nameAndType 15 16), (0, u "value"), (0, u "Ljava/lang/Object;"), (0, .methodref 18 19), (0, .class_ 20), (0, .nameAndType 21 22), (0, u "java/util/Objects"), (0, u "requireNonNull"), (0, u "(Ljava/lang/Object;)Ljava/lang/Object;"), (0, .methodref 2 24), (0, .nameAndType 11 25), (0, u "(Ljava/lang/Object;)V"), (17, .methodref 2 44), (0, .nameAndType 45 46), (0, u "isEmpty"), (0, u "()Z"), (8, u "empty"), (0, u "()Ljava/util/Optional;"), (0, .interfaceMethodref 58 59), (0, .class_ 60), (0, .nameAndType 61 22), (0, u "java/util/function/Function"), (0, u "apply"), (0, .methodref 2 63), (0, .nameAndType 64 65), (0, u "ofNullable"), (0, u "(Ljava/lang/Object;)Ljava/util/Optional;"), (16, u "of"), (63, u "map"), (0, u "(Ljava/util/function/Function;)Ljava/util/Optional;"), (17, u "orElse")] 21

def k11c0 : Code := { maxStack := 1, maxLocals := 1, code := jdk_32_method_1_code, exceptionTable := #[], attributes := #[] }
def k11m0 : Method := { name := "empty", desc := "()Ljava/util/Optional;", sig := { parameters := [], returnType := some (.object "java/util/Optional") }, accessFlags := 9, code := some k11c0 }
def k11c1 : Code := { maxStack := 2, maxLocals := 2, code := jdk_32_method_2_code, exceptionTable := #[], attributes := #[] }
def k11m1 : Method := { name := "<init>", desc := "(Ljava/lang/Object;)V", sig := { parameters := [(.object "java/lang/Object")], returnType := none }, accessFlags := 2, code := some k11c1 }
def k11c2 : Code := { maxStack := 3, maxLocals := 1, code := jdk_32_method_3_code, exceptionTable := #[], attributes := #[] }
def k11m2 : Method := { name := "of", desc := "(Ljava/lang/Object;)Ljava/util/Optional;", sig := { parameters := [(.object "java/lang/Object")], returnType := some (.object "java/util/Optional") }, accessFlags := 9, code := some k11c2 }
def k11c3 : Code := { maxStack := 3, maxLocals := 1, code := jdk_32_method_4_code, exceptionTable := #[], attributes := #[] }
def k11m3 : Method := { name := "ofNullable", desc := "(Ljava/lang/Object;)Ljava/util/Optional;", sig := { parameters := [(.object "java/lang/Object")], returnType := some (.object "java/util/Optional") }, accessFlags := 9, code := some k11c3 }
def k11c4 : Code := { maxStack := 1, maxLocals := 1, code := jdk_32_method_7_code, exceptionTable := #[], attributes := #[] }
def k11m4 : Method := { name := "isEmpty", desc := "()Z", sig := { parameters := [], returnType := some .boolean }, accessFlags := 1, code := some k11c4 }
def k11c5 : Code := { maxStack := 2, maxLocals := 2, code := jdk_32_method_11_code, exceptionTable := #[], attributes := #[] }
def k11m5 : Method := { name := "map", desc := "(Ljava/util/function/Function;)Ljava/util/Optional;", sig := { parameters := [(.object "java/util/function/Function")], returnType := some (.object "java/util/Optional") }, accessFlags := 1, code := some k11c5 }
def k11c6 : Code := { maxStack := 1, maxLocals := 2, code := jdk_32_method_15_code, exceptionTable := #[], attributes := #[] }
def k11m6 : Method := { name := "orElse", desc := "(Ljava/lang/Object;)Ljava/lang/Object;", sig := { parameters := [(.object "java/lang/Object")], returnType := some (.object "java/lang/Object") }, accessFlags := 1, code := some k11c6 }
/-- java/util/Optional -/
def k11 : Class := { plain "java/util/Optional" (some 0) with
  accessFlags := 49
  interfaces := #[]
  cf := some (fileOf pool11 2 #[] #[{ accessFlags := 9, nameIndex := 55, descriptorIndex := 56, attributes := #[] }, { accessFlags := 2, nameIndex := 11, descriptorIndex := 25, attributes := #[] }, { accessFlags := 9, nameIndex := 82, descriptorIndex := 65, attributes := #[] }, { accessFlags := 9, nameIndex := 64, descriptorIndex := 65, attributes := #[] }, { accessFlags := 1, nameIndex := 45, descriptorIndex := 46, attributes := #[] }, { accessFlags := 1, nameIndex := 146, descriptorIndex := 147, attributes := #[] }, { accessFlags := 1, nameIndex := 165, descriptorIndex := 22, attributes := #[] }] 49 8 #[] #[{ accessFlags := 26, nameIndex := 5, descriptorIndex := 6, attributes := #[] }, { accessFlags := 18, nameIndex := 15, descriptorIndex := 16, attributes := #[] }])
  fields := #[{ name := "EMPTY", type := (.object "java/util/Optional"), accessFlags := 26, slot := 0, constantValue := 0 }, { name := "value", type := (.object "java/lang/Object"), accessFlags := 18, slot := 0, constantValue := 0 }]
  methods := #[k11m0, k11m1, k11m2, k11m3, k11m4, k11m5, k11m6]
  instanceTypes := #[(.object "java/lang/Object")]
  staticTypes := #[(.object "java/util/Optional")]
  resolved := Array.replicate 187 none
  statics := some 2 }

def pool12 : Array CpInfo := pool [(6, u "(Ljava/lang/Object;)Ljava/lang/Object;"), (2, u "apply"), (6, .class_ 18), (1, u "java/util/function/Function"), (0, .class_ 20), (0, u "java/lang/Object")] 56

def k12m0 : Method := { name := "apply", desc := "(Ljava/lang/Object;)Ljava/lang/Object;", sig := { parameters := [(.object "java/lang/Object")], returnType := some (.object "java/lang/Object") }, accessFlags := 1025, code := none }
/-- java/util/function/Function -/
def k12 : Class := { plain "java/util/function/Function" (some 0) with
  accessFlags := 1537
  interfaces := #[]
  cf := some (fileOf pool12 16 #[] #[{ accessFlags := 1025, nameIndex := 9, descriptorIndex := 6, attributes := #[] }] 1537 19 #[] #[])
  fields := #[]
  methods := #[k12m0]
  instanceTypes := #[]
  staticTypes := #[]
  resolved := Array.replicate 77 none
  statics := none }

def pool13 : Array CpInfo := pool [(2, .class_ 4), (1, u "java/lang/Object"), (0, u "<init>"), (0, u "()V"), (35, .class_ 44), (1, u "java/util/Objects"), (0, u "requireNonNull"), (0, u "(Ljava/lang/Object;)Ljava/lang/Object;")] 137

def k13m0 : Method := { name := "<init>", desc := "()V", sig := { parameters := [], returnType := none }, accessFlags := 2, code := none }
def k13c1 : Code := { maxStack := 2, maxLocals := 1, code := jdk_31_method_10_code, exceptionTable := #[], attributes := #[] }
def k13m1 : Method := { name := "requireNonNull", desc := "(Ljava/lang/Object;)Ljava/lang/Object;", sig := { parameters := [(.object "java/lang/Object")], returnType := some (.object "java/lang/Object") }, accessFlags := 9, code := some k13c1 }
/-- java/util/Objects -/
def k13 : Class := { plain "java/util/Objects" (some 0) with
  accessFlags := 49
  interfaces := #[]
  cf := some (fileOf pool13 42 #[] #[{ accessFlags := 2, nameIndex := 5, descriptorIndex := 6, attributes := #[] }, { accessFlags := 9, nameIndex := 45, descriptorIndex := 46, attributes := #[] }] 49 2 #[] #[])
  fields := #[]
  methods := #[k13m0, k13m1]
  instanceTypes := #[]
  staticTypes := #[]
  resolved := Array.replicate 184 none
  statics := none }

def pool14 : Array CpInfo := pool [(1, .class_ 2), (0, u "com/example/aturan/aturan/rules/HashAlgorithm"), (2, u "SHA_1"), (0, u "Lcom/example/aturan/aturan/rules/HashAlgorithm;"), (2, u "SHA_256"), (0, .fieldref 1 11), (0, .nameAndType 12 13), (0, u "$VALUES"), (0, u "[Lcom/example/aturan/aturan/rules/HashAlgorithm;"), (0, .methodref 15 16), (0, .class_ 13), (0, .nameAndType 17 18), (0, u "clone"), (0, u "()Ljava/lang/Object;"), (1, .class_ 22), (1, u "java/lang/Enum"), (8, u "standardName"), (0, u "Ljava/lang/String;"), (0, .fieldref 1 34), (0, .nameAndType 35 36), (0, u "length"), (0, u "I"), (0, .methodref 1 38), (0, .nameAndType 39 40), (0, u "values"), (0, u "()[Lcom/example/aturan/aturan/rules/HashAlgorithm;"), (0, .methodref 42 43), (0, .class_ 44), (0, .nameAndType 45 46), (0, u "java/util/Optional"), (0, u "of"), (0, u "(Ljava/lang/Object;)Ljava/util/Optional;"), (0, .methodref 42 48), (0, .nameAndType 49 50), (0, u "empty"), (0, u "()Ljava/util/Optional;"), (21, u "forLength"), (0, u "(I)Ljava/util/Optional;")] 7

def k14c0 : Code := { maxStack := 1, maxLocals := 0, code := prog_47_method_1_code, exceptionTable := #[], attributes := #[] }
def k14m0 : Method := { name := "values", desc := "()[Lcom/example/aturan/aturan/rules/HashAlgorithm;", sig := { parameters := [], returnType := some (.array (.object "com/example/aturan/aturan/rules/HashAlgorithm")) }, accessFlags := 9, code := some k14c0 }
def k14c1 : Code := { maxStack := 2, maxLocals := 5, code := prog_47_method_6_code, exceptionTable := #[], attributes := #[] }
def k14m1 : Method := { name := "forLength", desc := "(I)Ljava/util/Optional;", sig := { parameters := [.int], returnType := some (.object "java/util/Optional") }, accessFlags := 9, code := some k14c1 }
/-- com/example/aturan/aturan/rules/HashAlgorithm -/
def k14 : Class := { plain "com/example/aturan/aturan/rules/HashAlgorithm" (some 8) with
  accessFlags := 16433
  interfaces := #[]
  cf := some (fileOf pool14 1 #[] #[{ accessFlags := 9, nameIndex := 39, descriptorIndex := 40, attributes := #[] }, { accessFlags := 9, nameIndex := 72, descriptorIndex := 73, attributes := #[] }] 16433 20 #[] #[{ accessFlags := 16409, nameIndex := 5, descriptorIndex := 6, attributes := #[] }, { accessFlags := 16409, nameIndex := 9, descriptorIndex := 6, attributes := #[] }, { accessFlags := 18, nameIndex := 31, descriptorIndex := 32, attributes := #[] }, { accessFlags := 18, nameIndex := 35, descriptorIndex := 36, attributes := #[] }, { accessFlags := 4122, nameIndex := 12, descriptorIndex := 13, attributes := #[] }])
  fields := #[{ name := "SHA_1", type := (.object "com/example/aturan/aturan/rules/HashAlgorithm"), accessFlags := 16409, slot := 0, constantValue := 0 }, { name := "SHA_256", type := (.object "com/example/aturan/aturan/rules/HashAlgorithm"), accessFlags := 16409, slot := 1, constantValue := 0 }, { name := "standardName", type := (.object "java/lang/String"), accessFlags := 18, slot := 3, constantValue := 0 }, { name := "length", type := .int, accessFlags := 18, slot := 4, constantValue := 0 }, { name := "$VALUES", type := (.array (.object "com/example/aturan/aturan/rules/HashAlgorithm")), accessFlags := 4122, slot := 2, constantValue := 0 }]
  methods := #[k14m0, k14m1]
  instanceTypes := #[(.object "java/lang/String"), .int, .int, (.object "java/lang/String"), .int]
  staticTypes := #[(.object "com/example/aturan/aturan/rules/HashAlgorithm"), (.object "com/example/aturan/aturan/rules/HashAlgorithm"), (.array (.object "com/example/aturan/aturan/rules/HashAlgorithm"))]
  resolved := Array.replicate 81 none
  statics := some 3 }

/-- the primitive byte -/
def k15 : Class := { plain "byte" none with kind := .primitive 'B', accessFlags := 0x411 }
/-- [B -/
def k16 : Class := { plain "[B" (some 0) with kind := .array 15 .byte, interfaces := #[4, 7], accessFlags := 1041 }

/-- the primitive int -/
def k17 : Class := { plain "int" none with kind := .primitive 'I', accessFlags := 0x411 }
/-- [I -/
def k18 : Class := { plain "[I" (some 0) with kind := .array 17 .int, interfaces := #[4, 7], accessFlags := 1041 }

/-- [Lcom/example/aturan/aturan/rules/HashAlgorithm; -/
def k19 : Class := { plain "[Lcom/example/aturan/aturan/rules/HashAlgorithm;" (some 0) with kind := .array 14 (.object "com/example/aturan/aturan/rules/HashAlgorithm"), interfaces := #[4, 7], accessFlags := 1041 }

def classes0 : Array Class := #[k0, k1, k2, k3, k4, k5, k6, k7, k8, k9, k10, k11, k12, k13, k14, k15, k16, k17, k18, k19]
/-- the class that the rule has made for the site at 7 of com/example/aturan/aturan/rules/AccessRule.getCertificateHash -/
def k20 : Class := Jvm.LamKit.madeRec { classes := classes0 } "com/example/aturan/aturan/rules/AccessRule" (Jvm.Lambda.Shape.mk "java/util/function/Function" "apply" (Jvm.ClassFile.MethodDescriptor.mk ([(Jvm.ClassFile.FieldType.object "java/lang/Object")] : List Jvm.ClassFile.FieldType) (Option.some (Jvm.ClassFile.FieldType.object "java/lang/Object"))) ([] : List Jvm.ClassFile.FieldType) (6 : Nat) "com/example/aturan/aturan/rules/AccessRule" "lambda$getCertificateHash$1" (Jvm.ClassFile.MethodDescriptor.mk ([(Jvm.ClassFile.FieldType.object "java/lang/Object")] : List Jvm.ClassFile.FieldType) (Option.some (Jvm.ClassFile.FieldType.array Jvm.ClassFile.FieldType.byte))) false (Jvm.ClassFile.MethodDescriptor.mk ([(Jvm.ClassFile.FieldType.array Jvm.ClassFile.FieldType.byte)] : List Jvm.ClassFile.FieldType) (Option.some (Jvm.ClassFile.FieldType.array Jvm.ClassFile.FieldType.byte)))) 20

def heap : Heap := #[{ cls := 3, slots := #[.ref 11], vm := .statics 3 },
  { cls := 9, slots := #[.null, .ref 8, .ref 10, .null, .ref 9, .null, .null], vm := .statics 9 },
  { cls := 11, slots := #[.ref 12], vm := .statics 11 },
  { cls := 14, slots := #[.ref 6, .ref 7, .ref 5], vm := .statics 14 },
  { cls := 20, slots := #[], vm := .none },
  { cls := 19, slots := #[.ref 6, .ref 7], vm := .none },
  { cls := 14, slots := #[.null, .int 0, .int 0, .null, .int 20], vm := .none },
  { cls := 14, slots := #[.null, .int 1, .int 0, .null, .int 32], vm := .none },
  { cls := 9, slots := #[.null, .int 1, .int 0], vm := .none },
  { cls := 9, slots := #[.null, .int 4, .int 0], vm := .none },
  { cls := 9, slots := #[.null, .int 2, .int 0], vm := .none },
  { cls := 3, slots := #[.int 0, .long 0], vm := .none },
  { cls := 11, slots := #[.null], vm := .none }]
def classes : Array Class := #[k0, k1, k2, k3, k4, k5, k6, k7, k8, k9, k10, k11, k12, k13, k14, k15, k16, k17, k18, k19, k20]
def interned : List (Array UInt16 × Addr) := []
def slotsUsed : Nat := 36
def theMethod : MethodId := ⟨1, 2⟩
def args0 : Array Value := #[.int 3, .int 7, .int 9, .int 2, .int 1]
def aboutOver (below : List Frame) : State where
  vm := { classes := classes, interned := interned.toArray }
  heap := heap
  slotsUsed := slotsUsed
  threads := #[{ frames := .invoking theMethod args0 :: below }]
def below0 : List Frame := [.native { method := ⟨0, 0⟩, args := #[] }]
def about1 : State := aboutOver below0
def p0 : Program := .bare "" "" ""
def e0 : Env := launch0.env 0 0 0
theorem w_frames : about1.frames = Frame.invoking theMethod args0 :: below0 := rfl
set_option maxRecDepth 65536 in
theorem w_args : argsFit about1.vm theMethod args0 = true := by decide +kernel
set_option maxRecDepth 65536 in
theorem w_heap : heapFits about1 = true := by decide +kernel
set_option maxRecDepth 65536 in
theorem w_runnable : about1.curStatus? = some .runnable := by decide +kernel
set_option maxRecDepth 65536 in
theorem w_alone : about1.alone = true := by decide +kernel
set_option maxRecDepth 65536 in
theorem w_named : about1.methodNamed? x = some theMethod := by decide +kernel
set_option maxRecDepth 65536 in
theorem w_hears : about1.hears theMethod below0 = true := by decide +kernel
set_option maxRecDepth 65536 in
theorem w_ripe : about1.ripe theMethod args0 below0 = true := by decide +kernel
theorem w_running : about1.status = .running := rfl
set_option maxRecDepth 65536 in
theorem w_room : about1.hasRoom e0.platform room_1 = true :=
  launch0.hasRoom_least _ room_1 (by decide +kernel) (by decide +kernel) (by decide +kernel) (by decide +kernel) (by decide +kernel) (by decide +kernel)
theorem allAtoms_all (ts : List Jvm.Cond) (a : Array Jvm.Value) (st : Jvm.State) : (allAtoms ts).before a st = ts.all (fun c => c.before a st) := by
  induction ts with
  | nil => rfl
  | cons c t ih =>
    show (Jvm.Cond.and c (allAtoms t)).before a st = _
    rw [Jvm.Cond.before_and, ih, List.all_cons]
def words1 : List Jvm.Cond := Jvm.Cond.code x code maxLocals ret :: tables_1
/-- a 'code' word, met by the world's own term for the bytes: nothing is compared byte by byte -/
theorem code_word {y : MethodName} {bytes : ByteArray} {mx : Nat} {rt : Option FieldType} {a : Array Value} {s : State} {m : MethodId} {meth : Method} {c : Code} (h1 : s.methodNamed? y = some m) (h2 : s.vm.method? m = some meth) (h3 : meth.code = some c) (h4 : c.code = bytes)
    (h5 : (c.maxLocals == mx && c.exceptionTable.isEmpty && decide (c.maxStack ≤ mostOperands) && decide (meth.sig.returnType = rt) && !meth.locks && decide (parseMethodDescriptor y.desc = some meth.sig)) = true) : (Jvm.Cond.code y bytes mx rt).before a s = true := by
  simp only [Bool.and_eq_true, beq_iff_eq, Bool.not_eq_true', decide_eq_true_eq] at h5
  obtain ⟨⟨⟨⟨⟨g1, g2⟩, g3⟩, g4⟩, g5⟩, g6⟩ := h5
  simp [Cond.before, Cond.holds, Cond.value, h1, h2, h3, h4, g1, g2, g3, g4, g5, g6]
def isCode : Jvm.Cond → Bool
  | .code _ _ _ _ => true
  | _ => false
theorem all_split {L : List Jvm.Cond} {P : Jvm.Cond → Bool} (h1 : L.all (fun c => isCode c || P c) = true) (h2 : ∀ c ∈ L.filter isCode, P c = true) : L.all P = true := by
  refine List.all_eq_true.mpr fun c hc => ?_
  have h := List.all_eq_true.mp h1 c hc
  rcases Bool.eq_false_or_eq_true (isCode c) with hi | hi
  · exact h2 c (List.mem_filter.mpr ⟨hc, hi⟩)
  · simpa [hi] using h
set_option maxRecDepth 65536 in
theorem w_c0 : (Jvm.Cond.code x code maxLocals ret).before args0 about1 = true := code_word (m := ⟨1, 2⟩) (meth := k1m2) (c := k1c2) (by decide +kernel) rfl rfl rfl (by decide +kernel)
set_option maxRecDepth 65536 in
theorem w_c1 : (Jvm.Cond.code ({ cls := "com/example/aturan/aturan/rules/AraMRuleBuilderCertificateHashPinLaw", name := "lengthOf", desc := "(I)I" } : Jvm.MethodName) method_2_code (2 : Nat) (Option.some Jvm.ClassFile.FieldType.int)).before args0 about1 = true := code_word (m := ⟨1, 1⟩) (meth := k1m1) (c := k1c1) (by decide +kernel) rfl rfl rfl (by decide +kernel)
set_option maxRecDepth 65536 in
theorem w_c2 : (Jvm.Cond.code ({ cls := "com/example/aturan/aturan/rules/AraMRuleBuilder", name := "<init>", desc := "()V" } : Jvm.MethodName) prog_37_method_1_code (1 : Nat) (Option.none : Option Jvm.ClassFile.FieldType)).before args0 about1 = true := code_word (m := ⟨2, 0⟩) (meth := k2m0) (c := k2c0) (by decide +kernel) rfl rfl rfl (by decide +kernel)
set_option maxRecDepth 65536 in
theorem w_c3 : (Jvm.Cond.code ({ cls := "java/lang/Object", name := "<init>", desc := "()V" } : Jvm.MethodName) object_method_1_code (1 : Nat) (Option.none : Option Jvm.ClassFile.FieldType)).before args0 about1 = true := code_word (m := ⟨0, 0⟩) (meth := k0m0) (c := k0c0) (by decide +kernel) rfl rfl rfl (by decide +kernel)
set_option maxRecDepth 65536 in
theorem w_c4 : (Jvm.Cond.code ({ cls := "java/util/OptionalLong", name := "empty", desc := "()Ljava/util/OptionalLong;" } : Jvm.MethodName) jdk_2650_method_2_code (0 : Nat) (Option.some (Jvm.ClassFile.FieldType.object "java/util/OptionalLong"))).before args0 about1 = true := code_word (m := ⟨3, 1⟩) (meth := k3m1) (c := k3c1) (by decide +kernel) rfl rfl rfl (by decide +kernel)
set_option maxRecDepth 65536 in
theorem w_c5 : (Jvm.Cond.code ({ cls := "com/example/aturan/aturan/rules/AraMRuleBuilder", name := "certificateHash", desc := "([B)Lcom/example/aturan/aturan/rules/AraMRuleBuilder;" } : Jvm.MethodName) prog_37_method_4_code (2 : Nat) (Option.some (Jvm.ClassFile.FieldType.object "com/example/aturan/aturan/rules/AraMRuleBuilder"))).before args0 about1 = true := code_word (m := ⟨2, 1⟩) (meth := k2m1) (c := k2c1) (by decide +kernel) rfl rfl rfl (by decide +kernel)
set_option maxRecDepth 65536 in
theorem w_c6 : (Jvm.Cond.code ({ cls := "com/example/aturan/aturan/rules/AraMRuleBuilder", name := "build", desc := "()Lcom/example/aturan/aturan/rules/AccessRule;" } : Jvm.MethodName) prog_37_method_9_code (2 : Nat) (Option.some (Jvm.ClassFile.FieldType.object "com/example/aturan/aturan/rules/AccessRule"))).before args0 about1 = true := code_word (m := ⟨2, 2⟩) (meth := k2m2) (c := k2c2) (by decide +kernel) rfl rfl rfl (by decide +kernel)
set_option maxRecDepth 65536 in
theorem w_c7 : (Jvm.Cond.code ({ cls := "com/example/aturan/aturan/rules/IgnoreReason", name := "firstFor", desc := "([B[B)Lcom/example/aturan/aturan/rules/IgnoreReason;" } : Jvm.MethodName) prog_48_method_4_code (3 : Nat) (Option.some (Jvm.ClassFile.FieldType.object "com/example/aturan/aturan/rules/IgnoreReason"))).before args0 about1 = true := code_word (m := ⟨9, 0⟩) (meth := k9m0) (c := k9c0) (by decide +kernel) rfl rfl rfl (by decide +kernel)
set_option maxRecDepth 65536 in
theorem w_c8 : (Jvm.Cond.code ({ cls := "com/example/aturan/aturan/rules/AccessRule", name := "<init>", desc := "([B[BLjava/lang/String;Lcom/example/aturan/aturan/rules/ApduRule;Lcom/example/aturan/aturan/rules/Access;Ljava/util/OptionalLong;Lcom/example/aturan/aturan/rules/IgnoreReason;)V" } : Jvm.MethodName) prog_32_method_1_code (8 : Nat) (Option.none : Option Jvm.ClassFile.FieldType)).before args0 about1 = true := code_word (m := ⟨10, 0⟩) (meth := k10m0) (c := k10c0) (by decide +kernel) rfl rfl rfl (by decide +kernel)
set_option maxRecDepth 65536 in
theorem w_c9 : (Jvm.Cond.code ({ cls := "com/example/aturan/aturan/rules/AccessRule", name := "getCertificateHash", desc := "()Ljava/util/Optional;" } : Jvm.MethodName) prog_32_method_3_code (1 : Nat) (Option.some (Jvm.ClassFile.FieldType.object "java/util/Optional"))).before args0 about1 = true := code_word (m := ⟨10, 1⟩) (meth := k10m1) (c := k10c1) (by decide +kernel) rfl rfl rfl (by decide +kernel)
set_option maxRecDepth 65536 in
theorem w_c10 : (Jvm.Cond.code ({ cls := "java/util/Optional", name := "ofNullable", desc := "(Ljava/lang/Object;)Ljava/util/Optional;" } : Jvm.MethodName) jdk_32_method_4_code (1 : Nat) (Option.some (Jvm.ClassFile.FieldType.object "java/util/Optional"))).before args0 about1 = true := code_word (m := ⟨11, 3⟩) (meth := k11m3) (c := k11c3) (by decide +kernel) rfl rfl rfl (by decide +kernel)
set_option maxRecDepth 65536 in
theorem w_c11 : (Jvm.Cond.code ({ cls := "java/util/Optional", name := "<init>", desc := "(Ljava/lang/Object;)V" } : Jvm.MethodName) jdk_32_method_2_code (2 : Nat) (Option.none : Option Jvm.ClassFile.FieldType)).before args0 about1 = true := code_word (m := ⟨11, 1⟩) (meth := k11m1) (c := k11c1) (by decide +kernel) rfl rfl rfl (by decide +kernel)
set_option maxRecDepth 65536 in
theorem w_c12 : (Jvm.Cond.code ({ cls := "java/util/Optional", name := "map", desc := "(Ljava/util/function/Function;)Ljava/util/Optional;" } : Jvm.MethodName) jdk_32_method_11_code (2 : Nat) (Option.some (Jvm.ClassFile.FieldType.object "java/util/Optional"))).before args0 about1 = true := code_word (m := ⟨11, 5⟩) (meth := k11m5) (c := k11c5) (by decide +kernel) rfl rfl rfl (by decide +kernel)
set_option maxRecDepth 65536 in
theorem w_c13 : (Jvm.Cond.code ({ cls := "java/util/Objects", name := "requireNonNull", desc := "(Ljava/lang/Object;)Ljava/lang/Object;" } : Jvm.MethodName) jdk_31_method_10_code (1 : Nat) (Option.some (Jvm.ClassFile.FieldType.object "java/lang/Object"))).before args0 about1 = true := code_word (m := ⟨13, 1⟩) (meth := k13m1) (c := k13c1) (by decide +kernel) rfl rfl rfl (by decide +kernel)
set_option maxRecDepth 65536 in
theorem w_c14 : (Jvm.Cond.code ({ cls := "java/util/Optional", name := "isEmpty", desc := "()Z" } : Jvm.MethodName) jdk_32_method_7_code (1 : Nat) (Option.some Jvm.ClassFile.FieldType.boolean)).before args0 about1 = true := code_word (m := ⟨11, 4⟩) (meth := k11m4) (c := k11c4) (by decide +kernel) rfl rfl rfl (by decide +kernel)
set_option maxRecDepth 65536 in
theorem w_c15 : (Jvm.Cond.code ({ cls := "com/example/aturan/aturan/rules/AccessRule", name := "lambda$getCertificateHash$1", desc := "(Ljava/lang/Object;)[B" } : Jvm.MethodName) prog_32_method_10_code (1 : Nat) (Option.some (Jvm.ClassFile.FieldType.array Jvm.ClassFile.FieldType.byte))).before args0 about1 = true := code_word (m := ⟨10, 3⟩) (meth := k10m3) (c := k10c3) (by decide +kernel) rfl rfl rfl (by decide +kernel)
set_option maxRecDepth 65536 in
theorem w_c16 : (Jvm.Cond.code ({ cls := "java/util/Optional", name := "orElse", desc := "(Ljava/lang/Object;)Ljava/lang/Object;" } : Jvm.MethodName) jdk_32_method_15_code (2 : Nat) (Option.some (Jvm.ClassFile.FieldType.object "java/lang/Object"))).before args0 about1 = true := code_word (m := ⟨11, 6⟩) (meth := k11m6) (c := k11c6) (by decide +kernel) rfl rfl rfl (by decide +kernel)
set_option maxRecDepth 65536 in
theorem w_c17 : (Jvm.Cond.code ({ cls := "com/example/aturan/aturan/rules/AccessRule", name := "getAlgorithm", desc := "()Ljava/util/Optional;" } : Jvm.MethodName) prog_32_method_4_code (1 : Nat) (Option.some (Jvm.ClassFile.FieldType.object "java/util/Optional"))).before args0 about1 = true := code_word (m := ⟨10, 2⟩) (meth := k10m2) (c := k10c2) (by decide +kernel) rfl rfl rfl (by decide +kernel)
set_option maxRecDepth 65536 in
theorem w_c18 : (Jvm.Cond.code ({ cls := "com/example/aturan/aturan/rules/HashAlgorithm", name := "forLength", desc := "(I)Ljava/util/Optional;" } : Jvm.MethodName) prog_47_method_6_code (5 : Nat) (Option.some (Jvm.ClassFile.FieldType.object "java/util/Optional"))).before args0 about1 = true := code_word (m := ⟨14, 1⟩) (meth := k14m1) (c := k14c1) (by decide +kernel) rfl rfl rfl (by decide +kernel)
set_option maxRecDepth 65536 in
theorem w_c19 : (Jvm.Cond.code ({ cls := "com/example/aturan/aturan/rules/HashAlgorithm", name := "values", desc := "()[Lcom/example/aturan/aturan/rules/HashAlgorithm;" } : Jvm.MethodName) prog_47_method_1_code (0 : Nat) (Option.some (Jvm.ClassFile.FieldType.array (Jvm.ClassFile.FieldType.object "com/example/aturan/aturan/rules/HashAlgorithm")))).before args0 about1 = true := code_word (m := ⟨14, 0⟩) (meth := k14m0) (c := k14c0) (by decide +kernel) rfl rfl rfl (by decide +kernel)
set_option maxRecDepth 65536 in
theorem w_c20 : (Jvm.Cond.code ({ cls := "java/util/Optional", name := "empty", desc := "()Ljava/util/Optional;" } : Jvm.MethodName) jdk_32_method_1_code (1 : Nat) (Option.some (Jvm.ClassFile.FieldType.object "java/util/Optional"))).before args0 about1 = true := code_word (m := ⟨11, 0⟩) (meth := k11m0) (c := k11c0) (by decide +kernel) rfl rfl rfl (by decide +kernel)
set_option maxRecDepth 65536 in
theorem w_c21 : (Jvm.Cond.code ({ cls := "java/util/Optional", name := "of", desc := "(Ljava/lang/Object;)Ljava/util/Optional;" } : Jvm.MethodName) jdk_32_method_3_code (1 : Nat) (Option.some (Jvm.ClassFile.FieldType.object "java/util/Optional"))).before args0 about1 = true := code_word (m := ⟨11, 2⟩) (meth := k11m2) (c := k11c2) (by decide +kernel) rfl rfl rfl (by decide +kernel)
set_option maxRecDepth 65536 in
theorem w_c22 : (Jvm.Cond.code ({ cls := "java/util/OptionalLong", name := "isEmpty", desc := "()Z" } : Jvm.MethodName) jdk_2650_method_7_code (1 : Nat) (Option.some Jvm.ClassFile.FieldType.boolean)).before args0 about1 = true := code_word (m := ⟨3, 2⟩) (meth := k3m2) (c := k3c2) (by decide +kernel) rfl rfl rfl (by decide +kernel)
def codes1 : List Jvm.Cond := [Jvm.Cond.code x code maxLocals ret, Jvm.Cond.code ({ cls := "com/example/aturan/aturan/rules/AraMRuleBuilderCertificateHashPinLaw", name := "lengthOf", desc := "(I)I" } : Jvm.MethodName) method_2_code (2 : Nat) (Option.some Jvm.ClassFile.FieldType.int), Jvm.Cond.code ({ cls := "com/example/aturan/aturan/rules/AraMRuleBuilder", name := "<init>", desc := "()V" } : Jvm.MethodName) prog_37_method_1_code (1 : Nat) (Option.none : Option Jvm.ClassFile.FieldType), Jvm.Cond.code ({ cls := "java/lang/Object", name := "<init>", desc := "()V" } : Jvm.MethodName) object_method_1_code (1 : Nat) (Option.none : Option Jvm.ClassFile.FieldType), Jvm.Cond.code ({ cls := "java/util/OptionalLong", name := "empty", desc := "()Ljava/util/OptionalLong;" } : Jvm.MethodName) jdk_2650_method_2_code (0 : Nat) (Option.some (Jvm.ClassFile.FieldType.object "java/util/OptionalLong")), Jvm.Cond.code ({ cls := "com/example/aturan/aturan/rules/AraMRuleBuilder", name := "certificateHash", desc := "([B)Lcom/example/aturan/aturan/rules/AraMRuleBuilder;" } : Jvm.MethodName) prog_37_method_4_code (2 : Nat) (Option.some (Jvm.ClassFile.FieldType.object "com/example/aturan/aturan/rules/AraMRuleBuilder")), Jvm.Cond.code ({ cls := "com/example/aturan/aturan/rules/AraMRuleBuilder", name := "build", desc := "()Lcom/example/aturan/aturan/rules/AccessRule;" } : Jvm.MethodName) prog_37_method_9_code (2 : Nat) (Option.some (Jvm.ClassFile.FieldType.object "com/example/aturan/aturan/rules/AccessRule")), Jvm.Cond.code ({ cls := "com/example/aturan/aturan/rules/IgnoreReason", name := "firstFor", desc := "([B[B)Lcom/example/aturan/aturan/rules/IgnoreReason;" } : Jvm.MethodName) prog_48_method_4_code (3 : Nat) (Option.some (Jvm.ClassFile.FieldType.object "com/example/aturan/aturan/rules/IgnoreReason")), Jvm.Cond.code ({ cls := "com/example/aturan/aturan/rules/AccessRule", name := "<init>", desc := "([B[BLjava/lang/String;Lcom/example/aturan/aturan/rules/ApduRule;Lcom/example/aturan/aturan/rules/Access;Ljava/util/OptionalLong;Lcom/example/aturan/aturan/rules/IgnoreReason;)V" } : Jvm.MethodName) prog_32_method_1_code (8 : Nat) (Option.none : Option Jvm.ClassFile.FieldType), Jvm.Cond.code ({ cls := "com/example/aturan/aturan/rules/AccessRule", name := "getCertificateHash", desc := "()Ljava/util/Optional;" } : Jvm.MethodName) prog_32_method_3_code (1 : Nat) (Option.some (Jvm.ClassFile.FieldType.object "java/util/Optional")), Jvm.Cond.code ({ cls := "java/util/Optional", name := "ofNullable", desc := "(Ljava/lang/Object;)Ljava/util/Optional;" } : Jvm.MethodName) jdk_32_method_4_code (1 : Nat) (Option.some (Jvm.ClassFile.FieldType.object "java/util/Optional")), Jvm.Cond.code ({ cls := "java/util/Optional", name := "<init>", desc := "(Ljava/lang/Object;)V" } : Jvm.MethodName) jdk_32_method_2_code (2 : Nat) (Option.none : Option Jvm.ClassFile.FieldType), Jvm.Cond.code ({ cls := "java/util/Optional", name := "map", desc := "(Ljava/util/function/Function;)Ljava/util/Optional;" } : Jvm.MethodName) jdk_32_method_11_code (2 : Nat) (Option.some (Jvm.ClassFile.FieldType.object "java/util/Optional")), Jvm.Cond.code ({ cls := "java/util/Objects", name := "requireNonNull", desc := "(Ljava/lang/Object;)Ljava/lang/Object;" } : Jvm.MethodName) jdk_31_method_10_code (1 : Nat) (Option.some (Jvm.ClassFile.FieldType.object "java/lang/Object")), Jvm.Cond.code ({ cls := "java/util/Optional", name := "isEmpty", desc := "()Z" } : Jvm.MethodName) jdk_32_method_7_code (1 : Nat) (Option.some Jvm.ClassFile.FieldType.boolean), Jvm.Cond.code ({ cls := "com/example/aturan/aturan/rules/AccessRule", name := "lambda$getCertificateHash$1", desc := "(Ljava/lang/Object;)[B" } : Jvm.MethodName) prog_32_method_10_code (1 : Nat) (Option.some (Jvm.ClassFile.FieldType.array Jvm.ClassFile.FieldType.byte)), Jvm.Cond.code ({ cls := "java/util/Optional", name := "orElse", desc := "(Ljava/lang/Object;)Ljava/lang/Object;" } : Jvm.MethodName) jdk_32_method_15_code (2 : Nat) (Option.some (Jvm.ClassFile.FieldType.object "java/lang/Object")), Jvm.Cond.code ({ cls := "com/example/aturan/aturan/rules/AccessRule", name := "getAlgorithm", desc := "()Ljava/util/Optional;" } : Jvm.MethodName) prog_32_method_4_code (1 : Nat) (Option.some (Jvm.ClassFile.FieldType.object "java/util/Optional")), Jvm.Cond.code ({ cls := "com/example/aturan/aturan/rules/HashAlgorithm", name := "forLength", desc := "(I)Ljava/util/Optional;" } : Jvm.MethodName) prog_47_method_6_code (5 : Nat) (Option.some (Jvm.ClassFile.FieldType.object "java/util/Optional")), Jvm.Cond.code ({ cls := "com/example/aturan/aturan/rules/HashAlgorithm", name := "values", desc := "()[Lcom/example/aturan/aturan/rules/HashAlgorithm;" } : Jvm.MethodName) prog_47_method_1_code (0 : Nat) (Option.some (Jvm.ClassFile.FieldType.array (Jvm.ClassFile.FieldType.object "com/example/aturan/aturan/rules/HashAlgorithm"))), Jvm.Cond.code ({ cls := "java/util/Optional", name := "empty", desc := "()Ljava/util/Optional;" } : Jvm.MethodName) jdk_32_method_1_code (1 : Nat) (Option.some (Jvm.ClassFile.FieldType.object "java/util/Optional")), Jvm.Cond.code ({ cls := "java/util/Optional", name := "of", desc := "(Ljava/lang/Object;)Ljava/util/Optional;" } : Jvm.MethodName) jdk_32_method_3_code (1 : Nat) (Option.some (Jvm.ClassFile.FieldType.object "java/util/Optional")), Jvm.Cond.code ({ cls := "java/util/OptionalLong", name := "isEmpty", desc := "()Z" } : Jvm.MethodName) jdk_2650_method_7_code (1 : Nat) (Option.some Jvm.ClassFile.FieldType.boolean)]
set_option maxRecDepth 65536 in
theorem codes_eq : words1.filter isCode = codes1 := rfl
theorem w_codes : ∀ c ∈ words1.filter isCode, c.before args0 about1 = true := by
  rw [codes_eq]
  intro c hc
  simp only [codes1, List.mem_cons, List.not_mem_nil, or_false] at hc
  rcases hc with rfl | rfl | rfl | rfl | rfl | rfl | rfl | rfl | rfl | rfl | rfl | rfl | rfl | rfl | rfl | rfl | rfl | rfl | rfl | rfl | rfl | rfl | rfl
  · exact w_c0
  · exact w_c1
  · exact w_c2
  · exact w_c3
  · exact w_c4
  · exact w_c5
  · exact w_c6
  · exact w_c7
  · exact w_c8
  · exact w_c9
  · exact w_c10
  · exact w_c11
  · exact w_c12
  · exact w_c13
  · exact w_c14
  · exact w_c15
  · exact w_c16
  · exact w_c17
  · exact w_c18
  · exact w_c19
  · exact w_c20
  · exact w_c21
  · exact w_c22
set_option maxRecDepth 65536 in
theorem w_t1 : (words1.take 24).all (fun c => isCode c || c.before args0 about1) = true := by decide +kernel
set_option maxRecDepth 65536 in
theorem w_t2 : ((words1.drop 24).take 24).all (fun c => isCode c || c.before args0 about1) = true := by decide +kernel
set_option maxRecDepth 65536 in
theorem w_t3 : (((words1.drop 24).drop 24).take 24).all (fun c => isCode c || c.before args0 about1) = true := by decide +kernel
set_option maxRecDepth 65536 in
theorem w_t4 : ((((words1.drop 24).drop 24).drop 24).take 24).all (fun c => isCode c || c.before args0 about1) = true := by decide +kernel
set_option maxRecDepth 65536 in
theorem w_t5 : (((((words1.drop 24).drop 24).drop 24).drop 24).take 24).all (fun c => isCode c || c.before args0 about1) = true := by decide +kernel
set_option maxRecDepth 65536 in
theorem w_t6 : ((((((words1.drop 24).drop 24).drop 24).drop 24).drop 24).take 24).all (fun c => isCode c || c.before args0 about1) = true := by decide +kernel
set_option maxRecDepth 65536 in
theorem w_t7 : (((((((words1.drop 24).drop 24).drop 24).drop 24).drop 24).drop 24).take 24).all (fun c => isCode c || c.before args0 about1) = true := by decide +kernel
set_option maxRecDepth 65536 in
theorem w_t8 : (((((((words1.drop 24).drop 24).drop 24).drop 24).drop 24).drop 24).drop 24).all (fun c => isCode c || c.before args0 about1) = true := by decide +kernel
theorem w_tables : (allAtoms (Jvm.Cond.code x code maxLocals ret :: tables_1)).before args0 about1 = true := by
  rw [allAtoms_all]
  show words1.all (fun c => c.before args0 about1) = true
  refine all_split ?_ w_codes
  rw [← List.take_append_drop 24 words1, List.all_append, w_t1, ← List.take_append_drop 24 (words1.drop 24), List.all_append, w_t2, ← List.take_append_drop 24 ((words1.drop 24).drop 24), List.all_append, w_t3, ← List.take_append_drop 24 (((words1.drop 24).drop 24).drop 24), List.all_append, w_t4, ← List.take_append_drop 24 ((((words1.drop 24).drop 24).drop 24).drop 24), List.all_append, w_t5, ← List.take_append_drop 24 (((((words1.drop 24).drop 24).drop 24).drop 24).drop 24), List.all_append, w_t6, ← List.take_append_drop 24 ((((((words1.drop 24).drop 24).drop 24).drop 24).drop 24).drop 24), List.all_append, w_t7, w_t8]
  rfl
set_option maxRecDepth 65536 in
theorem w_rest : rest_1_c.before args0 about1 = true := by decide +kernel
set_option maxRecDepth 65536 in
theorem w_case : (Jvm.Cond.and given_1 narrow_1).before args0 about1 = true := by decide +kernel
theorem w_applies : (headSpec (Jvm.Cond.code x code maxLocals ret :: tables_1) room_1).applies x e0.platform about1 = true :=
  (Spec.applies_iff w_frames).mpr ⟨w_running, w_runnable, w_alone, w_named, w_hears, w_ripe, w_room, w_tables⟩
theorem atStart : AtStart classFile x code maxLocals ret World_1 tables_1 room_1 Calls_1 rest_1 Pre_1 launch0 p0 e0 about1 theMethod args0 below0 :=
  ⟨lists_1, trivial, launch0.admits_env _ _ _, launch0.least_env, fairChoices_fair.cas, fairChoices_fair.clock, w_frames, w_args, w_heap, w_applies, trivial, w_rest, w_case⟩
end start1
theorem witness_1 : WitnessClaimed_1 := ⟨start1.p0, start1.e0, start1.about1, start1.theMethod, start1.args0, start1.below0, start1.atStart⟩
end Jvm.Pilot.@@N@@
