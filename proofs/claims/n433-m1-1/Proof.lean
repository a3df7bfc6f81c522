import JvmDerived
import JvmDerived.Pilot.@@N@@Statement
import JvmDerived.Pilot.@@N@@Code
set_option linter.unusedVariables false
set_option linter.unusedSimpArgs false
namespace Jvm.RoadKit
open Sem ClassFile Op Lib Jvm.Stand Jvm.Free Jvm.LawKit
section New
variable {p : Program} {l : Launch} {e : Env} {R : Room} {s : State} {m : MethodId} {args : Array Value} {below : List Frame} {meth : Method} {c : Code} {T : State} {locs : List Loc} {cells slots : Nat}
theorem retI (X : Stand p l e R s m args below meth c T locs cells slots) (hx : p.tables.exec = Jvm.exec) {pc : Nat} {Ls : Array Slot} {z : Int32} {rest : List Value} (hret : meth.sig.returnType = some .int) (hd : decode c.code pc = .ok (.ireturn, 1)) {fs : List Frame}
    (hl : ∀ (f : JFrame) (acts : List Action), f.method = m → f.locked = none → f.entered = [] → (doReturn e (T.setTop f) acts (some (.int z))).1 = T.setFrames fs) : Steps p.tables e below (T.setTop (mkF m pc Ls (.int z :: rest))) (T.setFrames fs) := by
  have hm' : T.vm.method? m = some meth := X.method'
  have hn : narrow .int (.int z) = .int z := rfl
  show Steps p.tables e below (T.setTop { method := m, pc := pc, locals := Ls, stack := _ :: rest, locked := none }) _
  jvm_step X.here [X.here.top, hx, hd, hm', hret, hn]
  first | (intro acts; rw [hl _ acts rfl rfl rfl]) | rw [hl _ _ rfl rfl rfl]
  exact Steps.refl _
end New
end Jvm.RoadKit
namespace Jvm.Pilot.@@N@@
open Jvm Jvm.ClassFile Sem Op Lib Jvm.Free Jvm.Stand Jvm.LawKit Jvm.RoadKit Bundle Jvm.Pilot.@@N@@.Jvm.D
/-! own small kit: a walk forward, state by state -/
section OwnKit
variable {p : Program} {l : Launch} {e : Env} {R : Room} {s : State} {m : MethodId} {args : Array Value} {below : List Frame} {meth : Method} {c : Code} {T : State} {locs : List Loc} {cells slots : Nat} {rc rs : Nat} {Q : Option Value → Heap → List Loc → Prop} {Z : State} {h h' : Heap} {a b : Addr} {S S' : State}
/-- from S the run comes to its return, and Q holds there -/
def Go (p : Program) (e : Env) (below : List Frame) (s : State) (rc rs : Nat) (Q : Option Value → Heap → List Loc → Prop) (S : State) : Prop :=
  ∃ s₂ o, Steps p.tables e below S s₂ ∧ s₂.status = .running ∧ Ended s₂ below o ∧ ∃ v L, o = .returned v ∧ Q v s₂.heap L ∧ FrameEnd s o s₂ L rc rs
theorem Go.st (k : ∀ t, Steps p.tables e below S' t → Steps p.tables e below S t) (g : Go p e below s rc rs Q S') : Go p e below s rc rs Q S := by
  obtain ⟨x, y, z, r⟩ := g
  exact ⟨x, y, k x z, r⟩
theorem Go.tr (k : Steps p.tables e below S S') (g : Go p e below s rc rs Q S') : Go p e below s rc rs Q S := by
  obtain ⟨x, y, z, r⟩ := g
  exact ⟨x, y, k.trans z, r⟩
theorem Go.ret (X : Stand p l e R s m args below meth c T locs cells slots) (hlk : meth.locks = false) (v : Option Value) (hv : meth.sig.returnType = none → v = none) {g : JFrame} (hQ : Q v T.heap locs) (hc : cells ≤ rc) (hs : slots ≤ rs)
    (k : ∀ fs, (∀ (f : JFrame) (acts : List Action), f.method = m → f.locked = none → f.entered = [] → (doReturn e (T.setTop f) acts v).1 = T.setFrames fs) → Steps p.tables e below (T.setTop g) (T.setFrames fs)) : Go p e below s rc rs Q (T.setTop g) := by
  obtain ⟨fs, hr, hrun, hended, hW, hsame⟩ := X.leave (v := v) hv hlk
  exact ⟨_, _, k fs hr, hrun, hended, _, _, rfl, hQ, ⟨_, rfl⟩, hW, hsame.mono hc hs⟩
theorem own_w {a0 : Array Value} (hw : ∀ d ∈ tables_1, d.before a0 Z = true) (k : Nat) {d : Jvm.Cond} (q : tables_1[k]? = some d) : d.before a0 Z = true := hw _ (List.mem_of_getElem? q)
theorem own_idx {n j : Int32} {cl : Cell} (S : cl.slots.size = n.toNatClampNeg) (q1 : ¬ j < 0) (q2 : j < n) : ¬ (j < 0 ∨ cl.slots.size ≤ j.toNatClampNeg) := inb_of S ⟨q1, q2⟩
theorem own_iaload (X : Stand p l e R s m args below meth c T locs cells slots) (hx : p.tables.exec = Jvm.exec) (hZ : Z.Warmed39 s.vm) (eT : T.heap = h) {k : ClassId} {n : Int32} {vs : List Value} {d : Value} (V : Arv Z h a k .int n vs d) {j : Int32} (q1 : ¬ j < 0) (q2 : j < n) {v : Value} (hv : vs.getD j.toNatClampNeg d = v) {g : JFrame} (hg : g.method = m) {rest : List Value} (hs : g.stack = .int j :: .ref a :: rest) (hd : decode c.code g.pc = .ok (.iaload, 1)) (t : State) (kk : Steps p.tables e below (T.setTop { g with pc := g.pc + 1, stack := v :: rest }) t) : Steps p.tables e below (T.setTop g) t := by
  obtain ⟨cl, A, -, S, -, H, -⟩ := V
  have hin := own_idx S q1 q2
  exact X.iaload hx (j := j) (v := v) (by rw [eT]; exact A.1) (State.isArrayOf_alike hZ.alike A.2.1) A.2.2 hin (H.at hin hv) (g := g) hg hs hd _ kk
theorem own_laload (X : Stand p l e R s m args below meth c T locs cells slots) (hx : p.tables.exec = Jvm.exec) (hZ : Z.Warmed39 s.vm) (eT : T.heap = h) {k : ClassId} {n : Int32} {vs : List Value} {d : Value} (V : Arv Z h a k .long n vs d) {j : Int32} (q1 : ¬ j < 0) (q2 : j < n) {v : Value} (hv : vs.getD j.toNatClampNeg d = v) {g : JFrame} (hg : g.method = m) {rest : List Value} (hs : g.stack = .int j :: .ref a :: rest) (hd : decode c.code g.pc = .ok (.laload, 1)) (t : State) (kk : Steps p.tables e below (T.setTop { g with pc := g.pc + 1, stack := v :: rest }) t) : Steps p.tables e below (T.setTop g) t := by
  obtain ⟨cl, A, -, S, -, H, -⟩ := V
  have hin := own_idx S q1 q2
  exact X.laload hx (j := j) (v := v) (by rw [eT]; exact A.1) (State.isArrayOf_alike hZ.alike A.2.1) A.2.2 hin (H.at hin hv) (g := g) hg hs hd _ kk
theorem own_caload (X : Stand p l e R s m args below meth c T locs cells slots) (hx : p.tables.exec = Jvm.exec) (hZ : Z.Warmed39 s.vm) (eT : T.heap = h) {k : ClassId} {n : Int32} {vs : List Value} {d : Value} (V : Arv Z h a k .char n vs d) {j : Int32} (q1 : ¬ j < 0) (q2 : j < n) {v : Value} (hv : vs.getD j.toNatClampNeg d = v) {g : JFrame} (hg : g.method = m) {rest : List Value} (hs : g.stack = .int j :: .ref a :: rest) (hd : decode c.code g.pc = .ok (.caload, 1)) (t : State) (kk : Steps p.tables e below (T.setTop { g with pc := g.pc + 1, stack := v :: rest }) t) : Steps p.tables e below (T.setTop g) t := by
  obtain ⟨cl, A, -, S, -, H, -⟩ := V
  have hin := own_idx S q1 q2
  exact X.caload hx (j := j) (v := v) (by rw [eT]; exact A.1) (State.isArrayOf_alike hZ.alike A.2.1) A.2.2 hin (H.at hin hv) (g := g) hg hs hd _ kk
theorem own_baloadB (X : Stand p l e R s m args below meth c T locs cells slots) (hx : p.tables.exec = Jvm.exec) (hZ : Z.Warmed39 s.vm) (eT : T.heap = h) {k : ClassId} {n : Int32} {vs : List Value} {d : Value} (V : Arv Z h a k .byte n vs d) {j : Int32} (q1 : ¬ j < 0) (q2 : j < n) {v : Value} (hv : vs.getD j.toNatClampNeg d = v) {g : JFrame} (hg : g.method = m) {rest : List Value} (hs : g.stack = .int j :: .ref a :: rest) (hd : decode c.code g.pc = .ok (.baload, 1)) (t : State) (kk : Steps p.tables e below (T.setTop { g with pc := g.pc + 1, stack := v :: rest }) t) : Steps p.tables e below (T.setTop g) t := by
  obtain ⟨cl, A, -, S, -, H, -⟩ := V
  have hin := own_idx S q1 q2
  exact X.baloadBytes hx (j := j) (v := v) (by rw [eT]; exact A.1) (State.isArrayOf_alike hZ.alike A.2.1) A.2.2 hin (H.at hin hv) (g := g) hg hs hd _ kk
theorem own_baloadZ (X : Stand p l e R s m args below meth c T locs cells slots) (hx : p.tables.exec = Jvm.exec) (hZ : Z.Warmed39 s.vm) (eT : T.heap = h) {k : ClassId} {n : Int32} {vs : List Value} {d : Value} (V : Arv Z h a k .boolean n vs d) {j : Int32} (q1 : ¬ j < 0) (q2 : j < n) {v : Value} (hv : vs.getD j.toNatClampNeg d = v) {g : JFrame} (hg : g.method = m) {rest : List Value} (hs : g.stack = .int j :: .ref a :: rest) (hd : decode c.code g.pc = .ok (.baload, 1)) (t : State) (kk : Steps p.tables e below (T.setTop { g with pc := g.pc + 1, stack := v :: rest }) t) : Steps p.tables e below (T.setTop g) t := by
  obtain ⟨cl, A, -, S, -, H, -⟩ := V
  have hin := own_idx S q1 q2
  exact X.baloadBooleans hx (j := j) (v := v) (by rw [eT]; exact A.1) (State.isArrayOf_alike hZ.alike A.2.1) A.2.2 hin (H.at hin hv) (g := g) hg hs hd _ kk
theorem own_aaload (X : Stand p l e R s m args below meth c T locs cells slots) (hx : p.tables.exec = Jvm.exec) (hZ : Z.Warmed39 s.vm) (eT : T.heap = h) {k : ClassId} {n : Int32} {vs : List Value} {d : Value} {ty : FieldType} (V : Arv Z h a k ty n vs d) (hty : ty.isReference = true) {j : Int32} (q1 : ¬ j < 0) (q2 : j < n) {v : Value} (hv : vs.getD j.toNatClampNeg d = v) {g : JFrame} (hg : g.method = m) {rest : List Value} (hs : g.stack = .int j :: .ref a :: rest) (hd : decode c.code g.pc = .ok (.aaload, 1)) (t : State) (kk : Steps p.tables e below (T.setTop { g with pc := g.pc + 1, stack := v :: rest }) t) : Steps p.tables e below (T.setTop g) t := by
  obtain ⟨cl, A, -, S, -, H, -⟩ := V
  have hin := own_idx S q1 q2
  exact X.aaload hx (j := j) (v := v) (by rw [eT]; exact A.1) (State.isArrayOf_alike hZ.alike A.2.1) hty A.2.2 hin (H.at hin hv) (g := g) hg hs hd _ kk
theorem own_len (X : Stand p l e R s m args below meth c T locs cells slots) (hx : p.tables.exec = Jvm.exec) (hZ : Z.Warmed39 s.vm) (eT : T.heap = h) {k : ClassId} {n : Int32} {vs : List Value} {d : Value} {ty : FieldType} (V : Arv Z h a k ty n vs d) {g : JFrame} (hg : g.method = m) {rest : List Value} (hs : g.stack = .ref a :: rest) (hd : decode c.code g.pc = .ok (.arraylength, 1)) (t : State) (kk : Steps p.tables e below (T.setTop { g with pc := g.pc + 1, stack := .int n :: rest }) t) : Steps p.tables e below (T.setTop g) t := by
  obtain ⟨cl, A, -, S, N, -, -⟩ := V
  refine X.arraylength hx (by rw [eT]; exact A.1) (State.isArrayOf_alike hZ.alike A.2.1) (g := g) hg hs hd _ ?_
  rw [len_of S N]
  exact kk
theorem own_stI (X : Stand p l e R s m args below meth c T locs cells slots) (hx : p.tables.exec = Jvm.exec) (hZ : Z.Warmed39 s.vm) (eT : T.heap = h) {k : ClassId} {n : Int32} {vs : List Value} {d : Value} (V : Arv Z h a k .int n vs d) {j x : Int32} (q1 : ¬ j < 0) (q2 : j < n) (i : Nat) (hi : j.toNatClampNeg = i) (hl : i < vs.length) {g : JFrame} (hg : g.method = m) {rest : List Value} (hs : g.stack = .int x :: .int j :: .ref a :: rest) (hd : decode c.code g.pc = .ok (.iastore, 1)) :
    ∃ T' h', Stand p l e R s m args below meth c T' (locs ++ [⟨a, j.toNatClampNeg⟩]) cells slots ∧ T'.heap = h' ∧ Wr h h' a j.toNatClampNeg (.int x) ∧ Arv Z h' a k .int n (vs.set i (.int x)) d ∧ ∀ t, Steps p.tables e below (T'.setTop { g with pc := g.pc + 1, stack := rest }) t → Steps p.tables e below (T.setTop g) t := by
  obtain ⟨cl, A, q, S, N, H, G⟩ := V
  obtain ⟨T', h', X', e', W', st⟩ := stI X hx hZ eT A (own_idx S q1 q2) (g := g) hg hs hd
  exact ⟨T', h', X', e', W', Arv.set A q S N H G rfl W' i hi hl, st⟩
theorem own_stJ (X : Stand p l e R s m args below meth c T locs cells slots) (hx : p.tables.exec = Jvm.exec) (hZ : Z.Warmed39 s.vm) (eT : T.heap = h) {k : ClassId} {n : Int32} {vs : List Value} {d : Value} (V : Arv Z h a k .long n vs d) {j : Int32} {x : Int64} (q1 : ¬ j < 0) (q2 : j < n) (i : Nat) (hi : j.toNatClampNeg = i) (hl : i < vs.length) {g : JFrame} (hg : g.method = m) {rest : List Value} (hs : g.stack = .long x :: .int j :: .ref a :: rest) (hd : decode c.code g.pc = .ok (.lastore, 1)) :
    ∃ T' h', Stand p l e R s m args below meth c T' (locs ++ [⟨a, j.toNatClampNeg⟩]) cells slots ∧ T'.heap = h' ∧ Wr h h' a j.toNatClampNeg (.long x) ∧ Arv Z h' a k .long n (vs.set i (.long x)) d ∧ ∀ t, Steps p.tables e below (T'.setTop { g with pc := g.pc + 1, stack := rest }) t → Steps p.tables e below (T.setTop g) t := by
  obtain ⟨cl, A, q, S, N, H, G⟩ := V
  obtain ⟨T', h', X', e', W', st⟩ := stJ X hx hZ eT A (own_idx S q1 q2) (g := g) hg hs hd
  exact ⟨T', h', X', e', W', Arv.set A q S N H G rfl W' i hi hl, st⟩
theorem own_stC (X : Stand p l e R s m args below meth c T locs cells slots) (hx : p.tables.exec = Jvm.exec) (hZ : Z.Warmed39 s.vm) (eT : T.heap = h) {k : ClassId} {n : Int32} {vs : List Value} {d : Value} (V : Arv Z h a k .char n vs d) {j x : Int32} (q1 : ¬ j < 0) (q2 : j < n) (i : Nat) (hi : j.toNatClampNeg = i) (hl : i < vs.length) {g : JFrame} (hg : g.method = m) {rest : List Value} (hs : g.stack = .int x :: .int j :: .ref a :: rest) (hd : decode c.code g.pc = .ok (.castore, 1)) :
    ∃ T' h', Stand p l e R s m args below meth c T' (locs ++ [⟨a, j.toNatClampNeg⟩]) cells slots ∧ T'.heap = h' ∧ Wr h h' a j.toNatClampNeg (.int (nar .char x)) ∧ Arv Z h' a k .char n (vs.set i (.int (nar .char x))) d ∧ ∀ t, Steps p.tables e below (T'.setTop { g with pc := g.pc + 1, stack := rest }) t → Steps p.tables e below (T.setTop g) t := by
  obtain ⟨cl, A, q, S, N, H, G⟩ := V
  obtain ⟨T', h', X', e', W', st⟩ := stC X hx hZ eT A (own_idx S q1 q2) (g := g) hg hs hd
  exact ⟨T', h', X', e', W', Arv.set A q S N H G (fits_nar_char _) W' i hi hl, st⟩
theorem own_stB (X : Stand p l e R s m args below meth c T locs cells slots) (hx : p.tables.exec = Jvm.exec) (hZ : Z.Warmed39 s.vm) (eT : T.heap = h) {k : ClassId} {n : Int32} {vs : List Value} {d : Value} (V : Arv Z h a k .byte n vs d) {j x : Int32} (q1 : ¬ j < 0) (q2 : j < n) (i : Nat) (hi : j.toNatClampNeg = i) (hl : i < vs.length) {g : JFrame} (hg : g.method = m) {rest : List Value} (hs : g.stack = .int x :: .int j :: .ref a :: rest) (hd : decode c.code g.pc = .ok (.bastore, 1)) :
    ∃ T' h', Stand p l e R s m args below meth c T' (locs ++ [⟨a, j.toNatClampNeg⟩]) cells slots ∧ T'.heap = h' ∧ Wr h h' a j.toNatClampNeg (.int (nar .byte x)) ∧ Arv Z h' a k .byte n (vs.set i (.int (nar .byte x))) d ∧ ∀ t, Steps p.tables e below (T'.setTop { g with pc := g.pc + 1, stack := rest }) t → Steps p.tables e below (T.setTop g) t := by
  obtain ⟨cl, A, q, S, N, H, G⟩ := V
  obtain ⟨T', h', X', e', W', st⟩ := stB X hx hZ eT A (own_idx S q1 q2) (g := g) hg hs hd
  exact ⟨T', h', X', e', W', Arv.set A q S N H G (fits_nar_byte _) W' i hi hl, st⟩
theorem own_stZ (X : Stand p l e R s m args below meth c T locs cells slots) (hx : p.tables.exec = Jvm.exec) (hZ : Z.Warmed39 s.vm) (eT : T.heap = h) {k : ClassId} {n : Int32} {vs : List Value} {d : Value} (V : Arv Z h a k .boolean n vs d) {j x : Int32} (q1 : ¬ j < 0) (q2 : j < n) (i : Nat) (hi : j.toNatClampNeg = i) (hl : i < vs.length) {g : JFrame} (hg : g.method = m) {rest : List Value} (hs : g.stack = .int x :: .int j :: .ref a :: rest) (hd : decode c.code g.pc = .ok (.bastore, 1)) :
    ∃ T' h', Stand p l e R s m args below meth c T' (locs ++ [⟨a, j.toNatClampNeg⟩]) cells slots ∧ T'.heap = h' ∧ Wr h h' a j.toNatClampNeg (.int (nar .boolean x)) ∧ Arv Z h' a k .boolean n (vs.set i (.int (nar .boolean x))) d ∧ ∀ t, Steps p.tables e below (T'.setTop { g with pc := g.pc + 1, stack := rest }) t → Steps p.tables e below (T.setTop g) t := by
  obtain ⟨cl, A, q, S, N, H, G⟩ := V
  obtain ⟨T', h', X', e', W', st⟩ := stZ X hx hZ eT A (own_idx S q1 q2) (g := g) hg hs hd
  exact ⟨T', h', X', e', W', Arv.set A q S N H G (fits_nar_bool _) W' i hi hl, st⟩
theorem own_old {n0 : Nat} (O : Old Z n0 h) : n0 ≤ h.size := O.1 ▸ O.2.1
theorem own_res {z z' y : Int32} (hq : y = z') (hz : z = z') : some (Value.int z) = some (Value.int y) := by rw [hq, hz]
theorem own_resJ {z z' y : Int64} (hq : y = z') (hz : z = z') : some (Value.long z) = some (Value.long y) := by rw [hq, hz]
theorem own_narR {v : Value} {t : FieldType} (q : v.isRef = true) (r : t.isReference = true := by rfl) : narrow t v = v := by
  rcases ref_cases q with rfl | ⟨_, rfl⟩ <;> cases t <;> first | rfl | (simp [FieldType.isReference] at r)
theorem own_fitR {v : Value} {t : FieldType} (q : v.isRef = true) (r : t.isReference = true := by rfl) : fits t v = true := by
  rcases ref_cases q with rfl | ⟨_, rfl⟩ <;> cases t <;> first | rfl | (simp [FieldType.isReference] at r)
theorem own_fld {ar : Array Value} {t : Term} {x : Addr} {C n d : String} {k : Int32} (ht : t.eval ar s none [] s = some (.ref x)) (q : (Jvm.Cond.eq (.field t C n d) (.int k)).value ar s none s [] = some true) : Fld s s.heap x C n d (.int k) := by
  obtain ⟨u, w, e1, e2, -, k2⟩ := cmp_v (Or.inl q)
  have e3 : (Term.int k).eval ar s none [] s = some (.int k) := Term.int_eval k
  rw [e3] at e2
  obtain rfl := Option.some.inj e2
  obtain ⟨z, rfl⟩ := k2
  have e4 : z = k := gotT (Cond.eq_ints e1 e3) q
  subst e4
  rw [fld_at ht] at e1
  exact Fld.start e1
theorem own_neI {u w : Int32} (q : u ≠ w) : Value.int u ≠ Value.int w := fun z => q (Value.int.inj z)
theorem own_stR (X : Stand p l e R s m args below meth c T locs cells slots) (hx : p.tables.exec = Jvm.exec) (hZ : Z.Warmed39 s.vm) (eT : T.heap = h) {k : ClassId} {n : Int32} {vs : List Value} {d : Value} {ty : FieldType} {C : String} (V : Arv Z h a k ty n vs d) (hty : ty.isReference = true) (O : Ovr Z k C) {y : Addr} (I : Ins Z h y C true) {j : Int32} (q1 : ¬ j < 0) (q2 : j < n) (i : Nat) (hi : j.toNatClampNeg = i) (hl : i < vs.length) {g : JFrame} (hg : g.method = m) {rest : List Value} (hs : g.stack = .ref y :: .int j :: .ref a :: rest) (hd : decode c.code g.pc = .ok (.aastore, 1)) :
    ∃ T' h', Stand p l e R s m args below meth c T' (locs ++ [⟨a, j.toNatClampNeg⟩]) cells slots ∧ T'.heap = h' ∧ Wr h h' a j.toNatClampNeg (.ref y) ∧ Arv Z h' a k ty n (vs.set i (.ref y)) d ∧ ∀ t, Steps p.tables e below (T'.setTop { g with pc := g.pc + 1, stack := rest }) t → Steps p.tables e below (T.setTop g) t := by
  obtain ⟨cl, A, q, S, N, H, G⟩ := V
  obtain ⟨T', h', X', e', W', st⟩ := stR X hx hZ eT A (own_idx S q1 q2) hty (Sto.ofV A q O I) (g := g) hg hs hd
  exact ⟨T', h', X', e', W', Arv.set A q S N H G (own_fitR rfl hty) W' i hi hl, st⟩
theorem own_dupx2 (X : Stand p l e R s m args below meth c T locs cells slots) (hx : p.tables.exec = Jvm.exec) {g : JFrame} (hg : g.method = m) {x y z : Value} {rest : List Value} (hd : decode c.code g.pc = .ok (.dup_x2, 1)) (hs : g.stack = x :: y :: z :: rest) (hc : x.category = 1) (hc' : y.category = 1) (hc'' : z.category = 1) (t : State) (kk : Steps p.tables e below (T.setTop { g with pc := g.pc + 1, stack := x :: y :: z :: x :: rest }) t) : Steps p.tables e below (T.setTop g) t := by
  subst hg
  jvm_step X.here [X.here.top, hx, hd, dup_x2.wp_sem, hs, hc, hc', hc'']
  exact kk
end OwnKit
theorem own_lt (x y : Int32) : (x < y) = (x.toInt < y.toInt) := propext Int32.lt_iff_toInt_lt
theorem own_eq (x y : Int32) : (x = y) = (x.toInt = y.toInt) := propext Int32.toInt_inj.symm
theorem own_rem (x k : Int32) (hk : 0 < k.toInt) : ¬ ((x &&& 2147483647) % k < 0) ∧ (x &&& 2147483647) % k < k := by
  have h1 := c_mask x 2147483647 31 (by decide) (by decide)
  have h2 := c_iremV (x &&& 2147483647) k
  have h3 : 0 ≤ (x &&& 2147483647).toInt := by rw [h1]; exact Int.emod_nonneg _ (by decide)
  have h4 := h2.1 h3 hk
  rw [own_lt, own_lt]
  have h5 : (0 : Int32).toInt = 0 := rfl
  omega
theorem own_getI (xs : List Int32) (d : Int32) (i : Nat) : (xs.map Value.int).getD i (.int d) = .int (xs.getD i d) := by
  induction xs generalizing i with
  | nil => rfl
  | cons a t ih =>
    cases i with
    | zero => rfl
    | succ n => exact ih n
theorem d1_0 : decode prog_122_method_2_code 0 = .ok (.iload_n 0, 1) := by decide +kernel
theorem d1_1 : decode prog_122_method_2_code 1 = .ok (.bipush 9, 2) := by decide +kernel
theorem d1_3 : decode prog_122_method_2_code 3 = .ok (.if_icmp .eq 51, 3) := by decide +kernel
theorem d1_6 : decode prog_122_method_2_code 6 = .ok (.iload_n 0, 1) := by decide +kernel
theorem d1_7 : decode prog_122_method_2_code 7 = .ok (.bipush 10, 2) := by decide +kernel
theorem d1_9 : decode prog_122_method_2_code 9 = .ok (.if_icmp .eq 45, 3) := by decide +kernel
theorem d1_12 : decode prog_122_method_2_code 12 = .ok (.iload_n 0, 1) := by decide +kernel
theorem d1_13 : decode prog_122_method_2_code 13 = .ok (.bipush 13, 2) := by decide +kernel
theorem d1_15 : decode prog_122_method_2_code 15 = .ok (.if_icmp .eq 39, 3) := by decide +kernel
theorem d1_18 : decode prog_122_method_2_code 18 = .ok (.iload_n 0, 1) := by decide +kernel
theorem d1_19 : decode prog_122_method_2_code 19 = .ok (.bipush 32, 2) := by decide +kernel
theorem d1_21 : decode prog_122_method_2_code 21 = .ok (.if_icmp .lt 9, 3) := by decide +kernel
theorem d1_24 : decode prog_122_method_2_code 24 = .ok (.iload_n 0, 1) := by decide +kernel
theorem d1_25 : decode prog_122_method_2_code 25 = .ok (.ldc 7, 2) := by decide +kernel
theorem d1_27 : decode prog_122_method_2_code 27 = .ok (.if_icmp .le 27, 3) := by decide +kernel
theorem d1_30 : decode prog_122_method_2_code 30 = .ok (.iload_n 0, 1) := by decide +kernel
theorem d1_31 : decode prog_122_method_2_code 31 = .ok (.ldc 8, 2) := by decide +kernel
theorem d1_33 : decode prog_122_method_2_code 33 = .ok (.if_icmp .lt 9, 3) := by decide +kernel
theorem d1_36 : decode prog_122_method_2_code 36 = .ok (.iload_n 0, 1) := by decide +kernel
theorem d1_37 : decode prog_122_method_2_code 37 = .ok (.ldc 9, 2) := by decide +kernel
theorem d1_39 : decode prog_122_method_2_code 39 = .ok (.if_icmp .le 15, 3) := by decide +kernel
theorem d1_42 : decode prog_122_method_2_code 42 = .ok (.iload_n 0, 1) := by decide +kernel
theorem d1_43 : decode prog_122_method_2_code 43 = .ok (.ldc 10, 2) := by decide +kernel
theorem d1_45 : decode prog_122_method_2_code 45 = .ok (.if_icmp .lt 13, 3) := by decide +kernel
theorem d1_48 : decode prog_122_method_2_code 48 = .ok (.iload_n 0, 1) := by decide +kernel
theorem d1_49 : decode prog_122_method_2_code 49 = .ok (.ldc 11, 2) := by decide +kernel
theorem d1_51 : decode prog_122_method_2_code 51 = .ok (.if_icmp .gt 7, 3) := by decide +kernel
theorem d1_54 : decode prog_122_method_2_code 54 = .ok (.iconst 1, 1) := by decide +kernel
theorem d1_55 : decode prog_122_method_2_code 55 = .ok (.goto 4, 3) := by decide +kernel
theorem d1_58 : decode prog_122_method_2_code 58 = .ok (.iconst 0, 1) := by decide +kernel
theorem d1_59 : decode prog_122_method_2_code 59 = .ok (.ireturn, 1) := by decide +kernel
theorem pn1 : plainName "com/example/arbora/arbora/xml/XmlCharacters" = true := by first | (simp [plainName, overriddenIn]; done) | decide +kernel
theorem ef1 (m : MethodId) (x0 : Int32) : entryFrame m #[(.int x0)] 1 = mkF m 0 #[.val (.int x0)] [] := by first | (simp [entryFrame, mkF, argsToLocals, Value.category, maxLocals]; done) | rfl
def fIs (p0 : Int32) : Int32 := (if p0 = (9 : Int32) then (1 : Int32) else (if p0 = (10 : Int32) then (1 : Int32) else (if p0 = (13 : Int32) then (1 : Int32) else (if p0 < (32 : Int32) then (if p0 < (57344 : Int32) then (if p0 < (65536 : Int32) then (0 : Int32) else (if (1114111 : Int32) < p0 then (0 : Int32) else (1 : Int32))) else (if (65533 : Int32) < p0 then (if p0 < (65536 : Int32) then (0 : Int32) else (if (1114111 : Int32) < p0 then (0 : Int32) else (1 : Int32))) else (1 : Int32))) else (if (55295 : Int32) < p0 then (if p0 < (57344 : Int32) then (if p0 < (65536 : Int32) then (0 : Int32) else (if (1114111 : Int32) < p0 then (0 : Int32) else (1 : Int32))) else (if (65533 : Int32) < p0 then (if p0 < (65536 : Int32) then (0 : Int32) else (if (1114111 : Int32) < p0 then (0 : Int32) else (1 : Int32))) else (1 : Int32))) else (1 : Int32))))))
def Q1 (Z : State) (p0 : Int32) (h0 : Heap) (n0 : Nat) (v : Option Value) (h : Heap) (L : List Loc) : Prop := v = some (.int (fIs p0)) ∧ Fr n0 L ∧ h = h0
set_option maxRecDepth 65536 in
set_option maxHeartbeats 40000000 in
theorem rm1 (l : Launch) (Z : State) (a0 : Array Value) (hw : ∀ d ∈ tables_1, d.before a0 Z = true) (ws : List Jvm.Cond) (p0 : Int32) (h0 : Heap) (n0 : Nat) (O0 : Old Z n0 h0)  :
    MetFree l (⟨"com/example/arbora/arbora/xml/XmlCharacters", "isChar", "(I)Z"⟩ : MethodName) (head1 (Jvm.Cond.code (⟨"com/example/arbora/arbora/xml/XmlCharacters", "isChar", "(I)Z"⟩ : MethodName) prog_122_method_2_code 1 (some .boolean) :: ws) ({ frames := 0, cells := 0, slots := 0, locals := 0 } : Room)) (fun A_ U_ => A_ = #[(.int p0)] ∧ Z.Warmed39 U_.vm ∧ U_.heap = h0) (fun _ _ _ _ _ => True) (fun _ U o U' => ∃ v L, o = .returned v ∧ Q1 Z p0 h0 n0 v U'.heap L ∧ FrameEnd U o U' L ({ frames := 0, cells := 0, slots := 0, locals := 0 } : Room).cells ({ frames := 0, cells := 0, slots := 0, locals := 0 } : Room).slots) := by
  refine MetFree.of_bodySF (plainFor_of_name pn1) hisR ?_
  intro p e s m args below meth cd s₁ Bd hml0 hP hK
  obtain ⟨rfl, hZ, hh⟩ := hP
  have hx := Bd.exec
  have hby := Bd.bytes
  have hlk : meth.locks = false := BodyLoose.notSynchronized Bd
  have hml : cd.maxLocals = 1 := hml0
  have hown : s.vm.findClass "com/example/arbora/arbora/xml/XmlCharacters" = some m.cls := findClass_of_methodNamed Bd.named
  have hnm := (name_of_methodNamed Bd.named Bd.method).1
  have X0 : Stand p l e ({ frames := 0, cells := 0, slots := 0, locals := 0 } : Room) s m #[(.int p0)] below meth cd s₁ [] 0 0 := Stand.of_body Bd
  have e0 : s₁.heap = h0 := by rw [← hh, Bd.state]; rfl
  have N0 := Fr.nil n0
  have G : Go p e below s 0 0 (Q1 Z p0 h0 n0) (s₁.setTop (mkF m 0 #[.val (.int p0)] [])) := by
    show Go p e below s _ _ _ (s₁.setTop (mkF m 0 #[.val (.int p0)] []))
    refine Go.st (fun _ k => XS.iloadN X0.here hx rfl (hb hby d1_0) rfl k) ?_
    show Go p e below s _ _ _ (s₁.setTop (mkF m 1 #[.val (.int p0)] [(.int p0)]))
    refine Go.st (fun _ k => XS.bipush X0.here hx rfl (hb hby d1_1) k) ?_
    show Go p e below s _ _ _ (s₁.setTop (mkF m 3 #[.val (.int p0)] [(.int (9 : Int32)), (.int p0)]))
    by_cases c3_1 : p0 = (9 : Int32)
    · refine Go.st (fun _ k => XS.icmpYes X0.here hx rfl (pc0 := 3) (pc' := 54) rfl (hb hby d1_3) rfl (XT.ii_eq_t c3_1) (by decide) (by decide) k) ?_
      show Go p e below s _ _ _ (s₁.setTop (mkF m 54 #[.val (.int p0)] []))
      refine Go.st (fun _ k => XS.iconst X0.here hx rfl (hb hby d1_54) k) ?_
      show Go p e below s _ _ _ (s₁.setTop (mkF m 55 #[.val (.int p0)] [(.int (1 : Int32))]))
      refine Go.st (fun _ k => XS.goto X0.here hx rfl (pc0 := 55) (pc' := 59) rfl (hb hby d1_55) (by decide) (by decide) k) ?_
      show Go p e below s _ _ _ (s₁.setTop (mkF m 59 #[.val (.int p0)] [(.int (1 : Int32))]))
      exact Go.ret X0 hlk (some (.int (nar .boolean (1 : Int32)))) (fun h => by rw [Bd.returns] at h; cases h) (by rw [e0]; exact ⟨own_res (z' := (1 : Int32)) (by unfold fIs; rw [if_pos c3_1]) rfl, N0, rfl⟩) (by decide) (by decide) (fun fs hr => retN X0 hx (t := .boolean) Bd.returns (by simp) (hb hby d1_59) hr)
    · refine Go.st (fun _ k => XS.icmpNo X0.here hx rfl (hb hby d1_3) rfl (XT.ii_eq_f c3_1) k) ?_
      show Go p e below s _ _ _ (s₁.setTop (mkF m 6 #[.val (.int p0)] []))
      refine Go.st (fun _ k => XS.iloadN X0.here hx rfl (hb hby d1_6) rfl k) ?_
      show Go p e below s _ _ _ (s₁.setTop (mkF m 7 #[.val (.int p0)] [(.int p0)]))
      refine Go.st (fun _ k => XS.bipush X0.here hx rfl (hb hby d1_7) k) ?_
      show Go p e below s _ _ _ (s₁.setTop (mkF m 9 #[.val (.int p0)] [(.int (10 : Int32)), (.int p0)]))
      by_cases c9_2 : p0 = (10 : Int32)
      · refine Go.st (fun _ k => XS.icmpYes X0.here hx rfl (pc0 := 9) (pc' := 54) rfl (hb hby d1_9) rfl (XT.ii_eq_t c9_2) (by decide) (by decide) k) ?_
        show Go p e below s _ _ _ (s₁.setTop (mkF m 54 #[.val (.int p0)] []))
        refine Go.st (fun _ k => XS.iconst X0.here hx rfl (hb hby d1_54) k) ?_
        show Go p e below s _ _ _ (s₁.setTop (mkF m 55 #[.val (.int p0)] [(.int (1 : Int32))]))
        refine Go.st (fun _ k => XS.goto X0.here hx rfl (pc0 := 55) (pc' := 59) rfl (hb hby d1_55) (by decide) (by decide) k) ?_
        show Go p e below s _ _ _ (s₁.setTop (mkF m 59 #[.val (.int p0)] [(.int (1 : Int32))]))
        exact Go.ret X0 hlk (some (.int (nar .boolean (1 : Int32)))) (fun h => by rw [Bd.returns] at h; cases h) (by rw [e0]; exact ⟨own_res (z' := (1 : Int32)) (by unfold fIs; rw [if_neg c3_1, if_pos c9_2]) rfl, N0, rfl⟩) (by decide) (by decide) (fun fs hr => retN X0 hx (t := .boolean) Bd.returns (by simp) (hb hby d1_59) hr)
      · refine Go.st (fun _ k => XS.icmpNo X0.here hx rfl (hb hby d1_9) rfl (XT.ii_eq_f c9_2) k) ?_
        show Go p e below s _ _ _ (s₁.setTop (mkF m 12 #[.val (.int p0)] []))
        refine Go.st (fun _ k => XS.iloadN X0.here hx rfl (hb hby d1_12) rfl k) ?_
        show Go p e below s _ _ _ (s₁.setTop (mkF m 13 #[.val (.int p0)] [(.int p0)]))
        refine Go.st (fun _ k => XS.bipush X0.here hx rfl (hb hby d1_13) k) ?_
        show Go p e below s _ _ _ (s₁.setTop (mkF m 15 #[.val (.int p0)] [(.int (13 : Int32)), (.int p0)]))
        by_cases c15_3 : p0 = (13 : Int32)
        · refine Go.st (fun _ k => XS.icmpYes X0.here hx rfl (pc0 := 15) (pc' := 54) rfl (hb hby d1_15) rfl (XT.ii_eq_t c15_3) (by decide) (by decide) k) ?_
          show Go p e below s _ _ _ (s₁.setTop (mkF m 54 #[.val (.int p0)] []))
          refine Go.st (fun _ k => XS.iconst X0.here hx rfl (hb hby d1_54) k) ?_
          show Go p e below s _ _ _ (s₁.setTop (mkF m 55 #[.val (.int p0)] [(.int (1 : Int32))]))
          refine Go.st (fun _ k => XS.goto X0.here hx rfl (pc0 := 55) (pc' := 59) rfl (hb hby d1_55) (by decide) (by decide) k) ?_
          show Go p e below s _ _ _ (s₁.setTop (mkF m 59 #[.val (.int p0)] [(.int (1 : Int32))]))
          exact Go.ret X0 hlk (some (.int (nar .boolean (1 : Int32)))) (fun h => by rw [Bd.returns] at h; cases h) (by rw [e0]; exact ⟨own_res (z' := (1 : Int32)) (by unfold fIs; rw [if_neg c3_1, if_neg c9_2, if_pos c15_3]) rfl, N0, rfl⟩) (by decide) (by decide) (fun fs hr => retN X0 hx (t := .boolean) Bd.returns (by simp) (hb hby d1_59) hr)
        · refine Go.st (fun _ k => XS.icmpNo X0.here hx rfl (hb hby d1_15) rfl (XT.ii_eq_f c15_3) k) ?_
          show Go p e below s _ _ _ (s₁.setTop (mkF m 18 #[.val (.int p0)] []))
          refine Go.st (fun _ k => XS.iloadN X0.here hx rfl (hb hby d1_18) rfl k) ?_
          show Go p e below s _ _ _ (s₁.setTop (mkF m 19 #[.val (.int p0)] [(.int p0)]))
          refine Go.st (fun _ k => XS.bipush X0.here hx rfl (hb hby d1_19) k) ?_
          show Go p e below s _ _ _ (s₁.setTop (mkF m 21 #[.val (.int p0)] [(.int (32 : Int32)), (.int p0)]))
          by_cases c21_4 : p0 < (32 : Int32)
          · refine Go.st (fun _ k => XS.icmpYes X0.here hx rfl (pc0 := 21) (pc' := 30) rfl (hb hby d1_21) rfl (XT.ii_lt_t c21_4) (by decide) (by decide) k) ?_
            show Go p e below s _ _ _ (s₁.setTop (mkF m 30 #[.val (.int p0)] []))
            refine Go.st (fun _ k => XS.iloadN X0.here hx rfl (hb hby d1_30) rfl k) ?_
            show Go p e below s _ _ _ (s₁.setTop (mkF m 31 #[.val (.int p0)] [(.int p0)]))
            refine Go.st (fun _ k => X0.ldcI hx hown (mvT hZ (own_w hw 16 rfl)) rfl (hb hby d1_31) k) ?_
            show Go p e below s _ _ _ (s₁.setTop (mkF m 33 #[.val (.int p0)] [(.int (57344 : Int32)), (.int p0)]))
            by_cases c33_5 : p0 < (57344 : Int32)
            · refine Go.st (fun _ k => XS.icmpYes X0.here hx rfl (pc0 := 33) (pc' := 42) rfl (hb hby d1_33) rfl (XT.ii_lt_t c33_5) (by decide) (by decide) k) ?_
              show Go p e below s _ _ _ (s₁.setTop (mkF m 42 #[.val (.int p0)] []))
              refine Go.st (fun _ k => XS.iloadN X0.here hx rfl (hb hby d1_42) rfl k) ?_
              show Go p e below s _ _ _ (s₁.setTop (mkF m 43 #[.val (.int p0)] [(.int p0)]))
              refine Go.st (fun _ k => X0.ldcI hx hown (mvT hZ (own_w hw 17 rfl)) rfl (hb hby d1_43) k) ?_
              show Go p e below s _ _ _ (s₁.setTop (mkF m 45 #[.val (.int p0)] [(.int (65536 : Int32)), (.int p0)]))
              by_cases c45_6 : p0 < (65536 : Int32)
              · refine Go.st (fun _ k => XS.icmpYes X0.here hx rfl (pc0 := 45) (pc' := 58) rfl (hb hby d1_45) rfl (XT.ii_lt_t c45_6) (by decide) (by decide) k) ?_
                show Go p e below s _ _ _ (s₁.setTop (mkF m 58 #[.val (.int p0)] []))
                refine Go.st (fun _ k => XS.iconst X0.here hx rfl (hb hby d1_58) k) ?_
                show Go p e below s _ _ _ (s₁.setTop (mkF m 59 #[.val (.int p0)] [(.int (0 : Int32))]))
                exact Go.ret X0 hlk (some (.int (nar .boolean (0 : Int32)))) (fun h => by rw [Bd.returns] at h; cases h) (by rw [e0]; exact ⟨own_res (z' := (0 : Int32)) (by unfold fIs; rw [if_neg c3_1, if_neg c9_2, if_neg c15_3, if_pos c21_4, if_pos c33_5, if_pos c45_6]) rfl, N0, rfl⟩) (by decide) (by decide) (fun fs hr => retN X0 hx (t := .boolean) Bd.returns (by simp) (hb hby d1_59) hr)
              · refine Go.st (fun _ k => XS.icmpNo X0.here hx rfl (hb hby d1_45) rfl (XT.ii_lt_f c45_6) k) ?_
                show Go p e below s _ _ _ (s₁.setTop (mkF m 48 #[.val (.int p0)] []))
                refine Go.st (fun _ k => XS.iloadN X0.here hx rfl (hb hby d1_48) rfl k) ?_
                show Go p e below s _ _ _ (s₁.setTop (mkF m 49 #[.val (.int p0)] [(.int p0)]))
                refine Go.st (fun _ k => X0.ldcI hx hown (mvT hZ (own_w hw 24 rfl)) rfl (hb hby d1_49) k) ?_
                show Go p e below s _ _ _ (s₁.setTop (mkF m 51 #[.val (.int p0)] [(.int (1114111 : Int32)), (.int p0)]))
                by_cases c51_7 : (1114111 : Int32) < p0
                · refine Go.st (fun _ k => XS.icmpYes X0.here hx rfl (pc0 := 51) (pc' := 58) rfl (hb hby d1_51) rfl (XT.ii_gt_t c51_7) (by decide) (by decide) k) ?_
                  show Go p e below s _ _ _ (s₁.setTop (mkF m 58 #[.val (.int p0)] []))
                  refine Go.st (fun _ k => XS.iconst X0.here hx rfl (hb hby d1_58) k) ?_
                  show Go p e below s _ _ _ (s₁.setTop (mkF m 59 #[.val (.int p0)] [(.int (0 : Int32))]))
                  exact Go.ret X0 hlk (some (.int (nar .boolean (0 : Int32)))) (fun h => by rw [Bd.returns] at h; cases h) (by rw [e0]; exact ⟨own_res (z' := (0 : Int32)) (by unfold fIs; rw [if_neg c3_1, if_neg c9_2, if_neg c15_3, if_pos c21_4, if_pos c33_5, if_neg c45_6, if_pos c51_7]) rfl, N0, rfl⟩) (by decide) (by decide) (fun fs hr => retN X0 hx (t := .boolean) Bd.returns (by simp) (hb hby d1_59) hr)
                · refine Go.st (fun _ k => XS.icmpNo X0.here hx rfl (hb hby d1_51) rfl (XT.ii_gt_f c51_7) k) ?_
                  show Go p e below s _ _ _ (s₁.setTop (mkF m 54 #[.val (.int p0)] []))
                  refine Go.st (fun _ k => XS.iconst X0.here hx rfl (hb hby d1_54) k) ?_
                  show Go p e below s _ _ _ (s₁.setTop (mkF m 55 #[.val (.int p0)] [(.int (1 : Int32))]))
                  refine Go.st (fun _ k => XS.goto X0.here hx rfl (pc0 := 55) (pc' := 59) rfl (hb hby d1_55) (by decide) (by decide) k) ?_
                  show Go p e below s _ _ _ (s₁.setTop (mkF m 59 #[.val (.int p0)] [(.int (1 : Int32))]))
                  exact Go.ret X0 hlk (some (.int (nar .boolean (1 : Int32)))) (fun h => by rw [Bd.returns] at h; cases h) (by rw [e0]; exact ⟨own_res (z' := (1 : Int32)) (by unfold fIs; rw [if_neg c3_1, if_neg c9_2, if_neg c15_3, if_pos c21_4, if_pos c33_5, if_neg c45_6, if_neg c51_7]) rfl, N0, rfl⟩) (by decide) (by decide) (fun fs hr => retN X0 hx (t := .boolean) Bd.returns (by simp) (hb hby d1_59) hr)
            · refine Go.st (fun _ k => XS.icmpNo X0.here hx rfl (hb hby d1_33) rfl (XT.ii_lt_f c33_5) k) ?_
              show Go p e below s _ _ _ (s₁.setTop (mkF m 36 #[.val (.int p0)] []))
              refine Go.st (fun _ k => XS.iloadN X0.here hx rfl (hb hby d1_36) rfl k) ?_
              show Go p e below s _ _ _ (s₁.setTop (mkF m 37 #[.val (.int p0)] [(.int p0)]))
              refine Go.st (fun _ k => X0.ldcI hx hown (mvT hZ (own_w hw 23 rfl)) rfl (hb hby d1_37) k) ?_
              show Go p e below s _ _ _ (s₁.setTop (mkF m 39 #[.val (.int p0)] [(.int (65533 : Int32)), (.int p0)]))
              by_cases c39_8 : (65533 : Int32) < p0
              · refine Go.st (fun _ k => XS.icmpNo X0.here hx rfl (hb hby d1_39) rfl (XT.ii_le_f c39_8) k) ?_
                show Go p e below s _ _ _ (s₁.setTop (mkF m 42 #[.val (.int p0)] []))
                refine Go.st (fun _ k => XS.iloadN X0.here hx rfl (hb hby d1_42) rfl k) ?_
                show Go p e below s _ _ _ (s₁.setTop (mkF m 43 #[.val (.int p0)] [(.int p0)]))
                refine Go.st (fun _ k => X0.ldcI hx hown (mvT hZ (own_w hw 17 rfl)) rfl (hb hby d1_43) k) ?_
                show Go p e below s _ _ _ (s₁.setTop (mkF m 45 #[.val (.int p0)] [(.int (65536 : Int32)), (.int p0)]))
                by_cases c45_9 : p0 < (65536 : Int32)
                · refine Go.st (fun _ k => XS.icmpYes X0.here hx rfl (pc0 := 45) (pc' := 58) rfl (hb hby d1_45) rfl (XT.ii_lt_t c45_9) (by decide) (by decide) k) ?_
                  show Go p e below s _ _ _ (s₁.setTop (mkF m 58 #[.val (.int p0)] []))
                  refine Go.st (fun _ k => XS.iconst X0.here hx rfl (hb hby d1_58) k) ?_
                  show Go p e below s _ _ _ (s₁.setTop (mkF m 59 #[.val (.int p0)] [(.int (0 : Int32))]))
                  exact Go.ret X0 hlk (some (.int (nar .boolean (0 : Int32)))) (fun h => by rw [Bd.returns] at h; cases h) (by rw [e0]; exact ⟨own_res (z' := (0 : Int32)) (by unfold fIs; rw [if_neg c3_1, if_neg c9_2, if_neg c15_3, if_pos c21_4, if_neg c33_5, if_pos c39_8, if_pos c45_9]) rfl, N0, rfl⟩) (by decide) (by decide) (fun fs hr => retN X0 hx (t := .boolean) Bd.returns (by simp) (hb hby d1_59) hr)
                · refine Go.st (fun _ k => XS.icmpNo X0.here hx rfl (hb hby d1_45) rfl (XT.ii_lt_f c45_9) k) ?_
                  show Go p e below s _ _ _ (s₁.setTop (mkF m 48 #[.val (.int p0)] []))
                  refine Go.st (fun _ k => XS.iloadN X0.here hx rfl (hb hby d1_48) rfl k) ?_
                  show Go p e below s _ _ _ (s₁.setTop (mkF m 49 #[.val (.int p0)] [(.int p0)]))
                  refine Go.st (fun _ k => X0.ldcI hx hown (mvT hZ (own_w hw 24 rfl)) rfl (hb hby d1_49) k) ?_
                  show Go p e below s _ _ _ (s₁.setTop (mkF m 51 #[.val (.int p0)] [(.int (1114111 : Int32)), (.int p0)]))
                  by_cases c51_10 : (1114111 : Int32) < p0
                  · refine Go.st (fun _ k => XS.icmpYes X0.here hx rfl (pc0 := 51) (pc' := 58) rfl (hb hby d1_51) rfl (XT.ii_gt_t c51_10) (by decide) (by decide) k) ?_
                    show Go p e below s _ _ _ (s₁.setTop (mkF m 58 #[.val (.int p0)] []))
                    refine Go.st (fun _ k => XS.iconst X0.here hx rfl (hb hby d1_58) k) ?_
                    show Go p e below s _ _ _ (s₁.setTop (mkF m 59 #[.val (.int p0)] [(.int (0 : Int32))]))
                    exact Go.ret X0 hlk (some (.int (nar .boolean (0 : Int32)))) (fun h => by rw [Bd.returns] at h; cases h) (by rw [e0]; exact ⟨own_res (z' := (0 : Int32)) (by unfold fIs; rw [if_neg c3_1, if_neg c9_2, if_neg c15_3, if_pos c21_4, if_neg c33_5, if_pos c39_8, if_neg c45_9, if_pos c51_10]) rfl, N0, rfl⟩) (by decide) (by decide) (fun fs hr => retN X0 hx (t := .boolean) Bd.returns (by simp) (hb hby d1_59) hr)
                  · refine Go.st (fun _ k => XS.icmpNo X0.here hx rfl (hb hby d1_51) rfl (XT.ii_gt_f c51_10) k) ?_
                    show Go p e below s _ _ _ (s₁.setTop (mkF m 54 #[.val (.int p0)] []))
                    refine Go.st (fun _ k => XS.iconst X0.here hx rfl (hb hby d1_54) k) ?_
                    show Go p e below s _ _ _ (s₁.setTop (mkF m 55 #[.val (.int p0)] [(.int (1 : Int32))]))
                    refine Go.st (fun _ k => XS.goto X0.here hx rfl (pc0 := 55) (pc' := 59) rfl (hb hby d1_55) (by decide) (by decide) k) ?_
                    show Go p e below s _ _ _ (s₁.setTop (mkF m 59 #[.val (.int p0)] [(.int (1 : Int32))]))
                    exact Go.ret X0 hlk (some (.int (nar .boolean (1 : Int32)))) (fun h => by rw [Bd.returns] at h; cases h) (by rw [e0]; exact ⟨own_res (z' := (1 : Int32)) (by unfold fIs; rw [if_neg c3_1, if_neg c9_2, if_neg c15_3, if_pos c21_4, if_neg c33_5, if_pos c39_8, if_neg c45_9, if_neg c51_10]) rfl, N0, rfl⟩) (by decide) (by decide) (fun fs hr => retN X0 hx (t := .boolean) Bd.returns (by simp) (hb hby d1_59) hr)
              · refine Go.st (fun _ k => XS.icmpYes X0.here hx rfl (pc0 := 39) (pc' := 54) rfl (hb hby d1_39) rfl (XT.ii_le_t c39_8) (by decide) (by decide) k) ?_
                show Go p e below s _ _ _ (s₁.setTop (mkF m 54 #[.val (.int p0)] []))
                refine Go.st (fun _ k => XS.iconst X0.here hx rfl (hb hby d1_54) k) ?_
                show Go p e below s _ _ _ (s₁.setTop (mkF m 55 #[.val (.int p0)] [(.int (1 : Int32))]))
                refine Go.st (fun _ k => XS.goto X0.here hx rfl (pc0 := 55) (pc' := 59) rfl (hb hby d1_55) (by decide) (by decide) k) ?_
                show Go p e below s _ _ _ (s₁.setTop (mkF m 59 #[.val (.int p0)] [(.int (1 : Int32))]))
                exact Go.ret X0 hlk (some (.int (nar .boolean (1 : Int32)))) (fun h => by rw [Bd.returns] at h; cases h) (by rw [e0]; exact ⟨own_res (z' := (1 : Int32)) (by unfold fIs; rw [if_neg c3_1, if_neg c9_2, if_neg c15_3, if_pos c21_4, if_neg c33_5, if_neg c39_8]) rfl, N0, rfl⟩) (by decide) (by decide) (fun fs hr => retN X0 hx (t := .boolean) Bd.returns (by simp) (hb hby d1_59) hr)
          · refine Go.st (fun _ k => XS.icmpNo X0.here hx rfl (hb hby d1_21) rfl (XT.ii_lt_f c21_4) k) ?_
            show Go p e below s _ _ _ (s₁.setTop (mkF m 24 #[.val (.int p0)] []))
            refine Go.st (fun _ k => XS.iloadN X0.here hx rfl (hb hby d1_24) rfl k) ?_
            show Go p e below s _ _ _ (s₁.setTop (mkF m 25 #[.val (.int p0)] [(.int p0)]))
            refine Go.st (fun _ k => X0.ldcI hx hown (mvT hZ (own_w hw 22 rfl)) rfl (hb hby d1_25) k) ?_
            show Go p e below s _ _ _ (s₁.setTop (mkF m 27 #[.val (.int p0)] [(.int (55295 : Int32)), (.int p0)]))
            by_cases c27_11 : (55295 : Int32) < p0
            · refine Go.st (fun _ k => XS.icmpNo X0.here hx rfl (hb hby d1_27) rfl (XT.ii_le_f c27_11) k) ?_
              show Go p e below s _ _ _ (s₁.setTop (mkF m 30 #[.val (.int p0)] []))
              refine Go.st (fun _ k => XS.iloadN X0.here hx rfl (hb hby d1_30) rfl k) ?_
              show Go p e below s _ _ _ (s₁.setTop (mkF m 31 #[.val (.int p0)] [(.int p0)]))
              refine Go.st (fun _ k => X0.ldcI hx hown (mvT hZ (own_w hw 16 rfl)) rfl (hb hby d1_31) k) ?_
              show Go p e below s _ _ _ (s₁.setTop (mkF m 33 #[.val (.int p0)] [(.int (57344 : Int32)), (.int p0)]))
              by_cases c33_12 : p0 < (57344 : Int32)
              · refine Go.st (fun _ k => XS.icmpYes X0.here hx rfl (pc0 := 33) (pc' := 42) rfl (hb hby d1_33) rfl (XT.ii_lt_t c33_12) (by decide) (by decide) k) ?_
                show Go p e below s _ _ _ (s₁.setTop (mkF m 42 #[.val (.int p0)] []))
                refine Go.st (fun _ k => XS.iloadN X0.here hx rfl (hb hby d1_42) rfl k) ?_
                show Go p e below s _ _ _ (s₁.setTop (mkF m 43 #[.val (.int p0)] [(.int p0)]))
                refine Go.st (fun _ k => X0.ldcI hx hown (mvT hZ (own_w hw 17 rfl)) rfl (hb hby d1_43) k) ?_
                show Go p e below s _ _ _ (s₁.setTop (mkF m 45 #[.val (.int p0)] [(.int (65536 : Int32)), (.int p0)]))
                by_cases c45_13 : p0 < (65536 : Int32)
                · refine Go.st (fun _ k => XS.icmpYes X0.here hx rfl (pc0 := 45) (pc' := 58) rfl (hb hby d1_45) rfl (XT.ii_lt_t c45_13) (by decide) (by decide) k) ?_
                  show Go p e below s _ _ _ (s₁.setTop (mkF m 58 #[.val (.int p0)] []))
                  refine Go.st (fun _ k => XS.iconst X0.here hx rfl (hb hby d1_58) k) ?_
                  show Go p e below s _ _ _ (s₁.setTop (mkF m 59 #[.val (.int p0)] [(.int (0 : Int32))]))
                  exact Go.ret X0 hlk (some (.int (nar .boolean (0 : Int32)))) (fun h => by rw [Bd.returns] at h; cases h) (by rw [e0]; exact ⟨own_res (z' := (0 : Int32)) (by unfold fIs; rw [if_neg c3_1, if_neg c9_2, if_neg c15_3, if_neg c21_4, if_pos c27_11, if_pos c33_12, if_pos c45_13]) rfl, N0, rfl⟩) (by decide) (by decide) (fun fs hr => retN X0 hx (t := .boolean) Bd.returns (by simp) (hb hby d1_59) hr)
                · refine Go.st (fun _ k => XS.icmpNo X0.here hx rfl (hb hby d1_45) rfl (XT.ii_lt_f c45_13) k) ?_
                  show Go p e below s _ _ _ (s₁.setTop (mkF m 48 #[.val (.int p0)] []))
                  refine Go.st (fun _ k => XS.iloadN X0.here hx rfl (hb hby d1_48) rfl k) ?_
                  show Go p e below s _ _ _ (s₁.setTop (mkF m 49 #[.val (.int p0)] [(.int p0)]))
                  refine Go.st (fun _ k => X0.ldcI hx hown (mvT hZ (own_w hw 24 rfl)) rfl (hb hby d1_49) k) ?_
                  show Go p e below s _ _ _ (s₁.setTop (mkF m 51 #[.val (.int p0)] [(.int (1114111 : Int32)), (.int p0)]))
                  by_cases c51_14 : (1114111 : Int32) < p0
                  · refine Go.st (fun _ k => XS.icmpYes X0.here hx rfl (pc0 := 51) (pc' := 58) rfl (hb hby d1_51) rfl (XT.ii_gt_t c51_14) (by decide) (by decide) k) ?_
                    show Go p e below s _ _ _ (s₁.setTop (mkF m 58 #[.val (.int p0)] []))
                    refine Go.st (fun _ k => XS.iconst X0.here hx rfl (hb hby d1_58) k) ?_
                    show Go p e below s _ _ _ (s₁.setTop (mkF m 59 #[.val (.int p0)] [(.int (0 : Int32))]))
                    exact Go.ret X0 hlk (some (.int (nar .boolean (0 : Int32)))) (fun h => by rw [Bd.returns] at h; cases h) (by rw [e0]; exact ⟨own_res (z' := (0 : Int32)) (by unfold fIs; rw [if_neg c3_1, if_neg c9_2, if_neg c15_3, if_neg c21_4, if_pos c27_11, if_pos c33_12, if_neg c45_13, if_pos c51_14]) rfl, N0, rfl⟩) (by decide) (by decide) (fun fs hr => retN X0 hx (t := .boolean) Bd.returns (by simp) (hb hby d1_59) hr)
                  · refine Go.st (fun _ k => XS.icmpNo X0.here hx rfl (hb hby d1_51) rfl (XT.ii_gt_f c51_14) k) ?_
                    show Go p e below s _ _ _ (s₁.setTop (mkF m 54 #[.val (.int p0)] []))
                    refine Go.st (fun _ k => XS.iconst X0.here hx rfl (hb hby d1_54) k) ?_
                    show Go p e below s _ _ _ (s₁.setTop (mkF m 55 #[.val (.int p0)] [(.int (1 : Int32))]))
                    refine Go.st (fun _ k => XS.goto X0.here hx rfl (pc0 := 55) (pc' := 59) rfl (hb hby d1_55) (by decide) (by decide) k) ?_
                    show Go p e below s _ _ _ (s₁.setTop (mkF m 59 #[.val (.int p0)] [(.int (1 : Int32))]))
                    exact Go.ret X0 hlk (some (.int (nar .boolean (1 : Int32)))) (fun h => by rw [Bd.returns] at h; cases h) (by rw [e0]; exact ⟨own_res (z' := (1 : Int32)) (by unfold fIs; rw [if_neg c3_1, if_neg c9_2, if_neg c15_3, if_neg c21_4, if_pos c27_11, if_pos c33_12, if_neg c45_13, if_neg c51_14]) rfl, N0, rfl⟩) (by decide) (by decide) (fun fs hr => retN X0 hx (t := .boolean) Bd.returns (by simp) (hb hby d1_59) hr)
              · refine Go.st (fun _ k => XS.icmpNo X0.here hx rfl (hb hby d1_33) rfl (XT.ii_lt_f c33_12) k) ?_
                show Go p e below s _ _ _ (s₁.setTop (mkF m 36 #[.val (.int p0)] []))
                refine Go.st (fun _ k => XS.iloadN X0.here hx rfl (hb hby d1_36) rfl k) ?_
                show Go p e below s _ _ _ (s₁.setTop (mkF m 37 #[.val (.int p0)] [(.int p0)]))
                refine Go.st (fun _ k => X0.ldcI hx hown (mvT hZ (own_w hw 23 rfl)) rfl (hb hby d1_37) k) ?_
                show Go p e below s _ _ _ (s₁.setTop (mkF m 39 #[.val (.int p0)] [(.int (65533 : Int32)), (.int p0)]))
                by_cases c39_15 : (65533 : Int32) < p0
                · refine Go.st (fun _ k => XS.icmpNo X0.here hx rfl (hb hby d1_39) rfl (XT.ii_le_f c39_15) k) ?_
                  show Go p e below s _ _ _ (s₁.setTop (mkF m 42 #[.val (.int p0)] []))
                  refine Go.st (fun _ k => XS.iloadN X0.here hx rfl (hb hby d1_42) rfl k) ?_
                  show Go p e below s _ _ _ (s₁.setTop (mkF m 43 #[.val (.int p0)] [(.int p0)]))
                  refine Go.st (fun _ k => X0.ldcI hx hown (mvT hZ (own_w hw 17 rfl)) rfl (hb hby d1_43) k) ?_
                  show Go p e below s _ _ _ (s₁.setTop (mkF m 45 #[.val (.int p0)] [(.int (65536 : Int32)), (.int p0)]))
                  by_cases c45_16 : p0 < (65536 : Int32)
                  · refine Go.st (fun _ k => XS.icmpYes X0.here hx rfl (pc0 := 45) (pc' := 58) rfl (hb hby d1_45) rfl (XT.ii_lt_t c45_16) (by decide) (by decide) k) ?_
                    show Go p e below s _ _ _ (s₁.setTop (mkF m 58 #[.val (.int p0)] []))
                    refine Go.st (fun _ k => XS.iconst X0.here hx rfl (hb hby d1_58) k) ?_
                    show Go p e below s _ _ _ (s₁.setTop (mkF m 59 #[.val (.int p0)] [(.int (0 : Int32))]))
                    exact Go.ret X0 hlk (some (.int (nar .boolean (0 : Int32)))) (fun h => by rw [Bd.returns] at h; cases h) (by rw [e0]; exact ⟨own_res (z' := (0 : Int32)) (by unfold fIs; rw [if_neg c3_1, if_neg c9_2, if_neg c15_3, if_neg c21_4, if_pos c27_11, if_neg c33_12, if_pos c39_15, if_pos c45_16]) rfl, N0, rfl⟩) (by decide) (by decide) (fun fs hr => retN X0 hx (t := .boolean) Bd.returns (by simp) (hb hby d1_59) hr)
                  · refine Go.st (fun _ k => XS.icmpNo X0.here hx rfl (hb hby d1_45) rfl (XT.ii_lt_f c45_16) k) ?_
                    show Go p e below s _ _ _ (s₁.setTop (mkF m 48 #[.val (.int p0)] []))
                    refine Go.st (fun _ k => XS.iloadN X0.here hx rfl (hb hby d1_48) rfl k) ?_
                    show Go p e below s _ _ _ (s₁.setTop (mkF m 49 #[.val (.int p0)] [(.int p0)]))
                    refine Go.st (fun _ k => X0.ldcI hx hown (mvT hZ (own_w hw 24 rfl)) rfl (hb hby d1_49) k) ?_
                    show Go p e below s _ _ _ (s₁.setTop (mkF m 51 #[.val (.int p0)] [(.int (1114111 : Int32)), (.int p0)]))
                    by_cases c51_17 : (1114111 : Int32) < p0
                    · refine Go.st (fun _ k => XS.icmpYes X0.here hx rfl (pc0 := 51) (pc' := 58) rfl (hb hby d1_51) rfl (XT.ii_gt_t c51_17) (by decide) (by decide) k) ?_
                      show Go p e below s _ _ _ (s₁.setTop (mkF m 58 #[.val (.int p0)] []))
                      refine Go.st (fun _ k => XS.iconst X0.here hx rfl (hb hby d1_58) k) ?_
                      show Go p e below s _ _ _ (s₁.setTop (mkF m 59 #[.val (.int p0)] [(.int (0 : Int32))]))
                      exact Go.ret X0 hlk (some (.int (nar .boolean (0 : Int32)))) (fun h => by rw [Bd.returns] at h; cases h) (by rw [e0]; exact ⟨own_res (z' := (0 : Int32)) (by unfold fIs; rw [if_neg c3_1, if_neg c9_2, if_neg c15_3, if_neg c21_4, if_pos c27_11, if_neg c33_12, if_pos c39_15, if_neg c45_16, if_pos c51_17]) rfl, N0, rfl⟩) (by decide) (by decide) (fun fs hr => retN X0 hx (t := .boolean) Bd.returns (by simp) (hb hby d1_59) hr)
                    · refine Go.st (fun _ k => XS.icmpNo X0.here hx rfl (hb hby d1_51) rfl (XT.ii_gt_f c51_17) k) ?_
                      show Go p e below s _ _ _ (s₁.setTop (mkF m 54 #[.val (.int p0)] []))
                      refine Go.st (fun _ k => XS.iconst X0.here hx rfl (hb hby d1_54) k) ?_
                      show Go p e below s _ _ _ (s₁.setTop (mkF m 55 #[.val (.int p0)] [(.int (1 : Int32))]))
                      refine Go.st (fun _ k => XS.goto X0.here hx rfl (pc0 := 55) (pc' := 59) rfl (hb hby d1_55) (by decide) (by decide) k) ?_
                      show Go p e below s _ _ _ (s₁.setTop (mkF m 59 #[.val (.int p0)] [(.int (1 : Int32))]))
                      exact Go.ret X0 hlk (some (.int (nar .boolean (1 : Int32)))) (fun h => by rw [Bd.returns] at h; cases h) (by rw [e0]; exact ⟨own_res (z' := (1 : Int32)) (by unfold fIs; rw [if_neg c3_1, if_neg c9_2, if_neg c15_3, if_neg c21_4, if_pos c27_11, if_neg c33_12, if_pos c39_15, if_neg c45_16, if_neg c51_17]) rfl, N0, rfl⟩) (by decide) (by decide) (fun fs hr => retN X0 hx (t := .boolean) Bd.returns (by simp) (hb hby d1_59) hr)
                · refine Go.st (fun _ k => XS.icmpYes X0.here hx rfl (pc0 := 39) (pc' := 54) rfl (hb hby d1_39) rfl (XT.ii_le_t c39_15) (by decide) (by decide) k) ?_
                  show Go p e below s _ _ _ (s₁.setTop (mkF m 54 #[.val (.int p0)] []))
                  refine Go.st (fun _ k => XS.iconst X0.here hx rfl (hb hby d1_54) k) ?_
                  show Go p e below s _ _ _ (s₁.setTop (mkF m 55 #[.val (.int p0)] [(.int (1 : Int32))]))
                  refine Go.st (fun _ k => XS.goto X0.here hx rfl (pc0 := 55) (pc' := 59) rfl (hb hby d1_55) (by decide) (by decide) k) ?_
                  show Go p e below s _ _ _ (s₁.setTop (mkF m 59 #[.val (.int p0)] [(.int (1 : Int32))]))
                  exact Go.ret X0 hlk (some (.int (nar .boolean (1 : Int32)))) (fun h => by rw [Bd.returns] at h; cases h) (by rw [e0]; exact ⟨own_res (z' := (1 : Int32)) (by unfold fIs; rw [if_neg c3_1, if_neg c9_2, if_neg c15_3, if_neg c21_4, if_pos c27_11, if_neg c33_12, if_neg c39_15]) rfl, N0, rfl⟩) (by decide) (by decide) (fun fs hr => retN X0 hx (t := .boolean) Bd.returns (by simp) (hb hby d1_59) hr)
            · refine Go.st (fun _ k => XS.icmpYes X0.here hx rfl (pc0 := 27) (pc' := 54) rfl (hb hby d1_27) rfl (XT.ii_le_t c27_11) (by decide) (by decide) k) ?_
              show Go p e below s _ _ _ (s₁.setTop (mkF m 54 #[.val (.int p0)] []))
              refine Go.st (fun _ k => XS.iconst X0.here hx rfl (hb hby d1_54) k) ?_
              show Go p e below s _ _ _ (s₁.setTop (mkF m 55 #[.val (.int p0)] [(.int (1 : Int32))]))
              refine Go.st (fun _ k => XS.goto X0.here hx rfl (pc0 := 55) (pc' := 59) rfl (hb hby d1_55) (by decide) (by decide) k) ?_
              show Go p e below s _ _ _ (s₁.setTop (mkF m 59 #[.val (.int p0)] [(.int (1 : Int32))]))
              exact Go.ret X0 hlk (some (.int (nar .boolean (1 : Int32)))) (fun h => by rw [Bd.returns] at h; cases h) (by rw [e0]; exact ⟨own_res (z' := (1 : Int32)) (by unfold fIs; rw [if_neg c3_1, if_neg c9_2, if_neg c15_3, if_neg c21_4, if_neg c27_11]) rfl, N0, rfl⟩) (by decide) (by decide) (fun fs hr => retN X0 hx (t := .boolean) Bd.returns (by simp) (hb hby d1_59) hr)
  obtain ⟨s2, o2, st2, r2⟩ := G
  exact ⟨s2, o2, castTop (ef1 m p0) st2, r2⟩
theorem d2_0 : decode method_2_code 0 = .ok (.iload_n 0, 1) := by decide +kernel
theorem d2_1 : decode method_2_code 1 = .ok (.bipush 32, 2) := by decide +kernel
theorem d2_3 : decode method_2_code 3 = .ok (.if_icmp .ge 27, 3) := by decide +kernel
theorem d2_6 : decode method_2_code 6 = .ok (.iload_n 0, 1) := by decide +kernel
theorem d2_7 : decode method_2_code 7 = .ok (.bipush 9, 2) := by decide +kernel
theorem d2_9 : decode method_2_code 9 = .ok (.if_icmp .eq 15, 3) := by decide +kernel
theorem d2_12 : decode method_2_code 12 = .ok (.iload_n 0, 1) := by decide +kernel
theorem d2_13 : decode method_2_code 13 = .ok (.bipush 10, 2) := by decide +kernel
theorem d2_15 : decode method_2_code 15 = .ok (.if_icmp .eq 9, 3) := by decide +kernel
theorem d2_18 : decode method_2_code 18 = .ok (.iload_n 0, 1) := by decide +kernel
theorem d2_19 : decode method_2_code 19 = .ok (.bipush 13, 2) := by decide +kernel
theorem d2_21 : decode method_2_code 21 = .ok (.if_icmp .ne 7, 3) := by decide +kernel
theorem d2_24 : decode method_2_code 24 = .ok (.iconst 1, 1) := by decide +kernel
theorem d2_25 : decode method_2_code 25 = .ok (.goto 4, 3) := by decide +kernel
theorem d2_28 : decode method_2_code 28 = .ok (.iconst 0, 1) := by decide +kernel
theorem d2_29 : decode method_2_code 29 = .ok (.ireturn, 1) := by decide +kernel
theorem d2_30 : decode method_2_code 30 = .ok (.iload_n 0, 1) := by decide +kernel
theorem d2_31 : decode method_2_code 31 = .ok (.ldc 7, 2) := by decide +kernel
theorem d2_33 : decode method_2_code 33 = .ok (.if_icmp .ge 5, 3) := by decide +kernel
theorem d2_36 : decode method_2_code 36 = .ok (.iconst 1, 1) := by decide +kernel
theorem d2_37 : decode method_2_code 37 = .ok (.ireturn, 1) := by decide +kernel
theorem d2_38 : decode method_2_code 38 = .ok (.iload_n 0, 1) := by decide +kernel
theorem d2_39 : decode method_2_code 39 = .ok (.ldc 8, 2) := by decide +kernel
theorem d2_41 : decode method_2_code 41 = .ok (.if_icmp .ge 5, 3) := by decide +kernel
theorem d2_44 : decode method_2_code 44 = .ok (.iconst 0, 1) := by decide +kernel
theorem d2_45 : decode method_2_code 45 = .ok (.ireturn, 1) := by decide +kernel
theorem d2_46 : decode method_2_code 46 = .ok (.iload_n 0, 1) := by decide +kernel
theorem d2_47 : decode method_2_code 47 = .ok (.ldc 9, 2) := by decide +kernel
theorem d2_49 : decode method_2_code 49 = .ok (.if_icmp .ge 5, 3) := by decide +kernel
theorem d2_52 : decode method_2_code 52 = .ok (.iconst 1, 1) := by decide +kernel
theorem d2_53 : decode method_2_code 53 = .ok (.ireturn, 1) := by decide +kernel
theorem d2_54 : decode method_2_code 54 = .ok (.iload_n 0, 1) := by decide +kernel
theorem d2_55 : decode method_2_code 55 = .ok (.ldc 10, 2) := by decide +kernel
theorem d2_57 : decode method_2_code 57 = .ok (.if_icmp .ge 5, 3) := by decide +kernel
theorem d2_60 : decode method_2_code 60 = .ok (.iconst 0, 1) := by decide +kernel
theorem d2_61 : decode method_2_code 61 = .ok (.ireturn, 1) := by decide +kernel
theorem d2_62 : decode method_2_code 62 = .ok (.iload_n 0, 1) := by decide +kernel
theorem d2_63 : decode method_2_code 63 = .ok (.ldc 11, 2) := by decide +kernel
theorem d2_65 : decode method_2_code 65 = .ok (.if_icmp .gt 7, 3) := by decide +kernel
theorem d2_68 : decode method_2_code 68 = .ok (.iconst 1, 1) := by decide +kernel
theorem d2_69 : decode method_2_code 69 = .ok (.goto 4, 3) := by decide +kernel
theorem d2_72 : decode method_2_code 72 = .ok (.iconst 0, 1) := by decide +kernel
theorem d2_73 : decode method_2_code 73 = .ok (.ireturn, 1) := by decide +kernel
theorem pn2 : plainName "com/example/arbora/arbora/xml/XmlCharactersIsCharPinLaw" = true := by first | (simp [plainName, overriddenIn]; done) | decide +kernel
theorem ef2 (m : MethodId) (x0 : Int32) : entryFrame m #[(.int x0)] 1 = mkF m 0 #[.val (.int x0)] [] := by first | (simp [entryFrame, mkF, argsToLocals, Value.category, maxLocals]; done) | rfl
def fRef (p0 : Int32) : Int32 := (if p0 < (32 : Int32) then (if p0 = (9 : Int32) then (1 : Int32) else (if p0 = (10 : Int32) then (1 : Int32) else (if p0 = (13 : Int32) then (1 : Int32) else (0 : Int32)))) else (if p0 < (55296 : Int32) then (1 : Int32) else (if p0 < (57344 : Int32) then (0 : Int32) else (if p0 < (65534 : Int32) then (1 : Int32) else (if p0 < (65536 : Int32) then (0 : Int32) else (if (1114111 : Int32) < p0 then (0 : Int32) else (1 : Int32)))))))
def Q2 (Z : State) (p0 : Int32) (h0 : Heap) (n0 : Nat) (v : Option Value) (h : Heap) (L : List Loc) : Prop := v = some (.int (fRef p0)) ∧ Fr n0 L ∧ h = h0
set_option maxRecDepth 65536 in
set_option maxHeartbeats 40000000 in
theorem rm2 (l : Launch) (Z : State) (a0 : Array Value) (hw : ∀ d ∈ tables_1, d.before a0 Z = true) (ws : List Jvm.Cond) (p0 : Int32) (h0 : Heap) (n0 : Nat) (O0 : Old Z n0 h0)  :
    MetFree l (⟨"com/example/arbora/arbora/xml/XmlCharactersIsCharPinLaw", "ref", "(I)Z"⟩ : MethodName) (head1 (Jvm.Cond.code (⟨"com/example/arbora/arbora/xml/XmlCharactersIsCharPinLaw", "ref", "(I)Z"⟩ : MethodName) method_2_code 1 (some .boolean) :: ws) ({ frames := 0, cells := 0, slots := 0, locals := 0 } : Room)) (fun A_ U_ => A_ = #[(.int p0)] ∧ Z.Warmed39 U_.vm ∧ U_.heap = h0) (fun _ _ _ _ _ => True) (fun _ U o U' => ∃ v L, o = .returned v ∧ Q2 Z p0 h0 n0 v U'.heap L ∧ FrameEnd U o U' L ({ frames := 0, cells := 0, slots := 0, locals := 0 } : Room).cells ({ frames := 0, cells := 0, slots := 0, locals := 0 } : Room).slots) := by
  refine MetFree.of_bodySF (plainFor_of_name pn2) hisR ?_
  intro p e s m args below meth cd s₁ Bd hml0 hP hK
  obtain ⟨rfl, hZ, hh⟩ := hP
  have hx := Bd.exec
  have hby := Bd.bytes
  have hlk : meth.locks = false := BodyLoose.notSynchronized Bd
  have hml : cd.maxLocals = 1 := hml0
  have hown : s.vm.findClass "com/example/arbora/arbora/xml/XmlCharactersIsCharPinLaw" = some m.cls := findClass_of_methodNamed Bd.named
  have hnm := (name_of_methodNamed Bd.named Bd.method).1
  have X0 : Stand p l e ({ frames := 0, cells := 0, slots := 0, locals := 0 } : Room) s m #[(.int p0)] below meth cd s₁ [] 0 0 := Stand.of_body Bd
  have e0 : s₁.heap = h0 := by rw [← hh, Bd.state]; rfl
  have N0 := Fr.nil n0
  have G : Go p e below s 0 0 (Q2 Z p0 h0 n0) (s₁.setTop (mkF m 0 #[.val (.int p0)] [])) := by
    show Go p e below s _ _ _ (s₁.setTop (mkF m 0 #[.val (.int p0)] []))
    refine Go.st (fun _ k => XS.iloadN X0.here hx rfl (hb hby d2_0) rfl k) ?_
    show Go p e below s _ _ _ (s₁.setTop (mkF m 1 #[.val (.int p0)] [(.int p0)]))
    refine Go.st (fun _ k => XS.bipush X0.here hx rfl (hb hby d2_1) k) ?_
    show Go p e below s _ _ _ (s₁.setTop (mkF m 3 #[.val (.int p0)] [(.int (32 : Int32)), (.int p0)]))
    by_cases c3_1 : p0 < (32 : Int32)
    · refine Go.st (fun _ k => XS.icmpNo X0.here hx rfl (hb hby d2_3) rfl (XT.ii_ge_f c3_1) k) ?_
      show Go p e below s _ _ _ (s₁.setTop (mkF m 6 #[.val (.int p0)] []))
      refine Go.st (fun _ k => XS.iloadN X0.here hx rfl (hb hby d2_6) rfl k) ?_
      show Go p e below s _ _ _ (s₁.setTop (mkF m 7 #[.val (.int p0)] [(.int p0)]))
      refine Go.st (fun _ k => XS.bipush X0.here hx rfl (hb hby d2_7) k) ?_
      show Go p e below s _ _ _ (s₁.setTop (mkF m 9 #[.val (.int p0)] [(.int (9 : Int32)), (.int p0)]))
      by_cases c9_2 : p0 = (9 : Int32)
      · refine Go.st (fun _ k => XS.icmpYes X0.here hx rfl (pc0 := 9) (pc' := 24) rfl (hb hby d2_9) rfl (XT.ii_eq_t c9_2) (by decide) (by decide) k) ?_
        show Go p e below s _ _ _ (s₁.setTop (mkF m 24 #[.val (.int p0)] []))
        refine Go.st (fun _ k => XS.iconst X0.here hx rfl (hb hby d2_24) k) ?_
        show Go p e below s _ _ _ (s₁.setTop (mkF m 25 #[.val (.int p0)] [(.int (1 : Int32))]))
        refine Go.st (fun _ k => XS.goto X0.here hx rfl (pc0 := 25) (pc' := 29) rfl (hb hby d2_25) (by decide) (by decide) k) ?_
        show Go p e below s _ _ _ (s₁.setTop (mkF m 29 #[.val (.int p0)] [(.int (1 : Int32))]))
        exact Go.ret X0 hlk (some (.int (nar .boolean (1 : Int32)))) (fun h => by rw [Bd.returns] at h; cases h) (by rw [e0]; exact ⟨own_res (z' := (1 : Int32)) (by unfold fRef; rw [if_pos c3_1, if_pos c9_2]) rfl, N0, rfl⟩) (by decide) (by decide) (fun fs hr => retN X0 hx (t := .boolean) Bd.returns (by simp) (hb hby d2_29) hr)
      · refine Go.st (fun _ k => XS.icmpNo X0.here hx rfl (hb hby d2_9) rfl (XT.ii_eq_f c9_2) k) ?_
        show Go p e below s _ _ _ (s₁.setTop (mkF m 12 #[.val (.int p0)] []))
        refine Go.st (fun _ k => XS.iloadN X0.here hx rfl (hb hby d2_12) rfl k) ?_
        show Go p e below s _ _ _ (s₁.setTop (mkF m 13 #[.val (.int p0)] [(.int p0)]))
        refine Go.st (fun _ k => XS.bipush X0.here hx rfl (hb hby d2_13) k) ?_
        show Go p e below s _ _ _ (s₁.setTop (mkF m 15 #[.val (.int p0)] [(.int (10 : Int32)), (.int p0)]))
        by_cases c15_3 : p0 = (10 : Int32)
        · refine Go.st (fun _ k => XS.icmpYes X0.here hx rfl (pc0 := 15) (pc' := 24) rfl (hb hby d2_15) rfl (XT.ii_eq_t c15_3) (by decide) (by decide) k) ?_
          show Go p e below s _ _ _ (s₁.setTop (mkF m 24 #[.val (.int p0)] []))
          refine Go.st (fun _ k => XS.iconst X0.here hx rfl (hb hby d2_24) k) ?_
          show Go p e below s _ _ _ (s₁.setTop (mkF m 25 #[.val (.int p0)] [(.int (1 : Int32))]))
          refine Go.st (fun _ k => XS.goto X0.here hx rfl (pc0 := 25) (pc' := 29) rfl (hb hby d2_25) (by decide) (by decide) k) ?_
          show Go p e below s _ _ _ (s₁.setTop (mkF m 29 #[.val (.int p0)] [(.int (1 : Int32))]))
          exact Go.ret X0 hlk (some (.int (nar .boolean (1 : Int32)))) (fun h => by rw [Bd.returns] at h; cases h) (by rw [e0]; exact ⟨own_res (z' := (1 : Int32)) (by unfold fRef; rw [if_pos c3_1, if_neg c9_2, if_pos c15_3]) rfl, N0, rfl⟩) (by decide) (by decide) (fun fs hr => retN X0 hx (t := .boolean) Bd.returns (by simp) (hb hby d2_29) hr)
        · refine Go.st (fun _ k => XS.icmpNo X0.here hx rfl (hb hby d2_15) rfl (XT.ii_eq_f c15_3) k) ?_
          show Go p e below s _ _ _ (s₁.setTop (mkF m 18 #[.val (.int p0)] []))
          refine Go.st (fun _ k => XS.iloadN X0.here hx rfl (hb hby d2_18) rfl k) ?_
          show Go p e below s _ _ _ (s₁.setTop (mkF m 19 #[.val (.int p0)] [(.int p0)]))
          refine Go.st (fun _ k => XS.bipush X0.here hx rfl (hb hby d2_19) k) ?_
          show Go p e below s _ _ _ (s₁.setTop (mkF m 21 #[.val (.int p0)] [(.int (13 : Int32)), (.int p0)]))
          by_cases c21_4 : p0 = (13 : Int32)
          · refine Go.st (fun _ k => XS.icmpNo X0.here hx rfl (hb hby d2_21) rfl (XT.ii_ne_f c21_4) k) ?_
            show Go p e below s _ _ _ (s₁.setTop (mkF m 24 #[.val (.int p0)] []))
            refine Go.st (fun _ k => XS.iconst X0.here hx rfl (hb hby d2_24) k) ?_
            show Go p e below s _ _ _ (s₁.setTop (mkF m 25 #[.val (.int p0)] [(.int (1 : Int32))]))
            refine Go.st (fun _ k => XS.goto X0.here hx rfl (pc0 := 25) (pc' := 29) rfl (hb hby d2_25) (by decide) (by decide) k) ?_
            show Go p e below s _ _ _ (s₁.setTop (mkF m 29 #[.val (.int p0)] [(.int (1 : Int32))]))
            exact Go.ret X0 hlk (some (.int (nar .boolean (1 : Int32)))) (fun h => by rw [Bd.returns] at h; cases h) (by rw [e0]; exact ⟨own_res (z' := (1 : Int32)) (by unfold fRef; rw [if_pos c3_1, if_neg c9_2, if_neg c15_3, if_pos c21_4]) rfl, N0, rfl⟩) (by decide) (by decide) (fun fs hr => retN X0 hx (t := .boolean) Bd.returns (by simp) (hb hby d2_29) hr)
          · refine Go.st (fun _ k => XS.icmpYes X0.here hx rfl (pc0 := 21) (pc' := 28) rfl (hb hby d2_21) rfl (XT.ii_ne_t c21_4) (by decide) (by decide) k) ?_
            show Go p e below s _ _ _ (s₁.setTop (mkF m 28 #[.val (.int p0)] []))
            refine Go.st (fun _ k => XS.iconst X0.here hx rfl (hb hby d2_28) k) ?_
            show Go p e below s _ _ _ (s₁.setTop (mkF m 29 #[.val (.int p0)] [(.int (0 : Int32))]))
            exact Go.ret X0 hlk (some (.int (nar .boolean (0 : Int32)))) (fun h => by rw [Bd.returns] at h; cases h) (by rw [e0]; exact ⟨own_res (z' := (0 : Int32)) (by unfold fRef; rw [if_pos c3_1, if_neg c9_2, if_neg c15_3, if_neg c21_4]) rfl, N0, rfl⟩) (by decide) (by decide) (fun fs hr => retN X0 hx (t := .boolean) Bd.returns (by simp) (hb hby d2_29) hr)
    · refine Go.st (fun _ k => XS.icmpYes X0.here hx rfl (pc0 := 3) (pc' := 30) rfl (hb hby d2_3) rfl (XT.ii_ge_t c3_1) (by decide) (by decide) k) ?_
      show Go p e below s _ _ _ (s₁.setTop (mkF m 30 #[.val (.int p0)] []))
      refine Go.st (fun _ k => XS.iloadN X0.here hx rfl (hb hby d2_30) rfl k) ?_
      show Go p e below s _ _ _ (s₁.setTop (mkF m 31 #[.val (.int p0)] [(.int p0)]))
      refine Go.st (fun _ k => X0.ldcI hx hown (mvT hZ (own_w hw 2 rfl)) rfl (hb hby d2_31) k) ?_
      show Go p e below s _ _ _ (s₁.setTop (mkF m 33 #[.val (.int p0)] [(.int (55296 : Int32)), (.int p0)]))
      by_cases c33_5 : p0 < (55296 : Int32)
      · refine Go.st (fun _ k => XS.icmpNo X0.here hx rfl (hb hby d2_33) rfl (XT.ii_ge_f c33_5) k) ?_
        show Go p e below s _ _ _ (s₁.setTop (mkF m 36 #[.val (.int p0)] []))
        refine Go.st (fun _ k => XS.iconst X0.here hx rfl (hb hby d2_36) k) ?_
        show Go p e below s _ _ _ (s₁.setTop (mkF m 37 #[.val (.int p0)] [(.int (1 : Int32))]))
        exact Go.ret X0 hlk (some (.int (nar .boolean (1 : Int32)))) (fun h => by rw [Bd.returns] at h; cases h) (by rw [e0]; exact ⟨own_res (z' := (1 : Int32)) (by unfold fRef; rw [if_neg c3_1, if_pos c33_5]) rfl, N0, rfl⟩) (by decide) (by decide) (fun fs hr => retN X0 hx (t := .boolean) Bd.returns (by simp) (hb hby d2_37) hr)
      · refine Go.st (fun _ k => XS.icmpYes X0.here hx rfl (pc0 := 33) (pc' := 38) rfl (hb hby d2_33) rfl (XT.ii_ge_t c33_5) (by decide) (by decide) k) ?_
        show Go p e below s _ _ _ (s₁.setTop (mkF m 38 #[.val (.int p0)] []))
        refine Go.st (fun _ k => XS.iloadN X0.here hx rfl (hb hby d2_38) rfl k) ?_
        show Go p e below s _ _ _ (s₁.setTop (mkF m 39 #[.val (.int p0)] [(.int p0)]))
        refine Go.st (fun _ k => X0.ldcI hx hown (mvT hZ (own_w hw 4 rfl)) rfl (hb hby d2_39) k) ?_
        show Go p e below s _ _ _ (s₁.setTop (mkF m 41 #[.val (.int p0)] [(.int (57344 : Int32)), (.int p0)]))
        by_cases c41_6 : p0 < (57344 : Int32)
        · refine Go.st (fun _ k => XS.icmpNo X0.here hx rfl (hb hby d2_41) rfl (XT.ii_ge_f c41_6) k) ?_
          show Go p e below s _ _ _ (s₁.setTop (mkF m 44 #[.val (.int p0)] []))
          refine Go.st (fun _ k => XS.iconst X0.here hx rfl (hb hby d2_44) k) ?_
          show Go p e below s _ _ _ (s₁.setTop (mkF m 45 #[.val (.int p0)] [(.int (0 : Int32))]))
          exact Go.ret X0 hlk (some (.int (nar .boolean (0 : Int32)))) (fun h => by rw [Bd.returns] at h; cases h) (by rw [e0]; exact ⟨own_res (z' := (0 : Int32)) (by unfold fRef; rw [if_neg c3_1, if_neg c33_5, if_pos c41_6]) rfl, N0, rfl⟩) (by decide) (by decide) (fun fs hr => retN X0 hx (t := .boolean) Bd.returns (by simp) (hb hby d2_45) hr)
        · refine Go.st (fun _ k => XS.icmpYes X0.here hx rfl (pc0 := 41) (pc' := 46) rfl (hb hby d2_41) rfl (XT.ii_ge_t c41_6) (by decide) (by decide) k) ?_
          show Go p e below s _ _ _ (s₁.setTop (mkF m 46 #[.val (.int p0)] []))
          refine Go.st (fun _ k => XS.iloadN X0.here hx rfl (hb hby d2_46) rfl k) ?_
          show Go p e below s _ _ _ (s₁.setTop (mkF m 47 #[.val (.int p0)] [(.int p0)]))
          refine Go.st (fun _ k => X0.ldcI hx hown (mvT hZ (own_w hw 25 rfl)) rfl (hb hby d2_47) k) ?_
          show Go p e below s _ _ _ (s₁.setTop (mkF m 49 #[.val (.int p0)] [(.int (65534 : Int32)), (.int p0)]))
          by_cases c49_7 : p0 < (65534 : Int32)
          · refine Go.st (fun _ k => XS.icmpNo X0.here hx rfl (hb hby d2_49) rfl (XT.ii_ge_f c49_7) k) ?_
            show Go p e below s _ _ _ (s₁.setTop (mkF m 52 #[.val (.int p0)] []))
            refine Go.st (fun _ k => XS.iconst X0.here hx rfl (hb hby d2_52) k) ?_
            show Go p e below s _ _ _ (s₁.setTop (mkF m 53 #[.val (.int p0)] [(.int (1 : Int32))]))
            exact Go.ret X0 hlk (some (.int (nar .boolean (1 : Int32)))) (fun h => by rw [Bd.returns] at h; cases h) (by rw [e0]; exact ⟨own_res (z' := (1 : Int32)) (by unfold fRef; rw [if_neg c3_1, if_neg c33_5, if_neg c41_6, if_pos c49_7]) rfl, N0, rfl⟩) (by decide) (by decide) (fun fs hr => retN X0 hx (t := .boolean) Bd.returns (by simp) (hb hby d2_53) hr)
          · refine Go.st (fun _ k => XS.icmpYes X0.here hx rfl (pc0 := 49) (pc' := 54) rfl (hb hby d2_49) rfl (XT.ii_ge_t c49_7) (by decide) (by decide) k) ?_
            show Go p e below s _ _ _ (s₁.setTop (mkF m 54 #[.val (.int p0)] []))
            refine Go.st (fun _ k => XS.iloadN X0.here hx rfl (hb hby d2_54) rfl k) ?_
            show Go p e below s _ _ _ (s₁.setTop (mkF m 55 #[.val (.int p0)] [(.int p0)]))
            refine Go.st (fun _ k => X0.ldcI hx hown (mvT hZ (own_w hw 7 rfl)) rfl (hb hby d2_55) k) ?_
            show Go p e below s _ _ _ (s₁.setTop (mkF m 57 #[.val (.int p0)] [(.int (65536 : Int32)), (.int p0)]))
            by_cases c57_8 : p0 < (65536 : Int32)
            · refine Go.st (fun _ k => XS.icmpNo X0.here hx rfl (hb hby d2_57) rfl (XT.ii_ge_f c57_8) k) ?_
              show Go p e below s _ _ _ (s₁.setTop (mkF m 60 #[.val (.int p0)] []))
              refine Go.st (fun _ k => XS.iconst X0.here hx rfl (hb hby d2_60) k) ?_
              show Go p e below s _ _ _ (s₁.setTop (mkF m 61 #[.val (.int p0)] [(.int (0 : Int32))]))
              exact Go.ret X0 hlk (some (.int (nar .boolean (0 : Int32)))) (fun h => by rw [Bd.returns] at h; cases h) (by rw [e0]; exact ⟨own_res (z' := (0 : Int32)) (by unfold fRef; rw [if_neg c3_1, if_neg c33_5, if_neg c41_6, if_neg c49_7, if_pos c57_8]) rfl, N0, rfl⟩) (by decide) (by decide) (fun fs hr => retN X0 hx (t := .boolean) Bd.returns (by simp) (hb hby d2_61) hr)
            · refine Go.st (fun _ k => XS.icmpYes X0.here hx rfl (pc0 := 57) (pc' := 62) rfl (hb hby d2_57) rfl (XT.ii_ge_t c57_8) (by decide) (by decide) k) ?_
              show Go p e below s _ _ _ (s₁.setTop (mkF m 62 #[.val (.int p0)] []))
              refine Go.st (fun _ k => XS.iloadN X0.here hx rfl (hb hby d2_62) rfl k) ?_
              show Go p e below s _ _ _ (s₁.setTop (mkF m 63 #[.val (.int p0)] [(.int p0)]))
              refine Go.st (fun _ k => X0.ldcI hx hown (mvT hZ (own_w hw 8 rfl)) rfl (hb hby d2_63) k) ?_
              show Go p e below s _ _ _ (s₁.setTop (mkF m 65 #[.val (.int p0)] [(.int (1114111 : Int32)), (.int p0)]))
              by_cases c65_9 : (1114111 : Int32) < p0
              · refine Go.st (fun _ k => XS.icmpYes X0.here hx rfl (pc0 := 65) (pc' := 72) rfl (hb hby d2_65) rfl (XT.ii_gt_t c65_9) (by decide) (by decide) k) ?_
                show Go p e below s _ _ _ (s₁.setTop (mkF m 72 #[.val (.int p0)] []))
                refine Go.st (fun _ k => XS.iconst X0.here hx rfl (hb hby d2_72) k) ?_
                show Go p e below s _ _ _ (s₁.setTop (mkF m 73 #[.val (.int p0)] [(.int (0 : Int32))]))
                exact Go.ret X0 hlk (some (.int (nar .boolean (0 : Int32)))) (fun h => by rw [Bd.returns] at h; cases h) (by rw [e0]; exact ⟨own_res (z' := (0 : Int32)) (by unfold fRef; rw [if_neg c3_1, if_neg c33_5, if_neg c41_6, if_neg c49_7, if_neg c57_8, if_pos c65_9]) rfl, N0, rfl⟩) (by decide) (by decide) (fun fs hr => retN X0 hx (t := .boolean) Bd.returns (by simp) (hb hby d2_73) hr)
              · refine Go.st (fun _ k => XS.icmpNo X0.here hx rfl (hb hby d2_65) rfl (XT.ii_gt_f c65_9) k) ?_
                show Go p e below s _ _ _ (s₁.setTop (mkF m 68 #[.val (.int p0)] []))
                refine Go.st (fun _ k => XS.iconst X0.here hx rfl (hb hby d2_68) k) ?_
                show Go p e below s _ _ _ (s₁.setTop (mkF m 69 #[.val (.int p0)] [(.int (1 : Int32))]))
                refine Go.st (fun _ k => XS.goto X0.here hx rfl (pc0 := 69) (pc' := 73) rfl (hb hby d2_69) (by decide) (by decide) k) ?_
                show Go p e below s _ _ _ (s₁.setTop (mkF m 73 #[.val (.int p0)] [(.int (1 : Int32))]))
                exact Go.ret X0 hlk (some (.int (nar .boolean (1 : Int32)))) (fun h => by rw [Bd.returns] at h; cases h) (by rw [e0]; exact ⟨own_res (z' := (1 : Int32)) (by unfold fRef; rw [if_neg c3_1, if_neg c33_5, if_neg c41_6, if_neg c49_7, if_neg c57_8, if_neg c65_9]) rfl, N0, rfl⟩) (by decide) (by decide) (fun fs hr => retN X0 hx (t := .boolean) Bd.returns (by simp) (hb hby d2_73) hr)
  obtain ⟨s2, o2, st2, r2⟩ := G
  exact ⟨s2, o2, castTop (ef2 m p0) st2, r2⟩
set_option maxHeartbeats 4000000 in
theorem own_law (y : Int32) : fIs y = fRef y := by
  unfold fIs fRef
  simp only [own_lt, own_eq, Int32.reduceToInt]
  repeat' split
  all_goals first | rfl | (exfalso; omega)
theorem pd0_0 : parseMethodDescriptor "(I)Z" = some ⟨[.int], some .boolean⟩ := by decide +kernel
theorem pn0 : plainName "com/example/arbora/arbora/xml/XmlCharactersIsCharPinLaw" = true := by first | (simp [plainName, overriddenIn]; done) | decide +kernel
theorem ef0 (m : MethodId) (x0 : Int32) (x1 : Int32) (x2 : Int32) : entryFrame m #[(.int x0), (.int x1), (.int x2)] maxLocals = mkF m 0 #[.val (.int x0), .val (.int x1), .val (.int x2), .unset, .unset, .unset, .unset, .unset, .unset] [] := by first | (simp [entryFrame, mkF, argsToLocals, Value.category, maxLocals]; done) | rfl
def Q0 (Z : State) (p0 : Int32) (p1 : Int32) (p2 : Int32) (h0 : Heap) (n0 : Nat) (v : Option Value) (h : Heap) (L : List Loc) : Prop := v = some (.int 1) ∧ Fr n0 L
set_option maxRecDepth 65536 in
set_option maxHeartbeats 40000000 in
theorem rm0 (l : Launch) (Z : State) (a0 : Array Value) (hw : ∀ d ∈ tables_1, d.before a0 Z = true) (ws : List Jvm.Cond) (p0 : Int32) (p1 : Int32) (p2 : Int32) (h0 : Heap) (n0 : Nat) (O0 : Old Z n0 h0)  :
    MetFree l x (head1 (Jvm.Cond.code x code maxLocals ret :: ws) room_1) (fun A_ U_ => A_ = #[(.int p0), (.int p1), (.int p2)] ∧ Z.Warmed39 U_.vm ∧ U_.heap = h0) (fun _ _ _ _ _ => True) (fun _ U o U' => ∃ v L, o = .returned v ∧ Q0 Z p0 p1 p2 h0 n0 v U'.heap L ∧ FrameEnd U o U' L room_1.cells room_1.slots) := by
  refine MetFree.of_bodySF (plainFor_of_name pn0) hisR ?_
  intro p e s m args below meth cd s₁ Bd hml0 hP hK
  obtain ⟨rfl, hZ, hh⟩ := hP
  have hx := Bd.exec
  have hby := Bd.bytes
  have hlk : meth.locks = false := BodyLoose.notSynchronized Bd
  have hml : cd.maxLocals = 9 := hml0
  have hown : s.vm.findClass "com/example/arbora/arbora/xml/XmlCharactersIsCharPinLaw" = some m.cls := findClass_of_methodNamed Bd.named
  have hnm := (name_of_methodNamed Bd.named Bd.method).1
  have X0 : Stand p l e room_1 s m #[(.int p0), (.int p1), (.int p2)] below meth cd s₁ [] 0 0 := Stand.of_body Bd
  have e0 : s₁.heap = h0 := by rw [← hh, Bd.state]; rfl
  have N0 := Fr.nil n0
  have G : Go p e below s room_1.cells room_1.slots (Q0 Z p0 p1 p2 h0 n0) (s₁.setTop (mkF m 0 #[.val (.int p0), .val (.int p1), .val (.int p2), .unset, .unset, .unset, .unset, .unset, .unset] [])) := by
    show Go p e below s _ _ _ (s₁.setTop (mkF m 0 #[.val (.int p0), .val (.int p1), .val (.int p2), .unset, .unset, .unset, .unset, .unset, .unset] []))
    refine Go.st (fun _ k => XS.bipush X0.here hx rfl (hb hby at_0) k) ?_
    show Go p e below s _ _ _ (s₁.setTop (mkF m 2 #[.val (.int p0), .val (.int p1), .val (.int p2), .unset, .unset, .unset, .unset, .unset, .unset] [(.int (16 : Int32))]))
    obtain ⟨T1, h1, k1, X1, e1, E1, A1, st1⟩ := newP X0 hx hZ (own_w hw 0 rfl) e0 (g := (mkF m 2 #[.val (.int p0), .val (.int p1), .val (.int p2), .unset, .unset, .unset, .unset, .unset, .unset] [(.int (16 : Int32))])) rfl (hb hby at_2) rfl (by decide) (cap := 16) (by decide) (by decide) (by decide) (by decide)
    obtain ⟨b1, g1⟩ : ∃ z, z = h0.size := ⟨_, rfl⟩
    rw [← g1] at A1 st1
    have g_b1 : n0 ≤ b1 := Nat.le_trans (own_old O0) (Nat.le_of_eq g1.symm)
    have O1 := O0.ext E1
    have V_b1 : Arv Z h1 b1 k1 .int (16 : Int32) [(.int (0 : Int32)), (.int (0 : Int32)), (.int (0 : Int32)), (.int (0 : Int32)), (.int (0 : Int32)), (.int (0 : Int32)), (.int (0 : Int32)), (.int (0 : Int32)), (.int (0 : Int32)), (.int (0 : Int32)), (.int (0 : Int32)), (.int (0 : Int32)), (.int (0 : Int32)), (.int (0 : Int32)), (.int (0 : Int32)), (.int (0 : Int32))] (.int (0 : Int32)) := (Arv.new A1 (by decide)).pad (pad_rep [] (.int (0 : Int32)) 16)
    refine Go.st st1 ?_
    show Go p e below s _ _ _ (T1.setTop (mkF m 4 #[.val (.int p0), .val (.int p1), .val (.int p2), .unset, .unset, .unset, .unset, .unset, .unset] [(.ref b1)]))
    refine Go.st (fun _ k => XS.dup X1.here hx rfl (hb hby at_4) rfl rfl k) ?_
    show Go p e below s _ _ _ (T1.setTop (mkF m 5 #[.val (.int p0), .val (.int p1), .val (.int p2), .unset, .unset, .unset, .unset, .unset, .unset] [(.ref b1), (.ref b1)]))
    refine Go.st (fun _ k => XS.iconst X1.here hx rfl (hb hby at_5) k) ?_
    show Go p e below s _ _ _ (T1.setTop (mkF m 6 #[.val (.int p0), .val (.int p1), .val (.int p2), .unset, .unset, .unset, .unset, .unset, .unset] [(.int (0 : Int32)), (.ref b1), (.ref b1)]))
    refine Go.st (fun _ k => XS.bipush X1.here hx rfl (hb hby at_6) k) ?_
    show Go p e below s _ _ _ (T1.setTop (mkF m 8 #[.val (.int p0), .val (.int p1), .val (.int p2), .unset, .unset, .unset, .unset, .unset, .unset] [(.int (8 : Int32)), (.int (0 : Int32)), (.ref b1), (.ref b1)]))
    obtain ⟨T2, h2, X2, e2, W2, V2, st2⟩ := own_stI X1 hx hZ e1 V_b1 (j := (0 : Int32)) (by decide) (by decide) 0 rfl (Nat.le_of_ble_eq_true rfl) (g := (mkF m 8 #[.val (.int p0), .val (.int p1), .val (.int p2), .unset, .unset, .unset, .unset, .unset, .unset] [(.int (8 : Int32)), (.int (0 : Int32)), (.ref b1), (.ref b1)])) rfl rfl (hb hby at_8)
    have N2 := Fr.snoc X2 N0 g_b1
    have O2 := O1.wr W2 g_b1
    have V_b1 : Arv Z h2 b1 k1 .int (16 : Int32) [(.int (8 : Int32)), (.int (0 : Int32)), (.int (0 : Int32)), (.int (0 : Int32)), (.int (0 : Int32)), (.int (0 : Int32)), (.int (0 : Int32)), (.int (0 : Int32)), (.int (0 : Int32)), (.int (0 : Int32)), (.int (0 : Int32)), (.int (0 : Int32)), (.int (0 : Int32)), (.int (0 : Int32)), (.int (0 : Int32)), (.int (0 : Int32))] (.int (0 : Int32)) := V2
    refine Go.st st2 ?_
    show Go p e below s _ _ _ (T2.setTop (mkF m 9 #[.val (.int p0), .val (.int p1), .val (.int p2), .unset, .unset, .unset, .unset, .unset, .unset] [(.ref b1)]))
    refine Go.st (fun _ k => XS.dup X2.here hx rfl (hb hby at_9) rfl rfl k) ?_
    show Go p e below s _ _ _ (T2.setTop (mkF m 10 #[.val (.int p0), .val (.int p1), .val (.int p2), .unset, .unset, .unset, .unset, .unset, .unset] [(.ref b1), (.ref b1)]))
    refine Go.st (fun _ k => XS.iconst X2.here hx rfl (hb hby at_10) k) ?_
    show Go p e below s _ _ _ (T2.setTop (mkF m 11 #[.val (.int p0), .val (.int p1), .val (.int p2), .unset, .unset, .unset, .unset, .unset, .unset] [(.int (1 : Int32)), (.ref b1), (.ref b1)]))
    refine Go.st (fun _ k => XS.bipush X2.here hx rfl (hb hby at_11) k) ?_
    show Go p e below s _ _ _ (T2.setTop (mkF m 13 #[.val (.int p0), .val (.int p1), .val (.int p2), .unset, .unset, .unset, .unset, .unset, .unset] [(.int (9 : Int32)), (.int (1 : Int32)), (.ref b1), (.ref b1)]))
    obtain ⟨T3, h3, X3, e3, W3, V3, st3⟩ := own_stI X2 hx hZ e2 V_b1 (j := (1 : Int32)) (by decide) (by decide) 1 rfl (Nat.le_of_ble_eq_true rfl) (g := (mkF m 13 #[.val (.int p0), .val (.int p1), .val (.int p2), .unset, .unset, .unset, .unset, .unset, .unset] [(.int (9 : Int32)), (.int (1 : Int32)), (.ref b1), (.ref b1)])) rfl rfl (hb hby at_13)
    have N3 := Fr.snoc X3 N2 g_b1
    have O3 := O2.wr W3 g_b1
    have V_b1 : Arv Z h3 b1 k1 .int (16 : Int32) [(.int (8 : Int32)), (.int (9 : Int32)), (.int (0 : Int32)), (.int (0 : Int32)), (.int (0 : Int32)), (.int (0 : Int32)), (.int (0 : Int32)), (.int (0 : Int32)), (.int (0 : Int32)), (.int (0 : Int32)), (.int (0 : Int32)), (.int (0 : Int32)), (.int (0 : Int32)), (.int (0 : Int32)), (.int (0 : Int32)), (.int (0 : Int32))] (.int (0 : Int32)) := V3
    refine Go.st st3 ?_
    show Go p e below s _ _ _ (T3.setTop (mkF m 14 #[.val (.int p0), .val (.int p1), .val (.int p2), .unset, .unset, .unset, .unset, .unset, .unset] [(.ref b1)]))
    refine Go.st (fun _ k => XS.dup X3.here hx rfl (hb hby at_14) rfl rfl k) ?_
    show Go p e below s _ _ _ (T3.setTop (mkF m 15 #[.val (.int p0), .val (.int p1), .val (.int p2), .unset, .unset, .unset, .unset, .unset, .unset] [(.ref b1), (.ref b1)]))
    refine Go.st (fun _ k => XS.iconst X3.here hx rfl (hb hby at_15) k) ?_
    show Go p e below s _ _ _ (T3.setTop (mkF m 16 #[.val (.int p0), .val (.int p1), .val (.int p2), .unset, .unset, .unset, .unset, .unset, .unset] [(.int (2 : Int32)), (.ref b1), (.ref b1)]))
    refine Go.st (fun _ k => XS.bipush X3.here hx rfl (hb hby at_16) k) ?_
    show Go p e below s _ _ _ (T3.setTop (mkF m 18 #[.val (.int p0), .val (.int p1), .val (.int p2), .unset, .unset, .unset, .unset, .unset, .unset] [(.int (10 : Int32)), (.int (2 : Int32)), (.ref b1), (.ref b1)]))
    obtain ⟨T4, h4, X4, e4, W4, V4, st4⟩ := own_stI X3 hx hZ e3 V_b1 (j := (2 : Int32)) (by decide) (by decide) 2 rfl (Nat.le_of_ble_eq_true rfl) (g := (mkF m 18 #[.val (.int p0), .val (.int p1), .val (.int p2), .unset, .unset, .unset, .unset, .unset, .unset] [(.int (10 : Int32)), (.int (2 : Int32)), (.ref b1), (.ref b1)])) rfl rfl (hb hby at_18)
    have N4 := Fr.snoc X4 N3 g_b1
    have O4 := O3.wr W4 g_b1
    have V_b1 : Arv Z h4 b1 k1 .int (16 : Int32) [(.int (8 : Int32)), (.int (9 : Int32)), (.int (10 : Int32)), (.int (0 : Int32)), (.int (0 : Int32)), (.int (0 : Int32)), (.int (0 : Int32)), (.int (0 : Int32)), (.int (0 : Int32)), (.int (0 : Int32)), (.int (0 : Int32)), (.int (0 : Int32)), (.int (0 : Int32)), (.int (0 : Int32)), (.int (0 : Int32)), (.int (0 : Int32))] (.int (0 : Int32)) := V4
    refine Go.st st4 ?_
    show Go p e below s _ _ _ (T4.setTop (mkF m 19 #[.val (.int p0), .val (.int p1), .val (.int p2), .unset, .unset, .unset, .unset, .unset, .unset] [(.ref b1)]))
    refine Go.st (fun _ k => XS.dup X4.here hx rfl (hb hby at_19) rfl rfl k) ?_
    show Go p e below s _ _ _ (T4.setTop (mkF m 20 #[.val (.int p0), .val (.int p1), .val (.int p2), .unset, .unset, .unset, .unset, .unset, .unset] [(.ref b1), (.ref b1)]))
    refine Go.st (fun _ k => XS.iconst X4.here hx rfl (hb hby at_20) k) ?_
    show Go p e below s _ _ _ (T4.setTop (mkF m 21 #[.val (.int p0), .val (.int p1), .val (.int p2), .unset, .unset, .unset, .unset, .unset, .unset] [(.int (3 : Int32)), (.ref b1), (.ref b1)]))
    refine Go.st (fun _ k => XS.bipush X4.here hx rfl (hb hby at_21) k) ?_
    show Go p e below s _ _ _ (T4.setTop (mkF m 23 #[.val (.int p0), .val (.int p1), .val (.int p2), .unset, .unset, .unset, .unset, .unset, .unset] [(.int (13 : Int32)), (.int (3 : Int32)), (.ref b1), (.ref b1)]))
    obtain ⟨T5, h5, X5, e5, W5, V5, st5⟩ := own_stI X4 hx hZ e4 V_b1 (j := (3 : Int32)) (by decide) (by decide) 3 rfl (Nat.le_of_ble_eq_true rfl) (g := (mkF m 23 #[.val (.int p0), .val (.int p1), .val (.int p2), .unset, .unset, .unset, .unset, .unset, .unset] [(.int (13 : Int32)), (.int (3 : Int32)), (.ref b1), (.ref b1)])) rfl rfl (hb hby at_23)
    have N5 := Fr.snoc X5 N4 g_b1
    have O5 := O4.wr W5 g_b1
    have V_b1 : Arv Z h5 b1 k1 .int (16 : Int32) [(.int (8 : Int32)), (.int (9 : Int32)), (.int (10 : Int32)), (.int (13 : Int32)), (.int (0 : Int32)), (.int (0 : Int32)), (.int (0 : Int32)), (.int (0 : Int32)), (.int (0 : Int32)), (.int (0 : Int32)), (.int (0 : Int32)), (.int (0 : Int32)), (.int (0 : Int32)), (.int (0 : Int32)), (.int (0 : Int32)), (.int (0 : Int32))] (.int (0 : Int32)) := V5
    refine Go.st st5 ?_
    show Go p e below s _ _ _ (T5.setTop (mkF m 24 #[.val (.int p0), .val (.int p1), .val (.int p2), .unset, .unset, .unset, .unset, .unset, .unset] [(.ref b1)]))
    refine Go.st (fun _ k => XS.dup X5.here hx rfl (hb hby at_24) rfl rfl k) ?_
    show Go p e below s _ _ _ (T5.setTop (mkF m 25 #[.val (.int p0), .val (.int p1), .val (.int p2), .unset, .unset, .unset, .unset, .unset, .unset] [(.ref b1), (.ref b1)]))
    refine Go.st (fun _ k => XS.iconst X5.here hx rfl (hb hby at_25) k) ?_
    show Go p e below s _ _ _ (T5.setTop (mkF m 26 #[.val (.int p0), .val (.int p1), .val (.int p2), .unset, .unset, .unset, .unset, .unset, .unset] [(.int (4 : Int32)), (.ref b1), (.ref b1)]))
    refine Go.st (fun _ k => XS.bipush X5.here hx rfl (hb hby at_26) k) ?_
    show Go p e below s _ _ _ (T5.setTop (mkF m 28 #[.val (.int p0), .val (.int p1), .val (.int p2), .unset, .unset, .unset, .unset, .unset, .unset] [(.int (32 : Int32)), (.int (4 : Int32)), (.ref b1), (.ref b1)]))
    obtain ⟨T6, h6, X6, e6, W6, V6, st6⟩ := own_stI X5 hx hZ e5 V_b1 (j := (4 : Int32)) (by decide) (by decide) 4 rfl (Nat.le_of_ble_eq_true rfl) (g := (mkF m 28 #[.val (.int p0), .val (.int p1), .val (.int p2), .unset, .unset, .unset, .unset, .unset, .unset] [(.int (32 : Int32)), (.int (4 : Int32)), (.ref b1), (.ref b1)])) rfl rfl (hb hby at_28)
    have N6 := Fr.snoc X6 N5 g_b1
    have O6 := O5.wr W6 g_b1
    have V_b1 : Arv Z h6 b1 k1 .int (16 : Int32) [(.int (8 : Int32)), (.int (9 : Int32)), (.int (10 : Int32)), (.int (13 : Int32)), (.int (32 : Int32)), (.int (0 : Int32)), (.int (0 : Int32)), (.int (0 : Int32)), (.int (0 : Int32)), (.int (0 : Int32)), (.int (0 : Int32)), (.int (0 : Int32)), (.int (0 : Int32)), (.int (0 : Int32)), (.int (0 : Int32)), (.int (0 : Int32))] (.int (0 : Int32)) := V6
    refine Go.st st6 ?_
    show Go p e below s _ _ _ (T6.setTop (mkF m 29 #[.val (.int p0), .val (.int p1), .val (.int p2), .unset, .unset, .unset, .unset, .unset, .unset] [(.ref b1)]))
    refine Go.st (fun _ k => XS.dup X6.here hx rfl (hb hby at_29) rfl rfl k) ?_
    show Go p e below s _ _ _ (T6.setTop (mkF m 30 #[.val (.int p0), .val (.int p1), .val (.int p2), .unset, .unset, .unset, .unset, .unset, .unset] [(.ref b1), (.ref b1)]))
    refine Go.st (fun _ k => XS.iconst X6.here hx rfl (hb hby at_30) k) ?_
    show Go p e below s _ _ _ (T6.setTop (mkF m 31 #[.val (.int p0), .val (.int p1), .val (.int p2), .unset, .unset, .unset, .unset, .unset, .unset] [(.int (5 : Int32)), (.ref b1), (.ref b1)]))
    refine Go.st (fun _ k => X6.ldcI hx hown (mvT hZ (own_w hw 1 rfl)) rfl (hb hby at_31) k) ?_
    show Go p e below s _ _ _ (T6.setTop (mkF m 33 #[.val (.int p0), .val (.int p1), .val (.int p2), .unset, .unset, .unset, .unset, .unset, .unset] [(.int (55295 : Int32)), (.int (5 : Int32)), (.ref b1), (.ref b1)]))
    obtain ⟨T7, h7, X7, e7, W7, V7, st7⟩ := own_stI X6 hx hZ e6 V_b1 (j := (5 : Int32)) (by decide) (by decide) 5 rfl (Nat.le_of_ble_eq_true rfl) (g := (mkF m 33 #[.val (.int p0), .val (.int p1), .val (.int p2), .unset, .unset, .unset, .unset, .unset, .unset] [(.int (55295 : Int32)), (.int (5 : Int32)), (.ref b1), (.ref b1)])) rfl rfl (hb hby at_33)
    have N7 := Fr.snoc X7 N6 g_b1
    have O7 := O6.wr W7 g_b1
    have V_b1 : Arv Z h7 b1 k1 .int (16 : Int32) [(.int (8 : Int32)), (.int (9 : Int32)), (.int (10 : Int32)), (.int (13 : Int32)), (.int (32 : Int32)), (.int (55295 : Int32)), (.int (0 : Int32)), (.int (0 : Int32)), (.int (0 : Int32)), (.int (0 : Int32)), (.int (0 : Int32)), (.int (0 : Int32)), (.int (0 : Int32)), (.int (0 : Int32)), (.int (0 : Int32)), (.int (0 : Int32))] (.int (0 : Int32)) := V7
    refine Go.st st7 ?_
    show Go p e below s _ _ _ (T7.setTop (mkF m 34 #[.val (.int p0), .val (.int p1), .val (.int p2), .unset, .unset, .unset, .unset, .unset, .unset] [(.ref b1)]))
    refine Go.st (fun _ k => XS.dup X7.here hx rfl (hb hby at_34) rfl rfl k) ?_
    show Go p e below s _ _ _ (T7.setTop (mkF m 35 #[.val (.int p0), .val (.int p1), .val (.int p2), .unset, .unset, .unset, .unset, .unset, .unset] [(.ref b1), (.ref b1)]))
    refine Go.st (fun _ k => XS.bipush X7.here hx rfl (hb hby at_35) k) ?_
    show Go p e below s _ _ _ (T7.setTop (mkF m 37 #[.val (.int p0), .val (.int p1), .val (.int p2), .unset, .unset, .unset, .unset, .unset, .unset] [(.int (6 : Int32)), (.ref b1), (.ref b1)]))
    refine Go.st (fun _ k => X7.ldcI hx hown (mvT hZ (own_w hw 2 rfl)) rfl (hb hby at_37) k) ?_
    show Go p e below s _ _ _ (T7.setTop (mkF m 39 #[.val (.int p0), .val (.int p1), .val (.int p2), .unset, .unset, .unset, .unset, .unset, .unset] [(.int (55296 : Int32)), (.int (6 : Int32)), (.ref b1), (.ref b1)]))
    obtain ⟨T8, h8, X8, e8, W8, V8, st8⟩ := own_stI X7 hx hZ e7 V_b1 (j := (6 : Int32)) (by decide) (by decide) 6 rfl (Nat.le_of_ble_eq_true rfl) (g := (mkF m 39 #[.val (.int p0), .val (.int p1), .val (.int p2), .unset, .unset, .unset, .unset, .unset, .unset] [(.int (55296 : Int32)), (.int (6 : Int32)), (.ref b1), (.ref b1)])) rfl rfl (hb hby at_39)
    have N8 := Fr.snoc X8 N7 g_b1
    have O8 := O7.wr W8 g_b1
    have V_b1 : Arv Z h8 b1 k1 .int (16 : Int32) [(.int (8 : Int32)), (.int (9 : Int32)), (.int (10 : Int32)), (.int (13 : Int32)), (.int (32 : Int32)), (.int (55295 : Int32)), (.int (55296 : Int32)), (.int (0 : Int32)), (.int (0 : Int32)), (.int (0 : Int32)), (.int (0 : Int32)), (.int (0 : Int32)), (.int (0 : Int32)), (.int (0 : Int32)), (.int (0 : Int32)), (.int (0 : Int32))] (.int (0 : Int32)) := V8
    refine Go.st st8 ?_
    show Go p e below s _ _ _ (T8.setTop (mkF m 40 #[.val (.int p0), .val (.int p1), .val (.int p2), .unset, .unset, .unset, .unset, .unset, .unset] [(.ref b1)]))
    refine Go.st (fun _ k => XS.dup X8.here hx rfl (hb hby at_40) rfl rfl k) ?_
    show Go p e below s _ _ _ (T8.setTop (mkF m 41 #[.val (.int p0), .val (.int p1), .val (.int p2), .unset, .unset, .unset, .unset, .unset, .unset] [(.ref b1), (.ref b1)]))
    refine Go.st (fun _ k => XS.bipush X8.here hx rfl (hb hby at_41) k) ?_
    show Go p e below s _ _ _ (T8.setTop (mkF m 43 #[.val (.int p0), .val (.int p1), .val (.int p2), .unset, .unset, .unset, .unset, .unset, .unset] [(.int (7 : Int32)), (.ref b1), (.ref b1)]))
    refine Go.st (fun _ k => X8.ldcI hx hown (mvT hZ (own_w hw 3 rfl)) rfl (hb hby at_43) k) ?_
    show Go p e below s _ _ _ (T8.setTop (mkF m 45 #[.val (.int p0), .val (.int p1), .val (.int p2), .unset, .unset, .unset, .unset, .unset, .unset] [(.int (57343 : Int32)), (.int (7 : Int32)), (.ref b1), (.ref b1)]))
    obtain ⟨T9, h9, X9, e9, W9, V9, st9⟩ := own_stI X8 hx hZ e8 V_b1 (j := (7 : Int32)) (by decide) (by decide) 7 rfl (Nat.le_of_ble_eq_true rfl) (g := (mkF m 45 #[.val (.int p0), .val (.int p1), .val (.int p2), .unset, .unset, .unset, .unset, .unset, .unset] [(.int (57343 : Int32)), (.int (7 : Int32)), (.ref b1), (.ref b1)])) rfl rfl (hb hby at_45)
    have N9 := Fr.snoc X9 N8 g_b1
    have O9 := O8.wr W9 g_b1
    have V_b1 : Arv Z h9 b1 k1 .int (16 : Int32) [(.int (8 : Int32)), (.int (9 : Int32)), (.int (10 : Int32)), (.int (13 : Int32)), (.int (32 : Int32)), (.int (55295 : Int32)), (.int (55296 : Int32)), (.int (57343 : Int32)), (.int (0 : Int32)), (.int (0 : Int32)), (.int (0 : Int32)), (.int (0 : Int32)), (.int (0 : Int32)), (.int (0 : Int32)), (.int (0 : Int32)), (.int (0 : Int32))] (.int (0 : Int32)) := V9
    refine Go.st st9 ?_
    show Go p e below s _ _ _ (T9.setTop (mkF m 46 #[.val (.int p0), .val (.int p1), .val (.int p2), .unset, .unset, .unset, .unset, .unset, .unset] [(.ref b1)]))
    refine Go.st (fun _ k => XS.dup X9.here hx rfl (hb hby at_46) rfl rfl k) ?_
    show Go p e below s _ _ _ (T9.setTop (mkF m 47 #[.val (.int p0), .val (.int p1), .val (.int p2), .unset, .unset, .unset, .unset, .unset, .unset] [(.ref b1), (.ref b1)]))
    refine Go.st (fun _ k => XS.bipush X9.here hx rfl (hb hby at_47) k) ?_
    show Go p e below s _ _ _ (T9.setTop (mkF m 49 #[.val (.int p0), .val (.int p1), .val (.int p2), .unset, .unset, .unset, .unset, .unset, .unset] [(.int (8 : Int32)), (.ref b1), (.ref b1)]))
    refine Go.st (fun _ k => X9.ldcI hx hown (mvT hZ (own_w hw 4 rfl)) rfl (hb hby at_49) k) ?_
    show Go p e below s _ _ _ (T9.setTop (mkF m 51 #[.val (.int p0), .val (.int p1), .val (.int p2), .unset, .unset, .unset, .unset, .unset, .unset] [(.int (57344 : Int32)), (.int (8 : Int32)), (.ref b1), (.ref b1)]))
    obtain ⟨T10, h10, X10, e10, W10, V10, st10⟩ := own_stI X9 hx hZ e9 V_b1 (j := (8 : Int32)) (by decide) (by decide) 8 rfl (Nat.le_of_ble_eq_true rfl) (g := (mkF m 51 #[.val (.int p0), .val (.int p1), .val (.int p2), .unset, .unset, .unset, .unset, .unset, .unset] [(.int (57344 : Int32)), (.int (8 : Int32)), (.ref b1), (.ref b1)])) rfl rfl (hb hby at_51)
    have N10 := Fr.snoc X10 N9 g_b1
    have O10 := O9.wr W10 g_b1
    have V_b1 : Arv Z h10 b1 k1 .int (16 : Int32) [(.int (8 : Int32)), (.int (9 : Int32)), (.int (10 : Int32)), (.int (13 : Int32)), (.int (32 : Int32)), (.int (55295 : Int32)), (.int (55296 : Int32)), (.int (57343 : Int32)), (.int (57344 : Int32)), (.int (0 : Int32)), (.int (0 : Int32)), (.int (0 : Int32)), (.int (0 : Int32)), (.int (0 : Int32)), (.int (0 : Int32)), (.int (0 : Int32))] (.int (0 : Int32)) := V10
    refine Go.st st10 ?_
    show Go p e below s _ _ _ (T10.setTop (mkF m 52 #[.val (.int p0), .val (.int p1), .val (.int p2), .unset, .unset, .unset, .unset, .unset, .unset] [(.ref b1)]))
    refine Go.st (fun _ k => XS.dup X10.here hx rfl (hb hby at_52) rfl rfl k) ?_
    show Go p e below s _ _ _ (T10.setTop (mkF m 53 #[.val (.int p0), .val (.int p1), .val (.int p2), .unset, .unset, .unset, .unset, .unset, .unset] [(.ref b1), (.ref b1)]))
    refine Go.st (fun _ k => XS.bipush X10.here hx rfl (hb hby at_53) k) ?_
    show Go p e below s _ _ _ (T10.setTop (mkF m 55 #[.val (.int p0), .val (.int p1), .val (.int p2), .unset, .unset, .unset, .unset, .unset, .unset] [(.int (9 : Int32)), (.ref b1), (.ref b1)]))
    refine Go.st (fun _ k => X10.ldcI hx hown (mvT hZ (own_w hw 5 rfl)) rfl (hb hby at_55) k) ?_
    show Go p e below s _ _ _ (T10.setTop (mkF m 57 #[.val (.int p0), .val (.int p1), .val (.int p2), .unset, .unset, .unset, .unset, .unset, .unset] [(.int (65533 : Int32)), (.int (9 : Int32)), (.ref b1), (.ref b1)]))
    obtain ⟨T11, h11, X11, e11, W11, V11, st11⟩ := own_stI X10 hx hZ e10 V_b1 (j := (9 : Int32)) (by decide) (by decide) 9 rfl (Nat.le_of_ble_eq_true rfl) (g := (mkF m 57 #[.val (.int p0), .val (.int p1), .val (.int p2), .unset, .unset, .unset, .unset, .unset, .unset] [(.int (65533 : Int32)), (.int (9 : Int32)), (.ref b1), (.ref b1)])) rfl rfl (hb hby at_57)
    have N11 := Fr.snoc X11 N10 g_b1
    have O11 := O10.wr W11 g_b1
    have V_b1 : Arv Z h11 b1 k1 .int (16 : Int32) [(.int (8 : Int32)), (.int (9 : Int32)), (.int (10 : Int32)), (.int (13 : Int32)), (.int (32 : Int32)), (.int (55295 : Int32)), (.int (55296 : Int32)), (.int (57343 : Int32)), (.int (57344 : Int32)), (.int (65533 : Int32)), (.int (0 : Int32)), (.int (0 : Int32)), (.int (0 : Int32)), (.int (0 : Int32)), (.int (0 : Int32)), (.int (0 : Int32))] (.int (0 : Int32)) := V11
    refine Go.st st11 ?_
    show Go p e below s _ _ _ (T11.setTop (mkF m 58 #[.val (.int p0), .val (.int p1), .val (.int p2), .unset, .unset, .unset, .unset, .unset, .unset] [(.ref b1)]))
    refine Go.st (fun _ k => XS.dup X11.here hx rfl (hb hby at_58) rfl rfl k) ?_
    show Go p e below s _ _ _ (T11.setTop (mkF m 59 #[.val (.int p0), .val (.int p1), .val (.int p2), .unset, .unset, .unset, .unset, .unset, .unset] [(.ref b1), (.ref b1)]))
    refine Go.st (fun _ k => XS.bipush X11.here hx rfl (hb hby at_59) k) ?_
    show Go p e below s _ _ _ (T11.setTop (mkF m 61 #[.val (.int p0), .val (.int p1), .val (.int p2), .unset, .unset, .unset, .unset, .unset, .unset] [(.int (10 : Int32)), (.ref b1), (.ref b1)]))
    refine Go.st (fun _ k => X11.ldcI hx hown (mvT hZ (own_w hw 6 rfl)) rfl (hb hby at_61) k) ?_
    show Go p e below s _ _ _ (T11.setTop (mkF m 63 #[.val (.int p0), .val (.int p1), .val (.int p2), .unset, .unset, .unset, .unset, .unset, .unset] [(.int (65535 : Int32)), (.int (10 : Int32)), (.ref b1), (.ref b1)]))
    obtain ⟨T12, h12, X12, e12, W12, V12, st12⟩ := own_stI X11 hx hZ e11 V_b1 (j := (10 : Int32)) (by decide) (by decide) 10 rfl (Nat.le_of_ble_eq_true rfl) (g := (mkF m 63 #[.val (.int p0), .val (.int p1), .val (.int p2), .unset, .unset, .unset, .unset, .unset, .unset] [(.int (65535 : Int32)), (.int (10 : Int32)), (.ref b1), (.ref b1)])) rfl rfl (hb hby at_63)
    have N12 := Fr.snoc X12 N11 g_b1
    have O12 := O11.wr W12 g_b1
    have V_b1 : Arv Z h12 b1 k1 .int (16 : Int32) [(.int (8 : Int32)), (.int (9 : Int32)), (.int (10 : Int32)), (.int (13 : Int32)), (.int (32 : Int32)), (.int (55295 : Int32)), (.int (55296 : Int32)), (.int (57343 : Int32)), (.int (57344 : Int32)), (.int (65533 : Int32)), (.int (65535 : Int32)), (.int (0 : Int32)), (.int (0 : Int32)), (.int (0 : Int32)), (.int (0 : Int32)), (.int (0 : Int32))] (.int (0 : Int32)) := V12
    refine Go.st st12 ?_
    show Go p e below s _ _ _ (T12.setTop (mkF m 64 #[.val (.int p0), .val (.int p1), .val (.int p2), .unset, .unset, .unset, .unset, .unset, .unset] [(.ref b1)]))
    refine Go.st (fun _ k => XS.dup X12.here hx rfl (hb hby at_64) rfl rfl k) ?_
    show Go p e below s _ _ _ (T12.setTop (mkF m 65 #[.val (.int p0), .val (.int p1), .val (.int p2), .unset, .unset, .unset, .unset, .unset, .unset] [(.ref b1), (.ref b1)]))
    refine Go.st (fun _ k => XS.bipush X12.here hx rfl (hb hby at_65) k) ?_
    show Go p e below s _ _ _ (T12.setTop (mkF m 67 #[.val (.int p0), .val (.int p1), .val (.int p2), .unset, .unset, .unset, .unset, .unset, .unset] [(.int (11 : Int32)), (.ref b1), (.ref b1)]))
    refine Go.st (fun _ k => X12.ldcI hx hown (mvT hZ (own_w hw 7 rfl)) rfl (hb hby at_67) k) ?_
    show Go p e below s _ _ _ (T12.setTop (mkF m 69 #[.val (.int p0), .val (.int p1), .val (.int p2), .unset, .unset, .unset, .unset, .unset, .unset] [(.int (65536 : Int32)), (.int (11 : Int32)), (.ref b1), (.ref b1)]))
    obtain ⟨T13, h13, X13, e13, W13, V13, st13⟩ := own_stI X12 hx hZ e12 V_b1 (j := (11 : Int32)) (by decide) (by decide) 11 rfl (Nat.le_of_ble_eq_true rfl) (g := (mkF m 69 #[.val (.int p0), .val (.int p1), .val (.int p2), .unset, .unset, .unset, .unset, .unset, .unset] [(.int (65536 : Int32)), (.int (11 : Int32)), (.ref b1), (.ref b1)])) rfl rfl (hb hby at_69)
    have N13 := Fr.snoc X13 N12 g_b1
    have O13 := O12.wr W13 g_b1
    have V_b1 : Arv Z h13 b1 k1 .int (16 : Int32) [(.int (8 : Int32)), (.int (9 : Int32)), (.int (10 : Int32)), (.int (13 : Int32)), (.int (32 : Int32)), (.int (55295 : Int32)), (.int (55296 : Int32)), (.int (57343 : Int32)), (.int (57344 : Int32)), (.int (65533 : Int32)), (.int (65535 : Int32)), (.int (65536 : Int32)), (.int (0 : Int32)), (.int (0 : Int32)), (.int (0 : Int32)), (.int (0 : Int32))] (.int (0 : Int32)) := V13
    refine Go.st st13 ?_
    show Go p e below s _ _ _ (T13.setTop (mkF m 70 #[.val (.int p0), .val (.int p1), .val (.int p2), .unset, .unset, .unset, .unset, .unset, .unset] [(.ref b1)]))
    refine Go.st (fun _ k => XS.dup X13.here hx rfl (hb hby at_70) rfl rfl k) ?_
    show Go p e below s _ _ _ (T13.setTop (mkF m 71 #[.val (.int p0), .val (.int p1), .val (.int p2), .unset, .unset, .unset, .unset, .unset, .unset] [(.ref b1), (.ref b1)]))
    refine Go.st (fun _ k => XS.bipush X13.here hx rfl (hb hby at_71) k) ?_
    show Go p e below s _ _ _ (T13.setTop (mkF m 73 #[.val (.int p0), .val (.int p1), .val (.int p2), .unset, .unset, .unset, .unset, .unset, .unset] [(.int (12 : Int32)), (.ref b1), (.ref b1)]))
    refine Go.st (fun _ k => X13.ldcI hx hown (mvT hZ (own_w hw 8 rfl)) rfl (hb hby at_73) k) ?_
    show Go p e below s _ _ _ (T13.setTop (mkF m 75 #[.val (.int p0), .val (.int p1), .val (.int p2), .unset, .unset, .unset, .unset, .unset, .unset] [(.int (1114111 : Int32)), (.int (12 : Int32)), (.ref b1), (.ref b1)]))
    obtain ⟨T14, h14, X14, e14, W14, V14, st14⟩ := own_stI X13 hx hZ e13 V_b1 (j := (12 : Int32)) (by decide) (by decide) 12 rfl (Nat.le_of_ble_eq_true rfl) (g := (mkF m 75 #[.val (.int p0), .val (.int p1), .val (.int p2), .unset, .unset, .unset, .unset, .unset, .unset] [(.int (1114111 : Int32)), (.int (12 : Int32)), (.ref b1), (.ref b1)])) rfl rfl (hb hby at_75)
    have N14 := Fr.snoc X14 N13 g_b1
    have O14 := O13.wr W14 g_b1
    have V_b1 : Arv Z h14 b1 k1 .int (16 : Int32) [(.int (8 : Int32)), (.int (9 : Int32)), (.int (10 : Int32)), (.int (13 : Int32)), (.int (32 : Int32)), (.int (55295 : Int32)), (.int (55296 : Int32)), (.int (57343 : Int32)), (.int (57344 : Int32)), (.int (65533 : Int32)), (.int (65535 : Int32)), (.int (65536 : Int32)), (.int (1114111 : Int32)), (.int (0 : Int32)), (.int (0 : Int32)), (.int (0 : Int32))] (.int (0 : Int32)) := V14
    refine Go.st st14 ?_
    show Go p e below s _ _ _ (T14.setTop (mkF m 76 #[.val (.int p0), .val (.int p1), .val (.int p2), .unset, .unset, .unset, .unset, .unset, .unset] [(.ref b1)]))
    refine Go.st (fun _ k => XS.dup X14.here hx rfl (hb hby at_76) rfl rfl k) ?_
    show Go p e below s _ _ _ (T14.setTop (mkF m 77 #[.val (.int p0), .val (.int p1), .val (.int p2), .unset, .unset, .unset, .unset, .unset, .unset] [(.ref b1), (.ref b1)]))
    refine Go.st (fun _ k => XS.bipush X14.here hx rfl (hb hby at_77) k) ?_
    show Go p e below s _ _ _ (T14.setTop (mkF m 79 #[.val (.int p0), .val (.int p1), .val (.int p2), .unset, .unset, .unset, .unset, .unset, .unset] [(.int (13 : Int32)), (.ref b1), (.ref b1)]))
    refine Go.st (fun _ k => X14.ldcI hx hown (mvT hZ (own_w hw 9 rfl)) rfl (hb hby at_79) k) ?_
    show Go p e below s _ _ _ (T14.setTop (mkF m 81 #[.val (.int p0), .val (.int p1), .val (.int p2), .unset, .unset, .unset, .unset, .unset, .unset] [(.int (1114112 : Int32)), (.int (13 : Int32)), (.ref b1), (.ref b1)]))
    obtain ⟨T15, h15, X15, e15, W15, V15, st15⟩ := own_stI X14 hx hZ e14 V_b1 (j := (13 : Int32)) (by decide) (by decide) 13 rfl (Nat.le_of_ble_eq_true rfl) (g := (mkF m 81 #[.val (.int p0), .val (.int p1), .val (.int p2), .unset, .unset, .unset, .unset, .unset, .unset] [(.int (1114112 : Int32)), (.int (13 : Int32)), (.ref b1), (.ref b1)])) rfl rfl (hb hby at_81)
    have N15 := Fr.snoc X15 N14 g_b1
    have O15 := O14.wr W15 g_b1
    have V_b1 : Arv Z h15 b1 k1 .int (16 : Int32) [(.int (8 : Int32)), (.int (9 : Int32)), (.int (10 : Int32)), (.int (13 : Int32)), (.int (32 : Int32)), (.int (55295 : Int32)), (.int (55296 : Int32)), (.int (57343 : Int32)), (.int (57344 : Int32)), (.int (65533 : Int32)), (.int (65535 : Int32)), (.int (65536 : Int32)), (.int (1114111 : Int32)), (.int (1114112 : Int32)), (.int (0 : Int32)), (.int (0 : Int32))] (.int (0 : Int32)) := V15
    refine Go.st st15 ?_
    show Go p e below s _ _ _ (T15.setTop (mkF m 82 #[.val (.int p0), .val (.int p1), .val (.int p2), .unset, .unset, .unset, .unset, .unset, .unset] [(.ref b1)]))
    refine Go.st (fun _ k => XS.dup X15.here hx rfl (hb hby at_82) rfl rfl k) ?_
    show Go p e below s _ _ _ (T15.setTop (mkF m 83 #[.val (.int p0), .val (.int p1), .val (.int p2), .unset, .unset, .unset, .unset, .unset, .unset] [(.ref b1), (.ref b1)]))
    refine Go.st (fun _ k => XS.bipush X15.here hx rfl (hb hby at_83) k) ?_
    show Go p e below s _ _ _ (T15.setTop (mkF m 85 #[.val (.int p0), .val (.int p1), .val (.int p2), .unset, .unset, .unset, .unset, .unset, .unset] [(.int (14 : Int32)), (.ref b1), (.ref b1)]))
    refine Go.st (fun _ k => X15.ldcI hx hown (mvT hZ (own_w hw 10 rfl)) rfl (hb hby at_85) k) ?_
    show Go p e below s _ _ _ (T15.setTop (mkF m 87 #[.val (.int p0), .val (.int p1), .val (.int p2), .unset, .unset, .unset, .unset, .unset, .unset] [(.int (-2147483648 : Int32)), (.int (14 : Int32)), (.ref b1), (.ref b1)]))
    obtain ⟨T16, h16, X16, e16, W16, V16, st16⟩ := own_stI X15 hx hZ e15 V_b1 (j := (14 : Int32)) (by decide) (by decide) 14 rfl (Nat.le_of_ble_eq_true rfl) (g := (mkF m 87 #[.val (.int p0), .val (.int p1), .val (.int p2), .unset, .unset, .unset, .unset, .unset, .unset] [(.int (-2147483648 : Int32)), (.int (14 : Int32)), (.ref b1), (.ref b1)])) rfl rfl (hb hby at_87)
    have N16 := Fr.snoc X16 N15 g_b1
    have O16 := O15.wr W16 g_b1
    have V_b1 : Arv Z h16 b1 k1 .int (16 : Int32) [(.int (8 : Int32)), (.int (9 : Int32)), (.int (10 : Int32)), (.int (13 : Int32)), (.int (32 : Int32)), (.int (55295 : Int32)), (.int (55296 : Int32)), (.int (57343 : Int32)), (.int (57344 : Int32)), (.int (65533 : Int32)), (.int (65535 : Int32)), (.int (65536 : Int32)), (.int (1114111 : Int32)), (.int (1114112 : Int32)), (.int (-2147483648 : Int32)), (.int (0 : Int32))] (.int (0 : Int32)) := V16
    refine Go.st st16 ?_
    show Go p e below s _ _ _ (T16.setTop (mkF m 88 #[.val (.int p0), .val (.int p1), .val (.int p2), .unset, .unset, .unset, .unset, .unset, .unset] [(.ref b1)]))
    refine Go.st (fun _ k => XS.dup X16.here hx rfl (hb hby at_88) rfl rfl k) ?_
    show Go p e below s _ _ _ (T16.setTop (mkF m 89 #[.val (.int p0), .val (.int p1), .val (.int p2), .unset, .unset, .unset, .unset, .unset, .unset] [(.ref b1), (.ref b1)]))
    refine Go.st (fun _ k => XS.bipush X16.here hx rfl (hb hby at_89) k) ?_
    show Go p e below s _ _ _ (T16.setTop (mkF m 91 #[.val (.int p0), .val (.int p1), .val (.int p2), .unset, .unset, .unset, .unset, .unset, .unset] [(.int (15 : Int32)), (.ref b1), (.ref b1)]))
    refine Go.st (fun _ k => X16.ldcI hx hown (mvT hZ (own_w hw 11 rfl)) rfl (hb hby at_91) k) ?_
    show Go p e below s _ _ _ (T16.setTop (mkF m 93 #[.val (.int p0), .val (.int p1), .val (.int p2), .unset, .unset, .unset, .unset, .unset, .unset] [(.int (2147483647 : Int32)), (.int (15 : Int32)), (.ref b1), (.ref b1)]))
    obtain ⟨T17, h17, X17, e17, W17, V17, st17⟩ := own_stI X16 hx hZ e16 V_b1 (j := (15 : Int32)) (by decide) (by decide) 15 rfl (Nat.le_of_ble_eq_true rfl) (g := (mkF m 93 #[.val (.int p0), .val (.int p1), .val (.int p2), .unset, .unset, .unset, .unset, .unset, .unset] [(.int (2147483647 : Int32)), (.int (15 : Int32)), (.ref b1), (.ref b1)])) rfl rfl (hb hby at_93)
    have N17 := Fr.snoc X17 N16 g_b1
    have O17 := O16.wr W17 g_b1
    have V_b1 : Arv Z h17 b1 k1 .int (16 : Int32) [(.int (8 : Int32)), (.int (9 : Int32)), (.int (10 : Int32)), (.int (13 : Int32)), (.int (32 : Int32)), (.int (55295 : Int32)), (.int (55296 : Int32)), (.int (57343 : Int32)), (.int (57344 : Int32)), (.int (65533 : Int32)), (.int (65535 : Int32)), (.int (65536 : Int32)), (.int (1114111 : Int32)), (.int (1114112 : Int32)), (.int (-2147483648 : Int32)), (.int (2147483647 : Int32))] (.int (0 : Int32)) := V17
    refine Go.st st17 ?_
    show Go p e below s _ _ _ (T17.setTop (mkF m 94 #[.val (.int p0), .val (.int p1), .val (.int p2), .unset, .unset, .unset, .unset, .unset, .unset] [(.ref b1)]))
    refine Go.st (fun _ k => XS.astoreN X17.here hx rfl (hb hby at_94) rfl rfl (l' := #[.val (.int p0), .val (.int p1), .val (.int p2), .val (.ref b1), .unset, .unset, .unset, .unset, .unset]) rfl k) ?_
    show Go p e below s _ _ _ (T17.setTop (mkF m 95 #[.val (.int p0), .val (.int p1), .val (.int p2), .val (.ref b1), .unset, .unset, .unset, .unset, .unset] []))
    refine Go.st (fun _ k => XS.iloadN X17.here hx rfl (hb hby at_95) rfl k) ?_
    show Go p e below s _ _ _ (T17.setTop (mkF m 96 #[.val (.int p0), .val (.int p1), .val (.int p2), .val (.ref b1), .unset, .unset, .unset, .unset, .unset] [(.int p1)]))
    refine Go.st (fun _ k => X17.ldcI hx hown (mvT hZ (own_w hw 11 rfl)) rfl (hb hby at_96) k) ?_
    show Go p e below s _ _ _ (T17.setTop (mkF m 98 #[.val (.int p0), .val (.int p1), .val (.int p2), .val (.ref b1), .unset, .unset, .unset, .unset, .unset] [(.int (2147483647 : Int32)), (.int p1)]))
    refine Go.st (fun _ k => XS.iand X17.here hx rfl (hb hby at_98) rfl k) ?_
    show Go p e below s _ _ _ (T17.setTop (mkF m 99 #[.val (.int p0), .val (.int p1), .val (.int p2), .val (.ref b1), .unset, .unset, .unset, .unset, .unset] [(.int (p1 &&& (2147483647 : Int32)))]))
    refine Go.st (fun _ k => XS.bipush X17.here hx rfl (hb hby at_99) k) ?_
    show Go p e below s _ _ _ (T17.setTop (mkF m 101 #[.val (.int p0), .val (.int p1), .val (.int p2), .val (.ref b1), .unset, .unset, .unset, .unset, .unset] [(.int (16 : Int32)), (.int (p1 &&& (2147483647 : Int32)))]))
    refine Go.st (fun _ k => iremM X17 hx rfl (hb hby at_101) rfl (by decide) k) ?_
    show Go p e below s _ _ _ (T17.setTop (mkF m 102 #[.val (.int p0), .val (.int p1), .val (.int p2), .val (.ref b1), .unset, .unset, .unset, .unset, .unset] [(.int ((p1 &&& (2147483647 : Int32)) % (16 : Int32)))]))
    refine Go.st (fun _ k => XS.istore X17.here hx rfl (hb hby at_102) rfl (l' := #[.val (.int p0), .val (.int p1), .val (.int p2), .val (.ref b1), .val (.int ((p1 &&& (2147483647 : Int32)) % (16 : Int32))), .unset, .unset, .unset, .unset]) rfl k) ?_
    show Go p e below s _ _ _ (T17.setTop (mkF m 104 #[.val (.int p0), .val (.int p1), .val (.int p2), .val (.ref b1), .val (.int ((p1 &&& (2147483647 : Int32)) % (16 : Int32))), .unset, .unset, .unset, .unset] []))
    refine Go.st (fun _ k => XS.iloadN X17.here hx rfl (hb hby at_104) rfl k) ?_
    show Go p e below s _ _ _ (T17.setTop (mkF m 105 #[.val (.int p0), .val (.int p1), .val (.int p2), .val (.ref b1), .val (.int ((p1 &&& (2147483647 : Int32)) % (16 : Int32))), .unset, .unset, .unset, .unset] [(.int p2)]))
    refine Go.st (fun _ k => X17.ldcI hx hown (mvT hZ (own_w hw 11 rfl)) rfl (hb hby at_105) k) ?_
    show Go p e below s _ _ _ (T17.setTop (mkF m 107 #[.val (.int p0), .val (.int p1), .val (.int p2), .val (.ref b1), .val (.int ((p1 &&& (2147483647 : Int32)) % (16 : Int32))), .unset, .unset, .unset, .unset] [(.int (2147483647 : Int32)), (.int p2)]))
    refine Go.st (fun _ k => XS.iand X17.here hx rfl (hb hby at_107) rfl k) ?_
    show Go p e below s _ _ _ (T17.setTop (mkF m 108 #[.val (.int p0), .val (.int p1), .val (.int p2), .val (.ref b1), .val (.int ((p1 &&& (2147483647 : Int32)) % (16 : Int32))), .unset, .unset, .unset, .unset] [(.int (p2 &&& (2147483647 : Int32)))]))
    refine Go.st (fun _ k => XS.iconst X17.here hx rfl (hb hby at_108) k) ?_
    show Go p e below s _ _ _ (T17.setTop (mkF m 109 #[.val (.int p0), .val (.int p1), .val (.int p2), .val (.ref b1), .val (.int ((p1 &&& (2147483647 : Int32)) % (16 : Int32))), .unset, .unset, .unset, .unset] [(.int (5 : Int32)), (.int (p2 &&& (2147483647 : Int32)))]))
    refine Go.st (fun _ k => iremM X17 hx rfl (hb hby at_109) rfl (by decide) k) ?_
    show Go p e below s _ _ _ (T17.setTop (mkF m 110 #[.val (.int p0), .val (.int p1), .val (.int p2), .val (.ref b1), .val (.int ((p1 &&& (2147483647 : Int32)) % (16 : Int32))), .unset, .unset, .unset, .unset] [(.int ((p2 &&& (2147483647 : Int32)) % (5 : Int32)))]))
    refine Go.st (fun _ k => XS.iconst X17.here hx rfl (hb hby at_110) k) ?_
    show Go p e below s _ _ _ (T17.setTop (mkF m 111 #[.val (.int p0), .val (.int p1), .val (.int p2), .val (.ref b1), .val (.int ((p1 &&& (2147483647 : Int32)) % (16 : Int32))), .unset, .unset, .unset, .unset] [(.int (2 : Int32)), (.int ((p2 &&& (2147483647 : Int32)) % (5 : Int32)))]))
    refine Go.st (fun _ k => XS.isub X17.here hx rfl (hb hby at_111) rfl k) ?_
    show Go p e below s _ _ _ (T17.setTop (mkF m 112 #[.val (.int p0), .val (.int p1), .val (.int p2), .val (.ref b1), .val (.int ((p1 &&& (2147483647 : Int32)) % (16 : Int32))), .unset, .unset, .unset, .unset] [(.int (((p2 &&& (2147483647 : Int32)) % (5 : Int32)) - (2 : Int32)))]))
    refine Go.st (fun _ k => XS.istore X17.here hx rfl (hb hby at_112) rfl (l' := #[.val (.int p0), .val (.int p1), .val (.int p2), .val (.ref b1), .val (.int ((p1 &&& (2147483647 : Int32)) % (16 : Int32))), .val (.int (((p2 &&& (2147483647 : Int32)) % (5 : Int32)) - (2 : Int32))), .unset, .unset, .unset]) rfl k) ?_
    show Go p e below s _ _ _ (T17.setTop (mkF m 114 #[.val (.int p0), .val (.int p1), .val (.int p2), .val (.ref b1), .val (.int ((p1 &&& (2147483647 : Int32)) % (16 : Int32))), .val (.int (((p2 &&& (2147483647 : Int32)) % (5 : Int32)) - (2 : Int32))), .unset, .unset, .unset] []))
    refine Go.st (fun _ k => XS.aloadN X17.here hx rfl (hb hby at_114) rfl rfl k) ?_
    show Go p e below s _ _ _ (T17.setTop (mkF m 115 #[.val (.int p0), .val (.int p1), .val (.int p2), .val (.ref b1), .val (.int ((p1 &&& (2147483647 : Int32)) % (16 : Int32))), .val (.int (((p2 &&& (2147483647 : Int32)) % (5 : Int32)) - (2 : Int32))), .unset, .unset, .unset] [(.ref b1)]))
    refine Go.st (fun _ k => XS.iload X17.here hx rfl (hb hby at_115) rfl k) ?_
    show Go p e below s _ _ _ (T17.setTop (mkF m 117 #[.val (.int p0), .val (.int p1), .val (.int p2), .val (.ref b1), .val (.int ((p1 &&& (2147483647 : Int32)) % (16 : Int32))), .val (.int (((p2 &&& (2147483647 : Int32)) % (5 : Int32)) - (2 : Int32))), .unset, .unset, .unset] [(.int ((p1 &&& (2147483647 : Int32)) % (16 : Int32))), (.ref b1)]))
    have ix := own_rem p1 16 (by decide)
    obtain ⟨y, hy⟩ : ∃ y : Int32, List.getD ([(.int (8 : Int32)), (.int (9 : Int32)), (.int (10 : Int32)), (.int (13 : Int32)), (.int (32 : Int32)), (.int (55295 : Int32)), (.int (55296 : Int32)), (.int (57343 : Int32)), (.int (57344 : Int32)), (.int (65533 : Int32)), (.int (65535 : Int32)), (.int (65536 : Int32)), (.int (1114111 : Int32)), (.int (1114112 : Int32)), (.int (-2147483648 : Int32)), (.int (2147483647 : Int32))] : List Value) (((p1 &&& (2147483647 : Int32)) % (16 : Int32))).toNatClampNeg (.int (0 : Int32)) = .int y := ⟨_, own_getI [(8 : Int32), (9 : Int32), (10 : Int32), (13 : Int32), (32 : Int32), (55295 : Int32), (55296 : Int32), (57343 : Int32), (57344 : Int32), (65533 : Int32), (65535 : Int32), (65536 : Int32), (1114111 : Int32), (1114112 : Int32), (-2147483648 : Int32), (2147483647 : Int32)] 0 _⟩
    refine Go.st (fun _ k => own_iaload X17 hx hZ e17 V_b1 ix.1 ix.2 hy (g := (mkF m 117 #[.val (.int p0), .val (.int p1), .val (.int p2), .val (.ref b1), .val (.int ((p1 &&& (2147483647 : Int32)) % (16 : Int32))), .val (.int (((p2 &&& (2147483647 : Int32)) % (5 : Int32)) - (2 : Int32))), .unset, .unset, .unset] [(.int ((p1 &&& (2147483647 : Int32)) % (16 : Int32))), (.ref b1)])) rfl rfl (hb hby at_117) _ k) ?_
    show Go p e below s _ _ _ (T17.setTop (mkF m 118 #[.val (.int p0), .val (.int p1), .val (.int p2), .val (.ref b1), .val (.int ((p1 &&& (2147483647 : Int32)) % (16 : Int32))), .val (.int (((p2 &&& (2147483647 : Int32)) % (5 : Int32)) - (2 : Int32))), .unset, .unset, .unset] [(.int y)]))
    refine Go.st (fun _ k => XS.iload X17.here hx rfl (hb hby at_118) rfl k) ?_
    show Go p e below s _ _ _ (T17.setTop (mkF m 120 #[.val (.int p0), .val (.int p1), .val (.int p2), .val (.ref b1), .val (.int ((p1 &&& (2147483647 : Int32)) % (16 : Int32))), .val (.int (((p2 &&& (2147483647 : Int32)) % (5 : Int32)) - (2 : Int32))), .unset, .unset, .unset] [(.int (((p2 &&& (2147483647 : Int32)) % (5 : Int32)) - (2 : Int32))), (.int y)]))
    refine Go.st (fun _ k => XS.iadd X17.here hx rfl (hb hby at_120) rfl k) ?_
    show Go p e below s _ _ _ (T17.setTop (mkF m 121 #[.val (.int p0), .val (.int p1), .val (.int p2), .val (.ref b1), .val (.int ((p1 &&& (2147483647 : Int32)) % (16 : Int32))), .val (.int (((p2 &&& (2147483647 : Int32)) % (5 : Int32)) - (2 : Int32))), .unset, .unset, .unset] [(.int (y + (((p2 &&& (2147483647 : Int32)) % (5 : Int32)) - (2 : Int32))))]))
    refine Go.st (fun _ k => XS.istore X17.here hx rfl (hb hby at_121) rfl (l' := #[.val (.int p0), .val (.int p1), .val (.int p2), .val (.ref b1), .val (.int ((p1 &&& (2147483647 : Int32)) % (16 : Int32))), .val (.int (((p2 &&& (2147483647 : Int32)) % (5 : Int32)) - (2 : Int32))), .val (.int (y + (((p2 &&& (2147483647 : Int32)) % (5 : Int32)) - (2 : Int32)))), .unset, .unset]) rfl k) ?_
    show Go p e below s _ _ _ (T17.setTop (mkF m 123 #[.val (.int p0), .val (.int p1), .val (.int p2), .val (.ref b1), .val (.int ((p1 &&& (2147483647 : Int32)) % (16 : Int32))), .val (.int (((p2 &&& (2147483647 : Int32)) % (5 : Int32)) - (2 : Int32))), .val (.int (y + (((p2 &&& (2147483647 : Int32)) % (5 : Int32)) - (2 : Int32)))), .unset, .unset] []))
    refine Go.st (fun _ k => XS.iloadN X17.here hx rfl (hb hby at_123) rfl k) ?_
    show Go p e below s _ _ _ (T17.setTop (mkF m 124 #[.val (.int p0), .val (.int p1), .val (.int p2), .val (.ref b1), .val (.int ((p1 &&& (2147483647 : Int32)) % (16 : Int32))), .val (.int (((p2 &&& (2147483647 : Int32)) % (5 : Int32)) - (2 : Int32))), .val (.int (y + (((p2 &&& (2147483647 : Int32)) % (5 : Int32)) - (2 : Int32)))), .unset, .unset] [(.int p0)]))
    obtain ⟨_, _, ⟨T18, L18, k18, n18⟩, -, X18, ⟨Lc18, hQ18, l18, y18, z18⟩, st18⟩ := Jvm.LawKit.callS X17 hx (y := (⟨"com/example/arbora/arbora/xml/XmlCharacters", "isChar", "(I)Z"⟩ : MethodName)) hown (mvT hZ (own_w hw 12 rfl)) (mvT hZ (own_w hw 13 rfl)) (mvT hZ (own_w hw 14 rfl)) (mvT hZ (own_w hw 15 rfl)) (by decide) (backOf (W := 0) (rm1 l Z a0 hw [] p0 h17 n0 O17 ) hZ (own_w hw 15 rfl) (own_w hw 14 rfl) (by decide) (by decide)) (g := (mkF m 124 #[.val (.int p0), .val (.int p1), .val (.int p2), .val (.ref b1), .val (.int ((p1 &&& (2147483647 : Int32)) % (16 : Int32))), .val (.int (((p2 &&& (2147483647 : Int32)) % (5 : Int32)) - (2 : Int32))), .val (.int (y + (((p2 &&& (2147483647 : Int32)) % (5 : Int32)) - (2 : Int32)))), .unset, .unset] [(.int p0)])) rfl (by rw [hml]; rfl) (argsL := [(.int p0)]) (rest := []) (lenOf pd0_0 rfl) rfl (by show 2 * 0 + _ ≤ _; exact Nat.le_of_eq rfl) (hb hby at_124) (fun _ _ => ⟨rfl, e17, (by decide : 1 + 0 ≤ _), (by decide : 16 + 0 ≤ _)⟩)
    dsimp only [Pt.U, Pt.locs, Pt.cells, Pt.slots] at X18 l18 y18 z18 st18 hQ18
    subst l18 y18 z18
    obtain ⟨rfl, Nc18, e18⟩ := hQ18
    have N18 := Fr.app N17 Nc18
    refine Go.st st18 ?_
    show Go p e below s _ _ _ (T18.setTop (mkF m 127 #[.val (.int p0), .val (.int p1), .val (.int p2), .val (.ref b1), .val (.int ((p1 &&& (2147483647 : Int32)) % (16 : Int32))), .val (.int (((p2 &&& (2147483647 : Int32)) % (5 : Int32)) - (2 : Int32))), .val (.int (y + (((p2 &&& (2147483647 : Int32)) % (5 : Int32)) - (2 : Int32)))), .unset, .unset] [(.int (fIs p0))]))
    refine Go.st (fun _ k => XS.iloadN X18.here hx rfl (hb hby at_127) rfl k) ?_
    show Go p e below s _ _ _ (T18.setTop (mkF m 128 #[.val (.int p0), .val (.int p1), .val (.int p2), .val (.ref b1), .val (.int ((p1 &&& (2147483647 : Int32)) % (16 : Int32))), .val (.int (((p2 &&& (2147483647 : Int32)) % (5 : Int32)) - (2 : Int32))), .val (.int (y + (((p2 &&& (2147483647 : Int32)) % (5 : Int32)) - (2 : Int32)))), .unset, .unset] [(.int p0), (.int (fIs p0))]))
    obtain ⟨_, _, ⟨T19, L19, k19, n19⟩, -, X19, ⟨Lc19, hQ19, l19, y19, z19⟩, st19⟩ := Jvm.LawKit.callS X18 hx (y := (⟨"com/example/arbora/arbora/xml/XmlCharactersIsCharPinLaw", "ref", "(I)Z"⟩ : MethodName)) hown (mvT hZ (own_w hw 18 rfl)) (mvT hZ (own_w hw 19 rfl)) (mvT hZ (own_w hw 20 rfl)) (mvT hZ (own_w hw 21 rfl)) (by decide) (backOf (W := 1) (rm2 l Z a0 hw [] p0 h17 n0 O17 ) hZ (own_w hw 21 rfl) (own_w hw 20 rfl) (by decide) (by decide)) (g := (mkF m 128 #[.val (.int p0), .val (.int p1), .val (.int p2), .val (.ref b1), .val (.int ((p1 &&& (2147483647 : Int32)) % (16 : Int32))), .val (.int (((p2 &&& (2147483647 : Int32)) % (5 : Int32)) - (2 : Int32))), .val (.int (y + (((p2 &&& (2147483647 : Int32)) % (5 : Int32)) - (2 : Int32)))), .unset, .unset] [(.int p0), (.int (fIs p0))])) rfl (by rw [hml]; rfl) (argsL := [(.int p0)]) (rest := [(.int (fIs p0))]) (lenOf pd0_0 rfl) rfl (by show 2 * 0 + _ ≤ _; exact Nat.le_of_eq rfl) (hb hby at_128) (fun _ _ => ⟨rfl, e18, (by decide : 1 + 0 ≤ _), (by decide : 16 + 0 ≤ _)⟩)
    dsimp only [Pt.U, Pt.locs, Pt.cells, Pt.slots] at X19 l19 y19 z19 st19 hQ19
    subst l19 y19 z19
    obtain ⟨rfl, Nc19, e19⟩ := hQ19
    have N19 := Fr.app N18 Nc19
    refine Go.st st19 ?_
    show Go p e below s _ _ _ (T19.setTop (mkF m 131 #[.val (.int p0), .val (.int p1), .val (.int p2), .val (.ref b1), .val (.int ((p1 &&& (2147483647 : Int32)) % (16 : Int32))), .val (.int (((p2 &&& (2147483647 : Int32)) % (5 : Int32)) - (2 : Int32))), .val (.int (y + (((p2 &&& (2147483647 : Int32)) % (5 : Int32)) - (2 : Int32)))), .unset, .unset] [(.int (fRef p0)), (.int (fIs p0))]))
    refine Go.st (fun _ k => XS.icmpNo X19.here hx rfl (hb hby at_131) rfl (XT.ii_ne_f (own_law _)) k) ?_
    show Go p e below s _ _ _ (T19.setTop (mkF m 134 #[.val (.int p0), .val (.int p1), .val (.int p2), .val (.ref b1), .val (.int ((p1 &&& (2147483647 : Int32)) % (16 : Int32))), .val (.int (((p2 &&& (2147483647 : Int32)) % (5 : Int32)) - (2 : Int32))), .val (.int (y + (((p2 &&& (2147483647 : Int32)) % (5 : Int32)) - (2 : Int32)))), .unset, .unset] []))
    refine Go.st (fun _ k => XS.iconst X19.here hx rfl (hb hby at_134) k) ?_
    show Go p e below s _ _ _ (T19.setTop (mkF m 135 #[.val (.int p0), .val (.int p1), .val (.int p2), .val (.ref b1), .val (.int ((p1 &&& (2147483647 : Int32)) % (16 : Int32))), .val (.int (((p2 &&& (2147483647 : Int32)) % (5 : Int32)) - (2 : Int32))), .val (.int (y + (((p2 &&& (2147483647 : Int32)) % (5 : Int32)) - (2 : Int32)))), .unset, .unset] [(.int (1 : Int32))]))
    refine Go.st (fun _ k => XS.goto X19.here hx rfl (pc0 := 135) (pc' := 139) rfl (hb hby at_135) (by decide) (by decide) k) ?_
    show Go p e below s _ _ _ (T19.setTop (mkF m 139 #[.val (.int p0), .val (.int p1), .val (.int p2), .val (.ref b1), .val (.int ((p1 &&& (2147483647 : Int32)) % (16 : Int32))), .val (.int (((p2 &&& (2147483647 : Int32)) % (5 : Int32)) - (2 : Int32))), .val (.int (y + (((p2 &&& (2147483647 : Int32)) % (5 : Int32)) - (2 : Int32)))), .unset, .unset] [(.int (1 : Int32))]))
    refine Go.st (fun _ k => XS.istore X19.here hx rfl (hb hby at_139) rfl (l' := #[.val (.int p0), .val (.int p1), .val (.int p2), .val (.ref b1), .val (.int ((p1 &&& (2147483647 : Int32)) % (16 : Int32))), .val (.int (((p2 &&& (2147483647 : Int32)) % (5 : Int32)) - (2 : Int32))), .val (.int (y + (((p2 &&& (2147483647 : Int32)) % (5 : Int32)) - (2 : Int32)))), .val (.int (1 : Int32)), .unset]) rfl k) ?_
    show Go p e below s _ _ _ (T19.setTop (mkF m 141 #[.val (.int p0), .val (.int p1), .val (.int p2), .val (.ref b1), .val (.int ((p1 &&& (2147483647 : Int32)) % (16 : Int32))), .val (.int (((p2 &&& (2147483647 : Int32)) % (5 : Int32)) - (2 : Int32))), .val (.int (y + (((p2 &&& (2147483647 : Int32)) % (5 : Int32)) - (2 : Int32)))), .val (.int (1 : Int32)), .unset] []))
    refine Go.st (fun _ k => XS.iload X19.here hx rfl (hb hby at_141) rfl k) ?_
    show Go p e below s _ _ _ (T19.setTop (mkF m 143 #[.val (.int p0), .val (.int p1), .val (.int p2), .val (.ref b1), .val (.int ((p1 &&& (2147483647 : Int32)) % (16 : Int32))), .val (.int (((p2 &&& (2147483647 : Int32)) % (5 : Int32)) - (2 : Int32))), .val (.int (y + (((p2 &&& (2147483647 : Int32)) % (5 : Int32)) - (2 : Int32)))), .val (.int (1 : Int32)), .unset] [(.int (y + (((p2 &&& (2147483647 : Int32)) % (5 : Int32)) - (2 : Int32))))]))
    obtain ⟨_, _, ⟨T20, L20, k20, n20⟩, -, X20, ⟨Lc20, hQ20, l20, y20, z20⟩, st20⟩ := Jvm.LawKit.callS X19 hx (y := (⟨"com/example/arbora/arbora/xml/XmlCharacters", "isChar", "(I)Z"⟩ : MethodName)) hown (mvT hZ (own_w hw 12 rfl)) (mvT hZ (own_w hw 13 rfl)) (mvT hZ (own_w hw 14 rfl)) (mvT hZ (own_w hw 15 rfl)) (by decide) (backOf (W := 0) (rm1 l Z a0 hw [] (y + (((p2 &&& (2147483647 : Int32)) % (5 : Int32)) - (2 : Int32))) h17 n0 O17 ) hZ (own_w hw 15 rfl) (own_w hw 14 rfl) (by decide) (by decide)) (g := (mkF m 143 #[.val (.int p0), .val (.int p1), .val (.int p2), .val (.ref b1), .val (.int ((p1 &&& (2147483647 : Int32)) % (16 : Int32))), .val (.int (((p2 &&& (2147483647 : Int32)) % (5 : Int32)) - (2 : Int32))), .val (.int (y + (((p2 &&& (2147483647 : Int32)) % (5 : Int32)) - (2 : Int32)))), .val (.int (1 : Int32)), .unset] [(.int (y + (((p2 &&& (2147483647 : Int32)) % (5 : Int32)) - (2 : Int32))))])) rfl (by rw [hml]; rfl) (argsL := [(.int (y + (((p2 &&& (2147483647 : Int32)) % (5 : Int32)) - (2 : Int32))))]) (rest := []) (lenOf pd0_0 rfl) rfl (by show 2 * 0 + _ ≤ _; exact Nat.le_of_eq rfl) (hb hby at_143) (fun _ _ => ⟨rfl, e19, (by decide : 1 + 0 ≤ _), (by decide : 16 + 0 ≤ _)⟩)
    dsimp only [Pt.U, Pt.locs, Pt.cells, Pt.slots] at X20 l20 y20 z20 st20 hQ20
    subst l20 y20 z20
    obtain ⟨rfl, Nc20, e20⟩ := hQ20
    have N20 := Fr.app N19 Nc20
    refine Go.st st20 ?_
    show Go p e below s _ _ _ (T20.setTop (mkF m 146 #[.val (.int p0), .val (.int p1), .val (.int p2), .val (.ref b1), .val (.int ((p1 &&& (2147483647 : Int32)) % (16 : Int32))), .val (.int (((p2 &&& (2147483647 : Int32)) % (5 : Int32)) - (2 : Int32))), .val (.int (y + (((p2 &&& (2147483647 : Int32)) % (5 : Int32)) - (2 : Int32)))), .val (.int (1 : Int32)), .unset] [(.int (fIs (y + (((p2 &&& (2147483647 : Int32)) % (5 : Int32)) - (2 : Int32)))))]))
    refine Go.st (fun _ k => XS.iload X20.here hx rfl (hb hby at_146) rfl k) ?_
    show Go p e below s _ _ _ (T20.setTop (mkF m 148 #[.val (.int p0), .val (.int p1), .val (.int p2), .val (.ref b1), .val (.int ((p1 &&& (2147483647 : Int32)) % (16 : Int32))), .val (.int (((p2 &&& (2147483647 : Int32)) % (5 : Int32)) - (2 : Int32))), .val (.int (y + (((p2 &&& (2147483647 : Int32)) % (5 : Int32)) - (2 : Int32)))), .val (.int (1 : Int32)), .unset] [(.int (y + (((p2 &&& (2147483647 : Int32)) % (5 : Int32)) - (2 : Int32)))), (.int (fIs (y + (((p2 &&& (2147483647 : Int32)) % (5 : Int32)) - (2 : Int32)))))]))
    obtain ⟨_, _, ⟨T21, L21, k21, n21⟩, -, X21, ⟨Lc21, hQ21, l21, y21, z21⟩, st21⟩ := Jvm.LawKit.callS X20 hx (y := (⟨"com/example/arbora/arbora/xml/XmlCharactersIsCharPinLaw", "ref", "(I)Z"⟩ : MethodName)) hown (mvT hZ (own_w hw 18 rfl)) (mvT hZ (own_w hw 19 rfl)) (mvT hZ (own_w hw 20 rfl)) (mvT hZ (own_w hw 21 rfl)) (by decide) (backOf (W := 1) (rm2 l Z a0 hw [] (y + (((p2 &&& (2147483647 : Int32)) % (5 : Int32)) - (2 : Int32))) h17 n0 O17 ) hZ (own_w hw 21 rfl) (own_w hw 20 rfl) (by decide) (by decide)) (g := (mkF m 148 #[.val (.int p0), .val (.int p1), .val (.int p2), .val (.ref b1), .val (.int ((p1 &&& (2147483647 : Int32)) % (16 : Int32))), .val (.int (((p2 &&& (2147483647 : Int32)) % (5 : Int32)) - (2 : Int32))), .val (.int (y + (((p2 &&& (2147483647 : Int32)) % (5 : Int32)) - (2 : Int32)))), .val (.int (1 : Int32)), .unset] [(.int (y + (((p2 &&& (2147483647 : Int32)) % (5 : Int32)) - (2 : Int32)))), (.int (fIs (y + (((p2 &&& (2147483647 : Int32)) % (5 : Int32)) - (2 : Int32)))))])) rfl (by rw [hml]; rfl) (argsL := [(.int (y + (((p2 &&& (2147483647 : Int32)) % (5 : Int32)) - (2 : Int32))))]) (rest := [(.int (fIs (y + (((p2 &&& (2147483647 : Int32)) % (5 : Int32)) - (2 : Int32)))))]) (lenOf pd0_0 rfl) rfl (by show 2 * 0 + _ ≤ _; exact Nat.le_of_eq rfl) (hb hby at_148) (fun _ _ => ⟨rfl, e20, (by decide : 1 + 0 ≤ _), (by decide : 16 + 0 ≤ _)⟩)
    dsimp only [Pt.U, Pt.locs, Pt.cells, Pt.slots] at X21 l21 y21 z21 st21 hQ21
    subst l21 y21 z21
    obtain ⟨rfl, Nc21, e21⟩ := hQ21
    have N21 := Fr.app N20 Nc21
    refine Go.st st21 ?_
    show Go p e below s _ _ _ (T21.setTop (mkF m 151 #[.val (.int p0), .val (.int p1), .val (.int p2), .val (.ref b1), .val (.int ((p1 &&& (2147483647 : Int32)) % (16 : Int32))), .val (.int (((p2 &&& (2147483647 : Int32)) % (5 : Int32)) - (2 : Int32))), .val (.int (y + (((p2 &&& (2147483647 : Int32)) % (5 : Int32)) - (2 : Int32)))), .val (.int (1 : Int32)), .unset] [(.int (fRef (y + (((p2 &&& (2147483647 : Int32)) % (5 : Int32)) - (2 : Int32))))), (.int (fIs (y + (((p2 &&& (2147483647 : Int32)) % (5 : Int32)) - (2 : Int32)))))]))
    refine Go.st (fun _ k => XS.icmpNo X21.here hx rfl (hb hby at_151) rfl (XT.ii_ne_f (own_law _)) k) ?_
    show Go p e below s _ _ _ (T21.setTop (mkF m 154 #[.val (.int p0), .val (.int p1), .val (.int p2), .val (.ref b1), .val (.int ((p1 &&& (2147483647 : Int32)) % (16 : Int32))), .val (.int (((p2 &&& (2147483647 : Int32)) % (5 : Int32)) - (2 : Int32))), .val (.int (y + (((p2 &&& (2147483647 : Int32)) % (5 : Int32)) - (2 : Int32)))), .val (.int (1 : Int32)), .unset] []))
    refine Go.st (fun _ k => XS.iconst X21.here hx rfl (hb hby at_154) k) ?_
    show Go p e below s _ _ _ (T21.setTop (mkF m 155 #[.val (.int p0), .val (.int p1), .val (.int p2), .val (.ref b1), .val (.int ((p1 &&& (2147483647 : Int32)) % (16 : Int32))), .val (.int (((p2 &&& (2147483647 : Int32)) % (5 : Int32)) - (2 : Int32))), .val (.int (y + (((p2 &&& (2147483647 : Int32)) % (5 : Int32)) - (2 : Int32)))), .val (.int (1 : Int32)), .unset] [(.int (1 : Int32))]))
    refine Go.st (fun _ k => XS.goto X21.here hx rfl (pc0 := 155) (pc' := 159) rfl (hb hby at_155) (by decide) (by decide) k) ?_
    show Go p e below s _ _ _ (T21.setTop (mkF m 159 #[.val (.int p0), .val (.int p1), .val (.int p2), .val (.ref b1), .val (.int ((p1 &&& (2147483647 : Int32)) % (16 : Int32))), .val (.int (((p2 &&& (2147483647 : Int32)) % (5 : Int32)) - (2 : Int32))), .val (.int (y + (((p2 &&& (2147483647 : Int32)) % (5 : Int32)) - (2 : Int32)))), .val (.int (1 : Int32)), .unset] [(.int (1 : Int32))]))
    refine Go.st (fun _ k => XS.istore X21.here hx rfl (hb hby at_159) rfl (l' := #[.val (.int p0), .val (.int p1), .val (.int p2), .val (.ref b1), .val (.int ((p1 &&& (2147483647 : Int32)) % (16 : Int32))), .val (.int (((p2 &&& (2147483647 : Int32)) % (5 : Int32)) - (2 : Int32))), .val (.int (y + (((p2 &&& (2147483647 : Int32)) % (5 : Int32)) - (2 : Int32)))), .val (.int (1 : Int32)), .val (.int (1 : Int32))]) rfl k) ?_
    show Go p e below s _ _ _ (T21.setTop (mkF m 161 #[.val (.int p0), .val (.int p1), .val (.int p2), .val (.ref b1), .val (.int ((p1 &&& (2147483647 : Int32)) % (16 : Int32))), .val (.int (((p2 &&& (2147483647 : Int32)) % (5 : Int32)) - (2 : Int32))), .val (.int (y + (((p2 &&& (2147483647 : Int32)) % (5 : Int32)) - (2 : Int32)))), .val (.int (1 : Int32)), .val (.int (1 : Int32))] []))
    refine Go.st (fun _ k => XS.iload X21.here hx rfl (hb hby at_161) rfl k) ?_
    show Go p e below s _ _ _ (T21.setTop (mkF m 163 #[.val (.int p0), .val (.int p1), .val (.int p2), .val (.ref b1), .val (.int ((p1 &&& (2147483647 : Int32)) % (16 : Int32))), .val (.int (((p2 &&& (2147483647 : Int32)) % (5 : Int32)) - (2 : Int32))), .val (.int (y + (((p2 &&& (2147483647 : Int32)) % (5 : Int32)) - (2 : Int32)))), .val (.int (1 : Int32)), .val (.int (1 : Int32))] [(.int (1 : Int32))]))
    refine Go.st (fun _ k => XS.ifNo X21.here hx rfl (hb hby at_163) rfl (by decide) k) ?_
    show Go p e below s _ _ _ (T21.setTop (mkF m 166 #[.val (.int p0), .val (.int p1), .val (.int p2), .val (.ref b1), .val (.int ((p1 &&& (2147483647 : Int32)) % (16 : Int32))), .val (.int (((p2 &&& (2147483647 : Int32)) % (5 : Int32)) - (2 : Int32))), .val (.int (y + (((p2 &&& (2147483647 : Int32)) % (5 : Int32)) - (2 : Int32)))), .val (.int (1 : Int32)), .val (.int (1 : Int32))] []))
    refine Go.st (fun _ k => XS.iload X21.here hx rfl (hb hby at_166) rfl k) ?_
    show Go p e below s _ _ _ (T21.setTop (mkF m 168 #[.val (.int p0), .val (.int p1), .val (.int p2), .val (.ref b1), .val (.int ((p1 &&& (2147483647 : Int32)) % (16 : Int32))), .val (.int (((p2 &&& (2147483647 : Int32)) % (5 : Int32)) - (2 : Int32))), .val (.int (y + (((p2 &&& (2147483647 : Int32)) % (5 : Int32)) - (2 : Int32)))), .val (.int (1 : Int32)), .val (.int (1 : Int32))] [(.int (1 : Int32))]))
    refine Go.st (fun _ k => XS.ifNo X21.here hx rfl (hb hby at_168) rfl (by decide) k) ?_
    show Go p e below s _ _ _ (T21.setTop (mkF m 171 #[.val (.int p0), .val (.int p1), .val (.int p2), .val (.ref b1), .val (.int ((p1 &&& (2147483647 : Int32)) % (16 : Int32))), .val (.int (((p2 &&& (2147483647 : Int32)) % (5 : Int32)) - (2 : Int32))), .val (.int (y + (((p2 &&& (2147483647 : Int32)) % (5 : Int32)) - (2 : Int32)))), .val (.int (1 : Int32)), .val (.int (1 : Int32))] []))
    refine Go.st (fun _ k => XS.iconst X21.here hx rfl (hb hby at_171) k) ?_
    show Go p e below s _ _ _ (T21.setTop (mkF m 172 #[.val (.int p0), .val (.int p1), .val (.int p2), .val (.ref b1), .val (.int ((p1 &&& (2147483647 : Int32)) % (16 : Int32))), .val (.int (((p2 &&& (2147483647 : Int32)) % (5 : Int32)) - (2 : Int32))), .val (.int (y + (((p2 &&& (2147483647 : Int32)) % (5 : Int32)) - (2 : Int32)))), .val (.int (1 : Int32)), .val (.int (1 : Int32))] [(.int (1 : Int32))]))
    refine Go.st (fun _ k => XS.goto X21.here hx rfl (pc0 := 172) (pc' := 176) rfl (hb hby at_172) (by decide) (by decide) k) ?_
    show Go p e below s _ _ _ (T21.setTop (mkF m 176 #[.val (.int p0), .val (.int p1), .val (.int p2), .val (.ref b1), .val (.int ((p1 &&& (2147483647 : Int32)) % (16 : Int32))), .val (.int (((p2 &&& (2147483647 : Int32)) % (5 : Int32)) - (2 : Int32))), .val (.int (y + (((p2 &&& (2147483647 : Int32)) % (5 : Int32)) - (2 : Int32)))), .val (.int (1 : Int32)), .val (.int (1 : Int32))] [(.int (1 : Int32))]))
    exact Go.ret X21 hlk (some (.int (nar .boolean (1 : Int32)))) (fun h => by rw [Bd.returns] at h; cases h) (by rw [e21]; exact ⟨rfl, N21⟩) (by decide) (by decide) (fun fs hr => retN X21 hx (t := .boolean) Bd.returns (by simp) (hb hby at_176) hr)
  obtain ⟨s2, o2, st2, r2⟩ := G
  exact ⟨s2, o2, castTop (ef0 m p0 p1 p2) st2, r2⟩
set_option maxRecDepth 65536 in
set_option maxHeartbeats 40000000 in
theorem comes_1 {Post : Tables → Env → Array Value → State → Outcome → State → Prop} (hpost : ∀ tb e args s v u, (limb_1_1.after args s (.returned v) u = true ∧ limb_1_2.after args s (.returned v) u = true ∧ True) → FrameEnd s (.returned v) u (Jvm.fieldLocs frame_1_writes args s ++ Jvm.arrayLocs frame_1_arrays args s ++ Jvm.staticLocs frame_1_statics s) 16 128 → Post tb e args s (.returned v) u) :
    ArmFor flags0 classFile x code maxLocals ret World_1 tables_1 room_1 Calls_1 rest_1 Pre_1 Post := by
  intro l hfl _ _ p e ha hc hk s m args below hf hA hF happ hP
  obtain ⟨hcalls, hrest, hpre⟩ := hP
  obtain ⟨-, -, -, hnamed, -, -, -, hat⟩ := (Spec.applies_iff hf).mp happ
  obtain ⟨hg, hn⟩ := and_e (Cond.before_iff.mp (show (Jvm.Cond.and given_1 narrow_1).before args s = true from hpre))
  obtain ⟨h1, r1⟩ := and_e hg
  obtain ⟨a0, r2⟩ := and_e r1
  obtain ⟨a1, r3⟩ := and_e r2
  obtain ⟨w0, w1, w2, rfl⟩ : ∃ w0 w1 w2 : Value, args = #[w0, w1, w2] := by
    have hs : args.size = 3 := by simpa [Cond.value, given_1] using h1
    obtain ⟨L⟩ := args
    match L, hs with
    | [w0, w1, w2], _ => exact ⟨w0, w1, w2, rfl⟩
  have hw := fun d (hd : d ∈ tables_1) => atoms_spec (ws := Jvm.Cond.code x code maxLocals ret :: tables_1) hat d (List.mem_cons_of_mem _ hd)
  have hfit : Fit s := fun {y c} hc i hi => by
    obtain ⟨ha, rfl⟩ := Array.getElem?_eq_some_iff.mp hc
    have q := List.all_eq_true.mp ((Array.all_eq_true_iff_forall_mem.mp hF) _ (Array.getElem_mem ha)) i (List.mem_range.mpr hi)
    simpa [Array.getElem?_eq_getElem hi] using q
  obtain ⟨i0, ei0⟩ := is_v a0
  obtain rfl : w0 = (.int i0) := Option.some.inj ei0
  obtain ⟨i1, ei1⟩ := is_v a1
  obtain rfl : w1 = (.int i1) := Option.some.inj ei1
  obtain ⟨i2, ei2⟩ := is_v r3
  obtain rfl : w2 = (.int i2) := Option.some.inj ei2
  obtain ⟨n, o, h1, h2, h3, _, L, rfl, ⟨rfl, N⟩, hq⟩ := rm0 l s _ hw tables_1 i0 i1 i2 s.heap s.heap.size (Old.start s) p e ha hc hk s m _ below hf ((Spec.applies_iff_loose hf).mp happ).1 ⟨rfl, State.Warmed39.refl s, rfl⟩ trivial
  refine ⟨n, _, h1, h2, h3, hpost _ _ _ _ _ _ ⟨Cond.after_iff.mpr rfl, Cond.after_iff.mpr (eq_i res_at (Term.int_eval (1)) rfl), trivial⟩ ⟨hq.1, hq.2.1, (hq.2.2.sift fun y hy => Or.inr (N y hy)).mono (by decide) (by decide)⟩⟩
theorem main_1_1 : Claimed_1_1 := comes_1 fun _ _ _ _ _ _ h hF => ⟨h.1, hF⟩
theorem main_1_2 : Claimed_1_2 := comes_1 fun _ _ _ _ _ _ h hF => ⟨h.2.1, hF⟩
end Jvm.Pilot.@@N@@
namespace Jvm.Pilot.@@N@@
open Jvm Jvm.ClassFile Sem Op Lib Jvm.Free Jvm.Stand Jvm.Pilot.@@N@@.Jvm.D
/-! MADE BY PROGRAM (witnessworld.py) out of the Statement's table words and the real class files: 9 classes; the members and pool entries that the words name. The judged class is class 1, her method 2. -/
namespace start1
open Jvm.ClassFile
def u (s : String) : CpInfo := .utf8 (stringToUtf16 s)
/-- a pool by its gaps: so many unusable entries, then the entry; so many at the end -/
def gap : Nat → List CpInfo → List CpInfo
  | 0, r => r
  | n + 1, r => .unusable :: gap n r
def poolList (es : List (Nat × CpInfo)) (last : Nat) : List CpInfo := es.foldr (fun e r => gap e.1 (e.2 :: r)) (gap last [])
def pool (es : List (Nat × CpInfo)) (last : Nat) : Array CpInfo := ⟨poolList es last⟩
def fileOf (pool : Array CpInfo) (this : Nat) (attrs : Array Attribute := #[]) (ms : Array MethodInfo := #[]) (fl : Nat := 33) (sup : Nat := 0) (ifs : Array Nat := #[]) (fds : Array FieldInfo := #[]) : ClassFile where
  minorVersion := 0
  majorVersion := 65
  constantPool := pool
  accessFlags := fl
  thisClass := this
  superClass := sup
  interfaces := ifs
  fields := fds
  methods := ms
  attributes := attrs
def plain (name : String) (sup : Option ClassId) : Class where
  name := name
  kind := .ordinary
  loader := none
  accessFlags := 33
  super := sup
  interfaces := #[]
  cf := none
  fields := #[]
  methods := #[]
  instanceTypes := #[]
  staticTypes := #[]
  resolved := #[]
  callSites := []
  init := .initialized
  statics := none
  mirror := none

def pool0 : Array CpInfo := pool [(5, u "<init>"), (0, u "()V"), (1, .class_ 10), (1, u "java/lang/Object")] 113

def k0m0 : Method := { name := "<init>", desc := "()V", sig := { parameters := [], returnType := none }, accessFlags := 1, code := none }
/-- java/lang/Object -/
def k0 : Class := { plain "java/lang/Object" none with
  accessFlags := 33
  interfaces := #[]
  cf := some (fileOf pool0 8 #[] #[{ accessFlags := 1, nameIndex := 5, descriptorIndex := 6, attributes := #[] }] 33 0 #[] #[])
  fields := #[]
  methods := #[k0m0]
  instanceTypes := #[]
  staticTypes := #[]
  resolved := Array.replicate 124 none
  statics := none }

def pool1 : Array CpInfo := pool [(2, .class_ 4), (1, u "java/lang/Object"), (0, u "<init>"), (0, u "()V"), (0, .integer 55296), (0, .integer 57344), (0, .integer 65534), (0, .integer 65536), (0, .integer 1114111), (0, .integer 55295), (0, .integer 57343), (0, .integer 65533), (0, .integer 65535), (0, .integer 1114112), (2, .integer 2147483648), (0, .integer 2147483647), (0, .methodref 22 23), (0, .class_ 24), (0, .nameAndType 25 26), (0, u "com/example/arbora/arbora/xml/XmlCharacters"), (0, u "isChar"), (0, u "(I)Z"), (0, .methodref 28 29), (0, .class_ 30), (0, .nameAndType 31 26), (0, u "com/example/arbora/arbora/xml/XmlCharactersIsCharPinLaw"), (0, u "ref"), (3, u "law"), (0, u "(III)Z")] 4

def k1m0 : Method := { name := "<init>", desc := "()V", sig := { parameters := [], returnType := none }, accessFlags := 2, code := none }
def k1c1 : Code := { maxStack := 2, maxLocals := 1, code := method_2_code, exceptionTable := #[], attributes := #[] }
def k1m1 : Method := { name := "ref", desc := "(I)Z", sig := { parameters := [.int], returnType := some .boolean }, accessFlags := 10, code := some k1c1 }
def k1c2 : Code := { maxStack := 4, maxLocals := 9, code := code, exceptionTable := #[], attributes := #[] }
def k1m2 : Method := { name := "law", desc := "(III)Z", sig := { parameters := [.int, .int, .int], returnType := some .boolean }, accessFlags := 9, code := some k1c2 }
/-- com/example/arbora/arbora/xml/XmlCharactersIsCharPinLaw -/
def k1 : Class := { plain "com/example/arbora/arbora/xml/XmlCharactersIsCharPinLaw" (some 0) with
  accessFlags := 49
  interfaces := #[]
  cf := some (fileOf pool1 28 #[] #[{ accessFlags := 2, nameIndex := 5, descriptorIndex := 6, attributes := #[] }, { accessFlags := 10, nameIndex := 31, descriptorIndex := 26, attributes := #[] }, { accessFlags := 9, nameIndex := 35, descriptorIndex := 36, attributes := #[] }] 49 2 #[] #[])
  fields := #[]
  methods := #[k1m0, k1m1, k1m2]
  instanceTypes := #[]
  staticTypes := #[]
  resolved := Array.replicate 41 none
  statics := none }

def pool2 : Array CpInfo := pool [(2, .class_ 4), (1, u "java/lang/Object"), (0, u "<init>"), (0, u "()V"), (0, .integer 55295), (0, .integer 57344), (0, .integer 65533), (0, .integer 65536), (0, .integer 1114111), (1, .class_ 15), (1, u "com/example/arbora/arbora/xml/XmlCharacters"), (0, u "NAME_START"), (0, u "[I"), (6, u "NAME_REST"), (17, u "isChar"), (0, u "(I)Z")] 19

def k2m0 : Method := { name := "<init>", desc := "()V", sig := { parameters := [], returnType := none }, accessFlags := 2, code := none }
def k2c1 : Code := { maxStack := 2, maxLocals := 1, code := prog_122_method_2_code, exceptionTable := #[], attributes := #[] }
def k2m1 : Method := { name := "isChar", desc := "(I)Z", sig := { parameters := [.int], returnType := some .boolean }, accessFlags := 9, code := some k2c1 }
/-- com/example/arbora/arbora/xml/XmlCharacters -/
def k2 : Class := { plain "com/example/arbora/arbora/xml/XmlCharacters" (some 0) with
  accessFlags := 49
  interfaces := #[]
  cf := some (fileOf pool2 13 #[] #[{ accessFlags := 2, nameIndex := 5, descriptorIndex := 6, attributes := #[] }, { accessFlags := 9, nameIndex := 42, descriptorIndex := 43, attributes := #[] }] 49 2 #[] #[{ accessFlags := 26, nameIndex := 16, descriptorIndex := 17, attributes := #[] }, { accessFlags := 26, nameIndex := 24, descriptorIndex := 17, attributes := #[] }])
  fields := #[{ name := "NAME_START", type := (.array .int), accessFlags := 26, slot := 0, constantValue := 0 }, { name := "NAME_REST", type := (.array .int), accessFlags := 26, slot := 1, constantValue := 0 }]
  methods := #[k2m0, k2m1]
  instanceTypes := #[]
  staticTypes := #[(.array .int), (.array .int)]
  resolved := Array.replicate 63 none
  statics := none }

def pool3 : Array CpInfo := pool [(1, u "java/lang/Cloneable"), (0, .class_ 1), (0, u "java/lang/Object"), (0, .class_ 3)] 3

/-- java/lang/Cloneable -/
def k3 : Class := { plain "java/lang/Cloneable" (some 0) with
  accessFlags := 1537
  interfaces := #[]
  cf := some (fileOf pool3 2 #[] #[] 1537 4 #[] #[])
  fields := #[]
  methods := #[]
  instanceTypes := #[]
  staticTypes := #[]
  resolved := Array.replicate 8 none
  statics := none }

def pool4 : Array CpInfo := pool [(1, u "java/io/Serializable"), (0, .class_ 1), (0, u "java/lang/Object"), (0, .class_ 3)] 3

/-- java/io/Serializable -/
def k4 : Class := { plain "java/io/Serializable" (some 0) with
  accessFlags := 1537
  interfaces := #[]
  cf := some (fileOf pool4 2 #[] #[] 1537 4 #[] #[])
  fields := #[]
  methods := #[]
  instanceTypes := #[]
  staticTypes := #[]
  resolved := Array.replicate 8 none
  statics := none }

/-- the primitive byte -/
def k5 : Class := { plain "byte" none with kind := .primitive 'B', accessFlags := 0x411 }
/-- [B -/
def k6 : Class := { plain "[B" (some 0) with kind := .array 5 .byte, interfaces := #[3, 4], accessFlags := 1041 }

/-- the primitive int -/
def k7 : Class := { plain "int" none with kind := .primitive 'I', accessFlags := 0x411 }
/-- [I -/
def k8 : Class := { plain "[I" (some 0) with kind := .array 7 .int, interfaces := #[3, 4], accessFlags := 1041 }

def heap : Heap := #[]
def classes : Array Class := #[k0, k1, k2, k3, k4, k5, k6, k7, k8]
def interned : List (Array UInt16 × Addr) := []
def slotsUsed : Nat := 0
def theMethod : MethodId := ⟨1, 2⟩
def args0 : Array Value := #[.int 5, .int 3, .int 7]
def aboutOver (below : List Frame) : State where
  vm := { classes := classes, interned := interned.toArray }
  heap := heap
  slotsUsed := slotsUsed
  threads := #[{ frames := .invoking theMethod args0 :: below }]
def below0 : List Frame := [.native { method := ⟨0, 0⟩, args := #[] }]
def about1 : State := aboutOver below0
def p0 : Program := .bare "" "" ""
def e0 : Env := launch0.env 0 0 0
theorem w_frames : about1.frames = Frame.invoking theMethod args0 :: below0 := rfl
set_option maxRecDepth 65536 in
theorem w_args : argsFit about1.vm theMethod args0 = true := by decide +kernel
set_option maxRecDepth 65536 in
theorem w_heap : heapFits about1 = true := by decide +kernel
set_option maxRecDepth 65536 in
theorem w_runnable : about1.curStatus? = some .runnable := by decide +kernel
set_option maxRecDepth 65536 in
theorem w_alone : about1.alone = true := by decide +kernel
set_option maxRecDepth 65536 in
theorem w_named : about1.methodNamed? x = some theMethod := by decide +kernel
set_option maxRecDepth 65536 in
theorem w_hears : about1.hears theMethod below0 = true := by decide +kernel
set_option maxRecDepth 65536 in
theorem w_ripe : about1.ripe theMethod args0 below0 = true := by decide +kernel
theorem w_running : about1.status = .running := rfl
set_option maxRecDepth 65536 in
theorem w_room : about1.hasRoom e0.platform room_1 = true :=
  launch0.hasRoom_least _ room_1 (by decide +kernel) (by decide +kernel) (by decide +kernel) (by decide +kernel) (by decide +kernel) (by decide +kernel)
theorem allAtoms_all (ts : List Jvm.Cond) (a : Array Jvm.Value) (st : Jvm.State) : (allAtoms ts).before a st = ts.all (fun c => c.before a st) := by
  induction ts with
  | nil => rfl
  | cons c t ih =>
    show (Jvm.Cond.and c (allAtoms t)).before a st = _
    rw [Jvm.Cond.before_and, ih, List.all_cons]
def words1 : List Jvm.Cond := Jvm.Cond.code x code maxLocals ret :: tables_1
/-- a 'code' word, met by the world's own term for the bytes: nothing is compared byte by byte -/
theorem code_word {y : MethodName} {bytes : ByteArray} {mx : Nat} {rt : Option FieldType} {a : Array Value} {s : State} {m : MethodId} {meth : Method} {c : Code} (h1 : s.methodNamed? y = some m) (h2 : s.vm.method? m = some meth) (h3 : meth.code = some c) (h4 : c.code = bytes)
    (h5 : (c.maxLocals == mx && c.exceptionTable.isEmpty && decide (c.maxStack ≤ mostOperands) && decide (meth.sig.returnType = rt) && !meth.locks && decide (parseMethodDescriptor y.desc = some meth.sig)) = true) : (Jvm.Cond.code y bytes mx rt).before a s = true := by
  simp only [Bool.and_eq_true, beq_iff_eq, Bool.not_eq_true', decide_eq_true_eq] at h5
  obtain ⟨⟨⟨⟨⟨g1, g2⟩, g3⟩, g4⟩, g5⟩, g6⟩ := h5
  simp [Cond.before, Cond.holds, Cond.value, h1, h2, h3, h4, g1, g2, g3, g4, g5, g6]
def isCode : Jvm.Cond → Bool
  | .code _ _ _ _ => true
  | _ => false
theorem all_split {L : List Jvm.Cond} {P : Jvm.Cond → Bool} (h1 : L.all (fun c => isCode c || P c) = true) (h2 : ∀ c ∈ L.filter isCode, P c = true) : L.all P = true := by
  refine List.all_eq_true.mpr fun c hc => ?_
  have h := List.all_eq_true.mp h1 c hc
  rcases Bool.eq_false_or_eq_true (isCode c) with hi | hi
  · exact h2 c (List.mem_filter.mpr ⟨hc, hi⟩)
  · simpa [hi] using h
set_option maxRecDepth 65536 in
theorem w_c0 : (Jvm.Cond.code x code maxLocals ret).before args0 about1 = true := code_word (m := ⟨1, 2⟩) (meth := k1m2) (c := k1c2) (by decide +kernel) rfl rfl rfl (by decide +kernel)
set_option maxRecDepth 65536 in
theorem w_c1 : (Jvm.Cond.code ({ cls := "com/example/arbora/arbora/xml/XmlCharacters", name := "isChar", desc := "(I)Z" } : Jvm.MethodName) prog_122_method_2_code (1 : Nat) (Option.some Jvm.ClassFile.FieldType.boolean)).before args0 about1 = true := code_word (m := ⟨2, 1⟩) (meth := k2m1) (c := k2c1) (by decide +kernel) rfl rfl rfl (by decide +kernel)
set_option maxRecDepth 65536 in
theorem w_c2 : (Jvm.Cond.code ({ cls := "com/example/arbora/arbora/xml/XmlCharactersIsCharPinLaw", name := "ref", desc := "(I)Z" } : Jvm.MethodName) method_2_code (1 : Nat) (Option.some Jvm.ClassFile.FieldType.boolean)).before args0 about1 = true := code_word (m := ⟨1, 1⟩) (meth := k1m1) (c := k1c1) (by decide +kernel) rfl rfl rfl (by decide +kernel)
def codes1 : List Jvm.Cond := [Jvm.Cond.code x code maxLocals ret, Jvm.Cond.code ({ cls := "com/example/arbora/arbora/xml/XmlCharacters", name := "isChar", desc := "(I)Z" } : Jvm.MethodName) prog_122_method_2_code (1 : Nat) (Option.some Jvm.ClassFile.FieldType.boolean), Jvm.Cond.code ({ cls := "com/example/arbora/arbora/xml/XmlCharactersIsCharPinLaw", name := "ref", desc := "(I)Z" } : Jvm.MethodName) method_2_code (1 : Nat) (Option.some Jvm.ClassFile.FieldType.boolean)]
set_option maxRecDepth 65536 in
theorem codes_eq : words1.filter isCode = codes1 := rfl
theorem w_codes : ∀ c ∈ words1.filter isCode, c.before args0 about1 = true := by
  rw [codes_eq]
  intro c hc
  simp only [codes1, List.mem_cons, List.not_mem_nil, or_false] at hc
  rcases hc with rfl | rfl | rfl
  · exact w_c0
  · exact w_c1
  · exact w_c2
set_option maxRecDepth 65536 in
theorem w_t1 : (words1.take 24).all (fun c => isCode c || c.before args0 about1) = true := by decide +kernel
set_option maxRecDepth 65536 in
theorem w_t2 : (words1.drop 24).all (fun c => isCode c || c.before args0 about1) = true := by decide +kernel
theorem w_tables : (allAtoms (Jvm.Cond.code x code maxLocals ret :: tables_1)).before args0 about1 = true := by
  rw [allAtoms_all]
  show words1.all (fun c => c.before args0 about1) = true
  refine all_split ?_ w_codes
  rw [← List.take_append_drop 24 words1, List.all_append, w_t1, w_t2]
  rfl
set_option maxRecDepth 65536 in
theorem w_case : (Jvm.Cond.and given_1 narrow_1).before args0 about1 = true := by decide +kernel
theorem w_applies : (headSpec (Jvm.Cond.code x code maxLocals ret :: tables_1) room_1).applies x e0.platform about1 = true :=
  (Spec.applies_iff w_frames).mpr ⟨w_running, w_runnable, w_alone, w_named, w_hears, w_ripe, w_room, w_tables⟩
theorem atStart : AtStart classFile x code maxLocals ret World_1 tables_1 room_1 Calls_1 rest_1 Pre_1 launch0 p0 e0 about1 theMethod args0 below0 :=
  ⟨lists_1, trivial, launch0.admits_env _ _ _, launch0.least_env, fairChoices_fair.cas, fairChoices_fair.clock, w_frames, w_args, w_heap, w_applies, trivial, trivial, w_case⟩
end start1
theorem witness_1 : WitnessClaimed_1 := ⟨start1.p0, start1.e0, start1.about1, start1.theMethod, start1.args0, start1.below0, start1.atStart⟩
end Jvm.Pilot.@@N@@
