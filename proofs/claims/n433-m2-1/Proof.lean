import JvmDerived
import JvmDerived.Pilot.@@N@@Statement
import JvmDerived.Pilot.@@N@@Code
set_option linter.unusedVariables false
set_option linter.unusedSimpArgs false
namespace Jvm.RoadKit
open Sem ClassFile Op Lib Jvm.Stand Jvm.Free Jvm.LawKit
section New
variable {p : Program} {l : Launch} {e : Env} {R : Room} {s : State} {m : MethodId} {args : Array Value} {below : List Frame} {meth : Method} {c : Code} {T : State} {locs : List Loc} {cells slots : Nat}
theorem retI (X : Stand p l e R s m args below meth c T locs cells slots) (hx : p.tables.exec = Jvm.exec) {pc : Nat} {Ls : Array Slot} {z : Int32} {rest : List Value} (hret : meth.sig.returnType = some .int) (hd : decode c.code pc = .ok (.ireturn, 1)) {fs : List Frame}
    (hl : ∀ (f : JFrame) (acts : List Action), f.method = m → f.locked = none → f.entered = [] → (doReturn e (T.setTop f) acts (some (.int z))).1 = T.setFrames fs) : Steps p.tables e below (T.setTop (mkF m pc Ls (.int z :: rest))) (T.setFrames fs) := by
  have hm' : T.vm.method? m = some meth := X.method'
  have hn : narrow .int (.int z) = .int z := rfl
  show Steps p.tables e below (T.setTop { method := m, pc := pc, locals := Ls, stack := _ :: rest, locked := none }) _
  jvm_step X.here [X.here.top, hx, hd, hm', hret, hn]
  first | (intro acts; rw [hl _ acts rfl rfl rfl]) | rw [hl _ _ rfl rfl rfl]
  exact Steps.refl _
end New
end Jvm.RoadKit
namespace Jvm.Pilot.@@N@@
open Jvm Jvm.ClassFile Sem Op Lib Jvm.Free Jvm.Stand Jvm.LawKit Jvm.RoadKit Bundle Jvm.Pilot.@@N@@.Jvm.D
/-! own small kit: a walk forward, state by state -/
section OwnKit
variable {p : Program} {l : Launch} {e : Env} {R : Room} {s : State} {m : MethodId} {args : Array Value} {below : List Frame} {meth : Method} {c : Code} {T : State} {locs : List Loc} {cells slots : Nat} {rc rs : Nat} {Q : Option Value → Heap → List Loc → Prop} {Z : State} {h h' : Heap} {a b : Addr} {S S' : State}
/-- from S the run comes to its return, and Q holds there -/
def Go (p : Program) (e : Env) (below : List Frame) (s : State) (rc rs : Nat) (Q : Option Value → Heap → List Loc → Prop) (S : State) : Prop :=
  ∃ s₂ o, Steps p.tables e below S s₂ ∧ s₂.status = .running ∧ Ended s₂ below o ∧ ∃ v L, o = .returned v ∧ Q v s₂.heap L ∧ FrameEnd s o s₂ L rc rs
theorem Go.st (k : ∀ t, Steps p.tables e below S' t → Steps p.tables e below S t) (g : Go p e below s rc rs Q S') : Go p e below s rc rs Q S := by
  obtain ⟨x, y, z, r⟩ := g
  exact ⟨x, y, k x z, r⟩
theorem Go.tr (k : Steps p.tables e below S S') (g : Go p e below s rc rs Q S') : Go p e below s rc rs Q S := by
  obtain ⟨x, y, z, r⟩ := g
  exact ⟨x, y, k.trans z, r⟩
theorem Go.ret (X : Stand p l e R s m args below meth c T locs cells slots) (hlk : meth.locks = false) (v : Option Value) (hv : meth.sig.returnType = none → v = none) {g : JFrame} (hQ : Q v T.heap locs) (hc : cells ≤ rc) (hs : slots ≤ rs)
    (k : ∀ fs, (∀ (f : JFrame) (acts : List Action), f.method = m → f.locked = none → f.entered = [] → (doReturn e (T.setTop f) acts v).1 = T.setFrames fs) → Steps p.tables e below (T.setTop g) (T.setFrames fs)) : Go p e below s rc rs Q (T.setTop g) := by
  obtain ⟨fs, hr, hrun, hended, hW, hsame⟩ := X.leave (v := v) hv hlk
  exact ⟨_, _, k fs hr, hrun, hended, _, _, rfl, hQ, ⟨_, rfl⟩, hW, hsame.mono hc hs⟩
theorem own_w {a0 : Array Value} (hw : ∀ d ∈ tables_1, d.before a0 Z = true) (k : Nat) {d : Jvm.Cond} (q : tables_1[k]? = some d) : d.before a0 Z = true := hw _ (List.mem_of_getElem? q)
theorem own_idx {n j : Int32} {cl : Cell} (S : cl.slots.size = n.toNatClampNeg) (q1 : ¬ j < 0) (q2 : j < n) : ¬ (j < 0 ∨ cl.slots.size ≤ j.toNatClampNeg) := inb_of S ⟨q1, q2⟩
theorem own_iaload (X : Stand p l e R s m args below meth c T locs cells slots) (hx : p.tables.exec = Jvm.exec) (hZ : Z.Warmed39 s.vm) (eT : T.heap = h) {k : ClassId} {n : Int32} {vs : List Value} {d : Value} (V : Arv Z h a k .int n vs d) {j : Int32} (q1 : ¬ j < 0) (q2 : j < n) {v : Value} (hv : vs.getD j.toNatClampNeg d = v) {g : JFrame} (hg : g.method = m) {rest : List Value} (hs : g.stack = .int j :: .ref a :: rest) (hd : decode c.code g.pc = .ok (.iaload, 1)) (t : State) (kk : Steps p.tables e below (T.setTop { g with pc := g.pc + 1, stack := v :: rest }) t) : Steps p.tables e below (T.setTop g) t := by
  obtain ⟨cl, A, -, S, -, H, -⟩ := V
  have hin := own_idx S q1 q2
  exact X.iaload hx (j := j) (v := v) (by rw [eT]; exact A.1) (State.isArrayOf_alike hZ.alike A.2.1) A.2.2 hin (H.at hin hv) (g := g) hg hs hd _ kk
theorem own_laload (X : Stand p l e R s m args below meth c T locs cells slots) (hx : p.tables.exec = Jvm.exec) (hZ : Z.Warmed39 s.vm) (eT : T.heap = h) {k : ClassId} {n : Int32} {vs : List Value} {d : Value} (V : Arv Z h a k .long n vs d) {j : Int32} (q1 : ¬ j < 0) (q2 : j < n) {v : Value} (hv : vs.getD j.toNatClampNeg d = v) {g : JFrame} (hg : g.method = m) {rest : List Value} (hs : g.stack = .int j :: .ref a :: rest) (hd : decode c.code g.pc = .ok (.laload, 1)) (t : State) (kk : Steps p.tables e below (T.setTop { g with pc := g.pc + 1, stack := v :: rest }) t) : Steps p.tables e below (T.setTop g) t := by
  obtain ⟨cl, A, -, S, -, H, -⟩ := V
  have hin := own_idx S q1 q2
  exact X.laload hx (j := j) (v := v) (by rw [eT]; exact A.1) (State.isArrayOf_alike hZ.alike A.2.1) A.2.2 hin (H.at hin hv) (g := g) hg hs hd _ kk
theorem own_caload (X : Stand p l e R s m args below meth c T locs cells slots) (hx : p.tables.exec = Jvm.exec) (hZ : Z.Warmed39 s.vm) (eT : T.heap = h) {k : ClassId} {n : Int32} {vs : List Value} {d : Value} (V : Arv Z h a k .char n vs d) {j : Int32} (q1 : ¬ j < 0) (q2 : j < n) {v : Value} (hv : vs.getD j.toNatClampNeg d = v) {g : JFrame} (hg : g.method = m) {rest : List Value} (hs : g.stack = .int j :: .ref a :: rest) (hd : decode c.code g.pc = .ok (.caload, 1)) (t : State) (kk : Steps p.tables e below (T.setTop { g with pc := g.pc + 1, stack := v :: rest }) t) : Steps p.tables e below (T.setTop g) t := by
  obtain ⟨cl, A, -, S, -, H, -⟩ := V
  have hin := own_idx S q1 q2
  exact X.caload hx (j := j) (v := v) (by rw [eT]; exact A.1) (State.isArrayOf_alike hZ.alike A.2.1) A.2.2 hin (H.at hin hv) (g := g) hg hs hd _ kk
theorem own_baloadB (X : Stand p l e R s m args below meth c T locs cells slots) (hx : p.tables.exec = Jvm.exec) (hZ : Z.Warmed39 s.vm) (eT : T.heap = h) {k : ClassId} {n : Int32} {vs : List Value} {d : Value} (V : Arv Z h a k .byte n vs d) {j : Int32} (q1 : ¬ j < 0) (q2 : j < n) {v : Value} (hv : vs.getD j.toNatClampNeg d = v) {g : JFrame} (hg : g.method = m) {rest : List Value} (hs : g.stack = .int j :: .ref a :: rest) (hd : decode c.code g.pc = .ok (.baload, 1)) (t : State) (kk : Steps p.tables e below (T.setTop { g with pc := g.pc + 1, stack := v :: rest }) t) : Steps p.tables e below (T.setTop g) t := by
  obtain ⟨cl, A, -, S, -, H, -⟩ := V
  have hin := own_idx S q1 q2
  exact X.baloadBytes hx (j := j) (v := v) (by rw [eT]; exact A.1) (State.isArrayOf_alike hZ.alike A.2.1) A.2.2 hin (H.at hin hv) (g := g) hg hs hd _ kk
theorem own_baloadZ (X : Stand p l e R s m args below meth c T locs cells slots) (hx : p.tables.exec = Jvm.exec) (hZ : Z.Warmed39 s.vm) (eT : T.heap = h) {k : ClassId} {n : Int32} {vs : List Value} {d : Value} (V : Arv Z h a k .boolean n vs d) {j : Int32} (q1 : ¬ j < 0) (q2 : j < n) {v : Value} (hv : vs.getD j.toNatClampNeg d = v) {g : JFrame} (hg : g.method = m) {rest : List Value} (hs : g.stack = .int j :: .ref a :: rest) (hd : decode c.code g.pc = .ok (.baload, 1)) (t : State) (kk : Steps p.tables e below (T.setTop { g with pc := g.pc + 1, stack := v :: rest }) t) : Steps p.tables e below (T.setTop g) t := by
  obtain ⟨cl, A, -, S, -, H, -⟩ := V
  have hin := own_idx S q1 q2
  exact X.baloadBooleans hx (j := j) (v := v) (by rw [eT]; exact A.1) (State.isArrayOf_alike hZ.alike A.2.1) A.2.2 hin (H.at hin hv) (g := g) hg hs hd _ kk
theorem own_aaload (X : Stand p l e R s m args below meth c T locs cells slots) (hx : p.tables.exec = Jvm.exec) (hZ : Z.Warmed39 s.vm) (eT : T.heap = h) {k : ClassId} {n : Int32} {vs : List Value} {d : Value} {ty : FieldType} (V : Arv Z h a k ty n vs d) (hty : ty.isReference = true) {j : Int32} (q1 : ¬ j < 0) (q2 : j < n) {v : Value} (hv : vs.getD j.toNatClampNeg d = v) {g : JFrame} (hg : g.method = m) {rest : List Value} (hs : g.stack = .int j :: .ref a :: rest) (hd : decode c.code g.pc = .ok (.aaload, 1)) (t : State) (kk : Steps p.tables e below (T.setTop { g with pc := g.pc + 1, stack := v :: rest }) t) : Steps p.tables e below (T.setTop g) t := by
  obtain ⟨cl, A, -, S, -, H, -⟩ := V
  have hin := own_idx S q1 q2
  exact X.aaload hx (j := j) (v := v) (by rw [eT]; exact A.1) (State.isArrayOf_alike hZ.alike A.2.1) hty A.2.2 hin (H.at hin hv) (g := g) hg hs hd _ kk
theorem own_len (X : Stand p l e R s m args below meth c T locs cells slots) (hx : p.tables.exec = Jvm.exec) (hZ : Z.Warmed39 s.vm) (eT : T.heap = h) {k : ClassId} {n : Int32} {vs : List Value} {d : Value} {ty : FieldType} (V : Arv Z h a k ty n vs d) {g : JFrame} (hg : g.method = m) {rest : List Value} (hs : g.stack = .ref a :: rest) (hd : decode c.code g.pc = .ok (.arraylength, 1)) (t : State) (kk : Steps p.tables e below (T.setTop { g with pc := g.pc + 1, stack := .int n :: rest }) t) : Steps p.tables e below (T.setTop g) t := by
  obtain ⟨cl, A, -, S, N, -, -⟩ := V
  refine X.arraylength hx (by rw [eT]; exact A.1) (State.isArrayOf_alike hZ.alike A.2.1) (g := g) hg hs hd _ ?_
  rw [len_of S N]
  exact kk
theorem own_stI (X : Stand p l e R s m args below meth c T locs cells slots) (hx : p.tables.exec = Jvm.exec) (hZ : Z.Warmed39 s.vm) (eT : T.heap = h) {k : ClassId} {n : Int32} {vs : List Value} {d : Value} (V : Arv Z h a k .int n vs d) {j x : Int32} (q1 : ¬ j < 0) (q2 : j < n) (i : Nat) (hi : j.toNatClampNeg = i) (hl : i < vs.length) {g : JFrame} (hg : g.method = m) {rest : List Value} (hs : g.stack = .int x :: .int j :: .ref a :: rest) (hd : decode c.code g.pc = .ok (.iastore, 1)) :
    ∃ T' h', Stand p l e R s m args below meth c T' (locs ++ [⟨a, j.toNatClampNeg⟩]) cells slots ∧ T'.heap = h' ∧ Wr h h' a j.toNatClampNeg (.int x) ∧ Arv Z h' a k .int n (vs.set i (.int x)) d ∧ ∀ t, Steps p.tables e below (T'.setTop { g with pc := g.pc + 1, stack := rest }) t → Steps p.tables e below (T.setTop g) t := by
  obtain ⟨cl, A, q, S, N, H, G⟩ := V
  obtain ⟨T', h', X', e', W', st⟩ := stI X hx hZ eT A (own_idx S q1 q2) (g := g) hg hs hd
  exact ⟨T', h', X', e', W', Arv.set A q S N H G rfl W' i hi hl, st⟩
theorem own_stJ (X : Stand p l e R s m args below meth c T locs cells slots) (hx : p.tables.exec = Jvm.exec) (hZ : Z.Warmed39 s.vm) (eT : T.heap = h) {k : ClassId} {n : Int32} {vs : List Value} {d : Value} (V : Arv Z h a k .long n vs d) {j : Int32} {x : Int64} (q1 : ¬ j < 0) (q2 : j < n) (i : Nat) (hi : j.toNatClampNeg = i) (hl : i < vs.length) {g : JFrame} (hg : g.method = m) {rest : List Value} (hs : g.stack = .long x :: .int j :: .ref a :: rest) (hd : decode c.code g.pc = .ok (.lastore, 1)) :
    ∃ T' h', Stand p l e R s m args below meth c T' (locs ++ [⟨a, j.toNatClampNeg⟩]) cells slots ∧ T'.heap = h' ∧ Wr h h' a j.toNatClampNeg (.long x) ∧ Arv Z h' a k .long n (vs.set i (.long x)) d ∧ ∀ t, Steps p.tables e below (T'.setTop { g with pc := g.pc + 1, stack := rest }) t → Steps p.tables e below (T.setTop g) t := by
  obtain ⟨cl, A, q, S, N, H, G⟩ := V
  obtain ⟨T', h', X', e', W', st⟩ := stJ X hx hZ eT A (own_idx S q1 q2) (g := g) hg hs hd
  exact ⟨T', h', X', e', W', Arv.set A q S N H G rfl W' i hi hl, st⟩
theorem own_stC (X : Stand p l e R s m args below meth c T locs cells slots) (hx : p.tables.exec = Jvm.exec) (hZ : Z.Warmed39 s.vm) (eT : T.heap = h) {k : ClassId} {n : Int32} {vs : List Value} {d : Value} (V : Arv Z h a k .char n vs d) {j x : Int32} (q1 : ¬ j < 0) (q2 : j < n) (i : Nat) (hi : j.toNatClampNeg = i) (hl : i < vs.length) {g : JFrame} (hg : g.method = m) {rest : List Value} (hs : g.stack = .int x :: .int j :: .ref a :: rest) (hd : decode c.code g.pc = .ok (.castore, 1)) :
    ∃ T' h', Stand p l e R s m args below meth c T' (locs ++ [⟨a, j.toNatClampNeg⟩]) cells slots ∧ T'.heap = h' ∧ Wr h h' a j.toNatClampNeg (.int (nar .char x)) ∧ Arv Z h' a k .char n (vs.set i (.int (nar .char x))) d ∧ ∀ t, Steps p.tables e below (T'.setTop { g with pc := g.pc + 1, stack := rest }) t → Steps p.tables e below (T.setTop g) t := by
  obtain ⟨cl, A, q, S, N, H, G⟩ := V
  obtain ⟨T', h', X', e', W', st⟩ := stC X hx hZ eT A (own_idx S q1 q2) (g := g) hg hs hd
  exact ⟨T', h', X', e', W', Arv.set A q S N H G (fits_nar_char _) W' i hi hl, st⟩
theorem own_stB (X : Stand p l e R s m args below meth c T locs cells slots) (hx : p.tables.exec = Jvm.exec) (hZ : Z.Warmed39 s.vm) (eT : T.heap = h) {k : ClassId} {n : Int32} {vs : List Value} {d : Value} (V : Arv Z h a k .byte n vs d) {j x : Int32} (q1 : ¬ j < 0) (q2 : j < n) (i : Nat) (hi : j.toNatClampNeg = i) (hl : i < vs.length) {g : JFrame} (hg : g.method = m) {rest : List Value} (hs : g.stack = .int x :: .int j :: .ref a :: rest) (hd : decode c.code g.pc = .ok (.bastore, 1)) :
    ∃ T' h', Stand p l e R s m args below meth c T' (locs ++ [⟨a, j.toNatClampNeg⟩]) cells slots ∧ T'.heap = h' ∧ Wr h h' a j.toNatClampNeg (.int (nar .byte x)) ∧ Arv Z h' a k .byte n (vs.set i (.int (nar .byte x))) d ∧ ∀ t, Steps p.tables e below (T'.setTop { g with pc := g.pc + 1, stack := rest }) t → Steps p.tables e below (T.setTop g) t := by
  obtain ⟨cl, A, q, S, N, H, G⟩ := V
  obtain ⟨T', h', X', e', W', st⟩ := stB X hx hZ eT A (own_idx S q1 q2) (g := g) hg hs hd
  exact ⟨T', h', X', e', W', Arv.set A q S N H G (fits_nar_byte _) W' i hi hl, st⟩
theorem own_stZ (X : Stand p l e R s m args below meth c T locs cells slots) (hx : p.tables.exec = Jvm.exec) (hZ : Z.Warmed39 s.vm) (eT : T.heap = h) {k : ClassId} {n : Int32} {vs : List Value} {d : Value} (V : Arv Z h a k .boolean n vs d) {j x : Int32} (q1 : ¬ j < 0) (q2 : j < n) (i : Nat) (hi : j.toNatClampNeg = i) (hl : i < vs.length) {g : JFrame} (hg : g.method = m) {rest : List Value} (hs : g.stack = .int x :: .int j :: .ref a :: rest) (hd : decode c.code g.pc = .ok (.bastore, 1)) :
    ∃ T' h', Stand p l e R s m args below meth c T' (locs ++ [⟨a, j.toNatClampNeg⟩]) cells slots ∧ T'.heap = h' ∧ Wr h h' a j.toNatClampNeg (.int (nar .boolean x)) ∧ Arv Z h' a k .boolean n (vs.set i (.int (nar .boolean x))) d ∧ ∀ t, Steps p.tables e below (T'.setTop { g with pc := g.pc + 1, stack := rest }) t → Steps p.tables e below (T.setTop g) t := by
  obtain ⟨cl, A, q, S, N, H, G⟩ := V
  obtain ⟨T', h', X', e', W', st⟩ := stZ X hx hZ eT A (own_idx S q1 q2) (g := g) hg hs hd
  exact ⟨T', h', X', e', W', Arv.set A q S N H G (fits_nar_bool _) W' i hi hl, st⟩
theorem own_old {n0 : Nat} (O : Old Z n0 h) : n0 ≤ h.size := O.1 ▸ O.2.1
theorem own_res {z z' y : Int32} (hq : y = z') (hz : z = z') : some (Value.int z) = some (Value.int y) := by rw [hq, hz]
theorem own_resJ {z z' y : Int64} (hq : y = z') (hz : z = z') : some (Value.long z) = some (Value.long y) := by rw [hq, hz]
theorem own_narR {v : Value} {t : FieldType} (q : v.isRef = true) (r : t.isReference = true := by rfl) : narrow t v = v := by
  rcases ref_cases q with rfl | ⟨_, rfl⟩ <;> cases t <;> first | rfl | (simp [FieldType.isReference] at r)
theorem own_fitR {v : Value} {t : FieldType} (q : v.isRef = true) (r : t.isReference = true := by rfl) : fits t v = true := by
  rcases ref_cases q with rfl | ⟨_, rfl⟩ <;> cases t <;> first | rfl | (simp [FieldType.isReference] at r)
theorem own_fld {ar : Array Value} {t : Term} {x : Addr} {C n d : String} {k : Int32} (ht : t.eval ar s none [] s = some (.ref x)) (q : (Jvm.Cond.eq (.field t C n d) (.int k)).value ar s none s [] = some true) : Fld s s.heap x C n d (.int k) := by
  obtain ⟨u, w, e1, e2, -, k2⟩ := cmp_v (Or.inl q)
  have e3 : (Term.int k).eval ar s none [] s = some (.int k) := Term.int_eval k
  rw [e3] at e2
  obtain rfl := Option.some.inj e2
  obtain ⟨z, rfl⟩ := k2
  have e4 : z = k := gotT (Cond.eq_ints e1 e3) q
  subst e4
  rw [fld_at ht] at e1
  exact Fld.start e1
theorem own_neI {u w : Int32} (q : u ≠ w) : Value.int u ≠ Value.int w := fun z => q (Value.int.inj z)
theorem own_stR (X : Stand p l e R s m args below meth c T locs cells slots) (hx : p.tables.exec = Jvm.exec) (hZ : Z.Warmed39 s.vm) (eT : T.heap = h) {k : ClassId} {n : Int32} {vs : List Value} {d : Value} {ty : FieldType} {C : String} (V : Arv Z h a k ty n vs d) (hty : ty.isReference = true) (O : Ovr Z k C) {y : Addr} (I : Ins Z h y C true) {j : Int32} (q1 : ¬ j < 0) (q2 : j < n) (i : Nat) (hi : j.toNatClampNeg = i) (hl : i < vs.length) {g : JFrame} (hg : g.method = m) {rest : List Value} (hs : g.stack = .ref y :: .int j :: .ref a :: rest) (hd : decode c.code g.pc = .ok (.aastore, 1)) :
    ∃ T' h', Stand p l e R s m args below meth c T' (locs ++ [⟨a, j.toNatClampNeg⟩]) cells slots ∧ T'.heap = h' ∧ Wr h h' a j.toNatClampNeg (.ref y) ∧ Arv Z h' a k ty n (vs.set i (.ref y)) d ∧ ∀ t, Steps p.tables e below (T'.setTop { g with pc := g.pc + 1, stack := rest }) t → Steps p.tables e below (T.setTop g) t := by
  obtain ⟨cl, A, q, S, N, H, G⟩ := V
  obtain ⟨T', h', X', e', W', st⟩ := stR X hx hZ eT A (own_idx S q1 q2) hty (Sto.ofV A q O I) (g := g) hg hs hd
  exact ⟨T', h', X', e', W', Arv.set A q S N H G (own_fitR rfl hty) W' i hi hl, st⟩
theorem own_dupx2 (X : Stand p l e R s m args below meth c T locs cells slots) (hx : p.tables.exec = Jvm.exec) {g : JFrame} (hg : g.method = m) {x y z : Value} {rest : List Value} (hd : decode c.code g.pc = .ok (.dup_x2, 1)) (hs : g.stack = x :: y :: z :: rest) (hc : x.category = 1) (hc' : y.category = 1) (hc'' : z.category = 1) (t : State) (kk : Steps p.tables e below (T.setTop { g with pc := g.pc + 1, stack := x :: y :: z :: x :: rest }) t) : Steps p.tables e below (T.setTop g) t := by
  subst hg
  jvm_step X.here [X.here.top, hx, hd, dup_x2.wp_sem, hs, hc, hc', hc'']
  exact kk
theorem own_gen {n0 : Nat} (X : Stand p l e R s m args below meth c T locs cells slots) (N : Fr n0 locs) : ∃ L, Stand p l e R s m args below meth c T L cells slots ∧ Fr n0 L := ⟨_, X, N⟩
end OwnKit
theorem own_lt (x y : Int32) : (x < y) = (x.toInt < y.toInt) := propext Int32.lt_iff_toInt_lt
theorem own_eq (x y : Int32) : (x = y) = (x.toInt = y.toInt) := propext Int32.toInt_inj.symm
theorem own_rem (x k : Int32) (hk : 0 < k.toInt) : ¬ ((x &&& 2147483647) % k < 0) ∧ (x &&& 2147483647) % k < k := by
  have h1 := c_mask x 2147483647 31 (by decide) (by decide)
  have h2 := c_iremV (x &&& 2147483647) k
  have h3 : 0 ≤ (x &&& 2147483647).toInt := by rw [h1]; exact Int.emod_nonneg _ (by decide)
  have h4 := h2.1 h3 hk
  rw [own_lt, own_lt]
  have h5 : (0 : Int32).toInt = 0 := rfl
  omega
theorem own_ofNat {i j : Nat} (hi : i < 1000) (hj : j < 1000) (z : Int32.ofNat i = Int32.ofNat j) : i = j := by
  have h1 : (Int32.ofNat i).toInt = (i : Int) := len_toInt (by omega)
  have h2 : (Int32.ofNat j).toInt = (j : Int) := len_toInt (by omega)
  rw [z] at h1
  omega
def OwnSt (Z : State) (c : Nat → Addr) : Prop := Sta Z Z.heap "com/example/arbora/arbora/sql/ValueType" "STRING" "Lcom/example/arbora/arbora/sql/ValueType;" (.ref (c 0)) ∧ Sta Z Z.heap "com/example/arbora/arbora/sql/ValueType" "FIXED_STRING" "Lcom/example/arbora/arbora/sql/ValueType;" (.ref (c 1)) ∧ Sta Z Z.heap "com/example/arbora/arbora/sql/ValueType" "LABEL" "Lcom/example/arbora/arbora/sql/ValueType;" (.ref (c 2)) ∧ Sta Z Z.heap "com/example/arbora/arbora/sql/ValueType" "INTEGER" "Lcom/example/arbora/arbora/sql/ValueType;" (.ref (c 3)) ∧ Sta Z Z.heap "com/example/arbora/arbora/sql/ValueType" "DECIMAL" "Lcom/example/arbora/arbora/sql/ValueType;" (.ref (c 4)) ∧ Sta Z Z.heap "com/example/arbora/arbora/sql/ValueType" "FLOATING_POINT" "Lcom/example/arbora/arbora/sql/ValueType;" (.ref (c 5)) ∧ Sta Z Z.heap "com/example/arbora/arbora/sql/ValueType" "BOOLEAN" "Lcom/example/arbora/arbora/sql/ValueType;" (.ref (c 6)) ∧ Sta Z Z.heap "com/example/arbora/arbora/sql/ValueType" "DATE" "Lcom/example/arbora/arbora/sql/ValueType;" (.ref (c 7)) ∧ Sta Z Z.heap "com/example/arbora/arbora/sql/ValueType" "TIMESTAMP" "Lcom/example/arbora/arbora/sql/ValueType;" (.ref (c 8)) ∧ Sta Z Z.heap "com/example/arbora/arbora/sql/ValueType" "TIMESTAMP_WITH_TIME_ZONE" "Lcom/example/arbora/arbora/sql/ValueType;" (.ref (c 9)) ∧ Sta Z Z.heap "com/example/arbora/arbora/sql/ValueType" "BINARY" "Lcom/example/arbora/arbora/sql/ValueType;" (.ref (c 10)) ∧ Sta Z Z.heap "com/example/arbora/arbora/sql/ValueType" "UUID" "Lcom/example/arbora/arbora/sql/ValueType;" (.ref (c 11)) ∧ Sta Z Z.heap "com/example/arbora/arbora/sql/ValueType" "TIME" "Lcom/example/arbora/arbora/sql/ValueType;" (.ref (c 12)) ∧ Sta Z Z.heap "com/example/arbora/arbora/sql/ValueType" "UNSUPPORTED" "Lcom/example/arbora/arbora/sql/ValueType;" (.ref (c 13)) ∧ (∀ i, i < 14 → Exa Z Z.heap (c i) "com/example/arbora/arbora/sql/ValueType") ∧ (∀ i j, i < 14 → j < 14 → c i = c j → i = j)
theorem d4_0 : decode prog_119_method_7_code 0 = .ok (.aload_n 0, 1) := by decide +kernel
theorem d4_1 : decode prog_119_method_7_code 1 = .ok (.getstatic 3, 3) := by decide +kernel
theorem d4_4 : decode prog_119_method_7_code 4 = .ok (.if_acmp .eq 24, 3) := by decide +kernel
theorem d4_7 : decode prog_119_method_7_code 7 = .ok (.aload_n 0, 1) := by decide +kernel
theorem d4_8 : decode prog_119_method_7_code 8 = .ok (.getstatic 7, 3) := by decide +kernel
theorem d4_11 : decode prog_119_method_7_code 11 = .ok (.if_acmp .eq 17, 3) := by decide +kernel
theorem d4_14 : decode prog_119_method_7_code 14 = .ok (.aload_n 0, 1) := by decide +kernel
theorem d4_15 : decode prog_119_method_7_code 15 = .ok (.getstatic 10, 3) := by decide +kernel
theorem d4_18 : decode prog_119_method_7_code 18 = .ok (.if_acmp .eq 10, 3) := by decide +kernel
theorem d4_21 : decode prog_119_method_7_code 21 = .ok (.aload_n 0, 1) := by decide +kernel
theorem d4_22 : decode prog_119_method_7_code 22 = .ok (.getstatic 34, 3) := by decide +kernel
theorem d4_25 : decode prog_119_method_7_code 25 = .ok (.if_acmp .ne 7, 3) := by decide +kernel
theorem d4_28 : decode prog_119_method_7_code 28 = .ok (.iconst 1, 1) := by decide +kernel
theorem d4_29 : decode prog_119_method_7_code 29 = .ok (.goto 4, 3) := by decide +kernel
theorem d4_32 : decode prog_119_method_7_code 32 = .ok (.iconst 0, 1) := by decide +kernel
theorem d4_33 : decode prog_119_method_7_code 33 = .ok (.ireturn, 1) := by decide +kernel
theorem pn4 : plainName "com/example/arbora/arbora/sql/ValueType" = true := by first | (simp [plainName, overriddenIn]; done) | decide +kernel
theorem ef4 (m : MethodId) (x0 : Addr) : entryFrame m #[(.ref x0)] 1 = mkF m 0 #[.val (.ref x0)] [] := by first | (simp [entryFrame, mkF, argsToLocals, Value.category, maxLocals]; done) | rfl
def fTe (c : Nat → Addr) (i : Nat) : Int32 := (if ((.ref (c i)) : Value) = (.ref (c 0)) then (1 : Int32) else (if ((.ref (c i)) : Value) = (.ref (c 1)) then (1 : Int32) else (if ((.ref (c i)) : Value) = (.ref (c 2)) then (1 : Int32) else (if ((.ref (c i)) : Value) = (.ref (c 10)) then (1 : Int32) else (0 : Int32)))))
def Q4 (Z : State) (c : Nat → Addr) (i : Nat) (h0 : Heap) (n0 : Nat) (v : Option Value) (h : Heap) (L : List Loc) : Prop := v = some (.int (fTe c i)) ∧ Fr n0 L ∧ h = h0
set_option maxRecDepth 65536 in
set_option maxHeartbeats 40000000 in
theorem rm4 (l : Launch) (Z : State) (a0 : Array Value) (hw : ∀ d ∈ tables_1, d.before a0 Z = true) (ws : List Jvm.Cond) (c : Nat → Addr) (i : Nat) (h0 : Heap) (n0 : Nat) (O0 : Old Z n0 h0) (HS : OwnSt Z c) :
    MetFree l (⟨"com/example/arbora/arbora/sql/ValueType", "textMayBeEmpty", "()Z"⟩ : MethodName) (head1 (Jvm.Cond.code (⟨"com/example/arbora/arbora/sql/ValueType", "textMayBeEmpty", "()Z"⟩ : MethodName) prog_119_method_7_code 1 (some .boolean) :: ws) ({ frames := 0, cells := 0, slots := 0, locals := 0 } : Room)) (fun A_ U_ => A_ = #[(.ref (c i))] ∧ Z.Warmed39 U_.vm ∧ U_.heap = h0) (fun _ _ _ _ _ => True) (fun _ U o U' => ∃ v L, o = .returned v ∧ Q4 Z c i h0 n0 v U'.heap L ∧ FrameEnd U o U' L ({ frames := 0, cells := 0, slots := 0, locals := 0 } : Room).cells ({ frames := 0, cells := 0, slots := 0, locals := 0 } : Room).slots) := by
  refine MetFree.of_bodySF (plainFor_of_name pn4) hisR ?_
  intro p e s m args below meth cd s₁ Bd hml0 hP hK
  obtain ⟨rfl, hZ, hh⟩ := hP
  have hx := Bd.exec
  have hby := Bd.bytes
  have hlk : meth.locks = false := BodyLoose.notSynchronized Bd
  have hml : cd.maxLocals = 1 := hml0
  have hown : s.vm.findClass "com/example/arbora/arbora/sql/ValueType" = some m.cls := findClass_of_methodNamed Bd.named
  have hnm := (name_of_methodNamed Bd.named Bd.method).1
  have X0 : Stand p l e ({ frames := 0, cells := 0, slots := 0, locals := 0 } : Room) s m #[(.ref (c i))] below meth cd s₁ [] 0 0 := Stand.of_body Bd
  have e0 : s₁.heap = h0 := by rw [← hh, Bd.state]; rfl
  have N0 := Fr.nil n0
  have G : Go p e below s 0 0 (Q4 Z c i h0 n0) (s₁.setTop (mkF m 0 #[.val (.ref (c i))] [])) := by
    show Go p e below s _ _ _ (s₁.setTop (mkF m 0 #[.val (.ref (c i))] []))
    refine Go.st (fun _ kq_ => XS.aloadN X0.here hx rfl (hb hby d4_0) rfl rfl kq_) ?_
    show Go p e below s _ _ _ (s₁.setTop (mkF m 1 #[.val (.ref (c i))] [(.ref (c i))]))
    obtain ⟨T1, X1, e1, st1⟩ := getS X0 hx hZ hown (host := "") (own_w hw 39 rfl) Via.refl e0 (HS.1.ext O0.2) (g := (mkF m 1 #[.val (.ref (c i))] [(.ref (c i))])) rfl (hb hby d4_1)
    refine Go.st st1 ?_
    show Go p e below s _ _ _ (T1.setTop (mkF m 4 #[.val (.ref (c i))] [(.ref (c 0)), (.ref (c i))]))
    by_cases c4_2 : ((.ref (c i)) : Value) = (.ref (c 0))
    · refine Go.st (fun _ kq_ => XT.acmpYes X1.here hx rfl (pc0 := 4) (pc' := 28) rfl (hb hby d4_4) rfl rfl rfl (XT.aa_eq_t c4_2) (by decide) (by decide) kq_) ?_
      show Go p e below s _ _ _ (T1.setTop (mkF m 28 #[.val (.ref (c i))] []))
      refine Go.st (fun _ kq_ => XS.iconst X1.here hx rfl (hb hby d4_28) kq_) ?_
      show Go p e below s _ _ _ (T1.setTop (mkF m 29 #[.val (.ref (c i))] [(.int (1 : Int32))]))
      refine Go.st (fun _ kq_ => XS.goto X1.here hx rfl (pc0 := 29) (pc' := 33) rfl (hb hby d4_29) (by decide) (by decide) kq_) ?_
      show Go p e below s _ _ _ (T1.setTop (mkF m 33 #[.val (.ref (c i))] [(.int (1 : Int32))]))
      exact Go.ret X1 hlk (some (.int (nar .boolean (1 : Int32)))) (fun h => by rw [Bd.returns] at h; cases h) (by rw [e1]; exact ⟨own_res (z' := (1 : Int32)) (by unfold fTe; rw [if_pos c4_2]) rfl, N0, rfl⟩) (by decide) (by decide) (fun fs hr => retN X1 hx (t := .boolean) Bd.returns (by simp) (hb hby d4_33) hr)
    · refine Go.st (fun _ kq_ => XT.acmpNo X1.here hx rfl (hb hby d4_4) rfl rfl rfl (XT.aa_eq_f c4_2) kq_) ?_
      show Go p e below s _ _ _ (T1.setTop (mkF m 7 #[.val (.ref (c i))] []))
      refine Go.st (fun _ kq_ => XS.aloadN X1.here hx rfl (hb hby d4_7) rfl rfl kq_) ?_
      show Go p e below s _ _ _ (T1.setTop (mkF m 8 #[.val (.ref (c i))] [(.ref (c i))]))
      obtain ⟨T3, X3, e3, st3⟩ := getS X1 hx hZ hown (host := "") (own_w hw 40 rfl) Via.refl e1 (HS.2.1.ext O0.2) (g := (mkF m 8 #[.val (.ref (c i))] [(.ref (c i))])) rfl (hb hby d4_8)
      refine Go.st st3 ?_
      show Go p e below s _ _ _ (T3.setTop (mkF m 11 #[.val (.ref (c i))] [(.ref (c 1)), (.ref (c i))]))
      by_cases c11_4 : ((.ref (c i)) : Value) = (.ref (c 1))
      · refine Go.st (fun _ kq_ => XT.acmpYes X3.here hx rfl (pc0 := 11) (pc' := 28) rfl (hb hby d4_11) rfl rfl rfl (XT.aa_eq_t c11_4) (by decide) (by decide) kq_) ?_
        show Go p e below s _ _ _ (T3.setTop (mkF m 28 #[.val (.ref (c i))] []))
        refine Go.st (fun _ kq_ => XS.iconst X3.here hx rfl (hb hby d4_28) kq_) ?_
        show Go p e below s _ _ _ (T3.setTop (mkF m 29 #[.val (.ref (c i))] [(.int (1 : Int32))]))
        refine Go.st (fun _ kq_ => XS.goto X3.here hx rfl (pc0 := 29) (pc' := 33) rfl (hb hby d4_29) (by decide) (by decide) kq_) ?_
        show Go p e below s _ _ _ (T3.setTop (mkF m 33 #[.val (.ref (c i))] [(.int (1 : Int32))]))
        exact Go.ret X3 hlk (some (.int (nar .boolean (1 : Int32)))) (fun h => by rw [Bd.returns] at h; cases h) (by rw [e3]; exact ⟨own_res (z' := (1 : Int32)) (by unfold fTe; rw [if_neg c4_2, if_pos c11_4]) rfl, N0, rfl⟩) (by decide) (by decide) (fun fs hr => retN X3 hx (t := .boolean) Bd.returns (by simp) (hb hby d4_33) hr)
      · refine Go.st (fun _ kq_ => XT.acmpNo X3.here hx rfl (hb hby d4_11) rfl rfl rfl (XT.aa_eq_f c11_4) kq_) ?_
        show Go p e below s _ _ _ (T3.setTop (mkF m 14 #[.val (.ref (c i))] []))
        refine Go.st (fun _ kq_ => XS.aloadN X3.here hx rfl (hb hby d4_14) rfl rfl kq_) ?_
        show Go p e below s _ _ _ (T3.setTop (mkF m 15 #[.val (.ref (c i))] [(.ref (c i))]))
        obtain ⟨T5, X5, e5, st5⟩ := getS X3 hx hZ hown (host := "") (own_w hw 41 rfl) Via.refl e3 (HS.2.2.1.ext O0.2) (g := (mkF m 15 #[.val (.ref (c i))] [(.ref (c i))])) rfl (hb hby d4_15)
        refine Go.st st5 ?_
        show Go p e below s _ _ _ (T5.setTop (mkF m 18 #[.val (.ref (c i))] [(.ref (c 2)), (.ref (c i))]))
        by_cases c18_6 : ((.ref (c i)) : Value) = (.ref (c 2))
        · refine Go.st (fun _ kq_ => XT.acmpYes X5.here hx rfl (pc0 := 18) (pc' := 28) rfl (hb hby d4_18) rfl rfl rfl (XT.aa_eq_t c18_6) (by decide) (by decide) kq_) ?_
          show Go p e below s _ _ _ (T5.setTop (mkF m 28 #[.val (.ref (c i))] []))
          refine Go.st (fun _ kq_ => XS.iconst X5.here hx rfl (hb hby d4_28) kq_) ?_
          show Go p e below s _ _ _ (T5.setTop (mkF m 29 #[.val (.ref (c i))] [(.int (1 : Int32))]))
          refine Go.st (fun _ kq_ => XS.goto X5.here hx rfl (pc0 := 29) (pc' := 33) rfl (hb hby d4_29) (by decide) (by decide) kq_) ?_
          show Go p e below s _ _ _ (T5.setTop (mkF m 33 #[.val (.ref (c i))] [(.int (1 : Int32))]))
          exact Go.ret X5 hlk (some (.int (nar .boolean (1 : Int32)))) (fun h => by rw [Bd.returns] at h; cases h) (by rw [e5]; exact ⟨own_res (z' := (1 : Int32)) (by unfold fTe; rw [if_neg c4_2, if_neg c11_4, if_pos c18_6]) rfl, N0, rfl⟩) (by decide) (by decide) (fun fs hr => retN X5 hx (t := .boolean) Bd.returns (by simp) (hb hby d4_33) hr)
        · refine Go.st (fun _ kq_ => XT.acmpNo X5.here hx rfl (hb hby d4_18) rfl rfl rfl (XT.aa_eq_f c18_6) kq_) ?_
          show Go p e below s _ _ _ (T5.setTop (mkF m 21 #[.val (.ref (c i))] []))
          refine Go.st (fun _ kq_ => XS.aloadN X5.here hx rfl (hb hby d4_21) rfl rfl kq_) ?_
          show Go p e below s _ _ _ (T5.setTop (mkF m 22 #[.val (.ref (c i))] [(.ref (c i))]))
          obtain ⟨T7, X7, e7, st7⟩ := getS X5 hx hZ hown (host := "") (own_w hw 42 rfl) Via.refl e5 (HS.2.2.2.2.2.2.2.2.2.2.1.ext O0.2) (g := (mkF m 22 #[.val (.ref (c i))] [(.ref (c i))])) rfl (hb hby d4_22)
          refine Go.st st7 ?_
          show Go p e below s _ _ _ (T7.setTop (mkF m 25 #[.val (.ref (c i))] [(.ref (c 10)), (.ref (c i))]))
          by_cases c25_8 : ((.ref (c i)) : Value) = (.ref (c 10))
          · refine Go.st (fun _ kq_ => XT.acmpNo X7.here hx rfl (hb hby d4_25) rfl rfl rfl (XT.aa_ne_f c25_8) kq_) ?_
            show Go p e below s _ _ _ (T7.setTop (mkF m 28 #[.val (.ref (c i))] []))
            refine Go.st (fun _ kq_ => XS.iconst X7.here hx rfl (hb hby d4_28) kq_) ?_
            show Go p e below s _ _ _ (T7.setTop (mkF m 29 #[.val (.ref (c i))] [(.int (1 : Int32))]))
            refine Go.st (fun _ kq_ => XS.goto X7.here hx rfl (pc0 := 29) (pc' := 33) rfl (hb hby d4_29) (by decide) (by decide) kq_) ?_
            show Go p e below s _ _ _ (T7.setTop (mkF m 33 #[.val (.ref (c i))] [(.int (1 : Int32))]))
            exact Go.ret X7 hlk (some (.int (nar .boolean (1 : Int32)))) (fun h => by rw [Bd.returns] at h; cases h) (by rw [e7]; exact ⟨own_res (z' := (1 : Int32)) (by unfold fTe; rw [if_neg c4_2, if_neg c11_4, if_neg c18_6, if_pos c25_8]) rfl, N0, rfl⟩) (by decide) (by decide) (fun fs hr => retN X7 hx (t := .boolean) Bd.returns (by simp) (hb hby d4_33) hr)
          · refine Go.st (fun _ kq_ => XT.acmpYes X7.here hx rfl (pc0 := 25) (pc' := 32) rfl (hb hby d4_25) rfl rfl rfl (XT.aa_ne_t c25_8) (by decide) (by decide) kq_) ?_
            show Go p e below s _ _ _ (T7.setTop (mkF m 32 #[.val (.ref (c i))] []))
            refine Go.st (fun _ kq_ => XS.iconst X7.here hx rfl (hb hby d4_32) kq_) ?_
            show Go p e below s _ _ _ (T7.setTop (mkF m 33 #[.val (.ref (c i))] [(.int (0 : Int32))]))
            exact Go.ret X7 hlk (some (.int (nar .boolean (0 : Int32)))) (fun h => by rw [Bd.returns] at h; cases h) (by rw [e7]; exact ⟨own_res (z' := (0 : Int32)) (by unfold fTe; rw [if_neg c4_2, if_neg c11_4, if_neg c18_6, if_neg c25_8]) rfl, N0, rfl⟩) (by decide) (by decide) (fun fs hr => retN X7 hx (t := .boolean) Bd.returns (by simp) (hb hby d4_33) hr)
  obtain ⟨s2, o2, st2, r2⟩ := G
  exact ⟨s2, o2, castTop (ef4 m (c i)) st2, r2⟩
theorem own_ci (c : Nat → Addr) (inj : ∀ i j, i < 14 → j < 14 → c i = c j → i = j) (i j : Nat) (hi : i < 14) (hj : j < 14) (q : ¬ i = j) : ¬ (Value.ref (c i)) = .ref (c j) := fun z => q (inj i j hi hj (Value.ref.inj z))
theorem fTe_0 (c : Nat → Addr) (inj : ∀ i j, i < 14 → j < 14 → c i = c j → i = j) : fTe c 0 = 1 := by unfold fTe; rw [if_pos rfl]
theorem fTe_1 (c : Nat → Addr) (inj : ∀ i j, i < 14 → j < 14 → c i = c j → i = j) : fTe c 1 = 1 := by unfold fTe; rw [if_neg (own_ci c inj 1 0 (by decide) (by decide) (by decide)), if_pos rfl]
theorem fTe_2 (c : Nat → Addr) (inj : ∀ i j, i < 14 → j < 14 → c i = c j → i = j) : fTe c 2 = 1 := by unfold fTe; rw [if_neg (own_ci c inj 2 0 (by decide) (by decide) (by decide)), if_neg (own_ci c inj 2 1 (by decide) (by decide) (by decide)), if_pos rfl]
theorem fTe_3 (c : Nat → Addr) (inj : ∀ i j, i < 14 → j < 14 → c i = c j → i = j) : fTe c 3 = 0 := by unfold fTe; rw [if_neg (own_ci c inj 3 0 (by decide) (by decide) (by decide)), if_neg (own_ci c inj 3 1 (by decide) (by decide) (by decide)), if_neg (own_ci c inj 3 2 (by decide) (by decide) (by decide)), if_neg (own_ci c inj 3 10 (by decide) (by decide) (by decide))]
theorem fTe_4 (c : Nat → Addr) (inj : ∀ i j, i < 14 → j < 14 → c i = c j → i = j) : fTe c 4 = 0 := by unfold fTe; rw [if_neg (own_ci c inj 4 0 (by decide) (by decide) (by decide)), if_neg (own_ci c inj 4 1 (by decide) (by decide) (by decide)), if_neg (own_ci c inj 4 2 (by decide) (by decide) (by decide)), if_neg (own_ci c inj 4 10 (by decide) (by decide) (by decide))]
theorem fTe_5 (c : Nat → Addr) (inj : ∀ i j, i < 14 → j < 14 → c i = c j → i = j) : fTe c 5 = 0 := by unfold fTe; rw [if_neg (own_ci c inj 5 0 (by decide) (by decide) (by decide)), if_neg (own_ci c inj 5 1 (by decide) (by decide) (by decide)), if_neg (own_ci c inj 5 2 (by decide) (by decide) (by decide)), if_neg (own_ci c inj 5 10 (by decide) (by decide) (by decide))]
theorem fTe_6 (c : Nat → Addr) (inj : ∀ i j, i < 14 → j < 14 → c i = c j → i = j) : fTe c 6 = 0 := by unfold fTe; rw [if_neg (own_ci c inj 6 0 (by decide) (by decide) (by decide)), if_neg (own_ci c inj 6 1 (by decide) (by decide) (by decide)), if_neg (own_ci c inj 6 2 (by decide) (by decide) (by decide)), if_neg (own_ci c inj 6 10 (by decide) (by decide) (by decide))]
theorem fTe_7 (c : Nat → Addr) (inj : ∀ i j, i < 14 → j < 14 → c i = c j → i = j) : fTe c 7 = 0 := by unfold fTe; rw [if_neg (own_ci c inj 7 0 (by decide) (by decide) (by decide)), if_neg (own_ci c inj 7 1 (by decide) (by decide) (by decide)), if_neg (own_ci c inj 7 2 (by decide) (by decide) (by decide)), if_neg (own_ci c inj 7 10 (by decide) (by decide) (by decide))]
theorem fTe_8 (c : Nat → Addr) (inj : ∀ i j, i < 14 → j < 14 → c i = c j → i = j) : fTe c 8 = 0 := by unfold fTe; rw [if_neg (own_ci c inj 8 0 (by decide) (by decide) (by decide)), if_neg (own_ci c inj 8 1 (by decide) (by decide) (by decide)), if_neg (own_ci c inj 8 2 (by decide) (by decide) (by decide)), if_neg (own_ci c inj 8 10 (by decide) (by decide) (by decide))]
theorem fTe_9 (c : Nat → Addr) (inj : ∀ i j, i < 14 → j < 14 → c i = c j → i = j) : fTe c 9 = 0 := by unfold fTe; rw [if_neg (own_ci c inj 9 0 (by decide) (by decide) (by decide)), if_neg (own_ci c inj 9 1 (by decide) (by decide) (by decide)), if_neg (own_ci c inj 9 2 (by decide) (by decide) (by decide)), if_neg (own_ci c inj 9 10 (by decide) (by decide) (by decide))]
theorem fTe_10 (c : Nat → Addr) (inj : ∀ i j, i < 14 → j < 14 → c i = c j → i = j) : fTe c 10 = 1 := by unfold fTe; rw [if_neg (own_ci c inj 10 0 (by decide) (by decide) (by decide)), if_neg (own_ci c inj 10 1 (by decide) (by decide) (by decide)), if_neg (own_ci c inj 10 2 (by decide) (by decide) (by decide)), if_pos rfl]
theorem fTe_11 (c : Nat → Addr) (inj : ∀ i j, i < 14 → j < 14 → c i = c j → i = j) : fTe c 11 = 0 := by unfold fTe; rw [if_neg (own_ci c inj 11 0 (by decide) (by decide) (by decide)), if_neg (own_ci c inj 11 1 (by decide) (by decide) (by decide)), if_neg (own_ci c inj 11 2 (by decide) (by decide) (by decide)), if_neg (own_ci c inj 11 10 (by decide) (by decide) (by decide))]
theorem fTe_12 (c : Nat → Addr) (inj : ∀ i j, i < 14 → j < 14 → c i = c j → i = j) : fTe c 12 = 0 := by unfold fTe; rw [if_neg (own_ci c inj 12 0 (by decide) (by decide) (by decide)), if_neg (own_ci c inj 12 1 (by decide) (by decide) (by decide)), if_neg (own_ci c inj 12 2 (by decide) (by decide) (by decide)), if_neg (own_ci c inj 12 10 (by decide) (by decide) (by decide))]
theorem fTe_13 (c : Nat → Addr) (inj : ∀ i j, i < 14 → j < 14 → c i = c j → i = j) : fTe c 13 = 0 := by unfold fTe; rw [if_neg (own_ci c inj 13 0 (by decide) (by decide) (by decide)), if_neg (own_ci c inj 13 1 (by decide) (by decide) (by decide)), if_neg (own_ci c inj 13 2 (by decide) (by decide) (by decide)), if_neg (own_ci c inj 13 10 (by decide) (by decide) (by decide))]
theorem own_14 {k : Int32} (h : ¬ k < 0 ∧ k < 14) : k = 0 ∨ k = 1 ∨ k = 2 ∨ k = 3 ∨ k = 4 ∨ k = 5 ∨ k = 6 ∨ k = 7 ∨ k = 8 ∨ k = 9 ∨ k = 10 ∨ k = 11 ∨ k = 12 ∨ k = 13 := by
  simp only [own_lt, own_eq, Int32.reduceToInt] at h ⊢
  omega
theorem pd0_0 : parseMethodDescriptor "()Z" = some ⟨[], some .boolean⟩ := by decide +kernel
theorem pn0 : plainName "com/example/arbora/arbora/sql/ValueTypeTextMayBeEmptyPinLaw" = true := by first | (simp [plainName, overriddenIn]; done) | decide +kernel
theorem ef0 (m : MethodId) (x0 : Int32) : entryFrame m #[(.int x0)] maxLocals = mkF m 0 #[.val (.int x0), .unset, .unset, .unset] [] := by first | (simp [entryFrame, mkF, argsToLocals, Value.category, maxLocals]; done) | rfl
def Q0 (Z : State) (p0 : Int32) (c : Nat → Addr) (h0 : Heap) (n0 : Nat) (v : Option Value) (h : Heap) (L : List Loc) : Prop := v = some (.int 1) ∧ Fr n0 L
set_option maxRecDepth 65536 in
set_option maxHeartbeats 40000000 in
theorem rm0 (l : Launch) (Z : State) (a0 : Array Value) (hw : ∀ d ∈ tables_1, d.before a0 Z = true) (ws : List Jvm.Cond) (p0 : Int32) (c : Nat → Addr) (h0 : Heap) (n0 : Nat) (O0 : Old Z n0 h0) (HS : OwnSt Z c) :
    MetFree l x (head1 (Jvm.Cond.code x code maxLocals ret :: ws) room_1) (fun A_ U_ => A_ = #[(.int p0)] ∧ Z.Warmed39 U_.vm ∧ U_.heap = h0) (fun _ _ _ _ _ => True) (fun _ U o U' => ∃ v L, o = .returned v ∧ Q0 Z p0 c h0 n0 v U'.heap L ∧ FrameEnd U o U' L room_1.cells room_1.slots) := by
  refine MetFree.of_bodySF (plainFor_of_name pn0) hisR ?_
  intro p e s m args below meth cd s₁ Bd hml0 hP hK
  obtain ⟨rfl, hZ, hh⟩ := hP
  have hx := Bd.exec
  have hby := Bd.bytes
  have hlk : meth.locks = false := BodyLoose.notSynchronized Bd
  have hml : cd.maxLocals = 4 := hml0
  have hown : s.vm.findClass "com/example/arbora/arbora/sql/ValueTypeTextMayBeEmptyPinLaw" = some m.cls := findClass_of_methodNamed Bd.named
  have hnm := (name_of_methodNamed Bd.named Bd.method).1
  have X0 : Stand p l e room_1 s m #[(.int p0)] below meth cd s₁ [] 0 0 := Stand.of_body Bd
  have e0 : s₁.heap = h0 := by rw [← hh, Bd.state]; rfl
  have N0 := Fr.nil n0
  have G : Go p e below s room_1.cells room_1.slots (Q0 Z p0 c h0 n0) (s₁.setTop (mkF m 0 #[.val (.int p0), .unset, .unset, .unset] [])) := by
    show Go p e below s _ _ _ (s₁.setTop (mkF m 0 #[.val (.int p0), .unset, .unset, .unset] []))
    refine Go.st (fun _ kq_ => XS.iloadN X0.here hx rfl (hb hby at_0) rfl kq_) ?_
    show Go p e below s _ _ _ (s₁.setTop (mkF m 1 #[.val (.int p0), .unset, .unset, .unset] [(.int p0)]))
    refine Go.st (fun _ kq_ => X0.ldcI hx hown (mvT hZ (own_w hw 0 rfl)) rfl (hb hby at_1) kq_) ?_
    show Go p e below s _ _ _ (s₁.setTop (mkF m 3 #[.val (.int p0), .unset, .unset, .unset] [(.int (2147483647 : Int32)), (.int p0)]))
    refine Go.st (fun _ kq_ => XS.iand X0.here hx rfl (hb hby at_3) rfl kq_) ?_
    show Go p e below s _ _ _ (s₁.setTop (mkF m 4 #[.val (.int p0), .unset, .unset, .unset] [(.int (p0 &&& (2147483647 : Int32)))]))
    refine Go.st (fun _ kq_ => XS.bipush X0.here hx rfl (hb hby at_4) kq_) ?_
    show Go p e below s _ _ _ (s₁.setTop (mkF m 6 #[.val (.int p0), .unset, .unset, .unset] [(.int (14 : Int32)), (.int (p0 &&& (2147483647 : Int32)))]))
    refine Go.st (fun _ kq_ => iremM X0 hx rfl (hb hby at_6) rfl (by decide) kq_) ?_
    show Go p e below s _ _ _ (s₁.setTop (mkF m 7 #[.val (.int p0), .unset, .unset, .unset] [(.int ((p0 &&& (2147483647 : Int32)) % (14 : Int32)))]))
    obtain ⟨k, hk⟩ : ∃ z, ((p0 &&& (2147483647 : Int32)) % (14 : Int32)) = z := ⟨_, rfl⟩
    have hr : ¬ k < 0 ∧ k < 14 := hk ▸ own_rem p0 14 (by decide)
    rw [hk]
    show Go p e below s _ _ _ (s₁.setTop (mkF m 7 #[.val (.int p0), .unset, .unset, .unset] [(.int k)]))
    refine Go.st (fun _ kq_ => XS.istoreN X0.here hx rfl (hb hby at_7) rfl (l' := #[.val (.int p0), .val (.int k), .unset, .unset]) rfl kq_) ?_
    show Go p e below s _ _ _ (s₁.setTop (mkF m 8 #[.val (.int p0), .val (.int k), .unset, .unset] []))
    refine Go.st (fun _ kq_ => XS.bipush X0.here hx rfl (hb hby at_8) kq_) ?_
    show Go p e below s _ _ _ (s₁.setTop (mkF m 10 #[.val (.int p0), .val (.int k), .unset, .unset] [(.int (14 : Int32))]))
    obtain ⟨T1, h1, k1, X1, e1, E1, A1, Ov1, st1⟩ := newR X0 hx hZ hown (own_w hw 1 rfl) (own_w hw 2 rfl) e0 (g := (mkF m 10 #[.val (.int p0), .val (.int k), .unset, .unset] [(.int (14 : Int32))])) rfl (hb hby at_10) rfl (by decide) (cap := 14) (by decide) (by decide) (by decide) (by decide)
    obtain ⟨b1, g1⟩ : ∃ z, z = h0.size := ⟨_, rfl⟩
    rw [← g1] at A1 st1
    have g_b1 : n0 ≤ b1 := Nat.le_trans (own_old O0) (Nat.le_of_eq g1.symm)
    have O1 := O0.ext E1
    have V_b1 : Arv Z h1 b1 k1 (.object "com/example/arbora/arbora/sql/ValueType") (14 : Int32) [.null, .null, .null, .null, .null, .null, .null, .null, .null, .null, .null, .null, .null, .null] .null := (Arv.new A1 (by decide)).pad (pad_rep [] .null 14)
    refine Go.st st1 ?_
    show Go p e below s _ _ _ (T1.setTop (mkF m 13 #[.val (.int p0), .val (.int k), .unset, .unset] [(.ref b1)]))
    refine Go.st (fun _ kq_ => XS.dup X1.here hx rfl (hb hby at_13) rfl rfl kq_) ?_
    show Go p e below s _ _ _ (T1.setTop (mkF m 14 #[.val (.int p0), .val (.int k), .unset, .unset] [(.ref b1), (.ref b1)]))
    refine Go.st (fun _ kq_ => XS.iconst X1.here hx rfl (hb hby at_14) kq_) ?_
    show Go p e below s _ _ _ (T1.setTop (mkF m 15 #[.val (.int p0), .val (.int k), .unset, .unset] [(.int (0 : Int32)), (.ref b1), (.ref b1)]))
    obtain ⟨T2, X2, e2, st2⟩ := getS X1 hx hZ hown (host := "") (own_w hw 3 rfl) Via.refl e1 (HS.1.ext O1.2) (g := (mkF m 15 #[.val (.int p0), .val (.int k), .unset, .unset] [(.int (0 : Int32)), (.ref b1), (.ref b1)])) rfl (hb hby at_15)
    refine Go.st st2 ?_
    show Go p e below s _ _ _ (T2.setTop (mkF m 18 #[.val (.int p0), .val (.int k), .unset, .unset] [(.ref (c 0)), (.int (0 : Int32)), (.ref b1), (.ref b1)]))
    obtain ⟨T3, h3, X3, e3, W3, V3, st3⟩ := own_stR X2 hx hZ e2 V_b1 rfl Ov1 (Ins.self ((HS.2.2.2.2.2.2.2.2.2.2.2.2.2.2.1 0 (by decide)).ext O1.2)) (j := (0 : Int32)) (by decide) (by decide) 0 rfl (Nat.le_of_ble_eq_true rfl) (g := (mkF m 18 #[.val (.int p0), .val (.int k), .unset, .unset] [(.ref (c 0)), (.int (0 : Int32)), (.ref b1), (.ref b1)])) rfl rfl (hb hby at_18)
    obtain ⟨lc3, X3, N3⟩ := own_gen X3 (Fr.snoc X3 N0 g_b1)
    have O3 := O1.wr W3 g_b1
    have V_b1 : Arv Z h3 b1 k1 (.object "com/example/arbora/arbora/sql/ValueType") (14 : Int32) [(.ref (c 0)), .null, .null, .null, .null, .null, .null, .null, .null, .null, .null, .null, .null, .null] .null := V3
    refine Go.st st3 ?_
    show Go p e below s _ _ _ (T3.setTop (mkF m 19 #[.val (.int p0), .val (.int k), .unset, .unset] [(.ref b1)]))
    refine Go.st (fun _ kq_ => XS.dup X3.here hx rfl (hb hby at_19) rfl rfl kq_) ?_
    show Go p e below s _ _ _ (T3.setTop (mkF m 20 #[.val (.int p0), .val (.int k), .unset, .unset] [(.ref b1), (.ref b1)]))
    refine Go.st (fun _ kq_ => XS.iconst X3.here hx rfl (hb hby at_20) kq_) ?_
    show Go p e below s _ _ _ (T3.setTop (mkF m 21 #[.val (.int p0), .val (.int k), .unset, .unset] [(.int (1 : Int32)), (.ref b1), (.ref b1)]))
    obtain ⟨T4, X4, e4, st4⟩ := getS X3 hx hZ hown (host := "") (own_w hw 7 rfl) Via.refl e3 (HS.2.1.ext O3.2) (g := (mkF m 21 #[.val (.int p0), .val (.int k), .unset, .unset] [(.int (1 : Int32)), (.ref b1), (.ref b1)])) rfl (hb hby at_21)
    refine Go.st st4 ?_
    show Go p e below s _ _ _ (T4.setTop (mkF m 24 #[.val (.int p0), .val (.int k), .unset, .unset] [(.ref (c 1)), (.int (1 : Int32)), (.ref b1), (.ref b1)]))
    obtain ⟨T5, h5, X5, e5, W5, V5, st5⟩ := own_stR X4 hx hZ e4 V_b1 rfl Ov1 (Ins.self ((HS.2.2.2.2.2.2.2.2.2.2.2.2.2.2.1 1 (by decide)).ext O3.2)) (j := (1 : Int32)) (by decide) (by decide) 1 rfl (Nat.le_of_ble_eq_true rfl) (g := (mkF m 24 #[.val (.int p0), .val (.int k), .unset, .unset] [(.ref (c 1)), (.int (1 : Int32)), (.ref b1), (.ref b1)])) rfl rfl (hb hby at_24)
    obtain ⟨lc5, X5, N5⟩ := own_gen X5 (Fr.snoc X5 N3 g_b1)
    have O5 := O3.wr W5 g_b1
    have V_b1 : Arv Z h5 b1 k1 (.object "com/example/arbora/arbora/sql/ValueType") (14 : Int32) [(.ref (c 0)), (.ref (c 1)), .null, .null, .null, .null, .null, .null, .null, .null, .null, .null, .null, .null] .null := V5
    refine Go.st st5 ?_
    show Go p e below s _ _ _ (T5.setTop (mkF m 25 #[.val (.int p0), .val (.int k), .unset, .unset] [(.ref b1)]))
    refine Go.st (fun _ kq_ => XS.dup X5.here hx rfl (hb hby at_25) rfl rfl kq_) ?_
    show Go p e below s _ _ _ (T5.setTop (mkF m 26 #[.val (.int p0), .val (.int k), .unset, .unset] [(.ref b1), (.ref b1)]))
    refine Go.st (fun _ kq_ => XS.iconst X5.here hx rfl (hb hby at_26) kq_) ?_
    show Go p e below s _ _ _ (T5.setTop (mkF m 27 #[.val (.int p0), .val (.int k), .unset, .unset] [(.int (2 : Int32)), (.ref b1), (.ref b1)]))
    obtain ⟨T6, X6, e6, st6⟩ := getS X5 hx hZ hown (host := "") (own_w hw 9 rfl) Via.refl e5 (HS.2.2.1.ext O5.2) (g := (mkF m 27 #[.val (.int p0), .val (.int k), .unset, .unset] [(.int (2 : Int32)), (.ref b1), (.ref b1)])) rfl (hb hby at_27)
    refine Go.st st6 ?_
    show Go p e below s _ _ _ (T6.setTop (mkF m 30 #[.val (.int p0), .val (.int k), .unset, .unset] [(.ref (c 2)), (.int (2 : Int32)), (.ref b1), (.ref b1)]))
    obtain ⟨T7, h7, X7, e7, W7, V7, st7⟩ := own_stR X6 hx hZ e6 V_b1 rfl Ov1 (Ins.self ((HS.2.2.2.2.2.2.2.2.2.2.2.2.2.2.1 2 (by decide)).ext O5.2)) (j := (2 : Int32)) (by decide) (by decide) 2 rfl (Nat.le_of_ble_eq_true rfl) (g := (mkF m 30 #[.val (.int p0), .val (.int k), .unset, .unset] [(.ref (c 2)), (.int (2 : Int32)), (.ref b1), (.ref b1)])) rfl rfl (hb hby at_30)
    obtain ⟨lc7, X7, N7⟩ := own_gen X7 (Fr.snoc X7 N5 g_b1)
    have O7 := O5.wr W7 g_b1
    have V_b1 : Arv Z h7 b1 k1 (.object "com/example/arbora/arbora/sql/ValueType") (14 : Int32) [(.ref (c 0)), (.ref (c 1)), (.ref (c 2)), .null, .null, .null, .null, .null, .null, .null, .null, .null, .null, .null] .null := V7
    refine Go.st st7 ?_
    show Go p e below s _ _ _ (T7.setTop (mkF m 31 #[.val (.int p0), .val (.int k), .unset, .unset] [(.ref b1)]))
    refine Go.st (fun _ kq_ => XS.dup X7.here hx rfl (hb hby at_31) rfl rfl kq_) ?_
    show Go p e below s _ _ _ (T7.setTop (mkF m 32 #[.val (.int p0), .val (.int k), .unset, .unset] [(.ref b1), (.ref b1)]))
    refine Go.st (fun _ kq_ => XS.iconst X7.here hx rfl (hb hby at_32) kq_) ?_
    show Go p e below s _ _ _ (T7.setTop (mkF m 33 #[.val (.int p0), .val (.int k), .unset, .unset] [(.int (3 : Int32)), (.ref b1), (.ref b1)]))
    obtain ⟨T8, X8, e8, st8⟩ := getS X7 hx hZ hown (host := "") (own_w hw 11 rfl) Via.refl e7 (HS.2.2.2.1.ext O7.2) (g := (mkF m 33 #[.val (.int p0), .val (.int k), .unset, .unset] [(.int (3 : Int32)), (.ref b1), (.ref b1)])) rfl (hb hby at_33)
    refine Go.st st8 ?_
    show Go p e below s _ _ _ (T8.setTop (mkF m 36 #[.val (.int p0), .val (.int k), .unset, .unset] [(.ref (c 3)), (.int (3 : Int32)), (.ref b1), (.ref b1)]))
    obtain ⟨T9, h9, X9, e9, W9, V9, st9⟩ := own_stR X8 hx hZ e8 V_b1 rfl Ov1 (Ins.self ((HS.2.2.2.2.2.2.2.2.2.2.2.2.2.2.1 3 (by decide)).ext O7.2)) (j := (3 : Int32)) (by decide) (by decide) 3 rfl (Nat.le_of_ble_eq_true rfl) (g := (mkF m 36 #[.val (.int p0), .val (.int k), .unset, .unset] [(.ref (c 3)), (.int (3 : Int32)), (.ref b1), (.ref b1)])) rfl rfl (hb hby at_36)
    obtain ⟨lc9, X9, N9⟩ := own_gen X9 (Fr.snoc X9 N7 g_b1)
    have O9 := O7.wr W9 g_b1
    have V_b1 : Arv Z h9 b1 k1 (.object "com/example/arbora/arbora/sql/ValueType") (14 : Int32) [(.ref (c 0)), (.ref (c 1)), (.ref (c 2)), (.ref (c 3)), .null, .null, .null, .null, .null, .null, .null, .null, .null, .null] .null := V9
    refine Go.st st9 ?_
    show Go p e below s _ _ _ (T9.setTop (mkF m 37 #[.val (.int p0), .val (.int k), .unset, .unset] [(.ref b1)]))
    refine Go.st (fun _ kq_ => XS.dup X9.here hx rfl (hb hby at_37) rfl rfl kq_) ?_
    show Go p e below s _ _ _ (T9.setTop (mkF m 38 #[.val (.int p0), .val (.int k), .unset, .unset] [(.ref b1), (.ref b1)]))
    refine Go.st (fun _ kq_ => XS.iconst X9.here hx rfl (hb hby at_38) kq_) ?_
    show Go p e below s _ _ _ (T9.setTop (mkF m 39 #[.val (.int p0), .val (.int k), .unset, .unset] [(.int (4 : Int32)), (.ref b1), (.ref b1)]))
    obtain ⟨T10, X10, e10, st10⟩ := getS X9 hx hZ hown (host := "") (own_w hw 13 rfl) Via.refl e9 (HS.2.2.2.2.1.ext O9.2) (g := (mkF m 39 #[.val (.int p0), .val (.int k), .unset, .unset] [(.int (4 : Int32)), (.ref b1), (.ref b1)])) rfl (hb hby at_39)
    refine Go.st st10 ?_
    show Go p e below s _ _ _ (T10.setTop (mkF m 42 #[.val (.int p0), .val (.int k), .unset, .unset] [(.ref (c 4)), (.int (4 : Int32)), (.ref b1), (.ref b1)]))
    obtain ⟨T11, h11, X11, e11, W11, V11, st11⟩ := own_stR X10 hx hZ e10 V_b1 rfl Ov1 (Ins.self ((HS.2.2.2.2.2.2.2.2.2.2.2.2.2.2.1 4 (by decide)).ext O9.2)) (j := (4 : Int32)) (by decide) (by decide) 4 rfl (Nat.le_of_ble_eq_true rfl) (g := (mkF m 42 #[.val (.int p0), .val (.int k), .unset, .unset] [(.ref (c 4)), (.int (4 : Int32)), (.ref b1), (.ref b1)])) rfl rfl (hb hby at_42)
    obtain ⟨lc11, X11, N11⟩ := own_gen X11 (Fr.snoc X11 N9 g_b1)
    have O11 := O9.wr W11 g_b1
    have V_b1 : Arv Z h11 b1 k1 (.object "com/example/arbora/arbora/sql/ValueType") (14 : Int32) [(.ref (c 0)), (.ref (c 1)), (.ref (c 2)), (.ref (c 3)), (.ref (c 4)), .null, .null, .null, .null, .null, .null, .null, .null, .null] .null := V11
    refine Go.st st11 ?_
    show Go p e below s _ _ _ (T11.setTop (mkF m 43 #[.val (.int p0), .val (.int k), .unset, .unset] [(.ref b1)]))
    refine Go.st (fun _ kq_ => XS.dup X11.here hx rfl (hb hby at_43) rfl rfl kq_) ?_
    show Go p e below s _ _ _ (T11.setTop (mkF m 44 #[.val (.int p0), .val (.int k), .unset, .unset] [(.ref b1), (.ref b1)]))
    refine Go.st (fun _ kq_ => XS.iconst X11.here hx rfl (hb hby at_44) kq_) ?_
    show Go p e below s _ _ _ (T11.setTop (mkF m 45 #[.val (.int p0), .val (.int k), .unset, .unset] [(.int (5 : Int32)), (.ref b1), (.ref b1)]))
    obtain ⟨T12, X12, e12, st12⟩ := getS X11 hx hZ hown (host := "") (own_w hw 15 rfl) Via.refl e11 (HS.2.2.2.2.2.1.ext O11.2) (g := (mkF m 45 #[.val (.int p0), .val (.int k), .unset, .unset] [(.int (5 : Int32)), (.ref b1), (.ref b1)])) rfl (hb hby at_45)
    refine Go.st st12 ?_
    show Go p e below s _ _ _ (T12.setTop (mkF m 48 #[.val (.int p0), .val (.int k), .unset, .unset] [(.ref (c 5)), (.int (5 : Int32)), (.ref b1), (.ref b1)]))
    obtain ⟨T13, h13, X13, e13, W13, V13, st13⟩ := own_stR X12 hx hZ e12 V_b1 rfl Ov1 (Ins.self ((HS.2.2.2.2.2.2.2.2.2.2.2.2.2.2.1 5 (by decide)).ext O11.2)) (j := (5 : Int32)) (by decide) (by decide) 5 rfl (Nat.le_of_ble_eq_true rfl) (g := (mkF m 48 #[.val (.int p0), .val (.int k), .unset, .unset] [(.ref (c 5)), (.int (5 : Int32)), (.ref b1), (.ref b1)])) rfl rfl (hb hby at_48)
    obtain ⟨lc13, X13, N13⟩ := own_gen X13 (Fr.snoc X13 N11 g_b1)
    have O13 := O11.wr W13 g_b1
    have V_b1 : Arv Z h13 b1 k1 (.object "com/example/arbora/arbora/sql/ValueType") (14 : Int32) [(.ref (c 0)), (.ref (c 1)), (.ref (c 2)), (.ref (c 3)), (.ref (c 4)), (.ref (c 5)), .null, .null, .null, .null, .null, .null, .null, .null] .null := V13
    refine Go.st st13 ?_
    show Go p e below s _ _ _ (T13.setTop (mkF m 49 #[.val (.int p0), .val (.int k), .unset, .unset] [(.ref b1)]))
    refine Go.st (fun _ kq_ => XS.dup X13.here hx rfl (hb hby at_49) rfl rfl kq_) ?_
    show Go p e below s _ _ _ (T13.setTop (mkF m 50 #[.val (.int p0), .val (.int k), .unset, .unset] [(.ref b1), (.ref b1)]))
    refine Go.st (fun _ kq_ => XS.bipush X13.here hx rfl (hb hby at_50) kq_) ?_
    show Go p e below s _ _ _ (T13.setTop (mkF m 52 #[.val (.int p0), .val (.int k), .unset, .unset] [(.int (6 : Int32)), (.ref b1), (.ref b1)]))
    obtain ⟨T14, X14, e14, st14⟩ := getS X13 hx hZ hown (host := "") (own_w hw 17 rfl) Via.refl e13 (HS.2.2.2.2.2.2.1.ext O13.2) (g := (mkF m 52 #[.val (.int p0), .val (.int k), .unset, .unset] [(.int (6 : Int32)), (.ref b1), (.ref b1)])) rfl (hb hby at_52)
    refine Go.st st14 ?_
    show Go p e below s _ _ _ (T14.setTop (mkF m 55 #[.val (.int p0), .val (.int k), .unset, .unset] [(.ref (c 6)), (.int (6 : Int32)), (.ref b1), (.ref b1)]))
    obtain ⟨T15, h15, X15, e15, W15, V15, st15⟩ := own_stR X14 hx hZ e14 V_b1 rfl Ov1 (Ins.self ((HS.2.2.2.2.2.2.2.2.2.2.2.2.2.2.1 6 (by decide)).ext O13.2)) (j := (6 : Int32)) (by decide) (by decide) 6 rfl (Nat.le_of_ble_eq_true rfl) (g := (mkF m 55 #[.val (.int p0), .val (.int k), .unset, .unset] [(.ref (c 6)), (.int (6 : Int32)), (.ref b1), (.ref b1)])) rfl rfl (hb hby at_55)
    obtain ⟨lc15, X15, N15⟩ := own_gen X15 (Fr.snoc X15 N13 g_b1)
    have O15 := O13.wr W15 g_b1
    have V_b1 : Arv Z h15 b1 k1 (.object "com/example/arbora/arbora/sql/ValueType") (14 : Int32) [(.ref (c 0)), (.ref (c 1)), (.ref (c 2)), (.ref (c 3)), (.ref (c 4)), (.ref (c 5)), (.ref (c 6)), .null, .null, .null, .null, .null, .null, .null] .null := V15
    refine Go.st st15 ?_
    show Go p e below s _ _ _ (T15.setTop (mkF m 56 #[.val (.int p0), .val (.int k), .unset, .unset] [(.ref b1)]))
    refine Go.st (fun _ kq_ => XS.dup X15.here hx rfl (hb hby at_56) rfl rfl kq_) ?_
    show Go p e below s _ _ _ (T15.setTop (mkF m 57 #[.val (.int p0), .val (.int k), .unset, .unset] [(.ref b1), (.ref b1)]))
    refine Go.st (fun _ kq_ => XS.bipush X15.here hx rfl (hb hby at_57) kq_) ?_
    show Go p e below s _ _ _ (T15.setTop (mkF m 59 #[.val (.int p0), .val (.int k), .unset, .unset] [(.int (7 : Int32)), (.ref b1), (.ref b1)]))
    obtain ⟨T16, X16, e16, st16⟩ := getS X15 hx hZ hown (host := "") (own_w hw 19 rfl) Via.refl e15 (HS.2.2.2.2.2.2.2.1.ext O15.2) (g := (mkF m 59 #[.val (.int p0), .val (.int k), .unset, .unset] [(.int (7 : Int32)), (.ref b1), (.ref b1)])) rfl (hb hby at_59)
    refine Go.st st16 ?_
    show Go p e below s _ _ _ (T16.setTop (mkF m 62 #[.val (.int p0), .val (.int k), .unset, .unset] [(.ref (c 7)), (.int (7 : Int32)), (.ref b1), (.ref b1)]))
    obtain ⟨T17, h17, X17, e17, W17, V17, st17⟩ := own_stR X16 hx hZ e16 V_b1 rfl Ov1 (Ins.self ((HS.2.2.2.2.2.2.2.2.2.2.2.2.2.2.1 7 (by decide)).ext O15.2)) (j := (7 : Int32)) (by decide) (by decide) 7 rfl (Nat.le_of_ble_eq_true rfl) (g := (mkF m 62 #[.val (.int p0), .val (.int k), .unset, .unset] [(.ref (c 7)), (.int (7 : Int32)), (.ref b1), (.ref b1)])) rfl rfl (hb hby at_62)
    obtain ⟨lc17, X17, N17⟩ := own_gen X17 (Fr.snoc X17 N15 g_b1)
    have O17 := O15.wr W17 g_b1
    have V_b1 : Arv Z h17 b1 k1 (.object "com/example/arbora/arbora/sql/ValueType") (14 : Int32) [(.ref (c 0)), (.ref (c 1)), (.ref (c 2)), (.ref (c 3)), (.ref (c 4)), (.ref (c 5)), (.ref (c 6)), (.ref (c 7)), .null, .null, .null, .null, .null, .null] .null := V17
    refine Go.st st17 ?_
    show Go p e below s _ _ _ (T17.setTop (mkF m 63 #[.val (.int p0), .val (.int k), .unset, .unset] [(.ref b1)]))
    refine Go.st (fun _ kq_ => XS.dup X17.here hx rfl (hb hby at_63) rfl rfl kq_) ?_
    show Go p e below s _ _ _ (T17.setTop (mkF m 64 #[.val (.int p0), .val (.int k), .unset, .unset] [(.ref b1), (.ref b1)]))
    refine Go.st (fun _ kq_ => XS.bipush X17.here hx rfl (hb hby at_64) kq_) ?_
    show Go p e below s _ _ _ (T17.setTop (mkF m 66 #[.val (.int p0), .val (.int k), .unset, .unset] [(.int (8 : Int32)), (.ref b1), (.ref b1)]))
    obtain ⟨T18, X18, e18, st18⟩ := getS X17 hx hZ hown (host := "") (own_w hw 21 rfl) Via.refl e17 (HS.2.2.2.2.2.2.2.2.1.ext O17.2) (g := (mkF m 66 #[.val (.int p0), .val (.int k), .unset, .unset] [(.int (8 : Int32)), (.ref b1), (.ref b1)])) rfl (hb hby at_66)
    refine Go.st st18 ?_
    show Go p e below s _ _ _ (T18.setTop (mkF m 69 #[.val (.int p0), .val (.int k), .unset, .unset] [(.ref (c 8)), (.int (8 : Int32)), (.ref b1), (.ref b1)]))
    obtain ⟨T19, h19, X19, e19, W19, V19, st19⟩ := own_stR X18 hx hZ e18 V_b1 rfl Ov1 (Ins.self ((HS.2.2.2.2.2.2.2.2.2.2.2.2.2.2.1 8 (by decide)).ext O17.2)) (j := (8 : Int32)) (by decide) (by decide) 8 rfl (Nat.le_of_ble_eq_true rfl) (g := (mkF m 69 #[.val (.int p0), .val (.int k), .unset, .unset] [(.ref (c 8)), (.int (8 : Int32)), (.ref b1), (.ref b1)])) rfl rfl (hb hby at_69)
    obtain ⟨lc19, X19, N19⟩ := own_gen X19 (Fr.snoc X19 N17 g_b1)
    have O19 := O17.wr W19 g_b1
    have V_b1 : Arv Z h19 b1 k1 (.object "com/example/arbora/arbora/sql/ValueType") (14 : Int32) [(.ref (c 0)), (.ref (c 1)), (.ref (c 2)), (.ref (c 3)), (.ref (c 4)), (.ref (c 5)), (.ref (c 6)), (.ref (c 7)), (.ref (c 8)), .null, .null, .null, .null, .null] .null := V19
    refine Go.st st19 ?_
    show Go p e below s _ _ _ (T19.setTop (mkF m 70 #[.val (.int p0), .val (.int k), .unset, .unset] [(.ref b1)]))
    refine Go.st (fun _ kq_ => XS.dup X19.here hx rfl (hb hby at_70) rfl rfl kq_) ?_
    show Go p e below s _ _ _ (T19.setTop (mkF m 71 #[.val (.int p0), .val (.int k), .unset, .unset] [(.ref b1), (.ref b1)]))
    refine Go.st (fun _ kq_ => XS.bipush X19.here hx rfl (hb hby at_71) kq_) ?_
    show Go p e below s _ _ _ (T19.setTop (mkF m 73 #[.val (.int p0), .val (.int k), .unset, .unset] [(.int (9 : Int32)), (.ref b1), (.ref b1)]))
    obtain ⟨T20, X20, e20, st20⟩ := getS X19 hx hZ hown (host := "") (own_w hw 23 rfl) Via.refl e19 (HS.2.2.2.2.2.2.2.2.2.1.ext O19.2) (g := (mkF m 73 #[.val (.int p0), .val (.int k), .unset, .unset] [(.int (9 : Int32)), (.ref b1), (.ref b1)])) rfl (hb hby at_73)
    refine Go.st st20 ?_
    show Go p e below s _ _ _ (T20.setTop (mkF m 76 #[.val (.int p0), .val (.int k), .unset, .unset] [(.ref (c 9)), (.int (9 : Int32)), (.ref b1), (.ref b1)]))
    obtain ⟨T21, h21, X21, e21, W21, V21, st21⟩ := own_stR X20 hx hZ e20 V_b1 rfl Ov1 (Ins.self ((HS.2.2.2.2.2.2.2.2.2.2.2.2.2.2.1 9 (by decide)).ext O19.2)) (j := (9 : Int32)) (by decide) (by decide) 9 rfl (Nat.le_of_ble_eq_true rfl) (g := (mkF m 76 #[.val (.int p0), .val (.int k), .unset, .unset] [(.ref (c 9)), (.int (9 : Int32)), (.ref b1), (.ref b1)])) rfl rfl (hb hby at_76)
    obtain ⟨lc21, X21, N21⟩ := own_gen X21 (Fr.snoc X21 N19 g_b1)
    have O21 := O19.wr W21 g_b1
    have V_b1 : Arv Z h21 b1 k1 (.object "com/example/arbora/arbora/sql/ValueType") (14 : Int32) [(.ref (c 0)), (.ref (c 1)), (.ref (c 2)), (.ref (c 3)), (.ref (c 4)), (.ref (c 5)), (.ref (c 6)), (.ref (c 7)), (.ref (c 8)), (.ref (c 9)), .null, .null, .null, .null] .null := V21
    refine Go.st st21 ?_
    show Go p e below s _ _ _ (T21.setTop (mkF m 77 #[.val (.int p0), .val (.int k), .unset, .unset] [(.ref b1)]))
    refine Go.st (fun _ kq_ => XS.dup X21.here hx rfl (hb hby at_77) rfl rfl kq_) ?_
    show Go p e below s _ _ _ (T21.setTop (mkF m 78 #[.val (.int p0), .val (.int k), .unset, .unset] [(.ref b1), (.ref b1)]))
    refine Go.st (fun _ kq_ => XS.bipush X21.here hx rfl (hb hby at_78) kq_) ?_
    show Go p e below s _ _ _ (T21.setTop (mkF m 80 #[.val (.int p0), .val (.int k), .unset, .unset] [(.int (10 : Int32)), (.ref b1), (.ref b1)]))
    obtain ⟨T22, X22, e22, st22⟩ := getS X21 hx hZ hown (host := "") (own_w hw 25 rfl) Via.refl e21 (HS.2.2.2.2.2.2.2.2.2.2.1.ext O21.2) (g := (mkF m 80 #[.val (.int p0), .val (.int k), .unset, .unset] [(.int (10 : Int32)), (.ref b1), (.ref b1)])) rfl (hb hby at_80)
    refine Go.st st22 ?_
    show Go p e below s _ _ _ (T22.setTop (mkF m 83 #[.val (.int p0), .val (.int k), .unset, .unset] [(.ref (c 10)), (.int (10 : Int32)), (.ref b1), (.ref b1)]))
    obtain ⟨T23, h23, X23, e23, W23, V23, st23⟩ := own_stR X22 hx hZ e22 V_b1 rfl Ov1 (Ins.self ((HS.2.2.2.2.2.2.2.2.2.2.2.2.2.2.1 10 (by decide)).ext O21.2)) (j := (10 : Int32)) (by decide) (by decide) 10 rfl (Nat.le_of_ble_eq_true rfl) (g := (mkF m 83 #[.val (.int p0), .val (.int k), .unset, .unset] [(.ref (c 10)), (.int (10 : Int32)), (.ref b1), (.ref b1)])) rfl rfl (hb hby at_83)
    obtain ⟨lc23, X23, N23⟩ := own_gen X23 (Fr.snoc X23 N21 g_b1)
    have O23 := O21.wr W23 g_b1
    have V_b1 : Arv Z h23 b1 k1 (.object "com/example/arbora/arbora/sql/ValueType") (14 : Int32) [(.ref (c 0)), (.ref (c 1)), (.ref (c 2)), (.ref (c 3)), (.ref (c 4)), (.ref (c 5)), (.ref (c 6)), (.ref (c 7)), (.ref (c 8)), (.ref (c 9)), (.ref (c 10)), .null, .null, .null] .null := V23
    refine Go.st st23 ?_
    show Go p e below s _ _ _ (T23.setTop (mkF m 84 #[.val (.int p0), .val (.int k), .unset, .unset] [(.ref b1)]))
    refine Go.st (fun _ kq_ => XS.dup X23.here hx rfl (hb hby at_84) rfl rfl kq_) ?_
    show Go p e below s _ _ _ (T23.setTop (mkF m 85 #[.val (.int p0), .val (.int k), .unset, .unset] [(.ref b1), (.ref b1)]))
    refine Go.st (fun _ kq_ => XS.bipush X23.here hx rfl (hb hby at_85) kq_) ?_
    show Go p e below s _ _ _ (T23.setTop (mkF m 87 #[.val (.int p0), .val (.int k), .unset, .unset] [(.int (11 : Int32)), (.ref b1), (.ref b1)]))
    obtain ⟨T24, X24, e24, st24⟩ := getS X23 hx hZ hown (host := "") (own_w hw 27 rfl) Via.refl e23 (HS.2.2.2.2.2.2.2.2.2.2.2.1.ext O23.2) (g := (mkF m 87 #[.val (.int p0), .val (.int k), .unset, .unset] [(.int (11 : Int32)), (.ref b1), (.ref b1)])) rfl (hb hby at_87)
    refine Go.st st24 ?_
    show Go p e below s _ _ _ (T24.setTop (mkF m 90 #[.val (.int p0), .val (.int k), .unset, .unset] [(.ref (c 11)), (.int (11 : Int32)), (.ref b1), (.ref b1)]))
    obtain ⟨T25, h25, X25, e25, W25, V25, st25⟩ := own_stR X24 hx hZ e24 V_b1 rfl Ov1 (Ins.self ((HS.2.2.2.2.2.2.2.2.2.2.2.2.2.2.1 11 (by decide)).ext O23.2)) (j := (11 : Int32)) (by decide) (by decide) 11 rfl (Nat.le_of_ble_eq_true rfl) (g := (mkF m 90 #[.val (.int p0), .val (.int k), .unset, .unset] [(.ref (c 11)), (.int (11 : Int32)), (.ref b1), (.ref b1)])) rfl rfl (hb hby at_90)
    obtain ⟨lc25, X25, N25⟩ := own_gen X25 (Fr.snoc X25 N23 g_b1)
    have O25 := O23.wr W25 g_b1
    have V_b1 : Arv Z h25 b1 k1 (.object "com/example/arbora/arbora/sql/ValueType") (14 : Int32) [(.ref (c 0)), (.ref (c 1)), (.ref (c 2)), (.ref (c 3)), (.ref (c 4)), (.ref (c 5)), (.ref (c 6)), (.ref (c 7)), (.ref (c 8)), (.ref (c 9)), (.ref (c 10)), (.ref (c 11)), .null, .null] .null := V25
    refine Go.st st25 ?_
    show Go p e below s _ _ _ (T25.setTop (mkF m 91 #[.val (.int p0), .val (.int k), .unset, .unset] [(.ref b1)]))
    refine Go.st (fun _ kq_ => XS.dup X25.here hx rfl (hb hby at_91) rfl rfl kq_) ?_
    show Go p e below s _ _ _ (T25.setTop (mkF m 92 #[.val (.int p0), .val (.int k), .unset, .unset] [(.ref b1), (.ref b1)]))
    refine Go.st (fun _ kq_ => XS.bipush X25.here hx rfl (hb hby at_92) kq_) ?_
    show Go p e below s _ _ _ (T25.setTop (mkF m 94 #[.val (.int p0), .val (.int k), .unset, .unset] [(.int (12 : Int32)), (.ref b1), (.ref b1)]))
    obtain ⟨T26, X26, e26, st26⟩ := getS X25 hx hZ hown (host := "") (own_w hw 29 rfl) Via.refl e25 (HS.2.2.2.2.2.2.2.2.2.2.2.2.1.ext O25.2) (g := (mkF m 94 #[.val (.int p0), .val (.int k), .unset, .unset] [(.int (12 : Int32)), (.ref b1), (.ref b1)])) rfl (hb hby at_94)
    refine Go.st st26 ?_
    show Go p e below s _ _ _ (T26.setTop (mkF m 97 #[.val (.int p0), .val (.int k), .unset, .unset] [(.ref (c 12)), (.int (12 : Int32)), (.ref b1), (.ref b1)]))
    obtain ⟨T27, h27, X27, e27, W27, V27, st27⟩ := own_stR X26 hx hZ e26 V_b1 rfl Ov1 (Ins.self ((HS.2.2.2.2.2.2.2.2.2.2.2.2.2.2.1 12 (by decide)).ext O25.2)) (j := (12 : Int32)) (by decide) (by decide) 12 rfl (Nat.le_of_ble_eq_true rfl) (g := (mkF m 97 #[.val (.int p0), .val (.int k), .unset, .unset] [(.ref (c 12)), (.int (12 : Int32)), (.ref b1), (.ref b1)])) rfl rfl (hb hby at_97)
    obtain ⟨lc27, X27, N27⟩ := own_gen X27 (Fr.snoc X27 N25 g_b1)
    have O27 := O25.wr W27 g_b1
    have V_b1 : Arv Z h27 b1 k1 (.object "com/example/arbora/arbora/sql/ValueType") (14 : Int32) [(.ref (c 0)), (.ref (c 1)), (.ref (c 2)), (.ref (c 3)), (.ref (c 4)), (.ref (c 5)), (.ref (c 6)), (.ref (c 7)), (.ref (c 8)), (.ref (c 9)), (.ref (c 10)), (.ref (c 11)), (.ref (c 12)), .null] .null := V27
    refine Go.st st27 ?_
    show Go p e below s _ _ _ (T27.setTop (mkF m 98 #[.val (.int p0), .val (.int k), .unset, .unset] [(.ref b1)]))
    refine Go.st (fun _ kq_ => XS.dup X27.here hx rfl (hb hby at_98) rfl rfl kq_) ?_
    show Go p e below s _ _ _ (T27.setTop (mkF m 99 #[.val (.int p0), .val (.int k), .unset, .unset] [(.ref b1), (.ref b1)]))
    refine Go.st (fun _ kq_ => XS.bipush X27.here hx rfl (hb hby at_99) kq_) ?_
    show Go p e below s _ _ _ (T27.setTop (mkF m 101 #[.val (.int p0), .val (.int k), .unset, .unset] [(.int (13 : Int32)), (.ref b1), (.ref b1)]))
    obtain ⟨T28, X28, e28, st28⟩ := getS X27 hx hZ hown (host := "") (own_w hw 31 rfl) Via.refl e27 (HS.2.2.2.2.2.2.2.2.2.2.2.2.2.1.ext O27.2) (g := (mkF m 101 #[.val (.int p0), .val (.int k), .unset, .unset] [(.int (13 : Int32)), (.ref b1), (.ref b1)])) rfl (hb hby at_101)
    refine Go.st st28 ?_
    show Go p e below s _ _ _ (T28.setTop (mkF m 104 #[.val (.int p0), .val (.int k), .unset, .unset] [(.ref (c 13)), (.int (13 : Int32)), (.ref b1), (.ref b1)]))
    obtain ⟨T29, h29, X29, e29, W29, V29, st29⟩ := own_stR X28 hx hZ e28 V_b1 rfl Ov1 (Ins.self ((HS.2.2.2.2.2.2.2.2.2.2.2.2.2.2.1 13 (by decide)).ext O27.2)) (j := (13 : Int32)) (by decide) (by decide) 13 rfl (Nat.le_of_ble_eq_true rfl) (g := (mkF m 104 #[.val (.int p0), .val (.int k), .unset, .unset] [(.ref (c 13)), (.int (13 : Int32)), (.ref b1), (.ref b1)])) rfl rfl (hb hby at_104)
    obtain ⟨lc29, X29, N29⟩ := own_gen X29 (Fr.snoc X29 N27 g_b1)
    have O29 := O27.wr W29 g_b1
    have V_b1 : Arv Z h29 b1 k1 (.object "com/example/arbora/arbora/sql/ValueType") (14 : Int32) [(.ref (c 0)), (.ref (c 1)), (.ref (c 2)), (.ref (c 3)), (.ref (c 4)), (.ref (c 5)), (.ref (c 6)), (.ref (c 7)), (.ref (c 8)), (.ref (c 9)), (.ref (c 10)), (.ref (c 11)), (.ref (c 12)), (.ref (c 13))] .null := V29
    refine Go.st st29 ?_
    show Go p e below s _ _ _ (T29.setTop (mkF m 105 #[.val (.int p0), .val (.int k), .unset, .unset] [(.ref b1)]))
    refine Go.st (fun _ kq_ => XS.astoreN X29.here hx rfl (hb hby at_105) rfl rfl (l' := #[.val (.int p0), .val (.int k), .val (.ref b1), .unset]) rfl kq_) ?_
    show Go p e below s _ _ _ (T29.setTop (mkF m 106 #[.val (.int p0), .val (.int k), .val (.ref b1), .unset] []))
    refine Go.st (fun _ kq_ => XS.bipush X29.here hx rfl (hb hby at_106) kq_) ?_
    show Go p e below s _ _ _ (T29.setTop (mkF m 108 #[.val (.int p0), .val (.int k), .val (.ref b1), .unset] [(.int (14 : Int32))]))
    obtain ⟨T30, h30, k30, X30, e30, E30, A30, st30⟩ := newP X29 hx hZ (own_w hw 33 rfl) e29 (g := (mkF m 108 #[.val (.int p0), .val (.int k), .val (.ref b1), .unset] [(.int (14 : Int32))])) rfl (hb hby at_108) rfl (by decide) (cap := 14) (by decide) (by decide) (by decide) (by decide)
    obtain ⟨b30, g30⟩ : ∃ z, z = h29.size := ⟨_, rfl⟩
    rw [← g30] at A30 st30
    have g_b30 : n0 ≤ b30 := Nat.le_trans (own_old O29) (Nat.le_of_eq g30.symm)
    have ne_b1_b30 : b1 ≠ b30 := by rw [g30]; exact Nat.ne_of_lt V_b1.lt
    have V_b1 := V_b1.ext E30
    have O30 := O29.ext E30
    have V_b30 : Arv Z h30 b30 k30 .boolean (14 : Int32) [(.int (0 : Int32)), (.int (0 : Int32)), (.int (0 : Int32)), (.int (0 : Int32)), (.int (0 : Int32)), (.int (0 : Int32)), (.int (0 : Int32)), (.int (0 : Int32)), (.int (0 : Int32)), (.int (0 : Int32)), (.int (0 : Int32)), (.int (0 : Int32)), (.int (0 : Int32)), (.int (0 : Int32))] (.int (0 : Int32)) := (Arv.new A30 (by decide)).pad (pad_rep [] (.int (0 : Int32)) 14)
    refine Go.st st30 ?_
    show Go p e below s _ _ _ (T30.setTop (mkF m 110 #[.val (.int p0), .val (.int k), .val (.ref b1), .unset] [(.ref b30)]))
    refine Go.st (fun _ kq_ => XS.dup X30.here hx rfl (hb hby at_110) rfl rfl kq_) ?_
    show Go p e below s _ _ _ (T30.setTop (mkF m 111 #[.val (.int p0), .val (.int k), .val (.ref b1), .unset] [(.ref b30), (.ref b30)]))
    refine Go.st (fun _ kq_ => XS.iconst X30.here hx rfl (hb hby at_111) kq_) ?_
    show Go p e below s _ _ _ (T30.setTop (mkF m 112 #[.val (.int p0), .val (.int k), .val (.ref b1), .unset] [(.int (0 : Int32)), (.ref b30), (.ref b30)]))
    refine Go.st (fun _ kq_ => XS.iconst X30.here hx rfl (hb hby at_112) kq_) ?_
    show Go p e below s _ _ _ (T30.setTop (mkF m 113 #[.val (.int p0), .val (.int k), .val (.ref b1), .unset] [(.int (1 : Int32)), (.int (0 : Int32)), (.ref b30), (.ref b30)]))
    obtain ⟨T31, h31, X31, e31, W31, V31, st31⟩ := own_stZ X30 hx hZ e30 V_b30 (j := (0 : Int32)) (by decide) (by decide) 0 rfl (Nat.le_of_ble_eq_true rfl) (g := (mkF m 113 #[.val (.int p0), .val (.int k), .val (.ref b1), .unset] [(.int (1 : Int32)), (.int (0 : Int32)), (.ref b30), (.ref b30)])) rfl rfl (hb hby at_113)
    obtain ⟨lc31, X31, N31⟩ := own_gen X31 (Fr.snoc X31 N29 g_b30)
    have O31 := O30.wr W31 g_b30
    have V_b1 := V_b1.other W31 ne_b1_b30
    have V_b30 : Arv Z h31 b30 k30 .boolean (14 : Int32) [(.int (1 : Int32)), (.int (0 : Int32)), (.int (0 : Int32)), (.int (0 : Int32)), (.int (0 : Int32)), (.int (0 : Int32)), (.int (0 : Int32)), (.int (0 : Int32)), (.int (0 : Int32)), (.int (0 : Int32)), (.int (0 : Int32)), (.int (0 : Int32)), (.int (0 : Int32)), (.int (0 : Int32))] (.int (0 : Int32)) := V31
    refine Go.st st31 ?_
    show Go p e below s _ _ _ (T31.setTop (mkF m 114 #[.val (.int p0), .val (.int k), .val (.ref b1), .unset] [(.ref b30)]))
    refine Go.st (fun _ kq_ => XS.dup X31.here hx rfl (hb hby at_114) rfl rfl kq_) ?_
    show Go p e below s _ _ _ (T31.setTop (mkF m 115 #[.val (.int p0), .val (.int k), .val (.ref b1), .unset] [(.ref b30), (.ref b30)]))
    refine Go.st (fun _ kq_ => XS.iconst X31.here hx rfl (hb hby at_115) kq_) ?_
    show Go p e below s _ _ _ (T31.setTop (mkF m 116 #[.val (.int p0), .val (.int k), .val (.ref b1), .unset] [(.int (1 : Int32)), (.ref b30), (.ref b30)]))
    refine Go.st (fun _ kq_ => XS.iconst X31.here hx rfl (hb hby at_116) kq_) ?_
    show Go p e below s _ _ _ (T31.setTop (mkF m 117 #[.val (.int p0), .val (.int k), .val (.ref b1), .unset] [(.int (1 : Int32)), (.int (1 : Int32)), (.ref b30), (.ref b30)]))
    obtain ⟨T32, h32, X32, e32, W32, V32, st32⟩ := own_stZ X31 hx hZ e31 V_b30 (j := (1 : Int32)) (by decide) (by decide) 1 rfl (Nat.le_of_ble_eq_true rfl) (g := (mkF m 117 #[.val (.int p0), .val (.int k), .val (.ref b1), .unset] [(.int (1 : Int32)), (.int (1 : Int32)), (.ref b30), (.ref b30)])) rfl rfl (hb hby at_117)
    obtain ⟨lc32, X32, N32⟩ := own_gen X32 (Fr.snoc X32 N31 g_b30)
    have O32 := O31.wr W32 g_b30
    have V_b1 := V_b1.other W32 ne_b1_b30
    have V_b30 : Arv Z h32 b30 k30 .boolean (14 : Int32) [(.int (1 : Int32)), (.int (1 : Int32)), (.int (0 : Int32)), (.int (0 : Int32)), (.int (0 : Int32)), (.int (0 : Int32)), (.int (0 : Int32)), (.int (0 : Int32)), (.int (0 : Int32)), (.int (0 : Int32)), (.int (0 : Int32)), (.int (0 : Int32)), (.int (0 : Int32)), (.int (0 : Int32))] (.int (0 : Int32)) := V32
    refine Go.st st32 ?_
    show Go p e below s _ _ _ (T32.setTop (mkF m 118 #[.val (.int p0), .val (.int k), .val (.ref b1), .unset] [(.ref b30)]))
    refine Go.st (fun _ kq_ => XS.dup X32.here hx rfl (hb hby at_118) rfl rfl kq_) ?_
    show Go p e below s _ _ _ (T32.setTop (mkF m 119 #[.val (.int p0), .val (.int k), .val (.ref b1), .unset] [(.ref b30), (.ref b30)]))
    refine Go.st (fun _ kq_ => XS.iconst X32.here hx rfl (hb hby at_119) kq_) ?_
    show Go p e below s _ _ _ (T32.setTop (mkF m 120 #[.val (.int p0), .val (.int k), .val (.ref b1), .unset] [(.int (2 : Int32)), (.ref b30), (.ref b30)]))
    refine Go.st (fun _ kq_ => XS.iconst X32.here hx rfl (hb hby at_120) kq_) ?_
    show Go p e below s _ _ _ (T32.setTop (mkF m 121 #[.val (.int p0), .val (.int k), .val (.ref b1), .unset] [(.int (1 : Int32)), (.int (2 : Int32)), (.ref b30), (.ref b30)]))
    obtain ⟨T33, h33, X33, e33, W33, V33, st33⟩ := own_stZ X32 hx hZ e32 V_b30 (j := (2 : Int32)) (by decide) (by decide) 2 rfl (Nat.le_of_ble_eq_true rfl) (g := (mkF m 121 #[.val (.int p0), .val (.int k), .val (.ref b1), .unset] [(.int (1 : Int32)), (.int (2 : Int32)), (.ref b30), (.ref b30)])) rfl rfl (hb hby at_121)
    obtain ⟨lc33, X33, N33⟩ := own_gen X33 (Fr.snoc X33 N32 g_b30)
    have O33 := O32.wr W33 g_b30
    have V_b1 := V_b1.other W33 ne_b1_b30
    have V_b30 : Arv Z h33 b30 k30 .boolean (14 : Int32) [(.int (1 : Int32)), (.int (1 : Int32)), (.int (1 : Int32)), (.int (0 : Int32)), (.int (0 : Int32)), (.int (0 : Int32)), (.int (0 : Int32)), (.int (0 : Int32)), (.int (0 : Int32)), (.int (0 : Int32)), (.int (0 : Int32)), (.int (0 : Int32)), (.int (0 : Int32)), (.int (0 : Int32))] (.int (0 : Int32)) := V33
    refine Go.st st33 ?_
    show Go p e below s _ _ _ (T33.setTop (mkF m 122 #[.val (.int p0), .val (.int k), .val (.ref b1), .unset] [(.ref b30)]))
    refine Go.st (fun _ kq_ => XS.dup X33.here hx rfl (hb hby at_122) rfl rfl kq_) ?_
    show Go p e below s _ _ _ (T33.setTop (mkF m 123 #[.val (.int p0), .val (.int k), .val (.ref b1), .unset] [(.ref b30), (.ref b30)]))
    refine Go.st (fun _ kq_ => XS.iconst X33.here hx rfl (hb hby at_123) kq_) ?_
    show Go p e below s _ _ _ (T33.setTop (mkF m 124 #[.val (.int p0), .val (.int k), .val (.ref b1), .unset] [(.int (3 : Int32)), (.ref b30), (.ref b30)]))
    refine Go.st (fun _ kq_ => XS.iconst X33.here hx rfl (hb hby at_124) kq_) ?_
    show Go p e below s _ _ _ (T33.setTop (mkF m 125 #[.val (.int p0), .val (.int k), .val (.ref b1), .unset] [(.int (0 : Int32)), (.int (3 : Int32)), (.ref b30), (.ref b30)]))
    obtain ⟨T34, h34, X34, e34, W34, V34, st34⟩ := own_stZ X33 hx hZ e33 V_b30 (j := (3 : Int32)) (by decide) (by decide) 3 rfl (Nat.le_of_ble_eq_true rfl) (g := (mkF m 125 #[.val (.int p0), .val (.int k), .val (.ref b1), .unset] [(.int (0 : Int32)), (.int (3 : Int32)), (.ref b30), (.ref b30)])) rfl rfl (hb hby at_125)
    obtain ⟨lc34, X34, N34⟩ := own_gen X34 (Fr.snoc X34 N33 g_b30)
    have O34 := O33.wr W34 g_b30
    have V_b1 := V_b1.other W34 ne_b1_b30
    have V_b30 : Arv Z h34 b30 k30 .boolean (14 : Int32) [(.int (1 : Int32)), (.int (1 : Int32)), (.int (1 : Int32)), (.int (0 : Int32)), (.int (0 : Int32)), (.int (0 : Int32)), (.int (0 : Int32)), (.int (0 : Int32)), (.int (0 : Int32)), (.int (0 : Int32)), (.int (0 : Int32)), (.int (0 : Int32)), (.int (0 : Int32)), (.int (0 : Int32))] (.int (0 : Int32)) := V34
    refine Go.st st34 ?_
    show Go p e below s _ _ _ (T34.setTop (mkF m 126 #[.val (.int p0), .val (.int k), .val (.ref b1), .unset] [(.ref b30)]))
    refine Go.st (fun _ kq_ => XS.dup X34.here hx rfl (hb hby at_126) rfl rfl kq_) ?_
    show Go p e below s _ _ _ (T34.setTop (mkF m 127 #[.val (.int p0), .val (.int k), .val (.ref b1), .unset] [(.ref b30), (.ref b30)]))
    refine Go.st (fun _ kq_ => XS.iconst X34.here hx rfl (hb hby at_127) kq_) ?_
    show Go p e below s _ _ _ (T34.setTop (mkF m 128 #[.val (.int p0), .val (.int k), .val (.ref b1), .unset] [(.int (4 : Int32)), (.ref b30), (.ref b30)]))
    refine Go.st (fun _ kq_ => XS.iconst X34.here hx rfl (hb hby at_128) kq_) ?_
    show Go p e below s _ _ _ (T34.setTop (mkF m 129 #[.val (.int p0), .val (.int k), .val (.ref b1), .unset] [(.int (0 : Int32)), (.int (4 : Int32)), (.ref b30), (.ref b30)]))
    obtain ⟨T35, h35, X35, e35, W35, V35, st35⟩ := own_stZ X34 hx hZ e34 V_b30 (j := (4 : Int32)) (by decide) (by decide) 4 rfl (Nat.le_of_ble_eq_true rfl) (g := (mkF m 129 #[.val (.int p0), .val (.int k), .val (.ref b1), .unset] [(.int (0 : Int32)), (.int (4 : Int32)), (.ref b30), (.ref b30)])) rfl rfl (hb hby at_129)
    obtain ⟨lc35, X35, N35⟩ := own_gen X35 (Fr.snoc X35 N34 g_b30)
    have O35 := O34.wr W35 g_b30
    have V_b1 := V_b1.other W35 ne_b1_b30
    have V_b30 : Arv Z h35 b30 k30 .boolean (14 : Int32) [(.int (1 : Int32)), (.int (1 : Int32)), (.int (1 : Int32)), (.int (0 : Int32)), (.int (0 : Int32)), (.int (0 : Int32)), (.int (0 : Int32)), (.int (0 : Int32)), (.int (0 : Int32)), (.int (0 : Int32)), (.int (0 : Int32)), (.int (0 : Int32)), (.int (0 : Int32)), (.int (0 : Int32))] (.int (0 : Int32)) := V35
    refine Go.st st35 ?_
    show Go p e below s _ _ _ (T35.setTop (mkF m 130 #[.val (.int p0), .val (.int k), .val (.ref b1), .unset] [(.ref b30)]))
    refine Go.st (fun _ kq_ => XS.dup X35.here hx rfl (hb hby at_130) rfl rfl kq_) ?_
    show Go p e below s _ _ _ (T35.setTop (mkF m 131 #[.val (.int p0), .val (.int k), .val (.ref b1), .unset] [(.ref b30), (.ref b30)]))
    refine Go.st (fun _ kq_ => XS.iconst X35.here hx rfl (hb hby at_131) kq_) ?_
    show Go p e below s _ _ _ (T35.setTop (mkF m 132 #[.val (.int p0), .val (.int k), .val (.ref b1), .unset] [(.int (5 : Int32)), (.ref b30), (.ref b30)]))
    refine Go.st (fun _ kq_ => XS.iconst X35.here hx rfl (hb hby at_132) kq_) ?_
    show Go p e below s _ _ _ (T35.setTop (mkF m 133 #[.val (.int p0), .val (.int k), .val (.ref b1), .unset] [(.int (0 : Int32)), (.int (5 : Int32)), (.ref b30), (.ref b30)]))
    obtain ⟨T36, h36, X36, e36, W36, V36, st36⟩ := own_stZ X35 hx hZ e35 V_b30 (j := (5 : Int32)) (by decide) (by decide) 5 rfl (Nat.le_of_ble_eq_true rfl) (g := (mkF m 133 #[.val (.int p0), .val (.int k), .val (.ref b1), .unset] [(.int (0 : Int32)), (.int (5 : Int32)), (.ref b30), (.ref b30)])) rfl rfl (hb hby at_133)
    obtain ⟨lc36, X36, N36⟩ := own_gen X36 (Fr.snoc X36 N35 g_b30)
    have O36 := O35.wr W36 g_b30
    have V_b1 := V_b1.other W36 ne_b1_b30
    have V_b30 : Arv Z h36 b30 k30 .boolean (14 : Int32) [(.int (1 : Int32)), (.int (1 : Int32)), (.int (1 : Int32)), (.int (0 : Int32)), (.int (0 : Int32)), (.int (0 : Int32)), (.int (0 : Int32)), (.int (0 : Int32)), (.int (0 : Int32)), (.int (0 : Int32)), (.int (0 : Int32)), (.int (0 : Int32)), (.int (0 : Int32)), (.int (0 : Int32))] (.int (0 : Int32)) := V36
    refine Go.st st36 ?_
    show Go p e below s _ _ _ (T36.setTop (mkF m 134 #[.val (.int p0), .val (.int k), .val (.ref b1), .unset] [(.ref b30)]))
    refine Go.st (fun _ kq_ => XS.dup X36.here hx rfl (hb hby at_134) rfl rfl kq_) ?_
    show Go p e below s _ _ _ (T36.setTop (mkF m 135 #[.val (.int p0), .val (.int k), .val (.ref b1), .unset] [(.ref b30), (.ref b30)]))
    refine Go.st (fun _ kq_ => XS.bipush X36.here hx rfl (hb hby at_135) kq_) ?_
    show Go p e below s _ _ _ (T36.setTop (mkF m 137 #[.val (.int p0), .val (.int k), .val (.ref b1), .unset] [(.int (6 : Int32)), (.ref b30), (.ref b30)]))
    refine Go.st (fun _ kq_ => XS.iconst X36.here hx rfl (hb hby at_137) kq_) ?_
    show Go p e below s _ _ _ (T36.setTop (mkF m 138 #[.val (.int p0), .val (.int k), .val (.ref b1), .unset] [(.int (0 : Int32)), (.int (6 : Int32)), (.ref b30), (.ref b30)]))
    obtain ⟨T37, h37, X37, e37, W37, V37, st37⟩ := own_stZ X36 hx hZ e36 V_b30 (j := (6 : Int32)) (by decide) (by decide) 6 rfl (Nat.le_of_ble_eq_true rfl) (g := (mkF m 138 #[.val (.int p0), .val (.int k), .val (.ref b1), .unset] [(.int (0 : Int32)), (.int (6 : Int32)), (.ref b30), (.ref b30)])) rfl rfl (hb hby at_138)
    obtain ⟨lc37, X37, N37⟩ := own_gen X37 (Fr.snoc X37 N36 g_b30)
    have O37 := O36.wr W37 g_b30
    have V_b1 := V_b1.other W37 ne_b1_b30
    have V_b30 : Arv Z h37 b30 k30 .boolean (14 : Int32) [(.int (1 : Int32)), (.int (1 : Int32)), (.int (1 : Int32)), (.int (0 : Int32)), (.int (0 : Int32)), (.int (0 : Int32)), (.int (0 : Int32)), (.int (0 : Int32)), (.int (0 : Int32)), (.int (0 : Int32)), (.int (0 : Int32)), (.int (0 : Int32)), (.int (0 : Int32)), (.int (0 : Int32))] (.int (0 : Int32)) := V37
    refine Go.st st37 ?_
    show Go p e below s _ _ _ (T37.setTop (mkF m 139 #[.val (.int p0), .val (.int k), .val (.ref b1), .unset] [(.ref b30)]))
    refine Go.st (fun _ kq_ => XS.dup X37.here hx rfl (hb hby at_139) rfl rfl kq_) ?_
    show Go p e below s _ _ _ (T37.setTop (mkF m 140 #[.val (.int p0), .val (.int k), .val (.ref b1), .unset] [(.ref b30), (.ref b30)]))
    refine Go.st (fun _ kq_ => XS.bipush X37.here hx rfl (hb hby at_140) kq_) ?_
    show Go p e below s _ _ _ (T37.setTop (mkF m 142 #[.val (.int p0), .val (.int k), .val (.ref b1), .unset] [(.int (7 : Int32)), (.ref b30), (.ref b30)]))
    refine Go.st (fun _ kq_ => XS.iconst X37.here hx rfl (hb hby at_142) kq_) ?_
    show Go p e below s _ _ _ (T37.setTop (mkF m 143 #[.val (.int p0), .val (.int k), .val (.ref b1), .unset] [(.int (0 : Int32)), (.int (7 : Int32)), (.ref b30), (.ref b30)]))
    obtain ⟨T38, h38, X38, e38, W38, V38, st38⟩ := own_stZ X37 hx hZ e37 V_b30 (j := (7 : Int32)) (by decide) (by decide) 7 rfl (Nat.le_of_ble_eq_true rfl) (g := (mkF m 143 #[.val (.int p0), .val (.int k), .val (.ref b1), .unset] [(.int (0 : Int32)), (.int (7 : Int32)), (.ref b30), (.ref b30)])) rfl rfl (hb hby at_143)
    obtain ⟨lc38, X38, N38⟩ := own_gen X38 (Fr.snoc X38 N37 g_b30)
    have O38 := O37.wr W38 g_b30
    have V_b1 := V_b1.other W38 ne_b1_b30
    have V_b30 : Arv Z h38 b30 k30 .boolean (14 : Int32) [(.int (1 : Int32)), (.int (1 : Int32)), (.int (1 : Int32)), (.int (0 : Int32)), (.int (0 : Int32)), (.int (0 : Int32)), (.int (0 : Int32)), (.int (0 : Int32)), (.int (0 : Int32)), (.int (0 : Int32)), (.int (0 : Int32)), (.int (0 : Int32)), (.int (0 : Int32)), (.int (0 : Int32))] (.int (0 : Int32)) := V38
    refine Go.st st38 ?_
    show Go p e below s _ _ _ (T38.setTop (mkF m 144 #[.val (.int p0), .val (.int k), .val (.ref b1), .unset] [(.ref b30)]))
    refine Go.st (fun _ kq_ => XS.dup X38.here hx rfl (hb hby at_144) rfl rfl kq_) ?_
    show Go p e below s _ _ _ (T38.setTop (mkF m 145 #[.val (.int p0), .val (.int k), .val (.ref b1), .unset] [(.ref b30), (.ref b30)]))
    refine Go.st (fun _ kq_ => XS.bipush X38.here hx rfl (hb hby at_145) kq_) ?_
    show Go p e below s _ _ _ (T38.setTop (mkF m 147 #[.val (.int p0), .val (.int k), .val (.ref b1), .unset] [(.int (8 : Int32)), (.ref b30), (.ref b30)]))
    refine Go.st (fun _ kq_ => XS.iconst X38.here hx rfl (hb hby at_147) kq_) ?_
    show Go p e below s _ _ _ (T38.setTop (mkF m 148 #[.val (.int p0), .val (.int k), .val (.ref b1), .unset] [(.int (0 : Int32)), (.int (8 : Int32)), (.ref b30), (.ref b30)]))
    obtain ⟨T39, h39, X39, e39, W39, V39, st39⟩ := own_stZ X38 hx hZ e38 V_b30 (j := (8 : Int32)) (by decide) (by decide) 8 rfl (Nat.le_of_ble_eq_true rfl) (g := (mkF m 148 #[.val (.int p0), .val (.int k), .val (.ref b1), .unset] [(.int (0 : Int32)), (.int (8 : Int32)), (.ref b30), (.ref b30)])) rfl rfl (hb hby at_148)
    obtain ⟨lc39, X39, N39⟩ := own_gen X39 (Fr.snoc X39 N38 g_b30)
    have O39 := O38.wr W39 g_b30
    have V_b1 := V_b1.other W39 ne_b1_b30
    have V_b30 : Arv Z h39 b30 k30 .boolean (14 : Int32) [(.int (1 : Int32)), (.int (1 : Int32)), (.int (1 : Int32)), (.int (0 : Int32)), (.int (0 : Int32)), (.int (0 : Int32)), (.int (0 : Int32)), (.int (0 : Int32)), (.int (0 : Int32)), (.int (0 : Int32)), (.int (0 : Int32)), (.int (0 : Int32)), (.int (0 : Int32)), (.int (0 : Int32))] (.int (0 : Int32)) := V39
    refine Go.st st39 ?_
    show Go p e below s _ _ _ (T39.setTop (mkF m 149 #[.val (.int p0), .val (.int k), .val (.ref b1), .unset] [(.ref b30)]))
    refine Go.st (fun _ kq_ => XS.dup X39.here hx rfl (hb hby at_149) rfl rfl kq_) ?_
    show Go p e below s _ _ _ (T39.setTop (mkF m 150 #[.val (.int p0), .val (.int k), .val (.ref b1), .unset] [(.ref b30), (.ref b30)]))
    refine Go.st (fun _ kq_ => XS.bipush X39.here hx rfl (hb hby at_150) kq_) ?_
    show Go p e below s _ _ _ (T39.setTop (mkF m 152 #[.val (.int p0), .val (.int k), .val (.ref b1), .unset] [(.int (9 : Int32)), (.ref b30), (.ref b30)]))
    refine Go.st (fun _ kq_ => XS.iconst X39.here hx rfl (hb hby at_152) kq_) ?_
    show Go p e below s _ _ _ (T39.setTop (mkF m 153 #[.val (.int p0), .val (.int k), .val (.ref b1), .unset] [(.int (0 : Int32)), (.int (9 : Int32)), (.ref b30), (.ref b30)]))
    obtain ⟨T40, h40, X40, e40, W40, V40, st40⟩ := own_stZ X39 hx hZ e39 V_b30 (j := (9 : Int32)) (by decide) (by decide) 9 rfl (Nat.le_of_ble_eq_true rfl) (g := (mkF m 153 #[.val (.int p0), .val (.int k), .val (.ref b1), .unset] [(.int (0 : Int32)), (.int (9 : Int32)), (.ref b30), (.ref b30)])) rfl rfl (hb hby at_153)
    obtain ⟨lc40, X40, N40⟩ := own_gen X40 (Fr.snoc X40 N39 g_b30)
    have O40 := O39.wr W40 g_b30
    have V_b1 := V_b1.other W40 ne_b1_b30
    have V_b30 : Arv Z h40 b30 k30 .boolean (14 : Int32) [(.int (1 : Int32)), (.int (1 : Int32)), (.int (1 : Int32)), (.int (0 : Int32)), (.int (0 : Int32)), (.int (0 : Int32)), (.int (0 : Int32)), (.int (0 : Int32)), (.int (0 : Int32)), (.int (0 : Int32)), (.int (0 : Int32)), (.int (0 : Int32)), (.int (0 : Int32)), (.int (0 : Int32))] (.int (0 : Int32)) := V40
    refine Go.st st40 ?_
    show Go p e below s _ _ _ (T40.setTop (mkF m 154 #[.val (.int p0), .val (.int k), .val (.ref b1), .unset] [(.ref b30)]))
    refine Go.st (fun _ kq_ => XS.dup X40.here hx rfl (hb hby at_154) rfl rfl kq_) ?_
    show Go p e below s _ _ _ (T40.setTop (mkF m 155 #[.val (.int p0), .val (.int k), .val (.ref b1), .unset] [(.ref b30), (.ref b30)]))
    refine Go.st (fun _ kq_ => XS.bipush X40.here hx rfl (hb hby at_155) kq_) ?_
    show Go p e below s _ _ _ (T40.setTop (mkF m 157 #[.val (.int p0), .val (.int k), .val (.ref b1), .unset] [(.int (10 : Int32)), (.ref b30), (.ref b30)]))
    refine Go.st (fun _ kq_ => XS.iconst X40.here hx rfl (hb hby at_157) kq_) ?_
    show Go p e below s _ _ _ (T40.setTop (mkF m 158 #[.val (.int p0), .val (.int k), .val (.ref b1), .unset] [(.int (1 : Int32)), (.int (10 : Int32)), (.ref b30), (.ref b30)]))
    obtain ⟨T41, h41, X41, e41, W41, V41, st41⟩ := own_stZ X40 hx hZ e40 V_b30 (j := (10 : Int32)) (by decide) (by decide) 10 rfl (Nat.le_of_ble_eq_true rfl) (g := (mkF m 158 #[.val (.int p0), .val (.int k), .val (.ref b1), .unset] [(.int (1 : Int32)), (.int (10 : Int32)), (.ref b30), (.ref b30)])) rfl rfl (hb hby at_158)
    obtain ⟨lc41, X41, N41⟩ := own_gen X41 (Fr.snoc X41 N40 g_b30)
    have O41 := O40.wr W41 g_b30
    have V_b1 := V_b1.other W41 ne_b1_b30
    have V_b30 : Arv Z h41 b30 k30 .boolean (14 : Int32) [(.int (1 : Int32)), (.int (1 : Int32)), (.int (1 : Int32)), (.int (0 : Int32)), (.int (0 : Int32)), (.int (0 : Int32)), (.int (0 : Int32)), (.int (0 : Int32)), (.int (0 : Int32)), (.int (0 : Int32)), (.int (1 : Int32)), (.int (0 : Int32)), (.int (0 : Int32)), (.int (0 : Int32))] (.int (0 : Int32)) := V41
    refine Go.st st41 ?_
    show Go p e below s _ _ _ (T41.setTop (mkF m 159 #[.val (.int p0), .val (.int k), .val (.ref b1), .unset] [(.ref b30)]))
    refine Go.st (fun _ kq_ => XS.dup X41.here hx rfl (hb hby at_159) rfl rfl kq_) ?_
    show Go p e below s _ _ _ (T41.setTop (mkF m 160 #[.val (.int p0), .val (.int k), .val (.ref b1), .unset] [(.ref b30), (.ref b30)]))
    refine Go.st (fun _ kq_ => XS.bipush X41.here hx rfl (hb hby at_160) kq_) ?_
    show Go p e below s _ _ _ (T41.setTop (mkF m 162 #[.val (.int p0), .val (.int k), .val (.ref b1), .unset] [(.int (11 : Int32)), (.ref b30), (.ref b30)]))
    refine Go.st (fun _ kq_ => XS.iconst X41.here hx rfl (hb hby at_162) kq_) ?_
    show Go p e below s _ _ _ (T41.setTop (mkF m 163 #[.val (.int p0), .val (.int k), .val (.ref b1), .unset] [(.int (0 : Int32)), (.int (11 : Int32)), (.ref b30), (.ref b30)]))
    obtain ⟨T42, h42, X42, e42, W42, V42, st42⟩ := own_stZ X41 hx hZ e41 V_b30 (j := (11 : Int32)) (by decide) (by decide) 11 rfl (Nat.le_of_ble_eq_true rfl) (g := (mkF m 163 #[.val (.int p0), .val (.int k), .val (.ref b1), .unset] [(.int (0 : Int32)), (.int (11 : Int32)), (.ref b30), (.ref b30)])) rfl rfl (hb hby at_163)
    obtain ⟨lc42, X42, N42⟩ := own_gen X42 (Fr.snoc X42 N41 g_b30)
    have O42 := O41.wr W42 g_b30
    have V_b1 := V_b1.other W42 ne_b1_b30
    have V_b30 : Arv Z h42 b30 k30 .boolean (14 : Int32) [(.int (1 : Int32)), (.int (1 : Int32)), (.int (1 : Int32)), (.int (0 : Int32)), (.int (0 : Int32)), (.int (0 : Int32)), (.int (0 : Int32)), (.int (0 : Int32)), (.int (0 : Int32)), (.int (0 : Int32)), (.int (1 : Int32)), (.int (0 : Int32)), (.int (0 : Int32)), (.int (0 : Int32))] (.int (0 : Int32)) := V42
    refine Go.st st42 ?_
    show Go p e below s _ _ _ (T42.setTop (mkF m 164 #[.val (.int p0), .val (.int k), .val (.ref b1), .unset] [(.ref b30)]))
    refine Go.st (fun _ kq_ => XS.dup X42.here hx rfl (hb hby at_164) rfl rfl kq_) ?_
    show Go p e below s _ _ _ (T42.setTop (mkF m 165 #[.val (.int p0), .val (.int k), .val (.ref b1), .unset] [(.ref b30), (.ref b30)]))
    refine Go.st (fun _ kq_ => XS.bipush X42.here hx rfl (hb hby at_165) kq_) ?_
    show Go p e below s _ _ _ (T42.setTop (mkF m 167 #[.val (.int p0), .val (.int k), .val (.ref b1), .unset] [(.int (12 : Int32)), (.ref b30), (.ref b30)]))
    refine Go.st (fun _ kq_ => XS.iconst X42.here hx rfl (hb hby at_167) kq_) ?_
    show Go p e below s _ _ _ (T42.setTop (mkF m 168 #[.val (.int p0), .val (.int k), .val (.ref b1), .unset] [(.int (0 : Int32)), (.int (12 : Int32)), (.ref b30), (.ref b30)]))
    obtain ⟨T43, h43, X43, e43, W43, V43, st43⟩ := own_stZ X42 hx hZ e42 V_b30 (j := (12 : Int32)) (by decide) (by decide) 12 rfl (Nat.le_of_ble_eq_true rfl) (g := (mkF m 168 #[.val (.int p0), .val (.int k), .val (.ref b1), .unset] [(.int (0 : Int32)), (.int (12 : Int32)), (.ref b30), (.ref b30)])) rfl rfl (hb hby at_168)
    obtain ⟨lc43, X43, N43⟩ := own_gen X43 (Fr.snoc X43 N42 g_b30)
    have O43 := O42.wr W43 g_b30
    have V_b1 := V_b1.other W43 ne_b1_b30
    have V_b30 : Arv Z h43 b30 k30 .boolean (14 : Int32) [(.int (1 : Int32)), (.int (1 : Int32)), (.int (1 : Int32)), (.int (0 : Int32)), (.int (0 : Int32)), (.int (0 : Int32)), (.int (0 : Int32)), (.int (0 : Int32)), (.int (0 : Int32)), (.int (0 : Int32)), (.int (1 : Int32)), (.int (0 : Int32)), (.int (0 : Int32)), (.int (0 : Int32))] (.int (0 : Int32)) := V43
    refine Go.st st43 ?_
    show Go p e below s _ _ _ (T43.setTop (mkF m 169 #[.val (.int p0), .val (.int k), .val (.ref b1), .unset] [(.ref b30)]))
    refine Go.st (fun _ kq_ => XS.dup X43.here hx rfl (hb hby at_169) rfl rfl kq_) ?_
    show Go p e below s _ _ _ (T43.setTop (mkF m 170 #[.val (.int p0), .val (.int k), .val (.ref b1), .unset] [(.ref b30), (.ref b30)]))
    refine Go.st (fun _ kq_ => XS.bipush X43.here hx rfl (hb hby at_170) kq_) ?_
    show Go p e below s _ _ _ (T43.setTop (mkF m 172 #[.val (.int p0), .val (.int k), .val (.ref b1), .unset] [(.int (13 : Int32)), (.ref b30), (.ref b30)]))
    refine Go.st (fun _ kq_ => XS.iconst X43.here hx rfl (hb hby at_172) kq_) ?_
    show Go p e below s _ _ _ (T43.setTop (mkF m 173 #[.val (.int p0), .val (.int k), .val (.ref b1), .unset] [(.int (0 : Int32)), (.int (13 : Int32)), (.ref b30), (.ref b30)]))
    obtain ⟨T44, h44, X44, e44, W44, V44, st44⟩ := own_stZ X43 hx hZ e43 V_b30 (j := (13 : Int32)) (by decide) (by decide) 13 rfl (Nat.le_of_ble_eq_true rfl) (g := (mkF m 173 #[.val (.int p0), .val (.int k), .val (.ref b1), .unset] [(.int (0 : Int32)), (.int (13 : Int32)), (.ref b30), (.ref b30)])) rfl rfl (hb hby at_173)
    obtain ⟨lc44, X44, N44⟩ := own_gen X44 (Fr.snoc X44 N43 g_b30)
    have O44 := O43.wr W44 g_b30
    have V_b1 := V_b1.other W44 ne_b1_b30
    have V_b30 : Arv Z h44 b30 k30 .boolean (14 : Int32) [(.int (1 : Int32)), (.int (1 : Int32)), (.int (1 : Int32)), (.int (0 : Int32)), (.int (0 : Int32)), (.int (0 : Int32)), (.int (0 : Int32)), (.int (0 : Int32)), (.int (0 : Int32)), (.int (0 : Int32)), (.int (1 : Int32)), (.int (0 : Int32)), (.int (0 : Int32)), (.int (0 : Int32))] (.int (0 : Int32)) := V44
    refine Go.st st44 ?_
    show Go p e below s _ _ _ (T44.setTop (mkF m 174 #[.val (.int p0), .val (.int k), .val (.ref b1), .unset] [(.ref b30)]))
    refine Go.st (fun _ kq_ => XS.astoreN X44.here hx rfl (hb hby at_174) rfl rfl (l' := #[.val (.int p0), .val (.int k), .val (.ref b1), .val (.ref b30)]) rfl kq_) ?_
    show Go p e below s _ _ _ (T44.setTop (mkF m 175 #[.val (.int p0), .val (.int k), .val (.ref b1), .val (.ref b30)] []))
    rcases own_14 hr with rfl | rfl | rfl | rfl | rfl | rfl | rfl | rfl | rfl | rfl | rfl | rfl | rfl | rfl
    · show Go p e below s _ _ _ (T44.setTop (mkF m 175 #[.val (.int p0), .val (.int (0 : Int32)), .val (.ref b1), .val (.ref b30)] []))
      refine Go.st (fun _ kq_ => XS.aloadN X44.here hx rfl (hb hby at_175) rfl rfl kq_) ?_
      show Go p e below s _ _ _ (T44.setTop (mkF m 176 #[.val (.int p0), .val (.int (0 : Int32)), .val (.ref b1), .val (.ref b30)] [(.ref b1)]))
      refine Go.st (fun _ kq_ => XS.iloadN X44.here hx rfl (hb hby at_176) rfl kq_) ?_
      show Go p e below s _ _ _ (T44.setTop (mkF m 177 #[.val (.int p0), .val (.int (0 : Int32)), .val (.ref b1), .val (.ref b30)] [(.int (0 : Int32)), (.ref b1)]))
      refine Go.st (fun _ kq_ => own_aaload X44 hx hZ e44 V_b1 rfl (by decide) (by decide) (v := (.ref (c 0))) rfl (g := (mkF m 177 #[.val (.int p0), .val (.int (0 : Int32)), .val (.ref b1), .val (.ref b30)] [(.int (0 : Int32)), (.ref b1)])) rfl rfl (hb hby at_177) _ kq_) ?_
      show Go p e below s _ _ _ (T44.setTop (mkF m 178 #[.val (.int p0), .val (.int (0 : Int32)), .val (.ref b1), .val (.ref b30)] [(.ref (c 0))]))
      obtain ⟨cq45, kq45, qa45, qb45, qc45⟩ := isOf hZ e44 ((HS.2.2.2.2.2.2.2.2.2.2.2.2.2.2.1 0 (by decide)).ext O44.2)
      obtain ⟨_, _, ⟨T45, L45, k45, n45⟩, -, X45, ⟨Lc45, hQ45, l45, y45, z45⟩, st45⟩ := X44.virtualBack hx (y := (⟨"com/example/arbora/arbora/sql/ValueType", "textMayBeEmpty", "()Z"⟩ : MethodName)) (z := (⟨"com/example/arbora/arbora/sql/ValueType", "textMayBeEmpty", "()Z"⟩ : MethodName)) hown (mvT hZ (own_w hw 34 rfl)) (mvT hZ (own_w hw 35 rfl)) (notFace_of_selects (args := #[]) (mvT hZ (own_w hw 37 rfl))) (mvT hZ (own_w hw 37 rfl)) (mvT hZ (own_w hw 36 rfl)) (by decide) (backOf (W := 0) (rm4 l Z a0 hw [] c 0 h44 n0 O44 HS) hZ (own_w hw 38 rfl) (own_w hw 4 rfl) (by decide) (by decide)) qa45 qc45 (g := (mkF m 178 #[.val (.int p0), .val (.int (0 : Int32)), .val (.ref b1), .val (.ref b30)] [(.ref (c 0))])) rfl (by rw [hml]; rfl) (Steps.refl _) (argsL := []) (rest := []) (lenOf pd0_0 rfl) rfl (by show 2 * 0 + _ ≤ _; exact Nat.le_of_eq rfl) (hb hby at_178) (fun _ _ => ⟨rfl, e44, (by decide : 2 + 0 ≤ _), (by decide : 28 + 0 ≤ _)⟩)
      dsimp only [Pt.U, Pt.locs, Pt.cells, Pt.slots] at X45 l45 y45 z45 st45 hQ45
      subst y45 z45
      obtain ⟨rfl, Nc45, e45⟩ := hQ45
      have N45 : Fr n0 L45 := by rw [l45]; exact Fr.app N44 Nc45
      rw [fTe_0 c HS.2.2.2.2.2.2.2.2.2.2.2.2.2.2.2] at st45
      refine Go.tr st45 ?_
      show Go p e below s _ _ _ (T45.setTop (mkF m 181 #[.val (.int p0), .val (.int (0 : Int32)), .val (.ref b1), .val (.ref b30)] [(.int (1 : Int32))]))
      refine Go.st (fun _ kq_ => XS.aloadN X45.here hx rfl (hb hby at_181) rfl rfl kq_) ?_
      show Go p e below s _ _ _ (T45.setTop (mkF m 182 #[.val (.int p0), .val (.int (0 : Int32)), .val (.ref b1), .val (.ref b30)] [(.ref b30), (.int (1 : Int32))]))
      refine Go.st (fun _ kq_ => XS.iloadN X45.here hx rfl (hb hby at_182) rfl kq_) ?_
      show Go p e below s _ _ _ (T45.setTop (mkF m 183 #[.val (.int p0), .val (.int (0 : Int32)), .val (.ref b1), .val (.ref b30)] [(.int (0 : Int32)), (.ref b30), (.int (1 : Int32))]))
      refine Go.st (fun _ kq_ => own_baloadZ X45 hx hZ e45 V_b30 (by decide) (by decide) (v := (.int (1 : Int32))) rfl (g := (mkF m 183 #[.val (.int p0), .val (.int (0 : Int32)), .val (.ref b1), .val (.ref b30)] [(.int (0 : Int32)), (.ref b30), (.int (1 : Int32))])) rfl rfl (hb hby at_183) _ kq_) ?_
      show Go p e below s _ _ _ (T45.setTop (mkF m 184 #[.val (.int p0), .val (.int (0 : Int32)), .val (.ref b1), .val (.ref b30)] [(.int (1 : Int32)), (.int (1 : Int32))]))
      refine Go.st (fun _ kq_ => XS.icmpNo X45.here hx rfl (hb hby at_184) rfl (by decide) kq_) ?_
      show Go p e below s _ _ _ (T45.setTop (mkF m 187 #[.val (.int p0), .val (.int (0 : Int32)), .val (.ref b1), .val (.ref b30)] []))
      refine Go.st (fun _ kq_ => XS.iconst X45.here hx rfl (hb hby at_187) kq_) ?_
      show Go p e below s _ _ _ (T45.setTop (mkF m 188 #[.val (.int p0), .val (.int (0 : Int32)), .val (.ref b1), .val (.ref b30)] [(.int (1 : Int32))]))
      refine Go.st (fun _ kq_ => XS.goto X45.here hx rfl (pc0 := 188) (pc' := 192) rfl (hb hby at_188) (by decide) (by decide) kq_) ?_
      show Go p e below s _ _ _ (T45.setTop (mkF m 192 #[.val (.int p0), .val (.int (0 : Int32)), .val (.ref b1), .val (.ref b30)] [(.int (1 : Int32))]))
      exact Go.ret X45 hlk (some (.int (nar .boolean (1 : Int32)))) (fun h => by rw [Bd.returns] at h; cases h) (by rw [e45]; exact ⟨rfl, N45⟩) (by decide) (by decide) (fun fs hr => retN X45 hx (t := .boolean) Bd.returns (by simp) (hb hby at_192) hr)
    · show Go p e below s _ _ _ (T44.setTop (mkF m 175 #[.val (.int p0), .val (.int (1 : Int32)), .val (.ref b1), .val (.ref b30)] []))
      refine Go.st (fun _ kq_ => XS.aloadN X44.here hx rfl (hb hby at_175) rfl rfl kq_) ?_
      show Go p e below s _ _ _ (T44.setTop (mkF m 176 #[.val (.int p0), .val (.int (1 : Int32)), .val (.ref b1), .val (.ref b30)] [(.ref b1)]))
      refine Go.st (fun _ kq_ => XS.iloadN X44.here hx rfl (hb hby at_176) rfl kq_) ?_
      show Go p e below s _ _ _ (T44.setTop (mkF m 177 #[.val (.int p0), .val (.int (1 : Int32)), .val (.ref b1), .val (.ref b30)] [(.int (1 : Int32)), (.ref b1)]))
      refine Go.st (fun _ kq_ => own_aaload X44 hx hZ e44 V_b1 rfl (by decide) (by decide) (v := (.ref (c 1))) rfl (g := (mkF m 177 #[.val (.int p0), .val (.int (1 : Int32)), .val (.ref b1), .val (.ref b30)] [(.int (1 : Int32)), (.ref b1)])) rfl rfl (hb hby at_177) _ kq_) ?_
      show Go p e below s _ _ _ (T44.setTop (mkF m 178 #[.val (.int p0), .val (.int (1 : Int32)), .val (.ref b1), .val (.ref b30)] [(.ref (c 1))]))
      obtain ⟨cq46, kq46, qa46, qb46, qc46⟩ := isOf hZ e44 ((HS.2.2.2.2.2.2.2.2.2.2.2.2.2.2.1 1 (by decide)).ext O44.2)
      obtain ⟨_, _, ⟨T46, L46, k46, n46⟩, -, X46, ⟨Lc46, hQ46, l46, y46, z46⟩, st46⟩ := X44.virtualBack hx (y := (⟨"com/example/arbora/arbora/sql/ValueType", "textMayBeEmpty", "()Z"⟩ : MethodName)) (z := (⟨"com/example/arbora/arbora/sql/ValueType", "textMayBeEmpty", "()Z"⟩ : MethodName)) hown (mvT hZ (own_w hw 34 rfl)) (mvT hZ (own_w hw 35 rfl)) (notFace_of_selects (args := #[]) (mvT hZ (own_w hw 37 rfl))) (mvT hZ (own_w hw 37 rfl)) (mvT hZ (own_w hw 36 rfl)) (by decide) (backOf (W := 0) (rm4 l Z a0 hw [] c 1 h44 n0 O44 HS) hZ (own_w hw 38 rfl) (own_w hw 4 rfl) (by decide) (by decide)) qa46 qc46 (g := (mkF m 178 #[.val (.int p0), .val (.int (1 : Int32)), .val (.ref b1), .val (.ref b30)] [(.ref (c 1))])) rfl (by rw [hml]; rfl) (Steps.refl _) (argsL := []) (rest := []) (lenOf pd0_0 rfl) rfl (by show 2 * 0 + _ ≤ _; exact Nat.le_of_eq rfl) (hb hby at_178) (fun _ _ => ⟨rfl, e44, (by decide : 2 + 0 ≤ _), (by decide : 28 + 0 ≤ _)⟩)
      dsimp only [Pt.U, Pt.locs, Pt.cells, Pt.slots] at X46 l46 y46 z46 st46 hQ46
      subst y46 z46
      obtain ⟨rfl, Nc46, e46⟩ := hQ46
      have N46 : Fr n0 L46 := by rw [l46]; exact Fr.app N44 Nc46
      rw [fTe_1 c HS.2.2.2.2.2.2.2.2.2.2.2.2.2.2.2] at st46
      refine Go.tr st46 ?_
      show Go p e below s _ _ _ (T46.setTop (mkF m 181 #[.val (.int p0), .val (.int (1 : Int32)), .val (.ref b1), .val (.ref b30)] [(.int (1 : Int32))]))
      refine Go.st (fun _ kq_ => XS.aloadN X46.here hx rfl (hb hby at_181) rfl rfl kq_) ?_
      show Go p e below s _ _ _ (T46.setTop (mkF m 182 #[.val (.int p0), .val (.int (1 : Int32)), .val (.ref b1), .val (.ref b30)] [(.ref b30), (.int (1 : Int32))]))
      refine Go.st (fun _ kq_ => XS.iloadN X46.here hx rfl (hb hby at_182) rfl kq_) ?_
      show Go p e below s _ _ _ (T46.setTop (mkF m 183 #[.val (.int p0), .val (.int (1 : Int32)), .val (.ref b1), .val (.ref b30)] [(.int (1 : Int32)), (.ref b30), (.int (1 : Int32))]))
      refine Go.st (fun _ kq_ => own_baloadZ X46 hx hZ e46 V_b30 (by decide) (by decide) (v := (.int (1 : Int32))) rfl (g := (mkF m 183 #[.val (.int p0), .val (.int (1 : Int32)), .val (.ref b1), .val (.ref b30)] [(.int (1 : Int32)), (.ref b30), (.int (1 : Int32))])) rfl rfl (hb hby at_183) _ kq_) ?_
      show Go p e below s _ _ _ (T46.setTop (mkF m 184 #[.val (.int p0), .val (.int (1 : Int32)), .val (.ref b1), .val (.ref b30)] [(.int (1 : Int32)), (.int (1 : Int32))]))
      refine Go.st (fun _ kq_ => XS.icmpNo X46.here hx rfl (hb hby at_184) rfl (by decide) kq_) ?_
      show Go p e below s _ _ _ (T46.setTop (mkF m 187 #[.val (.int p0), .val (.int (1 : Int32)), .val (.ref b1), .val (.ref b30)] []))
      refine Go.st (fun _ kq_ => XS.iconst X46.here hx rfl (hb hby at_187) kq_) ?_
      show Go p e below s _ _ _ (T46.setTop (mkF m 188 #[.val (.int p0), .val (.int (1 : Int32)), .val (.ref b1), .val (.ref b30)] [(.int (1 : Int32))]))
      refine Go.st (fun _ kq_ => XS.goto X46.here hx rfl (pc0 := 188) (pc' := 192) rfl (hb hby at_188) (by decide) (by decide) kq_) ?_
      show Go p e below s _ _ _ (T46.setTop (mkF m 192 #[.val (.int p0), .val (.int (1 : Int32)), .val (.ref b1), .val (.ref b30)] [(.int (1 : Int32))]))
      exact Go.ret X46 hlk (some (.int (nar .boolean (1 : Int32)))) (fun h => by rw [Bd.returns] at h; cases h) (by rw [e46]; exact ⟨rfl, N46⟩) (by decide) (by decide) (fun fs hr => retN X46 hx (t := .boolean) Bd.returns (by simp) (hb hby at_192) hr)
    · show Go p e below s _ _ _ (T44.setTop (mkF m 175 #[.val (.int p0), .val (.int (2 : Int32)), .val (.ref b1), .val (.ref b30)] []))
      refine Go.st (fun _ kq_ => XS.aloadN X44.here hx rfl (hb hby at_175) rfl rfl kq_) ?_
      show Go p e below s _ _ _ (T44.setTop (mkF m 176 #[.val (.int p0), .val (.int (2 : Int32)), .val (.ref b1), .val (.ref b30)] [(.ref b1)]))
      refine Go.st (fun _ kq_ => XS.iloadN X44.here hx rfl (hb hby at_176) rfl kq_) ?_
      show Go p e below s _ _ _ (T44.setTop (mkF m 177 #[.val (.int p0), .val (.int (2 : Int32)), .val (.ref b1), .val (.ref b30)] [(.int (2 : Int32)), (.ref b1)]))
      refine Go.st (fun _ kq_ => own_aaload X44 hx hZ e44 V_b1 rfl (by decide) (by decide) (v := (.ref (c 2))) rfl (g := (mkF m 177 #[.val (.int p0), .val (.int (2 : Int32)), .val (.ref b1), .val (.ref b30)] [(.int (2 : Int32)), (.ref b1)])) rfl rfl (hb hby at_177) _ kq_) ?_
      show Go p e below s _ _ _ (T44.setTop (mkF m 178 #[.val (.int p0), .val (.int (2 : Int32)), .val (.ref b1), .val (.ref b30)] [(.ref (c 2))]))
      obtain ⟨cq47, kq47, qa47, qb47, qc47⟩ := isOf hZ e44 ((HS.2.2.2.2.2.2.2.2.2.2.2.2.2.2.1 2 (by decide)).ext O44.2)
      obtain ⟨_, _, ⟨T47, L47, k47, n47⟩, -, X47, ⟨Lc47, hQ47, l47, y47, z47⟩, st47⟩ := X44.virtualBack hx (y := (⟨"com/example/arbora/arbora/sql/ValueType", "textMayBeEmpty", "()Z"⟩ : MethodName)) (z := (⟨"com/example/arbora/arbora/sql/ValueType", "textMayBeEmpty", "()Z"⟩ : MethodName)) hown (mvT hZ (own_w hw 34 rfl)) (mvT hZ (own_w hw 35 rfl)) (notFace_of_selects (args := #[]) (mvT hZ (own_w hw 37 rfl))) (mvT hZ (own_w hw 37 rfl)) (mvT hZ (own_w hw 36 rfl)) (by decide) (backOf (W := 0) (rm4 l Z a0 hw [] c 2 h44 n0 O44 HS) hZ (own_w hw 38 rfl) (own_w hw 4 rfl) (by decide) (by decide)) qa47 qc47 (g := (mkF m 178 #[.val (.int p0), .val (.int (2 : Int32)), .val (.ref b1), .val (.ref b30)] [(.ref (c 2))])) rfl (by rw [hml]; rfl) (Steps.refl _) (argsL := []) (rest := []) (lenOf pd0_0 rfl) rfl (by show 2 * 0 + _ ≤ _; exact Nat.le_of_eq rfl) (hb hby at_178) (fun _ _ => ⟨rfl, e44, (by decide : 2 + 0 ≤ _), (by decide : 28 + 0 ≤ _)⟩)
      dsimp only [Pt.U, Pt.locs, Pt.cells, Pt.slots] at X47 l47 y47 z47 st47 hQ47
      subst y47 z47
      obtain ⟨rfl, Nc47, e47⟩ := hQ47
      have N47 : Fr n0 L47 := by rw [l47]; exact Fr.app N44 Nc47
      rw [fTe_2 c HS.2.2.2.2.2.2.2.2.2.2.2.2.2.2.2] at st47
      refine Go.tr st47 ?_
      show Go p e below s _ _ _ (T47.setTop (mkF m 181 #[.val (.int p0), .val (.int (2 : Int32)), .val (.ref b1), .val (.ref b30)] [(.int (1 : Int32))]))
      refine Go.st (fun _ kq_ => XS.aloadN X47.here hx rfl (hb hby at_181) rfl rfl kq_) ?_
      show Go p e below s _ _ _ (T47.setTop (mkF m 182 #[.val (.int p0), .val (.int (2 : Int32)), .val (.ref b1), .val (.ref b30)] [(.ref b30), (.int (1 : Int32))]))
      refine Go.st (fun _ kq_ => XS.iloadN X47.here hx rfl (hb hby at_182) rfl kq_) ?_
      show Go p e below s _ _ _ (T47.setTop (mkF m 183 #[.val (.int p0), .val (.int (2 : Int32)), .val (.ref b1), .val (.ref b30)] [(.int (2 : Int32)), (.ref b30), (.int (1 : Int32))]))
      refine Go.st (fun _ kq_ => own_baloadZ X47 hx hZ e47 V_b30 (by decide) (by decide) (v := (.int (1 : Int32))) rfl (g := (mkF m 183 #[.val (.int p0), .val (.int (2 : Int32)), .val (.ref b1), .val (.ref b30)] [(.int (2 : Int32)), (.ref b30), (.int (1 : Int32))])) rfl rfl (hb hby at_183) _ kq_) ?_
      show Go p e below s _ _ _ (T47.setTop (mkF m 184 #[.val (.int p0), .val (.int (2 : Int32)), .val (.ref b1), .val (.ref b30)] [(.int (1 : Int32)), (.int (1 : Int32))]))
      refine Go.st (fun _ kq_ => XS.icmpNo X47.here hx rfl (hb hby at_184) rfl (by decide) kq_) ?_
      show Go p e below s _ _ _ (T47.setTop (mkF m 187 #[.val (.int p0), .val (.int (2 : Int32)), .val (.ref b1), .val (.ref b30)] []))
      refine Go.st (fun _ kq_ => XS.iconst X47.here hx rfl (hb hby at_187) kq_) ?_
      show Go p e below s _ _ _ (T47.setTop (mkF m 188 #[.val (.int p0), .val (.int (2 : Int32)), .val (.ref b1), .val (.ref b30)] [(.int (1 : Int32))]))
      refine Go.st (fun _ kq_ => XS.goto X47.here hx rfl (pc0 := 188) (pc' := 192) rfl (hb hby at_188) (by decide) (by decide) kq_) ?_
      show Go p e below s _ _ _ (T47.setTop (mkF m 192 #[.val (.int p0), .val (.int (2 : Int32)), .val (.ref b1), .val (.ref b30)] [(.int (1 : Int32))]))
      exact Go.ret X47 hlk (some (.int (nar .boolean (1 : Int32)))) (fun h => by rw [Bd.returns] at h; cases h) (by rw [e47]; exact ⟨rfl, N47⟩) (by decide) (by decide) (fun fs hr => retN X47 hx (t := .boolean) Bd.returns (by simp) (hb hby at_192) hr)
    · show Go p e below s _ _ _ (T44.setTop (mkF m 175 #[.val (.int p0), .val (.int (3 : Int32)), .val (.ref b1), .val (.ref b30)] []))
      refine Go.st (fun _ kq_ => XS.aloadN X44.here hx rfl (hb hby at_175) rfl rfl kq_) ?_
      show Go p e below s _ _ _ (T44.setTop (mkF m 176 #[.val (.int p0), .val (.int (3 : Int32)), .val (.ref b1), .val (.ref b30)] [(.ref b1)]))
      refine Go.st (fun _ kq_ => XS.iloadN X44.here hx rfl (hb hby at_176) rfl kq_) ?_
      show Go p e below s _ _ _ (T44.setTop (mkF m 177 #[.val (.int p0), .val (.int (3 : Int32)), .val (.ref b1), .val (.ref b30)] [(.int (3 : Int32)), (.ref b1)]))
      refine Go.st (fun _ kq_ => own_aaload X44 hx hZ e44 V_b1 rfl (by decide) (by decide) (v := (.ref (c 3))) rfl (g := (mkF m 177 #[.val (.int p0), .val (.int (3 : Int32)), .val (.ref b1), .val (.ref b30)] [(.int (3 : Int32)), (.ref b1)])) rfl rfl (hb hby at_177) _ kq_) ?_
      show Go p e below s _ _ _ (T44.setTop (mkF m 178 #[.val (.int p0), .val (.int (3 : Int32)), .val (.ref b1), .val (.ref b30)] [(.ref (c 3))]))
      obtain ⟨cq48, kq48, qa48, qb48, qc48⟩ := isOf hZ e44 ((HS.2.2.2.2.2.2.2.2.2.2.2.2.2.2.1 3 (by decide)).ext O44.2)
      obtain ⟨_, _, ⟨T48, L48, k48, n48⟩, -, X48, ⟨Lc48, hQ48, l48, y48, z48⟩, st48⟩ := X44.virtualBack hx (y := (⟨"com/example/arbora/arbora/sql/ValueType", "textMayBeEmpty", "()Z"⟩ : MethodName)) (z := (⟨"com/example/arbora/arbora/sql/ValueType", "textMayBeEmpty", "()Z"⟩ : MethodName)) hown (mvT hZ (own_w hw 34 rfl)) (mvT hZ (own_w hw 35 rfl)) (notFace_of_selects (args := #[]) (mvT hZ (own_w hw 37 rfl))) (mvT hZ (own_w hw 37 rfl)) (mvT hZ (own_w hw 36 rfl)) (by decide) (backOf (W := 0) (rm4 l Z a0 hw [] c 3 h44 n0 O44 HS) hZ (own_w hw 38 rfl) (own_w hw 4 rfl) (by decide) (by decide)) qa48 qc48 (g := (mkF m 178 #[.val (.int p0), .val (.int (3 : Int32)), .val (.ref b1), .val (.ref b30)] [(.ref (c 3))])) rfl (by rw [hml]; rfl) (Steps.refl _) (argsL := []) (rest := []) (lenOf pd0_0 rfl) rfl (by show 2 * 0 + _ ≤ _; exact Nat.le_of_eq rfl) (hb hby at_178) (fun _ _ => ⟨rfl, e44, (by decide : 2 + 0 ≤ _), (by decide : 28 + 0 ≤ _)⟩)
      dsimp only [Pt.U, Pt.locs, Pt.cells, Pt.slots] at X48 l48 y48 z48 st48 hQ48
      subst y48 z48
      obtain ⟨rfl, Nc48, e48⟩ := hQ48
      have N48 : Fr n0 L48 := by rw [l48]; exact Fr.app N44 Nc48
      rw [fTe_3 c HS.2.2.2.2.2.2.2.2.2.2.2.2.2.2.2] at st48
      refine Go.tr st48 ?_
      show Go p e below s _ _ _ (T48.setTop (mkF m 181 #[.val (.int p0), .val (.int (3 : Int32)), .val (.ref b1), .val (.ref b30)] [(.int (0 : Int32))]))
      refine Go.st (fun _ kq_ => XS.aloadN X48.here hx rfl (hb hby at_181) rfl rfl kq_) ?_
      show Go p e below s _ _ _ (T48.setTop (mkF m 182 #[.val (.int p0), .val (.int (3 : Int32)), .val (.ref b1), .val (.ref b30)] [(.ref b30), (.int (0 : Int32))]))
      refine Go.st (fun _ kq_ => XS.iloadN X48.here hx rfl (hb hby at_182) rfl kq_) ?_
      show Go p e below s _ _ _ (T48.setTop (mkF m 183 #[.val (.int p0), .val (.int (3 : Int32)), .val (.ref b1), .val (.ref b30)] [(.int (3 : Int32)), (.ref b30), (.int (0 : Int32))]))
      refine Go.st (fun _ kq_ => own_baloadZ X48 hx hZ e48 V_b30 (by decide) (by decide) (v := (.int (0 : Int32))) rfl (g := (mkF m 183 #[.val (.int p0), .val (.int (3 : Int32)), .val (.ref b1), .val (.ref b30)] [(.int (3 : Int32)), (.ref b30), (.int (0 : Int32))])) rfl rfl (hb hby at_183) _ kq_) ?_
      show Go p e below s _ _ _ (T48.setTop (mkF m 184 #[.val (.int p0), .val (.int (3 : Int32)), .val (.ref b1), .val (.ref b30)] [(.int (0 : Int32)), (.int (0 : Int32))]))
      refine Go.st (fun _ kq_ => XS.icmpNo X48.here hx rfl (hb hby at_184) rfl (by decide) kq_) ?_
      show Go p e below s _ _ _ (T48.setTop (mkF m 187 #[.val (.int p0), .val (.int (3 : Int32)), .val (.ref b1), .val (.ref b30)] []))
      refine Go.st (fun _ kq_ => XS.iconst X48.here hx rfl (hb hby at_187) kq_) ?_
      show Go p e below s _ _ _ (T48.setTop (mkF m 188 #[.val (.int p0), .val (.int (3 : Int32)), .val (.ref b1), .val (.ref b30)] [(.int (1 : Int32))]))
      refine Go.st (fun _ kq_ => XS.goto X48.here hx rfl (pc0 := 188) (pc' := 192) rfl (hb hby at_188) (by decide) (by decide) kq_) ?_
      show Go p e below s _ _ _ (T48.setTop (mkF m 192 #[.val (.int p0), .val (.int (3 : Int32)), .val (.ref b1), .val (.ref b30)] [(.int (1 : Int32))]))
      exact Go.ret X48 hlk (some (.int (nar .boolean (1 : Int32)))) (fun h => by rw [Bd.returns] at h; cases h) (by rw [e48]; exact ⟨rfl, N48⟩) (by decide) (by decide) (fun fs hr => retN X48 hx (t := .boolean) Bd.returns (by simp) (hb hby at_192) hr)
    · show Go p e below s _ _ _ (T44.setTop (mkF m 175 #[.val (.int p0), .val (.int (4 : Int32)), .val (.ref b1), .val (.ref b30)] []))
      refine Go.st (fun _ kq_ => XS.aloadN X44.here hx rfl (hb hby at_175) rfl rfl kq_) ?_
      show Go p e below s _ _ _ (T44.setTop (mkF m 176 #[.val (.int p0), .val (.int (4 : Int32)), .val (.ref b1), .val (.ref b30)] [(.ref b1)]))
      refine Go.st (fun _ kq_ => XS.iloadN X44.here hx rfl (hb hby at_176) rfl kq_) ?_
      show Go p e below s _ _ _ (T44.setTop (mkF m 177 #[.val (.int p0), .val (.int (4 : Int32)), .val (.ref b1), .val (.ref b30)] [(.int (4 : Int32)), (.ref b1)]))
      refine Go.st (fun _ kq_ => own_aaload X44 hx hZ e44 V_b1 rfl (by decide) (by decide) (v := (.ref (c 4))) rfl (g := (mkF m 177 #[.val (.int p0), .val (.int (4 : Int32)), .val (.ref b1), .val (.ref b30)] [(.int (4 : Int32)), (.ref b1)])) rfl rfl (hb hby at_177) _ kq_) ?_
      show Go p e below s _ _ _ (T44.setTop (mkF m 178 #[.val (.int p0), .val (.int (4 : Int32)), .val (.ref b1), .val (.ref b30)] [(.ref (c 4))]))
      obtain ⟨cq49, kq49, qa49, qb49, qc49⟩ := isOf hZ e44 ((HS.2.2.2.2.2.2.2.2.2.2.2.2.2.2.1 4 (by decide)).ext O44.2)
      obtain ⟨_, _, ⟨T49, L49, k49, n49⟩, -, X49, ⟨Lc49, hQ49, l49, y49, z49⟩, st49⟩ := X44.virtualBack hx (y := (⟨"com/example/arbora/arbora/sql/ValueType", "textMayBeEmpty", "()Z"⟩ : MethodName)) (z := (⟨"com/example/arbora/arbora/sql/ValueType", "textMayBeEmpty", "()Z"⟩ : MethodName)) hown (mvT hZ (own_w hw 34 rfl)) (mvT hZ (own_w hw 35 rfl)) (notFace_of_selects (args := #[]) (mvT hZ (own_w hw 37 rfl))) (mvT hZ (own_w hw 37 rfl)) (mvT hZ (own_w hw 36 rfl)) (by decide) (backOf (W := 0) (rm4 l Z a0 hw [] c 4 h44 n0 O44 HS) hZ (own_w hw 38 rfl) (own_w hw 4 rfl) (by decide) (by decide)) qa49 qc49 (g := (mkF m 178 #[.val (.int p0), .val (.int (4 : Int32)), .val (.ref b1), .val (.ref b30)] [(.ref (c 4))])) rfl (by rw [hml]; rfl) (Steps.refl _) (argsL := []) (rest := []) (lenOf pd0_0 rfl) rfl (by show 2 * 0 + _ ≤ _; exact Nat.le_of_eq rfl) (hb hby at_178) (fun _ _ => ⟨rfl, e44, (by decide : 2 + 0 ≤ _), (by decide : 28 + 0 ≤ _)⟩)
      dsimp only [Pt.U, Pt.locs, Pt.cells, Pt.slots] at X49 l49 y49 z49 st49 hQ49
      subst y49 z49
      obtain ⟨rfl, Nc49, e49⟩ := hQ49
      have N49 : Fr n0 L49 := by rw [l49]; exact Fr.app N44 Nc49
      rw [fTe_4 c HS.2.2.2.2.2.2.2.2.2.2.2.2.2.2.2] at st49
      refine Go.tr st49 ?_
      show Go p e below s _ _ _ (T49.setTop (mkF m 181 #[.val (.int p0), .val (.int (4 : Int32)), .val (.ref b1), .val (.ref b30)] [(.int (0 : Int32))]))
      refine Go.st (fun _ kq_ => XS.aloadN X49.here hx rfl (hb hby at_181) rfl rfl kq_) ?_
      show Go p e below s _ _ _ (T49.setTop (mkF m 182 #[.val (.int p0), .val (.int (4 : Int32)), .val (.ref b1), .val (.ref b30)] [(.ref b30), (.int (0 : Int32))]))
      refine Go.st (fun _ kq_ => XS.iloadN X49.here hx rfl (hb hby at_182) rfl kq_) ?_
      show Go p e below s _ _ _ (T49.setTop (mkF m 183 #[.val (.int p0), .val (.int (4 : Int32)), .val (.ref b1), .val (.ref b30)] [(.int (4 : Int32)), (.ref b30), (.int (0 : Int32))]))
      refine Go.st (fun _ kq_ => own_baloadZ X49 hx hZ e49 V_b30 (by decide) (by decide) (v := (.int (0 : Int32))) rfl (g := (mkF m 183 #[.val (.int p0), .val (.int (4 : Int32)), .val (.ref b1), .val (.ref b30)] [(.int (4 : Int32)), (.ref b30), (.int (0 : Int32))])) rfl rfl (hb hby at_183) _ kq_) ?_
      show Go p e below s _ _ _ (T49.setTop (mkF m 184 #[.val (.int p0), .val (.int (4 : Int32)), .val (.ref b1), .val (.ref b30)] [(.int (0 : Int32)), (.int (0 : Int32))]))
      refine Go.st (fun _ kq_ => XS.icmpNo X49.here hx rfl (hb hby at_184) rfl (by decide) kq_) ?_
      show Go p e below s _ _ _ (T49.setTop (mkF m 187 #[.val (.int p0), .val (.int (4 : Int32)), .val (.ref b1), .val (.ref b30)] []))
      refine Go.st (fun _ kq_ => XS.iconst X49.here hx rfl (hb hby at_187) kq_) ?_
      show Go p e below s _ _ _ (T49.setTop (mkF m 188 #[.val (.int p0), .val (.int (4 : Int32)), .val (.ref b1), .val (.ref b30)] [(.int (1 : Int32))]))
      refine Go.st (fun _ kq_ => XS.goto X49.here hx rfl (pc0 := 188) (pc' := 192) rfl (hb hby at_188) (by decide) (by decide) kq_) ?_
      show Go p e below s _ _ _ (T49.setTop (mkF m 192 #[.val (.int p0), .val (.int (4 : Int32)), .val (.ref b1), .val (.ref b30)] [(.int (1 : Int32))]))
      exact Go.ret X49 hlk (some (.int (nar .boolean (1 : Int32)))) (fun h => by rw [Bd.returns] at h; cases h) (by rw [e49]; exact ⟨rfl, N49⟩) (by decide) (by decide) (fun fs hr => retN X49 hx (t := .boolean) Bd.returns (by simp) (hb hby at_192) hr)
    · show Go p e below s _ _ _ (T44.setTop (mkF m 175 #[.val (.int p0), .val (.int (5 : Int32)), .val (.ref b1), .val (.ref b30)] []))
      refine Go.st (fun _ kq_ => XS.aloadN X44.here hx rfl (hb hby at_175) rfl rfl kq_) ?_
      show Go p e below s _ _ _ (T44.setTop (mkF m 176 #[.val (.int p0), .val (.int (5 : Int32)), .val (.ref b1), .val (.ref b30)] [(.ref b1)]))
      refine Go.st (fun _ kq_ => XS.iloadN X44.here hx rfl (hb hby at_176) rfl kq_) ?_
      show Go p e below s _ _ _ (T44.setTop (mkF m 177 #[.val (.int p0), .val (.int (5 : Int32)), .val (.ref b1), .val (.ref b30)] [(.int (5 : Int32)), (.ref b1)]))
      refine Go.st (fun _ kq_ => own_aaload X44 hx hZ e44 V_b1 rfl (by decide) (by decide) (v := (.ref (c 5))) rfl (g := (mkF m 177 #[.val (.int p0), .val (.int (5 : Int32)), .val (.ref b1), .val (.ref b30)] [(.int (5 : Int32)), (.ref b1)])) rfl rfl (hb hby at_177) _ kq_) ?_
      show Go p e below s _ _ _ (T44.setTop (mkF m 178 #[.val (.int p0), .val (.int (5 : Int32)), .val (.ref b1), .val (.ref b30)] [(.ref (c 5))]))
      obtain ⟨cq50, kq50, qa50, qb50, qc50⟩ := isOf hZ e44 ((HS.2.2.2.2.2.2.2.2.2.2.2.2.2.2.1 5 (by decide)).ext O44.2)
      obtain ⟨_, _, ⟨T50, L50, k50, n50⟩, -, X50, ⟨Lc50, hQ50, l50, y50, z50⟩, st50⟩ := X44.virtualBack hx (y := (⟨"com/example/arbora/arbora/sql/ValueType", "textMayBeEmpty", "()Z"⟩ : MethodName)) (z := (⟨"com/example/arbora/arbora/sql/ValueType", "textMayBeEmpty", "()Z"⟩ : MethodName)) hown (mvT hZ (own_w hw 34 rfl)) (mvT hZ (own_w hw 35 rfl)) (notFace_of_selects (args := #[]) (mvT hZ (own_w hw 37 rfl))) (mvT hZ (own_w hw 37 rfl)) (mvT hZ (own_w hw 36 rfl)) (by decide) (backOf (W := 0) (rm4 l Z a0 hw [] c 5 h44 n0 O44 HS) hZ (own_w hw 38 rfl) (own_w hw 4 rfl) (by decide) (by decide)) qa50 qc50 (g := (mkF m 178 #[.val (.int p0), .val (.int (5 : Int32)), .val (.ref b1), .val (.ref b30)] [(.ref (c 5))])) rfl (by rw [hml]; rfl) (Steps.refl _) (argsL := []) (rest := []) (lenOf pd0_0 rfl) rfl (by show 2 * 0 + _ ≤ _; exact Nat.le_of_eq rfl) (hb hby at_178) (fun _ _ => ⟨rfl, e44, (by decide : 2 + 0 ≤ _), (by decide : 28 + 0 ≤ _)⟩)
      dsimp only [Pt.U, Pt.locs, Pt.cells, Pt.slots] at X50 l50 y50 z50 st50 hQ50
      subst y50 z50
      obtain ⟨rfl, Nc50, e50⟩ := hQ50
      have N50 : Fr n0 L50 := by rw [l50]; exact Fr.app N44 Nc50
      rw [fTe_5 c HS.2.2.2.2.2.2.2.2.2.2.2.2.2.2.2] at st50
      refine Go.tr st50 ?_
      show Go p e below s _ _ _ (T50.setTop (mkF m 181 #[.val (.int p0), .val (.int (5 : Int32)), .val (.ref b1), .val (.ref b30)] [(.int (0 : Int32))]))
      refine Go.st (fun _ kq_ => XS.aloadN X50.here hx rfl (hb hby at_181) rfl rfl kq_) ?_
      show Go p e below s _ _ _ (T50.setTop (mkF m 182 #[.val (.int p0), .val (.int (5 : Int32)), .val (.ref b1), .val (.ref b30)] [(.ref b30), (.int (0 : Int32))]))
      refine Go.st (fun _ kq_ => XS.iloadN X50.here hx rfl (hb hby at_182) rfl kq_) ?_
      show Go p e below s _ _ _ (T50.setTop (mkF m 183 #[.val (.int p0), .val (.int (5 : Int32)), .val (.ref b1), .val (.ref b30)] [(.int (5 : Int32)), (.ref b30), (.int (0 : Int32))]))
      refine Go.st (fun _ kq_ => own_baloadZ X50 hx hZ e50 V_b30 (by decide) (by decide) (v := (.int (0 : Int32))) rfl (g := (mkF m 183 #[.val (.int p0), .val (.int (5 : Int32)), .val (.ref b1), .val (.ref b30)] [(.int (5 : Int32)), (.ref b30), (.int (0 : Int32))])) rfl rfl (hb hby at_183) _ kq_) ?_
      show Go p e below s _ _ _ (T50.setTop (mkF m 184 #[.val (.int p0), .val (.int (5 : Int32)), .val (.ref b1), .val (.ref b30)] [(.int (0 : Int32)), (.int (0 : Int32))]))
      refine Go.st (fun _ kq_ => XS.icmpNo X50.here hx rfl (hb hby at_184) rfl (by decide) kq_) ?_
      show Go p e below s _ _ _ (T50.setTop (mkF m 187 #[.val (.int p0), .val (.int (5 : Int32)), .val (.ref b1), .val (.ref b30)] []))
      refine Go.st (fun _ kq_ => XS.iconst X50.here hx rfl (hb hby at_187) kq_) ?_
      show Go p e below s _ _ _ (T50.setTop (mkF m 188 #[.val (.int p0), .val (.int (5 : Int32)), .val (.ref b1), .val (.ref b30)] [(.int (1 : Int32))]))
      refine Go.st (fun _ kq_ => XS.goto X50.here hx rfl (pc0 := 188) (pc' := 192) rfl (hb hby at_188) (by decide) (by decide) kq_) ?_
      show Go p e below s _ _ _ (T50.setTop (mkF m 192 #[.val (.int p0), .val (.int (5 : Int32)), .val (.ref b1), .val (.ref b30)] [(.int (1 : Int32))]))
      exact Go.ret X50 hlk (some (.int (nar .boolean (1 : Int32)))) (fun h => by rw [Bd.returns] at h; cases h) (by rw [e50]; exact ⟨rfl, N50⟩) (by decide) (by decide) (fun fs hr => retN X50 hx (t := .boolean) Bd.returns (by simp) (hb hby at_192) hr)
    · show Go p e below s _ _ _ (T44.setTop (mkF m 175 #[.val (.int p0), .val (.int (6 : Int32)), .val (.ref b1), .val (.ref b30)] []))
      refine Go.st (fun _ kq_ => XS.aloadN X44.here hx rfl (hb hby at_175) rfl rfl kq_) ?_
      show Go p e below s _ _ _ (T44.setTop (mkF m 176 #[.val (.int p0), .val (.int (6 : Int32)), .val (.ref b1), .val (.ref b30)] [(.ref b1)]))
      refine Go.st (fun _ kq_ => XS.iloadN X44.here hx rfl (hb hby at_176) rfl kq_) ?_
      show Go p e below s _ _ _ (T44.setTop (mkF m 177 #[.val (.int p0), .val (.int (6 : Int32)), .val (.ref b1), .val (.ref b30)] [(.int (6 : Int32)), (.ref b1)]))
      refine Go.st (fun _ kq_ => own_aaload X44 hx hZ e44 V_b1 rfl (by decide) (by decide) (v := (.ref (c 6))) rfl (g := (mkF m 177 #[.val (.int p0), .val (.int (6 : Int32)), .val (.ref b1), .val (.ref b30)] [(.int (6 : Int32)), (.ref b1)])) rfl rfl (hb hby at_177) _ kq_) ?_
      show Go p e below s _ _ _ (T44.setTop (mkF m 178 #[.val (.int p0), .val (.int (6 : Int32)), .val (.ref b1), .val (.ref b30)] [(.ref (c 6))]))
      obtain ⟨cq51, kq51, qa51, qb51, qc51⟩ := isOf hZ e44 ((HS.2.2.2.2.2.2.2.2.2.2.2.2.2.2.1 6 (by decide)).ext O44.2)
      obtain ⟨_, _, ⟨T51, L51, k51, n51⟩, -, X51, ⟨Lc51, hQ51, l51, y51, z51⟩, st51⟩ := X44.virtualBack hx (y := (⟨"com/example/arbora/arbora/sql/ValueType", "textMayBeEmpty", "()Z"⟩ : MethodName)) (z := (⟨"com/example/arbora/arbora/sql/ValueType", "textMayBeEmpty", "()Z"⟩ : MethodName)) hown (mvT hZ (own_w hw 34 rfl)) (mvT hZ (own_w hw 35 rfl)) (notFace_of_selects (args := #[]) (mvT hZ (own_w hw 37 rfl))) (mvT hZ (own_w hw 37 rfl)) (mvT hZ (own_w hw 36 rfl)) (by decide) (backOf (W := 0) (rm4 l Z a0 hw [] c 6 h44 n0 O44 HS) hZ (own_w hw 38 rfl) (own_w hw 4 rfl) (by decide) (by decide)) qa51 qc51 (g := (mkF m 178 #[.val (.int p0), .val (.int (6 : Int32)), .val (.ref b1), .val (.ref b30)] [(.ref (c 6))])) rfl (by rw [hml]; rfl) (Steps.refl _) (argsL := []) (rest := []) (lenOf pd0_0 rfl) rfl (by show 2 * 0 + _ ≤ _; exact Nat.le_of_eq rfl) (hb hby at_178) (fun _ _ => ⟨rfl, e44, (by decide : 2 + 0 ≤ _), (by decide : 28 + 0 ≤ _)⟩)
      dsimp only [Pt.U, Pt.locs, Pt.cells, Pt.slots] at X51 l51 y51 z51 st51 hQ51
      subst y51 z51
      obtain ⟨rfl, Nc51, e51⟩ := hQ51
      have N51 : Fr n0 L51 := by rw [l51]; exact Fr.app N44 Nc51
      rw [fTe_6 c HS.2.2.2.2.2.2.2.2.2.2.2.2.2.2.2] at st51
      refine Go.tr st51 ?_
      show Go p e below s _ _ _ (T51.setTop (mkF m 181 #[.val (.int p0), .val (.int (6 : Int32)), .val (.ref b1), .val (.ref b30)] [(.int (0 : Int32))]))
      refine Go.st (fun _ kq_ => XS.aloadN X51.here hx rfl (hb hby at_181) rfl rfl kq_) ?_
      show Go p e below s _ _ _ (T51.setTop (mkF m 182 #[.val (.int p0), .val (.int (6 : Int32)), .val (.ref b1), .val (.ref b30)] [(.ref b30), (.int (0 : Int32))]))
      refine Go.st (fun _ kq_ => XS.iloadN X51.here hx rfl (hb hby at_182) rfl kq_) ?_
      show Go p e below s _ _ _ (T51.setTop (mkF m 183 #[.val (.int p0), .val (.int (6 : Int32)), .val (.ref b1), .val (.ref b30)] [(.int (6 : Int32)), (.ref b30), (.int (0 : Int32))]))
      refine Go.st (fun _ kq_ => own_baloadZ X51 hx hZ e51 V_b30 (by decide) (by decide) (v := (.int (0 : Int32))) rfl (g := (mkF m 183 #[.val (.int p0), .val (.int (6 : Int32)), .val (.ref b1), .val (.ref b30)] [(.int (6 : Int32)), (.ref b30), (.int (0 : Int32))])) rfl rfl (hb hby at_183) _ kq_) ?_
      show Go p e below s _ _ _ (T51.setTop (mkF m 184 #[.val (.int p0), .val (.int (6 : Int32)), .val (.ref b1), .val (.ref b30)] [(.int (0 : Int32)), (.int (0 : Int32))]))
      refine Go.st (fun _ kq_ => XS.icmpNo X51.here hx rfl (hb hby at_184) rfl (by decide) kq_) ?_
      show Go p e below s _ _ _ (T51.setTop (mkF m 187 #[.val (.int p0), .val (.int (6 : Int32)), .val (.ref b1), .val (.ref b30)] []))
      refine Go.st (fun _ kq_ => XS.iconst X51.here hx rfl (hb hby at_187) kq_) ?_
      show Go p e below s _ _ _ (T51.setTop (mkF m 188 #[.val (.int p0), .val (.int (6 : Int32)), .val (.ref b1), .val (.ref b30)] [(.int (1 : Int32))]))
      refine Go.st (fun _ kq_ => XS.goto X51.here hx rfl (pc0 := 188) (pc' := 192) rfl (hb hby at_188) (by decide) (by decide) kq_) ?_
      show Go p e below s _ _ _ (T51.setTop (mkF m 192 #[.val (.int p0), .val (.int (6 : Int32)), .val (.ref b1), .val (.ref b30)] [(.int (1 : Int32))]))
      exact Go.ret X51 hlk (some (.int (nar .boolean (1 : Int32)))) (fun h => by rw [Bd.returns] at h; cases h) (by rw [e51]; exact ⟨rfl, N51⟩) (by decide) (by decide) (fun fs hr => retN X51 hx (t := .boolean) Bd.returns (by simp) (hb hby at_192) hr)
    · show Go p e below s _ _ _ (T44.setTop (mkF m 175 #[.val (.int p0), .val (.int (7 : Int32)), .val (.ref b1), .val (.ref b30)] []))
      refine Go.st (fun _ kq_ => XS.aloadN X44.here hx rfl (hb hby at_175) rfl rfl kq_) ?_
      show Go p e below s _ _ _ (T44.setTop (mkF m 176 #[.val (.int p0), .val (.int (7 : Int32)), .val (.ref b1), .val (.ref b30)] [(.ref b1)]))
      refine Go.st (fun _ kq_ => XS.iloadN X44.here hx rfl (hb hby at_176) rfl kq_) ?_
      show Go p e below s _ _ _ (T44.setTop (mkF m 177 #[.val (.int p0), .val (.int (7 : Int32)), .val (.ref b1), .val (.ref b30)] [(.int (7 : Int32)), (.ref b1)]))
      refine Go.st (fun _ kq_ => own_aaload X44 hx hZ e44 V_b1 rfl (by decide) (by decide) (v := (.ref (c 7))) rfl (g := (mkF m 177 #[.val (.int p0), .val (.int (7 : Int32)), .val (.ref b1), .val (.ref b30)] [(.int (7 : Int32)), (.ref b1)])) rfl rfl (hb hby at_177) _ kq_) ?_
      show Go p e below s _ _ _ (T44.setTop (mkF m 178 #[.val (.int p0), .val (.int (7 : Int32)), .val (.ref b1), .val (.ref b30)] [(.ref (c 7))]))
      obtain ⟨cq52, kq52, qa52, qb52, qc52⟩ := isOf hZ e44 ((HS.2.2.2.2.2.2.2.2.2.2.2.2.2.2.1 7 (by decide)).ext O44.2)
      obtain ⟨_, _, ⟨T52, L52, k52, n52⟩, -, X52, ⟨Lc52, hQ52, l52, y52, z52⟩, st52⟩ := X44.virtualBack hx (y := (⟨"com/example/arbora/arbora/sql/ValueType", "textMayBeEmpty", "()Z"⟩ : MethodName)) (z := (⟨"com/example/arbora/arbora/sql/ValueType", "textMayBeEmpty", "()Z"⟩ : MethodName)) hown (mvT hZ (own_w hw 34 rfl)) (mvT hZ (own_w hw 35 rfl)) (notFace_of_selects (args := #[]) (mvT hZ (own_w hw 37 rfl))) (mvT hZ (own_w hw 37 rfl)) (mvT hZ (own_w hw 36 rfl)) (by decide) (backOf (W := 0) (rm4 l Z a0 hw [] c 7 h44 n0 O44 HS) hZ (own_w hw 38 rfl) (own_w hw 4 rfl) (by decide) (by decide)) qa52 qc52 (g := (mkF m 178 #[.val (.int p0), .val (.int (7 : Int32)), .val (.ref b1), .val (.ref b30)] [(.ref (c 7))])) rfl (by rw [hml]; rfl) (Steps.refl _) (argsL := []) (rest := []) (lenOf pd0_0 rfl) rfl (by show 2 * 0 + _ ≤ _; exact Nat.le_of_eq rfl) (hb hby at_178) (fun _ _ => ⟨rfl, e44, (by decide : 2 + 0 ≤ _), (by decide : 28 + 0 ≤ _)⟩)
      dsimp only [Pt.U, Pt.locs, Pt.cells, Pt.slots] at X52 l52 y52 z52 st52 hQ52
      subst y52 z52
      obtain ⟨rfl, Nc52, e52⟩ := hQ52
      have N52 : Fr n0 L52 := by rw [l52]; exact Fr.app N44 Nc52
      rw [fTe_7 c HS.2.2.2.2.2.2.2.2.2.2.2.2.2.2.2] at st52
      refine Go.tr st52 ?_
      show Go p e below s _ _ _ (T52.setTop (mkF m 181 #[.val (.int p0), .val (.int (7 : Int32)), .val (.ref b1), .val (.ref b30)] [(.int (0 : Int32))]))
      refine Go.st (fun _ kq_ => XS.aloadN X52.here hx rfl (hb hby at_181) rfl rfl kq_) ?_
      show Go p e below s _ _ _ (T52.setTop (mkF m 182 #[.val (.int p0), .val (.int (7 : Int32)), .val (.ref b1), .val (.ref b30)] [(.ref b30), (.int (0 : Int32))]))
      refine Go.st (fun _ kq_ => XS.iloadN X52.here hx rfl (hb hby at_182) rfl kq_) ?_
      show Go p e below s _ _ _ (T52.setTop (mkF m 183 #[.val (.int p0), .val (.int (7 : Int32)), .val (.ref b1), .val (.ref b30)] [(.int (7 : Int32)), (.ref b30), (.int (0 : Int32))]))
      refine Go.st (fun _ kq_ => own_baloadZ X52 hx hZ e52 V_b30 (by decide) (by decide) (v := (.int (0 : Int32))) rfl (g := (mkF m 183 #[.val (.int p0), .val (.int (7 : Int32)), .val (.ref b1), .val (.ref b30)] [(.int (7 : Int32)), (.ref b30), (.int (0 : Int32))])) rfl rfl (hb hby at_183) _ kq_) ?_
      show Go p e below s _ _ _ (T52.setTop (mkF m 184 #[.val (.int p0), .val (.int (7 : Int32)), .val (.ref b1), .val (.ref b30)] [(.int (0 : Int32)), (.int (0 : Int32))]))
      refine Go.st (fun _ kq_ => XS.icmpNo X52.here hx rfl (hb hby at_184) rfl (by decide) kq_) ?_
      show Go p e below s _ _ _ (T52.setTop (mkF m 187 #[.val (.int p0), .val (.int (7 : Int32)), .val (.ref b1), .val (.ref b30)] []))
      refine Go.st (fun _ kq_ => XS.iconst X52.here hx rfl (hb hby at_187) kq_) ?_
      show Go p e below s _ _ _ (T52.setTop (mkF m 188 #[.val (.int p0), .val (.int (7 : Int32)), .val (.ref b1), .val (.ref b30)] [(.int (1 : Int32))]))
      refine Go.st (fun _ kq_ => XS.goto X52.here hx rfl (pc0 := 188) (pc' := 192) rfl (hb hby at_188) (by decide) (by decide) kq_) ?_
      show Go p e below s _ _ _ (T52.setTop (mkF m 192 #[.val (.int p0), .val (.int (7 : Int32)), .val (.ref b1), .val (.ref b30)] [(.int (1 : Int32))]))
      exact Go.ret X52 hlk (some (.int (nar .boolean (1 : Int32)))) (fun h => by rw [Bd.returns] at h; cases h) (by rw [e52]; exact ⟨rfl, N52⟩) (by decide) (by decide) (fun fs hr => retN X52 hx (t := .boolean) Bd.returns (by simp) (hb hby at_192) hr)
    · show Go p e below s _ _ _ (T44.setTop (mkF m 175 #[.val (.int p0), .val (.int (8 : Int32)), .val (.ref b1), .val (.ref b30)] []))
      refine Go.st (fun _ kq_ => XS.aloadN X44.here hx rfl (hb hby at_175) rfl rfl kq_) ?_
      show Go p e below s _ _ _ (T44.setTop (mkF m 176 #[.val (.int p0), .val (.int (8 : Int32)), .val (.ref b1), .val (.ref b30)] [(.ref b1)]))
      refine Go.st (fun _ kq_ => XS.iloadN X44.here hx rfl (hb hby at_176) rfl kq_) ?_
      show Go p e below s _ _ _ (T44.setTop (mkF m 177 #[.val (.int p0), .val (.int (8 : Int32)), .val (.ref b1), .val (.ref b30)] [(.int (8 : Int32)), (.ref b1)]))
      refine Go.st (fun _ kq_ => own_aaload X44 hx hZ e44 V_b1 rfl (by decide) (by decide) (v := (.ref (c 8))) rfl (g := (mkF m 177 #[.val (.int p0), .val (.int (8 : Int32)), .val (.ref b1), .val (.ref b30)] [(.int (8 : Int32)), (.ref b1)])) rfl rfl (hb hby at_177) _ kq_) ?_
      show Go p e below s _ _ _ (T44.setTop (mkF m 178 #[.val (.int p0), .val (.int (8 : Int32)), .val (.ref b1), .val (.ref b30)] [(.ref (c 8))]))
      obtain ⟨cq53, kq53, qa53, qb53, qc53⟩ := isOf hZ e44 ((HS.2.2.2.2.2.2.2.2.2.2.2.2.2.2.1 8 (by decide)).ext O44.2)
      obtain ⟨_, _, ⟨T53, L53, k53, n53⟩, -, X53, ⟨Lc53, hQ53, l53, y53, z53⟩, st53⟩ := X44.virtualBack hx (y := (⟨"com/example/arbora/arbora/sql/ValueType", "textMayBeEmpty", "()Z"⟩ : MethodName)) (z := (⟨"com/example/arbora/arbora/sql/ValueType", "textMayBeEmpty", "()Z"⟩ : MethodName)) hown (mvT hZ (own_w hw 34 rfl)) (mvT hZ (own_w hw 35 rfl)) (notFace_of_selects (args := #[]) (mvT hZ (own_w hw 37 rfl))) (mvT hZ (own_w hw 37 rfl)) (mvT hZ (own_w hw 36 rfl)) (by decide) (backOf (W := 0) (rm4 l Z a0 hw [] c 8 h44 n0 O44 HS) hZ (own_w hw 38 rfl) (own_w hw 4 rfl) (by decide) (by decide)) qa53 qc53 (g := (mkF m 178 #[.val (.int p0), .val (.int (8 : Int32)), .val (.ref b1), .val (.ref b30)] [(.ref (c 8))])) rfl (by rw [hml]; rfl) (Steps.refl _) (argsL := []) (rest := []) (lenOf pd0_0 rfl) rfl (by show 2 * 0 + _ ≤ _; exact Nat.le_of_eq rfl) (hb hby at_178) (fun _ _ => ⟨rfl, e44, (by decide : 2 + 0 ≤ _), (by decide : 28 + 0 ≤ _)⟩)
      dsimp only [Pt.U, Pt.locs, Pt.cells, Pt.slots] at X53 l53 y53 z53 st53 hQ53
      subst y53 z53
      obtain ⟨rfl, Nc53, e53⟩ := hQ53
      have N53 : Fr n0 L53 := by rw [l53]; exact Fr.app N44 Nc53
      rw [fTe_8 c HS.2.2.2.2.2.2.2.2.2.2.2.2.2.2.2] at st53
      refine Go.tr st53 ?_
      show Go p e below s _ _ _ (T53.setTop (mkF m 181 #[.val (.int p0), .val (.int (8 : Int32)), .val (.ref b1), .val (.ref b30)] [(.int (0 : Int32))]))
      refine Go.st (fun _ kq_ => XS.aloadN X53.here hx rfl (hb hby at_181) rfl rfl kq_) ?_
      show Go p e below s _ _ _ (T53.setTop (mkF m 182 #[.val (.int p0), .val (.int (8 : Int32)), .val (.ref b1), .val (.ref b30)] [(.ref b30), (.int (0 : Int32))]))
      refine Go.st (fun _ kq_ => XS.iloadN X53.here hx rfl (hb hby at_182) rfl kq_) ?_
      show Go p e below s _ _ _ (T53.setTop (mkF m 183 #[.val (.int p0), .val (.int (8 : Int32)), .val (.ref b1), .val (.ref b30)] [(.int (8 : Int32)), (.ref b30), (.int (0 : Int32))]))
      refine Go.st (fun _ kq_ => own_baloadZ X53 hx hZ e53 V_b30 (by decide) (by decide) (v := (.int (0 : Int32))) rfl (g := (mkF m 183 #[.val (.int p0), .val (.int (8 : Int32)), .val (.ref b1), .val (.ref b30)] [(.int (8 : Int32)), (.ref b30), (.int (0 : Int32))])) rfl rfl (hb hby at_183) _ kq_) ?_
      show Go p e below s _ _ _ (T53.setTop (mkF m 184 #[.val (.int p0), .val (.int (8 : Int32)), .val (.ref b1), .val (.ref b30)] [(.int (0 : Int32)), (.int (0 : Int32))]))
      refine Go.st (fun _ kq_ => XS.icmpNo X53.here hx rfl (hb hby at_184) rfl (by decide) kq_) ?_
      show Go p e below s _ _ _ (T53.setTop (mkF m 187 #[.val (.int p0), .val (.int (8 : Int32)), .val (.ref b1), .val (.ref b30)] []))
      refine Go.st (fun _ kq_ => XS.iconst X53.here hx rfl (hb hby at_187) kq_) ?_
      show Go p e below s _ _ _ (T53.setTop (mkF m 188 #[.val (.int p0), .val (.int (8 : Int32)), .val (.ref b1), .val (.ref b30)] [(.int (1 : Int32))]))
      refine Go.st (fun _ kq_ => XS.goto X53.here hx rfl (pc0 := 188) (pc' := 192) rfl (hb hby at_188) (by decide) (by decide) kq_) ?_
      show Go p e below s _ _ _ (T53.setTop (mkF m 192 #[.val (.int p0), .val (.int (8 : Int32)), .val (.ref b1), .val (.ref b30)] [(.int (1 : Int32))]))
      exact Go.ret X53 hlk (some (.int (nar .boolean (1 : Int32)))) (fun h => by rw [Bd.returns] at h; cases h) (by rw [e53]; exact ⟨rfl, N53⟩) (by decide) (by decide) (fun fs hr => retN X53 hx (t := .boolean) Bd.returns (by simp) (hb hby at_192) hr)
    · show Go p e below s _ _ _ (T44.setTop (mkF m 175 #[.val (.int p0), .val (.int (9 : Int32)), .val (.ref b1), .val (.ref b30)] []))
      refine Go.st (fun _ kq_ => XS.aloadN X44.here hx rfl (hb hby at_175) rfl rfl kq_) ?_
      show Go p e below s _ _ _ (T44.setTop (mkF m 176 #[.val (.int p0), .val (.int (9 : Int32)), .val (.ref b1), .val (.ref b30)] [(.ref b1)]))
      refine Go.st (fun _ kq_ => XS.iloadN X44.here hx rfl (hb hby at_176) rfl kq_) ?_
      show Go p e below s _ _ _ (T44.setTop (mkF m 177 #[.val (.int p0), .val (.int (9 : Int32)), .val (.ref b1), .val (.ref b30)] [(.int (9 : Int32)), (.ref b1)]))
      refine Go.st (fun _ kq_ => own_aaload X44 hx hZ e44 V_b1 rfl (by decide) (by decide) (v := (.ref (c 9))) rfl (g := (mkF m 177 #[.val (.int p0), .val (.int (9 : Int32)), .val (.ref b1), .val (.ref b30)] [(.int (9 : Int32)), (.ref b1)])) rfl rfl (hb hby at_177) _ kq_) ?_
      show Go p e below s _ _ _ (T44.setTop (mkF m 178 #[.val (.int p0), .val (.int (9 : Int32)), .val (.ref b1), .val (.ref b30)] [(.ref (c 9))]))
      obtain ⟨cq54, kq54, qa54, qb54, qc54⟩ := isOf hZ e44 ((HS.2.2.2.2.2.2.2.2.2.2.2.2.2.2.1 9 (by decide)).ext O44.2)
      obtain ⟨_, _, ⟨T54, L54, k54, n54⟩, -, X54, ⟨Lc54, hQ54, l54, y54, z54⟩, st54⟩ := X44.virtualBack hx (y := (⟨"com/example/arbora/arbora/sql/ValueType", "textMayBeEmpty", "()Z"⟩ : MethodName)) (z := (⟨"com/example/arbora/arbora/sql/ValueType", "textMayBeEmpty", "()Z"⟩ : MethodName)) hown (mvT hZ (own_w hw 34 rfl)) (mvT hZ (own_w hw 35 rfl)) (notFace_of_selects (args := #[]) (mvT hZ (own_w hw 37 rfl))) (mvT hZ (own_w hw 37 rfl)) (mvT hZ (own_w hw 36 rfl)) (by decide) (backOf (W := 0) (rm4 l Z a0 hw [] c 9 h44 n0 O44 HS) hZ (own_w hw 38 rfl) (own_w hw 4 rfl) (by decide) (by decide)) qa54 qc54 (g := (mkF m 178 #[.val (.int p0), .val (.int (9 : Int32)), .val (.ref b1), .val (.ref b30)] [(.ref (c 9))])) rfl (by rw [hml]; rfl) (Steps.refl _) (argsL := []) (rest := []) (lenOf pd0_0 rfl) rfl (by show 2 * 0 + _ ≤ _; exact Nat.le_of_eq rfl) (hb hby at_178) (fun _ _ => ⟨rfl, e44, (by decide : 2 + 0 ≤ _), (by decide : 28 + 0 ≤ _)⟩)
      dsimp only [Pt.U, Pt.locs, Pt.cells, Pt.slots] at X54 l54 y54 z54 st54 hQ54
      subst y54 z54
      obtain ⟨rfl, Nc54, e54⟩ := hQ54
      have N54 : Fr n0 L54 := by rw [l54]; exact Fr.app N44 Nc54
      rw [fTe_9 c HS.2.2.2.2.2.2.2.2.2.2.2.2.2.2.2] at st54
      refine Go.tr st54 ?_
      show Go p e below s _ _ _ (T54.setTop (mkF m 181 #[.val (.int p0), .val (.int (9 : Int32)), .val (.ref b1), .val (.ref b30)] [(.int (0 : Int32))]))
      refine Go.st (fun _ kq_ => XS.aloadN X54.here hx rfl (hb hby at_181) rfl rfl kq_) ?_
      show Go p e below s _ _ _ (T54.setTop (mkF m 182 #[.val (.int p0), .val (.int (9 : Int32)), .val (.ref b1), .val (.ref b30)] [(.ref b30), (.int (0 : Int32))]))
      refine Go.st (fun _ kq_ => XS.iloadN X54.here hx rfl (hb hby at_182) rfl kq_) ?_
      show Go p e below s _ _ _ (T54.setTop (mkF m 183 #[.val (.int p0), .val (.int (9 : Int32)), .val (.ref b1), .val (.ref b30)] [(.int (9 : Int32)), (.ref b30), (.int (0 : Int32))]))
      refine Go.st (fun _ kq_ => own_baloadZ X54 hx hZ e54 V_b30 (by decide) (by decide) (v := (.int (0 : Int32))) rfl (g := (mkF m 183 #[.val (.int p0), .val (.int (9 : Int32)), .val (.ref b1), .val (.ref b30)] [(.int (9 : Int32)), (.ref b30), (.int (0 : Int32))])) rfl rfl (hb hby at_183) _ kq_) ?_
      show Go p e below s _ _ _ (T54.setTop (mkF m 184 #[.val (.int p0), .val (.int (9 : Int32)), .val (.ref b1), .val (.ref b30)] [(.int (0 : Int32)), (.int (0 : Int32))]))
      refine Go.st (fun _ kq_ => XS.icmpNo X54.here hx rfl (hb hby at_184) rfl (by decide) kq_) ?_
      show Go p e below s _ _ _ (T54.setTop (mkF m 187 #[.val (.int p0), .val (.int (9 : Int32)), .val (.ref b1), .val (.ref b30)] []))
      refine Go.st (fun _ kq_ => XS.iconst X54.here hx rfl (hb hby at_187) kq_) ?_
      show Go p e below s _ _ _ (T54.setTop (mkF m 188 #[.val (.int p0), .val (.int (9 : Int32)), .val (.ref b1), .val (.ref b30)] [(.int (1 : Int32))]))
      refine Go.st (fun _ kq_ => XS.goto X54.here hx rfl (pc0 := 188) (pc' := 192) rfl (hb hby at_188) (by decide) (by decide) kq_) ?_
      show Go p e below s _ _ _ (T54.setTop (mkF m 192 #[.val (.int p0), .val (.int (9 : Int32)), .val (.ref b1), .val (.ref b30)] [(.int (1 : Int32))]))
      exact Go.ret X54 hlk (some (.int (nar .boolean (1 : Int32)))) (fun h => by rw [Bd.returns] at h; cases h) (by rw [e54]; exact ⟨rfl, N54⟩) (by decide) (by decide) (fun fs hr => retN X54 hx (t := .boolean) Bd.returns (by simp) (hb hby at_192) hr)
    · show Go p e below s _ _ _ (T44.setTop (mkF m 175 #[.val (.int p0), .val (.int (10 : Int32)), .val (.ref b1), .val (.ref b30)] []))
      refine Go.st (fun _ kq_ => XS.aloadN X44.here hx rfl (hb hby at_175) rfl rfl kq_) ?_
      show Go p e below s _ _ _ (T44.setTop (mkF m 176 #[.val (.int p0), .val (.int (10 : Int32)), .val (.ref b1), .val (.ref b30)] [(.ref b1)]))
      refine Go.st (fun _ kq_ => XS.iloadN X44.here hx rfl (hb hby at_176) rfl kq_) ?_
      show Go p e below s _ _ _ (T44.setTop (mkF m 177 #[.val (.int p0), .val (.int (10 : Int32)), .val (.ref b1), .val (.ref b30)] [(.int (10 : Int32)), (.ref b1)]))
      refine Go.st (fun _ kq_ => own_aaload X44 hx hZ e44 V_b1 rfl (by decide) (by decide) (v := (.ref (c 10))) rfl (g := (mkF m 177 #[.val (.int p0), .val (.int (10 : Int32)), .val (.ref b1), .val (.ref b30)] [(.int (10 : Int32)), (.ref b1)])) rfl rfl (hb hby at_177) _ kq_) ?_
      show Go p e below s _ _ _ (T44.setTop (mkF m 178 #[.val (.int p0), .val (.int (10 : Int32)), .val (.ref b1), .val (.ref b30)] [(.ref (c 10))]))
      obtain ⟨cq55, kq55, qa55, qb55, qc55⟩ := isOf hZ e44 ((HS.2.2.2.2.2.2.2.2.2.2.2.2.2.2.1 10 (by decide)).ext O44.2)
      obtain ⟨_, _, ⟨T55, L55, k55, n55⟩, -, X55, ⟨Lc55, hQ55, l55, y55, z55⟩, st55⟩ := X44.virtualBack hx (y := (⟨"com/example/arbora/arbora/sql/ValueType", "textMayBeEmpty", "()Z"⟩ : MethodName)) (z := (⟨"com/example/arbora/arbora/sql/ValueType", "textMayBeEmpty", "()Z"⟩ : MethodName)) hown (mvT hZ (own_w hw 34 rfl)) (mvT hZ (own_w hw 35 rfl)) (notFace_of_selects (args := #[]) (mvT hZ (own_w hw 37 rfl))) (mvT hZ (own_w hw 37 rfl)) (mvT hZ (own_w hw 36 rfl)) (by decide) (backOf (W := 0) (rm4 l Z a0 hw [] c 10 h44 n0 O44 HS) hZ (own_w hw 38 rfl) (own_w hw 4 rfl) (by decide) (by decide)) qa55 qc55 (g := (mkF m 178 #[.val (.int p0), .val (.int (10 : Int32)), .val (.ref b1), .val (.ref b30)] [(.ref (c 10))])) rfl (by rw [hml]; rfl) (Steps.refl _) (argsL := []) (rest := []) (lenOf pd0_0 rfl) rfl (by show 2 * 0 + _ ≤ _; exact Nat.le_of_eq rfl) (hb hby at_178) (fun _ _ => ⟨rfl, e44, (by decide : 2 + 0 ≤ _), (by decide : 28 + 0 ≤ _)⟩)
      dsimp only [Pt.U, Pt.locs, Pt.cells, Pt.slots] at X55 l55 y55 z55 st55 hQ55
      subst y55 z55
      obtain ⟨rfl, Nc55, e55⟩ := hQ55
      have N55 : Fr n0 L55 := by rw [l55]; exact Fr.app N44 Nc55
      rw [fTe_10 c HS.2.2.2.2.2.2.2.2.2.2.2.2.2.2.2] at st55
      refine Go.tr st55 ?_
      show Go p e below s _ _ _ (T55.setTop (mkF m 181 #[.val (.int p0), .val (.int (10 : Int32)), .val (.ref b1), .val (.ref b30)] [(.int (1 : Int32))]))
      refine Go.st (fun _ kq_ => XS.aloadN X55.here hx rfl (hb hby at_181) rfl rfl kq_) ?_
      show Go p e below s _ _ _ (T55.setTop (mkF m 182 #[.val (.int p0), .val (.int (10 : Int32)), .val (.ref b1), .val (.ref b30)] [(.ref b30), (.int (1 : Int32))]))
      refine Go.st (fun _ kq_ => XS.iloadN X55.here hx rfl (hb hby at_182) rfl kq_) ?_
      show Go p e below s _ _ _ (T55.setTop (mkF m 183 #[.val (.int p0), .val (.int (10 : Int32)), .val (.ref b1), .val (.ref b30)] [(.int (10 : Int32)), (.ref b30), (.int (1 : Int32))]))
      refine Go.st (fun _ kq_ => own_baloadZ X55 hx hZ e55 V_b30 (by decide) (by decide) (v := (.int (1 : Int32))) rfl (g := (mkF m 183 #[.val (.int p0), .val (.int (10 : Int32)), .val (.ref b1), .val (.ref b30)] [(.int (10 : Int32)), (.ref b30), (.int (1 : Int32))])) rfl rfl (hb hby at_183) _ kq_) ?_
      show Go p e below s _ _ _ (T55.setTop (mkF m 184 #[.val (.int p0), .val (.int (10 : Int32)), .val (.ref b1), .val (.ref b30)] [(.int (1 : Int32)), (.int (1 : Int32))]))
      refine Go.st (fun _ kq_ => XS.icmpNo X55.here hx rfl (hb hby at_184) rfl (by decide) kq_) ?_
      show Go p e below s _ _ _ (T55.setTop (mkF m 187 #[.val (.int p0), .val (.int (10 : Int32)), .val (.ref b1), .val (.ref b30)] []))
      refine Go.st (fun _ kq_ => XS.iconst X55.here hx rfl (hb hby at_187) kq_) ?_
      show Go p e below s _ _ _ (T55.setTop (mkF m 188 #[.val (.int p0), .val (.int (10 : Int32)), .val (.ref b1), .val (.ref b30)] [(.int (1 : Int32))]))
      refine Go.st (fun _ kq_ => XS.goto X55.here hx rfl (pc0 := 188) (pc' := 192) rfl (hb hby at_188) (by decide) (by decide) kq_) ?_
      show Go p e below s _ _ _ (T55.setTop (mkF m 192 #[.val (.int p0), .val (.int (10 : Int32)), .val (.ref b1), .val (.ref b30)] [(.int (1 : Int32))]))
      exact Go.ret X55 hlk (some (.int (nar .boolean (1 : Int32)))) (fun h => by rw [Bd.returns] at h; cases h) (by rw [e55]; exact ⟨rfl, N55⟩) (by decide) (by decide) (fun fs hr => retN X55 hx (t := .boolean) Bd.returns (by simp) (hb hby at_192) hr)
    · show Go p e below s _ _ _ (T44.setTop (mkF m 175 #[.val (.int p0), .val (.int (11 : Int32)), .val (.ref b1), .val (.ref b30)] []))
      refine Go.st (fun _ kq_ => XS.aloadN X44.here hx rfl (hb hby at_175) rfl rfl kq_) ?_
      show Go p e below s _ _ _ (T44.setTop (mkF m 176 #[.val (.int p0), .val (.int (11 : Int32)), .val (.ref b1), .val (.ref b30)] [(.ref b1)]))
      refine Go.st (fun _ kq_ => XS.iloadN X44.here hx rfl (hb hby at_176) rfl kq_) ?_
      show Go p e below s _ _ _ (T44.setTop (mkF m 177 #[.val (.int p0), .val (.int (11 : Int32)), .val (.ref b1), .val (.ref b30)] [(.int (11 : Int32)), (.ref b1)]))
      refine Go.st (fun _ kq_ => own_aaload X44 hx hZ e44 V_b1 rfl (by decide) (by decide) (v := (.ref (c 11))) rfl (g := (mkF m 177 #[.val (.int p0), .val (.int (11 : Int32)), .val (.ref b1), .val (.ref b30)] [(.int (11 : Int32)), (.ref b1)])) rfl rfl (hb hby at_177) _ kq_) ?_
      show Go p e below s _ _ _ (T44.setTop (mkF m 178 #[.val (.int p0), .val (.int (11 : Int32)), .val (.ref b1), .val (.ref b30)] [(.ref (c 11))]))
      obtain ⟨cq56, kq56, qa56, qb56, qc56⟩ := isOf hZ e44 ((HS.2.2.2.2.2.2.2.2.2.2.2.2.2.2.1 11 (by decide)).ext O44.2)
      obtain ⟨_, _, ⟨T56, L56, k56, n56⟩, -, X56, ⟨Lc56, hQ56, l56, y56, z56⟩, st56⟩ := X44.virtualBack hx (y := (⟨"com/example/arbora/arbora/sql/ValueType", "textMayBeEmpty", "()Z"⟩ : MethodName)) (z := (⟨"com/example/arbora/arbora/sql/ValueType", "textMayBeEmpty", "()Z"⟩ : MethodName)) hown (mvT hZ (own_w hw 34 rfl)) (mvT hZ (own_w hw 35 rfl)) (notFace_of_selects (args := #[]) (mvT hZ (own_w hw 37 rfl))) (mvT hZ (own_w hw 37 rfl)) (mvT hZ (own_w hw 36 rfl)) (by decide) (backOf (W := 0) (rm4 l Z a0 hw [] c 11 h44 n0 O44 HS) hZ (own_w hw 38 rfl) (own_w hw 4 rfl) (by decide) (by decide)) qa56 qc56 (g := (mkF m 178 #[.val (.int p0), .val (.int (11 : Int32)), .val (.ref b1), .val (.ref b30)] [(.ref (c 11))])) rfl (by rw [hml]; rfl) (Steps.refl _) (argsL := []) (rest := []) (lenOf pd0_0 rfl) rfl (by show 2 * 0 + _ ≤ _; exact Nat.le_of_eq rfl) (hb hby at_178) (fun _ _ => ⟨rfl, e44, (by decide : 2 + 0 ≤ _), (by decide : 28 + 0 ≤ _)⟩)
      dsimp only [Pt.U, Pt.locs, Pt.cells, Pt.slots] at X56 l56 y56 z56 st56 hQ56
      subst y56 z56
      obtain ⟨rfl, Nc56, e56⟩ := hQ56
      have N56 : Fr n0 L56 := by rw [l56]; exact Fr.app N44 Nc56
      rw [fTe_11 c HS.2.2.2.2.2.2.2.2.2.2.2.2.2.2.2] at st56
      refine Go.tr st56 ?_
      show Go p e below s _ _ _ (T56.setTop (mkF m 181 #[.val (.int p0), .val (.int (11 : Int32)), .val (.ref b1), .val (.ref b30)] [(.int (0 : Int32))]))
      refine Go.st (fun _ kq_ => XS.aloadN X56.here hx rfl (hb hby at_181) rfl rfl kq_) ?_
      show Go p e below s _ _ _ (T56.setTop (mkF m 182 #[.val (.int p0), .val (.int (11 : Int32)), .val (.ref b1), .val (.ref b30)] [(.ref b30), (.int (0 : Int32))]))
      refine Go.st (fun _ kq_ => XS.iloadN X56.here hx rfl (hb hby at_182) rfl kq_) ?_
      show Go p e below s _ _ _ (T56.setTop (mkF m 183 #[.val (.int p0), .val (.int (11 : Int32)), .val (.ref b1), .val (.ref b30)] [(.int (11 : Int32)), (.ref b30), (.int (0 : Int32))]))
      refine Go.st (fun _ kq_ => own_baloadZ X56 hx hZ e56 V_b30 (by decide) (by decide) (v := (.int (0 : Int32))) rfl (g := (mkF m 183 #[.val (.int p0), .val (.int (11 : Int32)), .val (.ref b1), .val (.ref b30)] [(.int (11 : Int32)), (.ref b30), (.int (0 : Int32))])) rfl rfl (hb hby at_183) _ kq_) ?_
      show Go p e below s _ _ _ (T56.setTop (mkF m 184 #[.val (.int p0), .val (.int (11 : Int32)), .val (.ref b1), .val (.ref b30)] [(.int (0 : Int32)), (.int (0 : Int32))]))
      refine Go.st (fun _ kq_ => XS.icmpNo X56.here hx rfl (hb hby at_184) rfl (by decide) kq_) ?_
      show Go p e below s _ _ _ (T56.setTop (mkF m 187 #[.val (.int p0), .val (.int (11 : Int32)), .val (.ref b1), .val (.ref b30)] []))
      refine Go.st (fun _ kq_ => XS.iconst X56.here hx rfl (hb hby at_187) kq_) ?_
      show Go p e below s _ _ _ (T56.setTop (mkF m 188 #[.val (.int p0), .val (.int (11 : Int32)), .val (.ref b1), .val (.ref b30)] [(.int (1 : Int32))]))
      refine Go.st (fun _ kq_ => XS.goto X56.here hx rfl (pc0 := 188) (pc' := 192) rfl (hb hby at_188) (by decide) (by decide) kq_) ?_
      show Go p e below s _ _ _ (T56.setTop (mkF m 192 #[.val (.int p0), .val (.int (11 : Int32)), .val (.ref b1), .val (.ref b30)] [(.int (1 : Int32))]))
      exact Go.ret X56 hlk (some (.int (nar .boolean (1 : Int32)))) (fun h => by rw [Bd.returns] at h; cases h) (by rw [e56]; exact ⟨rfl, N56⟩) (by decide) (by decide) (fun fs hr => retN X56 hx (t := .boolean) Bd.returns (by simp) (hb hby at_192) hr)
    · show Go p e below s _ _ _ (T44.setTop (mkF m 175 #[.val (.int p0), .val (.int (12 : Int32)), .val (.ref b1), .val (.ref b30)] []))
      refine Go.st (fun _ kq_ => XS.aloadN X44.here hx rfl (hb hby at_175) rfl rfl kq_) ?_
      show Go p e below s _ _ _ (T44.setTop (mkF m 176 #[.val (.int p0), .val (.int (12 : Int32)), .val (.ref b1), .val (.ref b30)] [(.ref b1)]))
      refine Go.st (fun _ kq_ => XS.iloadN X44.here hx rfl (hb hby at_176) rfl kq_) ?_
      show Go p e below s _ _ _ (T44.setTop (mkF m 177 #[.val (.int p0), .val (.int (12 : Int32)), .val (.ref b1), .val (.ref b30)] [(.int (12 : Int32)), (.ref b1)]))
      refine Go.st (fun _ kq_ => own_aaload X44 hx hZ e44 V_b1 rfl (by decide) (by decide) (v := (.ref (c 12))) rfl (g := (mkF m 177 #[.val (.int p0), .val (.int (12 : Int32)), .val (.ref b1), .val (.ref b30)] [(.int (12 : Int32)), (.ref b1)])) rfl rfl (hb hby at_177) _ kq_) ?_
      show Go p e below s _ _ _ (T44.setTop (mkF m 178 #[.val (.int p0), .val (.int (12 : Int32)), .val (.ref b1), .val (.ref b30)] [(.ref (c 12))]))
      obtain ⟨cq57, kq57, qa57, qb57, qc57⟩ := isOf hZ e44 ((HS.2.2.2.2.2.2.2.2.2.2.2.2.2.2.1 12 (by decide)).ext O44.2)
      obtain ⟨_, _, ⟨T57, L57, k57, n57⟩, -, X57, ⟨Lc57, hQ57, l57, y57, z57⟩, st57⟩ := X44.virtualBack hx (y := (⟨"com/example/arbora/arbora/sql/ValueType", "textMayBeEmpty", "()Z"⟩ : MethodName)) (z := (⟨"com/example/arbora/arbora/sql/ValueType", "textMayBeEmpty", "()Z"⟩ : MethodName)) hown (mvT hZ (own_w hw 34 rfl)) (mvT hZ (own_w hw 35 rfl)) (notFace_of_selects (args := #[]) (mvT hZ (own_w hw 37 rfl))) (mvT hZ (own_w hw 37 rfl)) (mvT hZ (own_w hw 36 rfl)) (by decide) (backOf (W := 0) (rm4 l Z a0 hw [] c 12 h44 n0 O44 HS) hZ (own_w hw 38 rfl) (own_w hw 4 rfl) (by decide) (by decide)) qa57 qc57 (g := (mkF m 178 #[.val (.int p0), .val (.int (12 : Int32)), .val (.ref b1), .val (.ref b30)] [(.ref (c 12))])) rfl (by rw [hml]; rfl) (Steps.refl _) (argsL := []) (rest := []) (lenOf pd0_0 rfl) rfl (by show 2 * 0 + _ ≤ _; exact Nat.le_of_eq rfl) (hb hby at_178) (fun _ _ => ⟨rfl, e44, (by decide : 2 + 0 ≤ _), (by decide : 28 + 0 ≤ _)⟩)
      dsimp only [Pt.U, Pt.locs, Pt.cells, Pt.slots] at X57 l57 y57 z57 st57 hQ57
      subst y57 z57
      obtain ⟨rfl, Nc57, e57⟩ := hQ57
      have N57 : Fr n0 L57 := by rw [l57]; exact Fr.app N44 Nc57
      rw [fTe_12 c HS.2.2.2.2.2.2.2.2.2.2.2.2.2.2.2] at st57
      refine Go.tr st57 ?_
      show Go p e below s _ _ _ (T57.setTop (mkF m 181 #[.val (.int p0), .val (.int (12 : Int32)), .val (.ref b1), .val (.ref b30)] [(.int (0 : Int32))]))
      refine Go.st (fun _ kq_ => XS.aloadN X57.here hx rfl (hb hby at_181) rfl rfl kq_) ?_
      show Go p e below s _ _ _ (T57.setTop (mkF m 182 #[.val (.int p0), .val (.int (12 : Int32)), .val (.ref b1), .val (.ref b30)] [(.ref b30), (.int (0 : Int32))]))
      refine Go.st (fun _ kq_ => XS.iloadN X57.here hx rfl (hb hby at_182) rfl kq_) ?_
      show Go p e below s _ _ _ (T57.setTop (mkF m 183 #[.val (.int p0), .val (.int (12 : Int32)), .val (.ref b1), .val (.ref b30)] [(.int (12 : Int32)), (.ref b30), (.int (0 : Int32))]))
      refine Go.st (fun _ kq_ => own_baloadZ X57 hx hZ e57 V_b30 (by decide) (by decide) (v := (.int (0 : Int32))) rfl (g := (mkF m 183 #[.val (.int p0), .val (.int (12 : Int32)), .val (.ref b1), .val (.ref b30)] [(.int (12 : Int32)), (.ref b30), (.int (0 : Int32))])) rfl rfl (hb hby at_183) _ kq_) ?_
      show Go p e below s _ _ _ (T57.setTop (mkF m 184 #[.val (.int p0), .val (.int (12 : Int32)), .val (.ref b1), .val (.ref b30)] [(.int (0 : Int32)), (.int (0 : Int32))]))
      refine Go.st (fun _ kq_ => XS.icmpNo X57.here hx rfl (hb hby at_184) rfl (by decide) kq_) ?_
      show Go p e below s _ _ _ (T57.setTop (mkF m 187 #[.val (.int p0), .val (.int (12 : Int32)), .val (.ref b1), .val (.ref b30)] []))
      refine Go.st (fun _ kq_ => XS.iconst X57.here hx rfl (hb hby at_187) kq_) ?_
      show Go p e below s _ _ _ (T57.setTop (mkF m 188 #[.val (.int p0), .val (.int (12 : Int32)), .val (.ref b1), .val (.ref b30)] [(.int (1 : Int32))]))
      refine Go.st (fun _ kq_ => XS.goto X57.here hx rfl (pc0 := 188) (pc' := 192) rfl (hb hby at_188) (by decide) (by decide) kq_) ?_
      show Go p e below s _ _ _ (T57.setTop (mkF m 192 #[.val (.int p0), .val (.int (12 : Int32)), .val (.ref b1), .val (.ref b30)] [(.int (1 : Int32))]))
      exact Go.ret X57 hlk (some (.int (nar .boolean (1 : Int32)))) (fun h => by rw [Bd.returns] at h; cases h) (by rw [e57]; exact ⟨rfl, N57⟩) (by decide) (by decide) (fun fs hr => retN X57 hx (t := .boolean) Bd.returns (by simp) (hb hby at_192) hr)
    · show Go p e below s _ _ _ (T44.setTop (mkF m 175 #[.val (.int p0), .val (.int (13 : Int32)), .val (.ref b1), .val (.ref b30)] []))
      refine Go.st (fun _ kq_ => XS.aloadN X44.here hx rfl (hb hby at_175) rfl rfl kq_) ?_
      show Go p e below s _ _ _ (T44.setTop (mkF m 176 #[.val (.int p0), .val (.int (13 : Int32)), .val (.ref b1), .val (.ref b30)] [(.ref b1)]))
      refine Go.st (fun _ kq_ => XS.iloadN X44.here hx rfl (hb hby at_176) rfl kq_) ?_
      show Go p e below s _ _ _ (T44.setTop (mkF m 177 #[.val (.int p0), .val (.int (13 : Int32)), .val (.ref b1), .val (.ref b30)] [(.int (13 : Int32)), (.ref b1)]))
      refine Go.st (fun _ kq_ => own_aaload X44 hx hZ e44 V_b1 rfl (by decide) (by decide) (v := (.ref (c 13))) rfl (g := (mkF m 177 #[.val (.int p0), .val (.int (13 : Int32)), .val (.ref b1), .val (.ref b30)] [(.int (13 : Int32)), (.ref b1)])) rfl rfl (hb hby at_177) _ kq_) ?_
      show Go p e below s _ _ _ (T44.setTop (mkF m 178 #[.val (.int p0), .val (.int (13 : Int32)), .val (.ref b1), .val (.ref b30)] [(.ref (c 13))]))
      obtain ⟨cq58, kq58, qa58, qb58, qc58⟩ := isOf hZ e44 ((HS.2.2.2.2.2.2.2.2.2.2.2.2.2.2.1 13 (by decide)).ext O44.2)
      obtain ⟨_, _, ⟨T58, L58, k58, n58⟩, -, X58, ⟨Lc58, hQ58, l58, y58, z58⟩, st58⟩ := X44.virtualBack hx (y := (⟨"com/example/arbora/arbora/sql/ValueType", "textMayBeEmpty", "()Z"⟩ : MethodName)) (z := (⟨"com/example/arbora/arbora/sql/ValueType", "textMayBeEmpty", "()Z"⟩ : MethodName)) hown (mvT hZ (own_w hw 34 rfl)) (mvT hZ (own_w hw 35 rfl)) (notFace_of_selects (args := #[]) (mvT hZ (own_w hw 37 rfl))) (mvT hZ (own_w hw 37 rfl)) (mvT hZ (own_w hw 36 rfl)) (by decide) (backOf (W := 0) (rm4 l Z a0 hw [] c 13 h44 n0 O44 HS) hZ (own_w hw 38 rfl) (own_w hw 4 rfl) (by decide) (by decide)) qa58 qc58 (g := (mkF m 178 #[.val (.int p0), .val (.int (13 : Int32)), .val (.ref b1), .val (.ref b30)] [(.ref (c 13))])) rfl (by rw [hml]; rfl) (Steps.refl _) (argsL := []) (rest := []) (lenOf pd0_0 rfl) rfl (by show 2 * 0 + _ ≤ _; exact Nat.le_of_eq rfl) (hb hby at_178) (fun _ _ => ⟨rfl, e44, (by decide : 2 + 0 ≤ _), (by decide : 28 + 0 ≤ _)⟩)
      dsimp only [Pt.U, Pt.locs, Pt.cells, Pt.slots] at X58 l58 y58 z58 st58 hQ58
      subst y58 z58
      obtain ⟨rfl, Nc58, e58⟩ := hQ58
      have N58 : Fr n0 L58 := by rw [l58]; exact Fr.app N44 Nc58
      rw [fTe_13 c HS.2.2.2.2.2.2.2.2.2.2.2.2.2.2.2] at st58
      refine Go.tr st58 ?_
      show Go p e below s _ _ _ (T58.setTop (mkF m 181 #[.val (.int p0), .val (.int (13 : Int32)), .val (.ref b1), .val (.ref b30)] [(.int (0 : Int32))]))
      refine Go.st (fun _ kq_ => XS.aloadN X58.here hx rfl (hb hby at_181) rfl rfl kq_) ?_
      show Go p e below s _ _ _ (T58.setTop (mkF m 182 #[.val (.int p0), .val (.int (13 : Int32)), .val (.ref b1), .val (.ref b30)] [(.ref b30), (.int (0 : Int32))]))
      refine Go.st (fun _ kq_ => XS.iloadN X58.here hx rfl (hb hby at_182) rfl kq_) ?_
      show Go p e below s _ _ _ (T58.setTop (mkF m 183 #[.val (.int p0), .val (.int (13 : Int32)), .val (.ref b1), .val (.ref b30)] [(.int (13 : Int32)), (.ref b30), (.int (0 : Int32))]))
      refine Go.st (fun _ kq_ => own_baloadZ X58 hx hZ e58 V_b30 (by decide) (by decide) (v := (.int (0 : Int32))) rfl (g := (mkF m 183 #[.val (.int p0), .val (.int (13 : Int32)), .val (.ref b1), .val (.ref b30)] [(.int (13 : Int32)), (.ref b30), (.int (0 : Int32))])) rfl rfl (hb hby at_183) _ kq_) ?_
      show Go p e below s _ _ _ (T58.setTop (mkF m 184 #[.val (.int p0), .val (.int (13 : Int32)), .val (.ref b1), .val (.ref b30)] [(.int (0 : Int32)), (.int (0 : Int32))]))
      refine Go.st (fun _ kq_ => XS.icmpNo X58.here hx rfl (hb hby at_184) rfl (by decide) kq_) ?_
      show Go p e below s _ _ _ (T58.setTop (mkF m 187 #[.val (.int p0), .val (.int (13 : Int32)), .val (.ref b1), .val (.ref b30)] []))
      refine Go.st (fun _ kq_ => XS.iconst X58.here hx rfl (hb hby at_187) kq_) ?_
      show Go p e below s _ _ _ (T58.setTop (mkF m 188 #[.val (.int p0), .val (.int (13 : Int32)), .val (.ref b1), .val (.ref b30)] [(.int (1 : Int32))]))
      refine Go.st (fun _ kq_ => XS.goto X58.here hx rfl (pc0 := 188) (pc' := 192) rfl (hb hby at_188) (by decide) (by decide) kq_) ?_
      show Go p e below s _ _ _ (T58.setTop (mkF m 192 #[.val (.int p0), .val (.int (13 : Int32)), .val (.ref b1), .val (.ref b30)] [(.int (1 : Int32))]))
      exact Go.ret X58 hlk (some (.int (nar .boolean (1 : Int32)))) (fun h => by rw [Bd.returns] at h; cases h) (by rw [e58]; exact ⟨rfl, N58⟩) (by decide) (by decide) (fun fs hr => retN X58 hx (t := .boolean) Bd.returns (by simp) (hb hby at_192) hr)
  obtain ⟨s2, o2, st2, r2⟩ := G
  exact ⟨s2, o2, castTop (ef0 m p0) st2, r2⟩
set_option maxRecDepth 65536 in
set_option maxHeartbeats 40000000 in
theorem comes_1 {Post : Tables → Env → Array Value → State → Outcome → State → Prop} (hpost : ∀ tb e args s v u, (limb_1_1.after args s (.returned v) u = true ∧ limb_1_2.after args s (.returned v) u = true ∧ True) → FrameEnd s (.returned v) u (Jvm.fieldLocs frame_1_writes args s ++ Jvm.arrayLocs frame_1_arrays args s ++ Jvm.staticLocs frame_1_statics s) 16 128 → Post tb e args s (.returned v) u) :
    ArmFor flags0 classFile x code maxLocals ret World_1 tables_1 room_1 Calls_1 rest_1 Pre_1 Post := by
  intro l hfl _ _ p e ha hc hk s m args below hf hA hF happ hP
  obtain ⟨hcalls, hrest, hpre⟩ := hP
  obtain ⟨-, -, -, hnamed, -, -, -, hat⟩ := (Spec.applies_iff hf).mp happ
  obtain ⟨hg, hn⟩ := and_e (Cond.before_iff.mp (show (Jvm.Cond.and given_1 narrow_1).before args s = true from hpre))
  obtain ⟨h1, r1⟩ := and_e hg
  obtain ⟨w0, rfl⟩ : ∃ w0 : Value, args = #[w0] := by
    have hs : args.size = 1 := by simpa [Cond.value, given_1] using h1
    obtain ⟨L⟩ := args
    match L, hs with
    | [w0], _ => exact ⟨w0, rfl⟩
  have hw := fun d (hd : d ∈ tables_1) => atoms_spec (ws := Jvm.Cond.code x code maxLocals ret :: tables_1) hat d (List.mem_cons_of_mem _ hd)
  have hfit : Fit s := fun {y c} hc i hi => by
    obtain ⟨ha, rfl⟩ := Array.getElem?_eq_some_iff.mp hc
    have q := List.all_eq_true.mp ((Array.all_eq_true_iff_forall_mem.mp hF) _ (Array.getElem_mem ha)) i (List.mem_range.mpr hi)
    simpa [Array.getElem?_eq_getElem hi] using q
  obtain ⟨i0, ei0⟩ := is_v r1
  obtain rfl : w0 = (.int i0) := Option.some.inj ei0
  obtain ⟨q0, hn0⟩ := and_e hn
  obtain ⟨q1, hn1⟩ := and_e hn0
  obtain ⟨q2, hn2⟩ := and_e hn1
  obtain ⟨q3, hn3⟩ := and_e hn2
  obtain ⟨q4, hn4⟩ := and_e hn3
  obtain ⟨q5, hn5⟩ := and_e hn4
  obtain ⟨q6, hn6⟩ := and_e hn5
  obtain ⟨q7, hn7⟩ := and_e hn6
  obtain ⟨q8, hn8⟩ := and_e hn7
  obtain ⟨q9, hn9⟩ := and_e hn8
  obtain ⟨q10, hn10⟩ := and_e hn9
  obtain ⟨q11, hn11⟩ := and_e hn10
  obtain ⟨q12, hn12⟩ := and_e hn11
  obtain ⟨q13, hn13⟩ := and_e hn12
  obtain ⟨q14, hn14⟩ := and_e hn13
  obtain ⟨q15, hn15⟩ := and_e hn14
  obtain ⟨q16, hn16⟩ := and_e hn15
  obtain ⟨q17, hn17⟩ := and_e hn16
  obtain ⟨q18, hn18⟩ := and_e hn17
  obtain ⟨q19, hn19⟩ := and_e hn18
  obtain ⟨q20, hn20⟩ := and_e hn19
  obtain ⟨q21, hn21⟩ := and_e hn20
  obtain ⟨q22, hn22⟩ := and_e hn21
  obtain ⟨q23, hn23⟩ := and_e hn22
  obtain ⟨q24, hn24⟩ := and_e hn23
  obtain ⟨q25, hn25⟩ := and_e hn24
  obtain ⟨q26, hn26⟩ := and_e hn25
  have q27 := hn26
  obtain ⟨a_STRING, v_STRING⟩ := exa_v q0
  have S_STRING : Sta s s.heap "com/example/arbora/arbora/sql/ValueType" "STRING" "Lcom/example/arbora/arbora/sql/ValueType;" (.ref a_STRING) := Sta.start v_STRING (Or.inr ⟨own_w hw 4 rfl, own_w hw 5 rfl⟩)
  have E_STRING : Exa s s.heap a_STRING "com/example/arbora/arbora/sql/ValueType" := Exa.start v_STRING q0
  obtain ⟨a_FIXED_STRING, v_FIXED_STRING⟩ := exa_v q1
  have S_FIXED_STRING : Sta s s.heap "com/example/arbora/arbora/sql/ValueType" "FIXED_STRING" "Lcom/example/arbora/arbora/sql/ValueType;" (.ref a_FIXED_STRING) := Sta.start v_FIXED_STRING (Or.inr ⟨own_w hw 4 rfl, own_w hw 8 rfl⟩)
  have E_FIXED_STRING : Exa s s.heap a_FIXED_STRING "com/example/arbora/arbora/sql/ValueType" := Exa.start v_FIXED_STRING q1
  obtain ⟨a_LABEL, v_LABEL⟩ := exa_v q2
  have S_LABEL : Sta s s.heap "com/example/arbora/arbora/sql/ValueType" "LABEL" "Lcom/example/arbora/arbora/sql/ValueType;" (.ref a_LABEL) := Sta.start v_LABEL (Or.inr ⟨own_w hw 4 rfl, own_w hw 10 rfl⟩)
  have E_LABEL : Exa s s.heap a_LABEL "com/example/arbora/arbora/sql/ValueType" := Exa.start v_LABEL q2
  obtain ⟨a_INTEGER, v_INTEGER⟩ := exa_v q3
  have S_INTEGER : Sta s s.heap "com/example/arbora/arbora/sql/ValueType" "INTEGER" "Lcom/example/arbora/arbora/sql/ValueType;" (.ref a_INTEGER) := Sta.start v_INTEGER (Or.inr ⟨own_w hw 4 rfl, own_w hw 12 rfl⟩)
  have E_INTEGER : Exa s s.heap a_INTEGER "com/example/arbora/arbora/sql/ValueType" := Exa.start v_INTEGER q3
  obtain ⟨a_DECIMAL, v_DECIMAL⟩ := exa_v q4
  have S_DECIMAL : Sta s s.heap "com/example/arbora/arbora/sql/ValueType" "DECIMAL" "Lcom/example/arbora/arbora/sql/ValueType;" (.ref a_DECIMAL) := Sta.start v_DECIMAL (Or.inr ⟨own_w hw 4 rfl, own_w hw 14 rfl⟩)
  have E_DECIMAL : Exa s s.heap a_DECIMAL "com/example/arbora/arbora/sql/ValueType" := Exa.start v_DECIMAL q4
  obtain ⟨a_FLOATING_POINT, v_FLOATING_POINT⟩ := exa_v q5
  have S_FLOATING_POINT : Sta s s.heap "com/example/arbora/arbora/sql/ValueType" "FLOATING_POINT" "Lcom/example/arbora/arbora/sql/ValueType;" (.ref a_FLOATING_POINT) := Sta.start v_FLOATING_POINT (Or.inr ⟨own_w hw 4 rfl, own_w hw 16 rfl⟩)
  have E_FLOATING_POINT : Exa s s.heap a_FLOATING_POINT "com/example/arbora/arbora/sql/ValueType" := Exa.start v_FLOATING_POINT q5
  obtain ⟨a_BOOLEAN, v_BOOLEAN⟩ := exa_v q6
  have S_BOOLEAN : Sta s s.heap "com/example/arbora/arbora/sql/ValueType" "BOOLEAN" "Lcom/example/arbora/arbora/sql/ValueType;" (.ref a_BOOLEAN) := Sta.start v_BOOLEAN (Or.inr ⟨own_w hw 4 rfl, own_w hw 18 rfl⟩)
  have E_BOOLEAN : Exa s s.heap a_BOOLEAN "com/example/arbora/arbora/sql/ValueType" := Exa.start v_BOOLEAN q6
  obtain ⟨a_DATE, v_DATE⟩ := exa_v q7
  have S_DATE : Sta s s.heap "com/example/arbora/arbora/sql/ValueType" "DATE" "Lcom/example/arbora/arbora/sql/ValueType;" (.ref a_DATE) := Sta.start v_DATE (Or.inr ⟨own_w hw 4 rfl, own_w hw 20 rfl⟩)
  have E_DATE : Exa s s.heap a_DATE "com/example/arbora/arbora/sql/ValueType" := Exa.start v_DATE q7
  obtain ⟨a_TIMESTAMP, v_TIMESTAMP⟩ := exa_v q8
  have S_TIMESTAMP : Sta s s.heap "com/example/arbora/arbora/sql/ValueType" "TIMESTAMP" "Lcom/example/arbora/arbora/sql/ValueType;" (.ref a_TIMESTAMP) := Sta.start v_TIMESTAMP (Or.inr ⟨own_w hw 4 rfl, own_w hw 22 rfl⟩)
  have E_TIMESTAMP : Exa s s.heap a_TIMESTAMP "com/example/arbora/arbora/sql/ValueType" := Exa.start v_TIMESTAMP q8
  obtain ⟨a_TIMESTAMP_WITH_TIME_ZONE, v_TIMESTAMP_WITH_TIME_ZONE⟩ := exa_v q9
  have S_TIMESTAMP_WITH_TIME_ZONE : Sta s s.heap "com/example/arbora/arbora/sql/ValueType" "TIMESTAMP_WITH_TIME_ZONE" "Lcom/example/arbora/arbora/sql/ValueType;" (.ref a_TIMESTAMP_WITH_TIME_ZONE) := Sta.start v_TIMESTAMP_WITH_TIME_ZONE (Or.inr ⟨own_w hw 4 rfl, own_w hw 24 rfl⟩)
  have E_TIMESTAMP_WITH_TIME_ZONE : Exa s s.heap a_TIMESTAMP_WITH_TIME_ZONE "com/example/arbora/arbora/sql/ValueType" := Exa.start v_TIMESTAMP_WITH_TIME_ZONE q9
  obtain ⟨a_BINARY, v_BINARY⟩ := exa_v q10
  have S_BINARY : Sta s s.heap "com/example/arbora/arbora/sql/ValueType" "BINARY" "Lcom/example/arbora/arbora/sql/ValueType;" (.ref a_BINARY) := Sta.start v_BINARY (Or.inr ⟨own_w hw 4 rfl, own_w hw 26 rfl⟩)
  have E_BINARY : Exa s s.heap a_BINARY "com/example/arbora/arbora/sql/ValueType" := Exa.start v_BINARY q10
  obtain ⟨a_UUID, v_UUID⟩ := exa_v q11
  have S_UUID : Sta s s.heap "com/example/arbora/arbora/sql/ValueType" "UUID" "Lcom/example/arbora/arbora/sql/ValueType;" (.ref a_UUID) := Sta.start v_UUID (Or.inr ⟨own_w hw 4 rfl, own_w hw 28 rfl⟩)
  have E_UUID : Exa s s.heap a_UUID "com/example/arbora/arbora/sql/ValueType" := Exa.start v_UUID q11
  obtain ⟨a_TIME, v_TIME⟩ := exa_v q12
  have S_TIME : Sta s s.heap "com/example/arbora/arbora/sql/ValueType" "TIME" "Lcom/example/arbora/arbora/sql/ValueType;" (.ref a_TIME) := Sta.start v_TIME (Or.inr ⟨own_w hw 4 rfl, own_w hw 30 rfl⟩)
  have E_TIME : Exa s s.heap a_TIME "com/example/arbora/arbora/sql/ValueType" := Exa.start v_TIME q12
  obtain ⟨a_UNSUPPORTED, v_UNSUPPORTED⟩ := exa_v q13
  have S_UNSUPPORTED : Sta s s.heap "com/example/arbora/arbora/sql/ValueType" "UNSUPPORTED" "Lcom/example/arbora/arbora/sql/ValueType;" (.ref a_UNSUPPORTED) := Sta.start v_UNSUPPORTED (Or.inr ⟨own_w hw 4 rfl, own_w hw 32 rfl⟩)
  have E_UNSUPPORTED : Exa s s.heap a_UNSUPPORTED "com/example/arbora/arbora/sql/ValueType" := Exa.start v_UNSUPPORTED q13
  have F_INTEGER_ordinal : Fld s s.heap a_INTEGER "java/lang/Enum" "ordinal" "I" (.int 3) := own_fld v_INTEGER q14
  have F_STRING_ordinal : Fld s s.heap a_STRING "java/lang/Enum" "ordinal" "I" (.int 0) := own_fld v_STRING q15
  have F_FIXED_STRING_ordinal : Fld s s.heap a_FIXED_STRING "java/lang/Enum" "ordinal" "I" (.int 1) := own_fld v_FIXED_STRING q16
  have F_LABEL_ordinal : Fld s s.heap a_LABEL "java/lang/Enum" "ordinal" "I" (.int 2) := own_fld v_LABEL q17
  have F_BINARY_ordinal : Fld s s.heap a_BINARY "java/lang/Enum" "ordinal" "I" (.int 10) := own_fld v_BINARY q18
  have F_TIME_ordinal : Fld s s.heap a_TIME "java/lang/Enum" "ordinal" "I" (.int 12) := own_fld v_TIME q19
  have F_UNSUPPORTED_ordinal : Fld s s.heap a_UNSUPPORTED "java/lang/Enum" "ordinal" "I" (.int 13) := own_fld v_UNSUPPORTED q20
  have F_DECIMAL_ordinal : Fld s s.heap a_DECIMAL "java/lang/Enum" "ordinal" "I" (.int 4) := own_fld v_DECIMAL q21
  have F_DATE_ordinal : Fld s s.heap a_DATE "java/lang/Enum" "ordinal" "I" (.int 7) := own_fld v_DATE q22
  have F_UUID_ordinal : Fld s s.heap a_UUID "java/lang/Enum" "ordinal" "I" (.int 11) := own_fld v_UUID q23
  have F_TIMESTAMP_ordinal : Fld s s.heap a_TIMESTAMP "java/lang/Enum" "ordinal" "I" (.int 8) := own_fld v_TIMESTAMP q24
  have F_TIMESTAMP_WITH_TIME_ZONE_ordinal : Fld s s.heap a_TIMESTAMP_WITH_TIME_ZONE "java/lang/Enum" "ordinal" "I" (.int 9) := own_fld v_TIMESTAMP_WITH_TIME_ZONE q25
  have F_FLOATING_POINT_ordinal : Fld s s.heap a_FLOATING_POINT "java/lang/Enum" "ordinal" "I" (.int 5) := own_fld v_FLOATING_POINT q26
  have F_BOOLEAN_ordinal : Fld s s.heap a_BOOLEAN "java/lang/Enum" "ordinal" "I" (.int 6) := own_fld v_BOOLEAN q27
  let c : Nat → Addr := fun i => if i = 0 then a_STRING else if i = 1 then a_FIXED_STRING else if i = 2 then a_LABEL else if i = 3 then a_INTEGER else if i = 4 then a_DECIMAL else if i = 5 then a_FLOATING_POINT else if i = 6 then a_BOOLEAN else if i = 7 then a_DATE else if i = 8 then a_TIMESTAMP else if i = 9 then a_TIMESTAMP_WITH_TIME_ZONE else if i = 10 then a_BINARY else if i = 11 then a_UUID else if i = 12 then a_TIME else a_UNSUPPORTED
  have hF : ∀ i, i < 14 → Fld s s.heap (c i) "java/lang/Enum" "ordinal" "I" (.int (Int32.ofNat i)) := by
    intro i hi
    match i, hi with
    | 0, _ => exact F_STRING_ordinal
    | 1, _ => exact F_FIXED_STRING_ordinal
    | 2, _ => exact F_LABEL_ordinal
    | 3, _ => exact F_INTEGER_ordinal
    | 4, _ => exact F_DECIMAL_ordinal
    | 5, _ => exact F_FLOATING_POINT_ordinal
    | 6, _ => exact F_BOOLEAN_ordinal
    | 7, _ => exact F_DATE_ordinal
    | 8, _ => exact F_TIMESTAMP_ordinal
    | 9, _ => exact F_TIMESTAMP_WITH_TIME_ZONE_ordinal
    | 10, _ => exact F_BINARY_ordinal
    | 11, _ => exact F_UUID_ordinal
    | 12, _ => exact F_TIME_ordinal
    | 13, _ => exact F_UNSUPPORTED_ordinal
  have hE : ∀ i, i < 14 → Exa s s.heap (c i) "com/example/arbora/arbora/sql/ValueType" := by
    intro i hi
    match i, hi with
    | 0, _ => exact E_STRING
    | 1, _ => exact E_FIXED_STRING
    | 2, _ => exact E_LABEL
    | 3, _ => exact E_INTEGER
    | 4, _ => exact E_DECIMAL
    | 5, _ => exact E_FLOATING_POINT
    | 6, _ => exact E_BOOLEAN
    | 7, _ => exact E_DATE
    | 8, _ => exact E_TIMESTAMP
    | 9, _ => exact E_TIMESTAMP_WITH_TIME_ZONE
    | 10, _ => exact E_BINARY
    | 11, _ => exact E_UUID
    | 12, _ => exact E_TIME
    | 13, _ => exact E_UNSUPPORTED
  have hinj : ∀ i j, i < 14 → j < 14 → c i = c j → i = j := by
    intro i j hi hj hc
    by_cases hq : i = j
    · exact hq
    · exact absurd hc ((hF i hi).ne (hF j hj) (own_neI (fun z => hq (own_ofNat (by omega) (by omega) z))))
  have HS : OwnSt s c := ⟨S_STRING, S_FIXED_STRING, S_LABEL, S_INTEGER, S_DECIMAL, S_FLOATING_POINT, S_BOOLEAN, S_DATE, S_TIMESTAMP, S_TIMESTAMP_WITH_TIME_ZONE, S_BINARY, S_UUID, S_TIME, S_UNSUPPORTED, hE, hinj⟩
  obtain ⟨n, o, h1, h2, h3, _, L, rfl, ⟨rfl, N⟩, hq⟩ := rm0 l s _ hw tables_1 i0 c s.heap s.heap.size (Old.start s) HS p e ha hc hk s m _ below hf ((Spec.applies_iff_loose hf).mp happ).1 ⟨rfl, State.Warmed39.refl s, rfl⟩ trivial
  refine ⟨n, _, h1, h2, h3, hpost _ _ _ _ _ _ ⟨Cond.after_iff.mpr rfl, Cond.after_iff.mpr (eq_i res_at (Term.int_eval (1)) rfl), trivial⟩ ⟨hq.1, hq.2.1, (hq.2.2.sift fun y hy => Or.inr (N y hy)).mono (by decide) (by decide)⟩⟩
theorem main_1_1 : Claimed_1_1 := comes_1 fun _ _ _ _ _ _ h hF => ⟨h.1, hF⟩
theorem main_1_2 : Claimed_1_2 := comes_1 fun _ _ _ _ _ _ h hF => ⟨h.2.1, hF⟩
end Jvm.Pilot.@@N@@
namespace Jvm.Pilot.@@N@@
open Jvm Jvm.ClassFile Sem Op Lib Jvm.Free Jvm.Stand Jvm.Pilot.@@N@@.Jvm.D
/-! MADE BY PROGRAM (witnessworld.py) out of the Statement's table words and the real class files: 15 classes; the members and pool entries that the words name. The judged class is class 1, her method 1. -/
namespace start1
open Jvm.ClassFile
def u (s : String) : CpInfo := .utf8 (stringToUtf16 s)
/-- a pool by its gaps: so many unusable entries, then the entry; so many at the end -/
def gap : Nat → List CpInfo → List CpInfo
  | 0, r => r
  | n + 1, r => .unusable :: gap n r
def poolList (es : List (Nat × CpInfo)) (last : Nat) : List CpInfo := es.foldr (fun e r => gap e.1 (e.2 :: r)) (gap last [])
def pool (es : List (Nat × CpInfo)) (last : Nat) : Array CpInfo := ⟨poolList es last⟩
def fileOf (pool : Array CpInfo) (this : Nat) (attrs : Array Attribute := #[]) (ms : Array MethodInfo := #[]) (fl : Nat := 33) (sup : Nat := 0) (ifs : Array Nat := #[]) (fds : Array FieldInfo := #[]) : ClassFile where
  minorVersion := 0
  majorVersion := 65
  constantPool := pool
  accessFlags := fl
  thisClass := this
  superClass := sup
  interfaces := ifs
  fields := fds
  methods := ms
  attributes := attrs
def plain (name : String) (sup : Option ClassId) : Class where
  name := name
  kind := .ordinary
  loader := none
  accessFlags := 33
  super := sup
  interfaces := #[]
  cf := none
  fields := #[]
  methods := #[]
  instanceTypes := #[]
  staticTypes := #[]
  resolved := #[]
  callSites := []
  init := .initialized
  statics := none
  mirror := none

def pool0 : Array CpInfo := pool [(5, u "<init>"), (0, u "()V"), (1, .class_ 10), (1, u "java/lang/Object")] 113

def k0m0 : Method := { name := "<init>", desc := "()V", sig := { parameters := [], returnType := none }, accessFlags := 1, code := none }
/-- java/lang/Object -/
def k0 : Class := { plain "java/lang/Object" none with
  accessFlags := 33
  interfaces := #[]
  cf := some (fileOf pool0 8 #[] #[{ accessFlags := 1, nameIndex := 5, descriptorIndex := 6, attributes := #[] }] 33 0 #[] #[])
  fields := #[]
  methods := #[k0m0]
  instanceTypes := #[]
  staticTypes := #[]
  resolved := Array.replicate 124 none
  statics := none }

def pool1 : Array CpInfo := pool [(2, .class_ 4), (1, u "java/lang/Object"), (0, u "<init>"), (0, u "()V"), (0, .integer 2147483647), (0, .class_ 9), (0, u "com/example/arbora/arbora/sql/ValueType"), (0, .fieldref 8 11), (0, .nameAndType 12 13), (0, u "STRING"), (0, u "Lcom/example/arbora/arbora/sql/ValueType;"), (0, .fieldref 8 15), (0, .nameAndType 16 13), (0, u "FIXED_STRING"), (0, .fieldref 8 18), (0, .nameAndType 19 13), (0, u "LABEL"), (0, .fieldref 8 21), (0, .nameAndType 22 13), (0, u "INTEGER"), (0, .fieldref 8 24), (0, .nameAndType 25 13), (0, u "DECIMAL"), (0, .fieldref 8 27), (0, .nameAndType 28 13), (0, u "FLOATING_POINT"), (0, .fieldref 8 30), (0, .nameAndType 31 13), (0, u "BOOLEAN"), (0, .fieldref 8 33), (0, .nameAndType 34 13), (0, u "DATE"), (0, .fieldref 8 36), (0, .nameAndType 37 13), (0, u "TIMESTAMP"), (0, .fieldref 8 39), (0, .nameAndType 40 13), (0, u "TIMESTAMP_WITH_TIME_ZONE"), (0, .fieldref 8 42), (0, .nameAndType 43 13), (0, u "BINARY"), (0, .fieldref 8 45), (0, .nameAndType 46 13), (0, u "UUID"), (0, .fieldref 8 48), (0, .nameAndType 49 13), (0, u "TIME"), (0, .fieldref 8 51), (0, .nameAndType 52 13), (0, u "UNSUPPORTED"), (0, .methodref 8 54), (0, .nameAndType 55 56), (0, u "textMayBeEmpty"), (0, u "()Z"), (0, .class_ 58), (0, u "com/example/arbora/arbora/sql/ValueTypeTextMayBeEmptyPinLaw"), (2, u "law"), (0, u "(I)Z")] 7

def k1m0 : Method := { name := "<init>", desc := "()V", sig := { parameters := [], returnType := none }, accessFlags := 2, code := none }
def k1c1 : Code := { maxStack := 4, maxLocals := 4, code := code, exceptionTable := #[], attributes := #[] }
def k1m1 : Method := { name := "law", desc := "(I)Z", sig := { parameters := [.int], returnType := some .boolean }, accessFlags := 9, code := some k1c1 }
/-- com/example/arbora/arbora/sql/ValueTypeTextMayBeEmptyPinLaw -/
def k1 : Class := { plain "com/example/arbora/arbora/sql/ValueTypeTextMayBeEmptyPinLaw" (some 0) with
  accessFlags := 49
  interfaces := #[]
  cf := some (fileOf pool1 57 #[] #[{ accessFlags := 2, nameIndex := 5, descriptorIndex := 6, attributes := #[] }, { accessFlags := 9, nameIndex := 61, descriptorIndex := 62, attributes := #[] }] 49 2 #[] #[])
  fields := #[]
  methods := #[k1m0, k1m1]
  instanceTypes := #[]
  staticTypes := #[]
  resolved := Array.replicate 70 none
  statics := none }

def pool2 : Array CpInfo := pool [(1, .class_ 2), (0, u "java/lang/constant/Constable"), (0, .class_ 4), (0, u "java/lang/Object")] 6

/-- java/lang/constant/Constable -/
def k2 : Class := { plain "java/lang/constant/Constable" (some 0) with
  accessFlags := 1537
  interfaces := #[]
  cf := some (fileOf pool2 1 #[] #[] 1537 3 #[] #[])
  fields := #[]
  methods := #[]
  instanceTypes := #[]
  staticTypes := #[]
  resolved := Array.replicate 11 none
  statics := none }

def pool3 : Array CpInfo := pool [(1, .class_ 2), (0, u "java/lang/Comparable"), (0, .class_ 4), (0, u "java/lang/Object")] 7

/-- java/lang/Comparable -/
def k3 : Class := { plain "java/lang/Comparable" (some 0) with
  accessFlags := 1537
  interfaces := #[]
  cf := some (fileOf pool3 1 #[] #[] 1537 3 #[] #[])
  fields := #[]
  methods := #[]
  instanceTypes := #[]
  staticTypes := #[]
  resolved := Array.replicate 12 none
  statics := none }

def pool4 : Array CpInfo := pool [(1, .class_ 2), (0, u "java/io/Serializable"), (0, .class_ 4), (0, u "java/lang/Object")] 2

/-- java/io/Serializable -/
def k4 : Class := { plain "java/io/Serializable" (some 0) with
  accessFlags := 1537
  interfaces := #[]
  cf := some (fileOf pool4 1 #[] #[] 1537 3 #[] #[])
  fields := #[]
  methods := #[]
  instanceTypes := #[]
  staticTypes := #[]
  resolved := Array.replicate 7 none
  statics := none }

def pool5 : Array CpInfo := pool [(2, .class_ 4), (1, u "java/lang/Enum"), (0, u "name"), (0, u "Ljava/lang/String;"), (2, u "ordinal"), (0, u "I"), (1, .class_ 14), (1, u "java/lang/Object"), (4, u "hash"), (86, .class_ 108), (1, u "java/lang/Enum$EnumDesc"), (2, .class_ 112), (0, u "java/lang/constant/Constable"), (0, .class_ 114), (0, u "java/lang/Comparable"), (0, .class_ 116), (0, u "java/io/Serializable")] 87

/-- java/lang/Enum -/
def k5 : Class := { plain "java/lang/Enum" (some 0) with
  accessFlags := 1057
  interfaces := #[2, 3, 4]
  cf := some (fileOf pool5 2 #[.nestMembers #[106]] #[] 1057 12 #[111, 113, 115] #[{ accessFlags := 18, nameIndex := 5, descriptorIndex := 6, attributes := #[] }, { accessFlags := 18, nameIndex := 9, descriptorIndex := 10, attributes := #[] }, { accessFlags := 2, nameIndex := 19, descriptorIndex := 10, attributes := #[] }])
  fields := #[{ name := "name", type := (.object "java/lang/String"), accessFlags := 18, slot := 0, constantValue := 0 }, { name := "ordinal", type := .int, accessFlags := 18, slot := 1, constantValue := 0 }, { name := "hash", type := .int, accessFlags := 2, slot := 2, constantValue := 0 }]
  methods := #[]
  instanceTypes := #[(.object "java/lang/String"), .int, .int]
  staticTypes := #[]
  resolved := Array.replicate 204 none
  statics := none }

def pool6 : Array CpInfo := pool [(1, .class_ 2), (0, u "com/example/arbora/arbora/sql/ValueType"), (0, .fieldref 1 4), (0, .nameAndType 5 6), (0, u "STRING"), (0, u "Lcom/example/arbora/arbora/sql/ValueType;"), (0, .fieldref 1 8), (0, .nameAndType 9 6), (0, u "FIXED_STRING"), (0, .fieldref 1 11), (0, .nameAndType 12 6), (0, u "LABEL"), (2, u "INTEGER"), (2, u "DECIMAL"), (2, u "FLOATING_POINT"), (2, u "BOOLEAN"), (2, u "DATE"), (2, u "TIMESTAMP"), (2, u "TIMESTAMP_WITH_TIME_ZONE"), (0, .fieldref 1 35), (0, .nameAndType 36 6), (0, u "BINARY"), (2, u "UUID"), (2, u "TIME"), (2, u "UNSUPPORTED"), (2, u "$VALUES"), (0, u "[Lcom/example/arbora/arbora/sql/ValueType;"), (6, .class_ 58), (1, u "java/lang/Enum"), (33, u "()Z"), (3, u "textMayBeEmpty")] 4

def k6c0 : Code := { maxStack := 2, maxLocals := 1, code := prog_119_method_7_code, exceptionTable := #[], attributes := #[] }
def k6m0 : Method := { name := "textMayBeEmpty", desc := "()Z", sig := { parameters := [], returnType := some .boolean }, accessFlags := 1, code := some k6c0 }
/-- com/example/arbora/arbora/sql/ValueType -/
def k6 : Class := { plain "com/example/arbora/arbora/sql/ValueType" (some 5) with
  accessFlags := 16433
  interfaces := #[]
  cf := some (fileOf pool6 1 #[] #[{ accessFlags := 1, nameIndex := 96, descriptorIndex := 92, attributes := #[] }] 16433 56 #[] #[{ accessFlags := 16409, nameIndex := 5, descriptorIndex := 6, attributes := #[] }, { accessFlags := 16409, nameIndex := 9, descriptorIndex := 6, attributes := #[] }, { accessFlags := 16409, nameIndex := 12, descriptorIndex := 6, attributes := #[] }, { accessFlags := 16409, nameIndex := 15, descriptorIndex := 6, attributes := #[] }, { accessFlags := 16409, nameIndex := 18, descriptorIndex := 6, attributes := #[] }, { accessFlags := 16409, nameIndex := 21, descriptorIndex := 6, attributes := #[] }, { accessFlags := 16409, nameIndex := 24, descriptorIndex := 6, attributes := #[] }, { accessFlags := 16409, nameIndex := 27, descriptorIndex := 6, attributes := #[] }, { accessFlags := 16409, nameIndex := 30, descriptorIndex := 6, attributes := #[] }, { accessFlags := 16409, nameIndex := 33, descriptorIndex := 6, attributes := #[] }, { accessFlags := 16409, nameIndex := 36, descriptorIndex := 6, attributes := #[] }, { accessFlags := 16409, nameIndex := 39, descriptorIndex := 6, attributes := #[] }, { accessFlags := 16409, nameIndex := 42, descriptorIndex := 6, attributes := #[] }, { accessFlags := 16409, nameIndex := 45, descriptorIndex := 6, attributes := #[] }, { accessFlags := 4122, nameIndex := 48, descriptorIndex := 49, attributes := #[] }])
  fields := #[{ name := "STRING", type := (.object "com/example/arbora/arbora/sql/ValueType"), accessFlags := 16409, slot := 0, constantValue := 0 }, { name := "FIXED_STRING", type := (.object "com/example/arbora/arbora/sql/ValueType"), accessFlags := 16409, slot := 1, constantValue := 0 }, { name := "LABEL", type := (.object "com/example/arbora/arbora/sql/ValueType"), accessFlags := 16409, slot := 2, constantValue := 0 }, { name := "INTEGER", type := (.object "com/example/arbora/arbora/sql/ValueType"), accessFlags := 16409, slot := 3, constantValue := 0 }, { name := "DECIMAL", type := (.object "com/example/arbora/arbora/sql/ValueType"), accessFlags := 16409, slot := 4, constantValue := 0 }, { name := "FLOATING_POINT", type := (.object "com/example/arbora/arbora/sql/ValueType"), accessFlags := 16409, slot := 5, constantValue := 0 }, { name := "BOOLEAN", type := (.object "com/example/arbora/arbora/sql/ValueType"), accessFlags := 16409, slot := 6, constantValue := 0 }, { name := "DATE", type := (.object "com/example/arbora/arbora/sql/ValueType"), accessFlags := 16409, slot := 7, constantValue := 0 }, { name := "TIMESTAMP", type := (.object "com/example/arbora/arbora/sql/ValueType"), accessFlags := 16409, slot := 8, constantValue := 0 }, { name := "TIMESTAMP_WITH_TIME_ZONE", type := (.object "com/example/arbora/arbora/sql/ValueType"), accessFlags := 16409, slot := 9, constantValue := 0 }, { name := "BINARY", type := (.object "com/example/arbora/arbora/sql/ValueType"), accessFlags := 16409, slot := 10, constantValue := 0 }, { name := "UUID", type := (.object "com/example/arbora/arbora/sql/ValueType"), accessFlags := 16409, slot := 11, constantValue := 0 }, { name := "TIME", type := (.object "com/example/arbora/arbora/sql/ValueType"), accessFlags := 16409, slot := 12, constantValue := 0 }, { name := "UNSUPPORTED", type := (.object "com/example/arbora/arbora/sql/ValueType"), accessFlags := 16409, slot := 13, constantValue := 0 }, { name := "$VALUES", type := (.array (.object "com/example/arbora/arbora/sql/ValueType")), accessFlags := 4122, slot := 14, constantValue := 0 }]
  methods := #[k6m0]
  instanceTypes := #[(.object "java/lang/String"), .int, .int]
  staticTypes := #[(.object "com/example/arbora/arbora/sql/ValueType"), (.object "com/example/arbora/arbora/sql/ValueType"), (.object "com/example/arbora/arbora/sql/ValueType"), (.object "com/example/arbora/arbora/sql/ValueType"), (.object "com/example/arbora/arbora/sql/ValueType"), (.object "com/example/arbora/arbora/sql/ValueType"), (.object "com/example/arbora/arbora/sql/ValueType"), (.object "com/example/arbora/arbora/sql/ValueType"), (.object "com/example/arbora/arbora/sql/ValueType"), (.object "com/example/arbora/arbora/sql/ValueType"), (.object "com/example/arbora/arbora/sql/ValueType"), (.object "com/example/arbora/arbora/sql/ValueType"), (.object "com/example/arbora/arbora/sql/ValueType"), (.object "com/example/arbora/arbora/sql/ValueType"), (.array (.object "com/example/arbora/arbora/sql/ValueType"))]
  resolved := Array.replicate 101 none
  statics := some 0 }

def pool7 : Array CpInfo := pool [(1, u "java/lang/Cloneable"), (0, .class_ 1), (0, u "java/lang/Object"), (0, .class_ 3)] 3

/-- java/lang/Cloneable -/
def k7 : Class := { plain "java/lang/Cloneable" (some 0) with
  accessFlags := 1537
  interfaces := #[]
  cf := some (fileOf pool7 2 #[] #[] 1537 4 #[] #[])
  fields := #[]
  methods := #[]
  instanceTypes := #[]
  staticTypes := #[]
  resolved := Array.replicate 8 none
  statics := none }

/-- the primitive boolean -/
def k8 : Class := { plain "boolean" none with kind := .primitive 'Z', accessFlags := 0x411 }
/-- [Z -/
def k9 : Class := { plain "[Z" (some 0) with kind := .array 8 .boolean, interfaces := #[7, 4], accessFlags := 1041 }

/-- the primitive byte -/
def k10 : Class := { plain "byte" none with kind := .primitive 'B', accessFlags := 0x411 }
/-- [B -/
def k11 : Class := { plain "[B" (some 0) with kind := .array 10 .byte, interfaces := #[7, 4], accessFlags := 1041 }

/-- the primitive int -/
def k12 : Class := { plain "int" none with kind := .primitive 'I', accessFlags := 0x411 }
/-- [I -/
def k13 : Class := { plain "[I" (some 0) with kind := .array 12 .int, interfaces := #[7, 4], accessFlags := 1041 }

/-- [Lcom/example/arbora/arbora/sql/ValueType; -/
def k14 : Class := { plain "[Lcom/example/arbora/arbora/sql/ValueType;" (some 0) with kind := .array 6 (.object "com/example/arbora/arbora/sql/ValueType"), interfaces := #[7, 4], accessFlags := 1041 }

def heap : Heap := #[{ cls := 6, slots := #[.ref 1, .ref 2, .ref 3, .ref 4, .ref 5, .ref 6, .ref 7, .ref 8, .ref 9, .ref 10, .ref 11, .ref 12, .ref 13, .ref 14, .null], vm := .statics 6 },
  { cls := 6, slots := #[.null, .int 0, .int 0], vm := .none },
  { cls := 6, slots := #[.null, .int 1, .int 0], vm := .none },
  { cls := 6, slots := #[.null, .int 2, .int 0], vm := .none },
  { cls := 6, slots := #[.null, .int 3, .int 0], vm := .none },
  { cls := 6, slots := #[.null, .int 4, .int 0], vm := .none },
  { cls := 6, slots := #[.null, .int 5, .int 0], vm := .none },
  { cls := 6, slots := #[.null, .int 6, .int 0], vm := .none },
  { cls := 6, slots := #[.null, .int 7, .int 0], vm := .none },
  { cls := 6, slots := #[.null, .int 8, .int 0], vm := .none },
  { cls := 6, slots := #[.null, .int 9, .int 0], vm := .none },
  { cls := 6, slots := #[.null, .int 10, .int 0], vm := .none },
  { cls := 6, slots := #[.null, .int 11, .int 0], vm := .none },
  { cls := 6, slots := #[.null, .int 12, .int 0], vm := .none },
  { cls := 6, slots := #[.null, .int 13, .int 0], vm := .none }]
def classes : Array Class := #[k0, k1, k2, k3, k4, k5, k6, k7, k8, k9, k10, k11, k12, k13, k14]
def interned : List (Array UInt16 × Addr) := []
def slotsUsed : Nat := 57
def theMethod : MethodId := ⟨1, 1⟩
def args0 : Array Value := #[.int 5]
def aboutOver (below : List Frame) : State where
  vm := { classes := classes, interned := interned.toArray }
  heap := heap
  slotsUsed := slotsUsed
  threads := #[{ frames := .invoking theMethod args0 :: below }]
def below0 : List Frame := [.native { method := ⟨0, 0⟩, args := #[] }]
def about1 : State := aboutOver below0
def p0 : Program := .bare "" "" ""
def e0 : Env := launch0.env 0 0 0
theorem w_frames : about1.frames = Frame.invoking theMethod args0 :: below0 := rfl
set_option maxRecDepth 65536 in
theorem w_args : argsFit about1.vm theMethod args0 = true := by decide +kernel
set_option maxRecDepth 65536 in
theorem w_heap : heapFits about1 = true := by decide +kernel
set_option maxRecDepth 65536 in
theorem w_runnable : about1.curStatus? = some .runnable := by decide +kernel
set_option maxRecDepth 65536 in
theorem w_alone : about1.alone = true := by decide +kernel
set_option maxRecDepth 65536 in
theorem w_named : about1.methodNamed? x = some theMethod := by decide +kernel
set_option maxRecDepth 65536 in
theorem w_hears : about1.hears theMethod below0 = true := by decide +kernel
set_option maxRecDepth 65536 in
theorem w_ripe : about1.ripe theMethod args0 below0 = true := by decide +kernel
theorem w_running : about1.status = .running := rfl
set_option maxRecDepth 65536 in
theorem w_room : about1.hasRoom e0.platform room_1 = true :=
  launch0.hasRoom_least _ room_1 (by decide +kernel) (by decide +kernel) (by decide +kernel) (by decide +kernel) (by decide +kernel) (by decide +kernel)
theorem allAtoms_all (ts : List Jvm.Cond) (a : Array Jvm.Value) (st : Jvm.State) : (allAtoms ts).before a st = ts.all (fun c => c.before a st) := by
  induction ts with
  | nil => rfl
  | cons c t ih =>
    show (Jvm.Cond.and c (allAtoms t)).before a st = _
    rw [Jvm.Cond.before_and, ih, List.all_cons]
def words1 : List Jvm.Cond := Jvm.Cond.code x code maxLocals ret :: tables_1
/-- a 'code' word, met by the world's own term for the bytes: nothing is compared byte by byte -/
theorem code_word {y : MethodName} {bytes : ByteArray} {mx : Nat} {rt : Option FieldType} {a : Array Value} {s : State} {m : MethodId} {meth : Method} {c : Code} (h1 : s.methodNamed? y = some m) (h2 : s.vm.method? m = some meth) (h3 : meth.code = some c) (h4 : c.code = bytes)
    (h5 : (c.maxLocals == mx && c.exceptionTable.isEmpty && decide (c.maxStack ≤ mostOperands) && decide (meth.sig.returnType = rt) && !meth.locks && decide (parseMethodDescriptor y.desc = some meth.sig)) = true) : (Jvm.Cond.code y bytes mx rt).before a s = true := by
  simp only [Bool.and_eq_true, beq_iff_eq, Bool.not_eq_true', decide_eq_true_eq] at h5
  obtain ⟨⟨⟨⟨⟨g1, g2⟩, g3⟩, g4⟩, g5⟩, g6⟩ := h5
  simp [Cond.before, Cond.holds, Cond.value, h1, h2, h3, h4, g1, g2, g3, g4, g5, g6]
def isCode : Jvm.Cond → Bool
  | .code _ _ _ _ => true
  | _ => false
theorem all_split {L : List Jvm.Cond} {P : Jvm.Cond → Bool} (h1 : L.all (fun c => isCode c || P c) = true) (h2 : ∀ c ∈ L.filter isCode, P c = true) : L.all P = true := by
  refine List.all_eq_true.mpr fun c hc => ?_
  have h := List.all_eq_true.mp h1 c hc
  rcases Bool.eq_false_or_eq_true (isCode c) with hi | hi
  · exact h2 c (List.mem_filter.mpr ⟨hc, hi⟩)
  · simpa [hi] using h
set_option maxRecDepth 65536 in
theorem w_c0 : (Jvm.Cond.code x code maxLocals ret).before args0 about1 = true := code_word (m := ⟨1, 1⟩) (meth := k1m1) (c := k1c1) (by decide +kernel) rfl rfl rfl (by decide +kernel)
set_option maxRecDepth 65536 in
theorem w_c1 : (Jvm.Cond.code ({ cls := "com/example/arbora/arbora/sql/ValueType", name := "textMayBeEmpty", desc := "()Z" } : Jvm.MethodName) prog_119_method_7_code (1 : Nat) (Option.some Jvm.ClassFile.FieldType.boolean)).before args0 about1 = true := code_word (m := ⟨6, 0⟩) (meth := k6m0) (c := k6c0) (by decide +kernel) rfl rfl rfl (by decide +kernel)
def codes1 : List Jvm.Cond := [Jvm.Cond.code x code maxLocals ret, Jvm.Cond.code ({ cls := "com/example/arbora/arbora/sql/ValueType", name := "textMayBeEmpty", desc := "()Z" } : Jvm.MethodName) prog_119_method_7_code (1 : Nat) (Option.some Jvm.ClassFile.FieldType.boolean)]
set_option maxRecDepth 65536 in
theorem codes_eq : words1.filter isCode = codes1 := rfl
theorem w_codes : ∀ c ∈ words1.filter isCode, c.before args0 about1 = true := by
  rw [codes_eq]
  intro c hc
  simp only [codes1, List.mem_cons, List.not_mem_nil, or_false] at hc
  rcases hc with rfl | rfl
  · exact w_c0
  · exact w_c1
set_option maxRecDepth 65536 in
theorem w_t1 : (words1.take 24).all (fun c => isCode c || c.before args0 about1) = true := by decide +kernel
set_option maxRecDepth 65536 in
theorem w_t2 : (words1.drop 24).all (fun c => isCode c || c.before args0 about1) = true := by decide +kernel
theorem w_tables : (allAtoms (Jvm.Cond.code x code maxLocals ret :: tables_1)).before args0 about1 = true := by
  rw [allAtoms_all]
  show words1.all (fun c => c.before args0 about1) = true
  refine all_split ?_ w_codes
  rw [← List.take_append_drop 24 words1, List.all_append, w_t1, w_t2]
  rfl
set_option maxRecDepth 65536 in
theorem w_case : (Jvm.Cond.and given_1 narrow_1).before args0 about1 = true := by decide +kernel
theorem w_applies : (headSpec (Jvm.Cond.code x code maxLocals ret :: tables_1) room_1).applies x e0.platform about1 = true :=
  (Spec.applies_iff w_frames).mpr ⟨w_running, w_runnable, w_alone, w_named, w_hears, w_ripe, w_room, w_tables⟩
theorem atStart : AtStart classFile x code maxLocals ret World_1 tables_1 room_1 Calls_1 rest_1 Pre_1 launch0 p0 e0 about1 theMethod args0 below0 :=
  ⟨lists_1, trivial, launch0.admits_env _ _ _, launch0.least_env, fairChoices_fair.cas, fairChoices_fair.clock, w_frames, w_args, w_heap, w_applies, trivial, trivial, w_case⟩
end start1
theorem witness_1 : WitnessClaimed_1 := ⟨start1.p0, start1.e0, start1.about1, start1.theMethod, start1.args0, start1.below0, start1.atStart⟩
end Jvm.Pilot.@@N@@
