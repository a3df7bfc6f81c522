import JvmDerived
import JvmDerived.Pilot.@@N@@Statement
import JvmDerived.Pilot.@@N@@Code
set_option linter.unusedVariables false
set_option linter.unusedSimpArgs false
namespace Jvm.RoadKit
open Sem ClassFile Op Lib Jvm.Stand Jvm.Free Jvm.LawKit
section New
variable {p : Program} {l : Launch} {e : Env} {R : Room} {s : State} {m : MethodId} {args : Array Value} {below : List Frame} {meth : Method} {c : Code} {T : State} {locs : List Loc} {cells slots : Nat}
theorem retI (X : Stand p l e R s m args below meth c T locs cells slots) (hx : p.tables.exec = Jvm.exec) {pc : Nat} {Ls : Array Slot} {z : Int32} {rest : List Value} (hret : meth.sig.returnType = some .int) (hd : decode c.code pc = .ok (.ireturn, 1)) {fs : List Frame}
    (hl : ∀ (f : JFrame) (acts : List Action), f.method = m → f.locked = none → f.entered = [] → (doReturn e (T.setTop f) acts (some (.int z))).1 = T.setFrames fs) : Steps p.tables e below (T.setTop (mkF m pc Ls (.int z :: rest))) (T.setFrames fs) := by
  have hm' : T.vm.method? m = some meth := X.method'
  have hn : narrow .int (.int z) = .int z := rfl
  show Steps p.tables e below (T.setTop { method := m, pc := pc, locals := Ls, stack := _ :: rest, locked := none }) _
  jvm_step X.here [X.here.top, hx, hd, hm', hret, hn]
  first | (intro acts; rw [hl _ acts rfl rfl rfl]) | rw [hl _ _ rfl rfl rfl]
  exact Steps.refl _
end New
end Jvm.RoadKit
namespace Jvm.Pilot.@@N@@
open Jvm Jvm.ClassFile Sem Op Lib Jvm.Free Jvm.Stand Jvm.LawKit Jvm.RoadKit Bundle Jvm.Pilot.@@N@@.Jvm.D
/-! own small kit: a walk forward, state by state -/
section OwnKit
variable {p : Program} {l : Launch} {e : Env} {R : Room} {s : State} {m : MethodId} {args : Array Value} {below : List Frame} {meth : Method} {c : Code} {T : State} {locs : List Loc} {cells slots : Nat} {rc rs : Nat} {Q : Option Value → Heap → List Loc → Prop} {Z : State} {h h' : Heap} {a b : Addr} {S S' : State}
/-- from S the run comes to its return, and Q holds there -/
def Go (p : Program) (e : Env) (below : List Frame) (s : State) (rc rs : Nat) (Q : Option Value → Heap → List Loc → Prop) (S : State) : Prop :=
  ∃ s₂ o, Steps p.tables e below S s₂ ∧ s₂.status = .running ∧ Ended s₂ below o ∧ ∃ v L, o = .returned v ∧ Q v s₂.heap L ∧ FrameEnd s o s₂ L rc rs
theorem Go.st (k : ∀ t, Steps p.tables e below S' t → Steps p.tables e below S t) (g : Go p e below s rc rs Q S') : Go p e below s rc rs Q S := by
  obtain ⟨x, y, z, r⟩ := g
  exact ⟨x, y, k x z, r⟩
theorem Go.tr (k : Steps p.tables e below S S') (g : Go p e below s rc rs Q S') : Go p e below s rc rs Q S := by
  obtain ⟨x, y, z, r⟩ := g
  exact ⟨x, y, k.trans z, r⟩
theorem Go.ret (X : Stand p l e R s m args below meth c T locs cells slots) (hlk : meth.locks = false) (v : Option Value) (hv : meth.sig.returnType = none → v = none) {g : JFrame} (hQ : Q v T.heap locs) (hc : cells ≤ rc) (hs : slots ≤ rs)
    (k : ∀ fs, (∀ (f : JFrame) (acts : List Action), f.method = m → f.locked = none → f.entered = [] → (doReturn e (T.setTop f) acts v).1 = T.setFrames fs) → Steps p.tables e below (T.setTop g) (T.setFrames fs)) : Go p e below s rc rs Q (T.setTop g) := by
  obtain ⟨fs, hr, hrun, hended, hW, hsame⟩ := X.leave (v := v) hv hlk
  exact ⟨_, _, k fs hr, hrun, hended, _, _, rfl, hQ, ⟨_, rfl⟩, hW, hsame.mono hc hs⟩
theorem own_w {a0 : Array Value} (hw : ∀ d ∈ tables_1, d.before a0 Z = true) (k : Nat) {d : Jvm.Cond} (q : tables_1[k]? = some d) : d.before a0 Z = true := hw _ (List.mem_of_getElem? q)
theorem own_idx {n j : Int32} {cl : Cell} (S : cl.slots.size = n.toNatClampNeg) (q1 : ¬ j < 0) (q2 : j < n) : ¬ (j < 0 ∨ cl.slots.size ≤ j.toNatClampNeg) := inb_of S ⟨q1, q2⟩
theorem own_iaload (X : Stand p l e R s m args below meth c T locs cells slots) (hx : p.tables.exec = Jvm.exec) (hZ : Z.Warmed39 s.vm) (eT : T.heap = h) {k : ClassId} {n : Int32} {vs : List Value} {d : Value} (V : Arv Z h a k .int n vs d) {j : Int32} (q1 : ¬ j < 0) (q2 : j < n) {v : Value} (hv : vs.getD j.toNatClampNeg d = v) {g : JFrame} (hg : g.method = m) {rest : List Value} (hs : g.stack = .int j :: .ref a :: rest) (hd : decode c.code g.pc = .ok (.iaload, 1)) (t : State) (kk : Steps p.tables e below (T.setTop { g with pc := g.pc + 1, stack := v :: rest }) t) : Steps p.tables e below (T.setTop g) t := by
  obtain ⟨cl, A, -, S, -, H, -⟩ := V
  have hin := own_idx S q1 q2
  exact X.iaload hx (j := j) (v := v) (by rw [eT]; exact A.1) (State.isArrayOf_alike hZ.alike A.2.1) A.2.2 hin (H.at hin hv) (g := g) hg hs hd _ kk
theorem own_laload (X : Stand p l e R s m args below meth c T locs cells slots) (hx : p.tables.exec = Jvm.exec) (hZ : Z.Warmed39 s.vm) (eT : T.heap = h) {k : ClassId} {n : Int32} {vs : List Value} {d : Value} (V : Arv Z h a k .long n vs d) {j : Int32} (q1 : ¬ j < 0) (q2 : j < n) {v : Value} (hv : vs.getD j.toNatClampNeg d = v) {g : JFrame} (hg : g.method = m) {rest : List Value} (hs : g.stack = .int j :: .ref a :: rest) (hd : decode c.code g.pc = .ok (.laload, 1)) (t : State) (kk : Steps p.tables e below (T.setTop { g with pc := g.pc + 1, stack := v :: rest }) t) : Steps p.tables e below (T.setTop g) t := by
  obtain ⟨cl, A, -, S, -, H, -⟩ := V
  have hin := own_idx S q1 q2
  exact X.laload hx (j := j) (v := v) (by rw [eT]; exact A.1) (State.isArrayOf_alike hZ.alike A.2.1) A.2.2 hin (H.at hin hv) (g := g) hg hs hd _ kk
theorem own_caload (X : Stand p l e R s m args below meth c T locs cells slots) (hx : p.tables.exec = Jvm.exec) (hZ : Z.Warmed39 s.vm) (eT : T.heap = h) {k : ClassId} {n : Int32} {vs : List Value} {d : Value} (V : Arv Z h a k .char n vs d) {j : Int32} (q1 : ¬ j < 0) (q2 : j < n) {v : Value} (hv : vs.getD j.toNatClampNeg d = v) {g : JFrame} (hg : g.method = m) {rest : List Value} (hs : g.stack = .int j :: .ref a :: rest) (hd : decode c.code g.pc = .ok (.caload, 1)) (t : State) (kk : Steps p.tables e below (T.setTop { g with pc := g.pc + 1, stack := v :: rest }) t) : Steps p.tables e below (T.setTop g) t := by
  obtain ⟨cl, A, -, S, -, H, -⟩ := V
  have hin := own_idx S q1 q2
  exact X.caload hx (j := j) (v := v) (by rw [eT]; exact A.1) (State.isArrayOf_alike hZ.alike A.2.1) A.2.2 hin (H.at hin hv) (g := g) hg hs hd _ kk
theorem own_baloadB (X : Stand p l e R s m args below meth c T locs cells slots) (hx : p.tables.exec = Jvm.exec) (hZ : Z.Warmed39 s.vm) (eT : T.heap = h) {k : ClassId} {n : Int32} {vs : List Value} {d : Value} (V : Arv Z h a k .byte n vs d) {j : Int32} (q1 : ¬ j < 0) (q2 : j < n) {v : Value} (hv : vs.getD j.toNatClampNeg d = v) {g : JFrame} (hg : g.method = m) {rest : List Value} (hs : g.stack = .int j :: .ref a :: rest) (hd : decode c.code g.pc = .ok (.baload, 1)) (t : State) (kk : Steps p.tables e below (T.setTop { g with pc := g.pc + 1, stack := v :: rest }) t) : Steps p.tables e below (T.setTop g) t := by
  obtain ⟨cl, A, -, S, -, H, -⟩ := V
  have hin := own_idx S q1 q2
  exact X.baloadBytes hx (j := j) (v := v) (by rw [eT]; exact A.1) (State.isArrayOf_alike hZ.alike A.2.1) A.2.2 hin (H.at hin hv) (g := g) hg hs hd _ kk
theorem own_baloadZ (X : Stand p l e R s m args below meth c T locs cells slots) (hx : p.tables.exec = Jvm.exec) (hZ : Z.Warmed39 s.vm) (eT : T.heap = h) {k : ClassId} {n : Int32} {vs : List Value} {d : Value} (V : Arv Z h a k .boolean n vs d) {j : Int32} (q1 : ¬ j < 0) (q2 : j < n) {v : Value} (hv : vs.getD j.toNatClampNeg d = v) {g : JFrame} (hg : g.method = m) {rest : List Value} (hs : g.stack = .int j :: .ref a :: rest) (hd : decode c.code g.pc = .ok (.baload, 1)) (t : State) (kk : Steps p.tables e below (T.setTop { g with pc := g.pc + 1, stack := v :: rest }) t) : Steps p.tables e below (T.setTop g) t := by
  obtain ⟨cl, A, -, S, -, H, -⟩ := V
  have hin := own_idx S q1 q2
  exact X.baloadBooleans hx (j := j) (v := v) (by rw [eT]; exact A.1) (State.isArrayOf_alike hZ.alike A.2.1) A.2.2 hin (H.at hin hv) (g := g) hg hs hd _ kk
theorem own_aaload (X : Stand p l e R s m args below meth c T locs cells slots) (hx : p.tables.exec = Jvm.exec) (hZ : Z.Warmed39 s.vm) (eT : T.heap = h) {k : ClassId} {n : Int32} {vs : List Value} {d : Value} {ty : FieldType} (V : Arv Z h a k ty n vs d) (hty : ty.isReference = true) {j : Int32} (q1 : ¬ j < 0) (q2 : j < n) {v : Value} (hv : vs.getD j.toNatClampNeg d = v) {g : JFrame} (hg : g.method = m) {rest : List Value} (hs : g.stack = .int j :: .ref a :: rest) (hd : decode c.code g.pc = .ok (.aaload, 1)) (t : State) (kk : Steps p.tables e below (T.setTop { g with pc := g.pc + 1, stack := v :: rest }) t) : Steps p.tables e below (T.setTop g) t := by
  obtain ⟨cl, A, -, S, -, H, -⟩ := V
  have hin := own_idx S q1 q2
  exact X.aaload hx (j := j) (v := v) (by rw [eT]; exact A.1) (State.isArrayOf_alike hZ.alike A.2.1) hty A.2.2 hin (H.at hin hv) (g := g) hg hs hd _ kk
theorem own_len (X : Stand p l e R s m args below meth c T locs cells slots) (hx : p.tables.exec = Jvm.exec) (hZ : Z.Warmed39 s.vm) (eT : T.heap = h) {k : ClassId} {n : Int32} {vs : List Value} {d : Value} {ty : FieldType} (V : Arv Z h a k ty n vs d) {g : JFrame} (hg : g.method = m) {rest : List Value} (hs : g.stack = .ref a :: rest) (hd : decode c.code g.pc = .ok (.arraylength, 1)) (t : State) (kk : Steps p.tables e below (T.setTop { g with pc := g.pc + 1, stack := .int n :: rest }) t) : Steps p.tables e below (T.setTop g) t := by
  obtain ⟨cl, A, -, S, N, -, -⟩ := V
  refine X.arraylength hx (by rw [eT]; exact A.1) (State.isArrayOf_alike hZ.alike A.2.1) (g := g) hg hs hd _ ?_
  rw [len_of S N]
  exact kk
theorem own_stI (X : Stand p l e R s m args below meth c T locs cells slots) (hx : p.tables.exec = Jvm.exec) (hZ : Z.Warmed39 s.vm) (eT : T.heap = h) {k : ClassId} {n : Int32} {vs : List Value} {d : Value} (V : Arv Z h a k .int n vs d) {j x : Int32} (q1 : ¬ j < 0) (q2 : j < n) (i : Nat) (hi : j.toNatClampNeg = i) (hl : i < vs.length) {g : JFrame} (hg : g.method = m) {rest : List Value} (hs : g.stack = .int x :: .int j :: .ref a :: rest) (hd : decode c.code g.pc = .ok (.iastore, 1)) :
    ∃ T' h', Stand p l e R s m args below meth c T' (locs ++ [⟨a, j.toNatClampNeg⟩]) cells slots ∧ T'.heap = h' ∧ Wr h h' a j.toNatClampNeg (.int x) ∧ Arv Z h' a k .int n (vs.set i (.int x)) d ∧ ∀ t, Steps p.tables e below (T'.setTop { g with pc := g.pc + 1, stack := rest }) t → Steps p.tables e below (T.setTop g) t := by
  obtain ⟨cl, A, q, S, N, H, G⟩ := V
  obtain ⟨T', h', X', e', W', st⟩ := stI X hx hZ eT A (own_idx S q1 q2) (g := g) hg hs hd
  exact ⟨T', h', X', e', W', Arv.set A q S N H G rfl W' i hi hl, st⟩
theorem own_stJ (X : Stand p l e R s m args below meth c T locs cells slots) (hx : p.tables.exec = Jvm.exec) (hZ : Z.Warmed39 s.vm) (eT : T.heap = h) {k : ClassId} {n : Int32} {vs : List Value} {d : Value} (V : Arv Z h a k .long n vs d) {j : Int32} {x : Int64} (q1 : ¬ j < 0) (q2 : j < n) (i : Nat) (hi : j.toNatClampNeg = i) (hl : i < vs.length) {g : JFrame} (hg : g.method = m) {rest : List Value} (hs : g.stack = .long x :: .int j :: .ref a :: rest) (hd : decode c.code g.pc = .ok (.lastore, 1)) :
    ∃ T' h', Stand p l e R s m args below meth c T' (locs ++ [⟨a, j.toNatClampNeg⟩]) cells slots ∧ T'.heap = h' ∧ Wr h h' a j.toNatClampNeg (.long x) ∧ Arv Z h' a k .long n (vs.set i (.long x)) d ∧ ∀ t, Steps p.tables e below (T'.setTop { g with pc := g.pc + 1, stack := rest }) t → Steps p.tables e below (T.setTop g) t := by
  obtain ⟨cl, A, q, S, N, H, G⟩ := V
  obtain ⟨T', h', X', e', W', st⟩ := stJ X hx hZ eT A (own_idx S q1 q2) (g := g) hg hs hd
  exact ⟨T', h', X', e', W', Arv.set A q S N H G rfl W' i hi hl, st⟩
theorem own_stC (X : Stand p l e R s m args below meth c T locs cells slots) (hx : p.tables.exec = Jvm.exec) (hZ : Z.Warmed39 s.vm) (eT : T.heap = h) {k : ClassId} {n : Int32} {vs : List Value} {d : Value} (V : Arv Z h a k .char n vs d) {j x : Int32} (q1 : ¬ j < 0) (q2 : j < n) (i : Nat) (hi : j.toNatClampNeg = i) (hl : i < vs.length) {g : JFrame} (hg : g.method = m) {rest : List Value} (hs : g.stack = .int x :: .int j :: .ref a :: rest) (hd : decode c.code g.pc = .ok (.castore, 1)) :
    ∃ T' h', Stand p l e R s m args below meth c T' (locs ++ [⟨a, j.toNatClampNeg⟩]) cells slots ∧ T'.heap = h' ∧ Wr h h' a j.toNatClampNeg (.int (nar .char x)) ∧ Arv Z h' a k .char n (vs.set i (.int (nar .char x))) d ∧ ∀ t, Steps p.tables e below (T'.setTop { g with pc := g.pc + 1, stack := rest }) t → Steps p.tables e below (T.setTop g) t := by
  obtain ⟨cl, A, q, S, N, H, G⟩ := V
  obtain ⟨T', h', X', e', W', st⟩ := stC X hx hZ eT A (own_idx S q1 q2) (g := g) hg hs hd
  exact ⟨T', h', X', e', W', Arv.set A q S N H G (fits_nar_char _) W' i hi hl, st⟩
theorem own_stB (X : Stand p l e R s m args below meth c T locs cells slots) (hx : p.tables.exec = Jvm.exec) (hZ : Z.Warmed39 s.vm) (eT : T.heap = h) {k : ClassId} {n : Int32} {vs : List Value} {d : Value} (V : Arv Z h a k .byte n vs d) {j x : Int32} (q1 : ¬ j < 0) (q2 : j < n) (i : Nat) (hi : j.toNatClampNeg = i) (hl : i < vs.length) {g : JFrame} (hg : g.method = m) {rest : List Value} (hs : g.stack = .int x :: .int j :: .ref a :: rest) (hd : decode c.code g.pc = .ok (.bastore, 1)) :
    ∃ T' h', Stand p l e R s m args below meth c T' (locs ++ [⟨a, j.toNatClampNeg⟩]) cells slots ∧ T'.heap = h' ∧ Wr h h' a j.toNatClampNeg (.int (nar .byte x)) ∧ Arv Z h' a k .byte n (vs.set i (.int (nar .byte x))) d ∧ ∀ t, Steps p.tables e below (T'.setTop { g with pc := g.pc + 1, stack := rest }) t → Steps p.tables e below (T.setTop g) t := by
  obtain ⟨cl, A, q, S, N, H, G⟩ := V
  obtain ⟨T', h', X', e', W', st⟩ := stB X hx hZ eT A (own_idx S q1 q2) (g := g) hg hs hd
  exact ⟨T', h', X', e', W', Arv.set A q S N H G (fits_nar_byte _) W' i hi hl, st⟩
theorem own_stZ (X : Stand p l e R s m args below meth c T locs cells slots) (hx : p.tables.exec = Jvm.exec) (hZ : Z.Warmed39 s.vm) (eT : T.heap = h) {k : ClassId} {n : Int32} {vs : List Value} {d : Value} (V : Arv Z h a k .boolean n vs d) {j x : Int32} (q1 : ¬ j < 0) (q2 : j < n) (i : Nat) (hi : j.toNatClampNeg = i) (hl : i < vs.length) {g : JFrame} (hg : g.method = m) {rest : List Value} (hs : g.stack = .int x :: .int j :: .ref a :: rest) (hd : decode c.code g.pc = .ok (.bastore, 1)) :
    ∃ T' h', Stand p l e R s m args below meth c T' (locs ++ [⟨a, j.toNatClampNeg⟩]) cells slots ∧ T'.heap = h' ∧ Wr h h' a j.toNatClampNeg (.int (nar .boolean x)) ∧ Arv Z h' a k .boolean n (vs.set i (.int (nar .boolean x))) d ∧ ∀ t, Steps p.tables e below (T'.setTop { g with pc := g.pc + 1, stack := rest }) t → Steps p.tables e below (T.setTop g) t := by
  obtain ⟨cl, A, q, S, N, H, G⟩ := V
  obtain ⟨T', h', X', e', W', st⟩ := stZ X hx hZ eT A (own_idx S q1 q2) (g := g) hg hs hd
  exact ⟨T', h', X', e', W', Arv.set A q S N H G (fits_nar_bool _) W' i hi hl, st⟩
theorem own_old {n0 : Nat} (O : Old Z n0 h) : n0 ≤ h.size := O.1 ▸ O.2.1
theorem own_res {z z' y : Int32} (hq : y = z') (hz : z = z') : some (Value.int z) = some (Value.int y) := by rw [hq, hz]
theorem own_resJ {z z' y : Int64} (hq : y = z') (hz : z = z') : some (Value.long z) = some (Value.long y) := by rw [hq, hz]
theorem own_narR {v : Value} {t : FieldType} (q : v.isRef = true) (r : t.isReference = true := by rfl) : narrow t v = v := by
  rcases ref_cases q with rfl | ⟨_, rfl⟩ <;> cases t <;> first | rfl | (simp [FieldType.isReference] at r)
theorem own_fitR {v : Value} {t : FieldType} (q : v.isRef = true) (r : t.isReference = true := by rfl) : fits t v = true := by
  rcases ref_cases q with rfl | ⟨_, rfl⟩ <;> cases t <;> first | rfl | (simp [FieldType.isReference] at r)
theorem own_fld {ar : Array Value} {t : Term} {x : Addr} {C n d : String} {k : Int32} (ht : t.eval ar s none [] s = some (.ref x)) (q : (Jvm.Cond.eq (.field t C n d) (.int k)).value ar s none s [] = some true) : Fld s s.heap x C n d (.int k) := by
  obtain ⟨u, w, e1, e2, -, k2⟩ := cmp_v (Or.inl q)
  have e3 : (Term.int k).eval ar s none [] s = some (.int k) := Term.int_eval k
  rw [e3] at e2
  obtain rfl := Option.some.inj e2
  obtain ⟨z, rfl⟩ := k2
  have e4 : z = k := gotT (Cond.eq_ints e1 e3) q
  subst e4
  rw [fld_at ht] at e1
  exact Fld.start e1
theorem own_neI {u w : Int32} (q : u ≠ w) : Value.int u ≠ Value.int w := fun z => q (Value.int.inj z)
theorem own_stR (X : Stand p l e R s m args below meth c T locs cells slots) (hx : p.tables.exec = Jvm.exec) (hZ : Z.Warmed39 s.vm) (eT : T.heap = h) {k : ClassId} {n : Int32} {vs : List Value} {d : Value} {ty : FieldType} {C : String} (V : Arv Z h a k ty n vs d) (hty : ty.isReference = true) (O : Ovr Z k C) {y : Addr} (I : Ins Z h y C true) {j : Int32} (q1 : ¬ j < 0) (q2 : j < n) (i : Nat) (hi : j.toNatClampNeg = i) (hl : i < vs.length) {g : JFrame} (hg : g.method = m) {rest : List Value} (hs : g.stack = .ref y :: .int j :: .ref a :: rest) (hd : decode c.code g.pc = .ok (.aastore, 1)) :
    ∃ T' h', Stand p l e R s m args below meth c T' (locs ++ [⟨a, j.toNatClampNeg⟩]) cells slots ∧ T'.heap = h' ∧ Wr h h' a j.toNatClampNeg (.ref y) ∧ Arv Z h' a k ty n (vs.set i (.ref y)) d ∧ ∀ t, Steps p.tables e below (T'.setTop { g with pc := g.pc + 1, stack := rest }) t → Steps p.tables e below (T.setTop g) t := by
  obtain ⟨cl, A, q, S, N, H, G⟩ := V
  obtain ⟨T', h', X', e', W', st⟩ := stR X hx hZ eT A (own_idx S q1 q2) hty (Sto.ofV A q O I) (g := g) hg hs hd
  exact ⟨T', h', X', e', W', Arv.set A q S N H G (own_fitR rfl hty) W' i hi hl, st⟩
theorem own_dupx2 (X : Stand p l e R s m args below meth c T locs cells slots) (hx : p.tables.exec = Jvm.exec) {g : JFrame} (hg : g.method = m) {x y z : Value} {rest : List Value} (hd : decode c.code g.pc = .ok (.dup_x2, 1)) (hs : g.stack = x :: y :: z :: rest) (hc : x.category = 1) (hc' : y.category = 1) (hc'' : z.category = 1) (t : State) (kk : Steps p.tables e below (T.setTop { g with pc := g.pc + 1, stack := x :: y :: z :: x :: rest }) t) : Steps p.tables e below (T.setTop g) t := by
  subst hg
  jvm_step X.here [X.here.top, hx, hd, dup_x2.wp_sem, hs, hc, hc', hc'']
  exact kk
end OwnKit
theorem own_lt (x y : Int32) : (x < y) = (x.toInt < y.toInt) := propext Int32.lt_iff_toInt_lt
theorem own_eq (x y : Int32) : (x = y) = (x.toInt = y.toInt) := propext Int32.toInt_inj.symm
theorem own_rem (x k : Int32) (hk : 0 < k.toInt) : ¬ ((x &&& 2147483647) % k < 0) ∧ (x &&& 2147483647) % k < k := by
  have h1 := c_mask x 2147483647 31 (by decide) (by decide)
  have h2 := c_iremV (x &&& 2147483647) k
  have h3 : 0 ≤ (x &&& 2147483647).toInt := by rw [h1]; exact Int.emod_nonneg _ (by decide)
  have h4 := h2.1 h3 hk
  rw [own_lt, own_lt]
  have h5 : (0 : Int32).toInt = 0 := rfl
  omega
theorem own_ofNat {i j : Nat} (hi : i < 1000) (hj : j < 1000) (z : Int32.ofNat i = Int32.ofNat j) : i = j := by
  have h1 : (Int32.ofNat i).toInt = (i : Int) := len_toInt (by omega)
  have h2 : (Int32.ofNat j).toInt = (j : Int) := len_toInt (by omega)
  rw [z] at h1
  omega
def OwnSt (Z : State) (c : Nat → Addr) : Prop := Sta Z Z.heap "com/example/arbora/arbora/sql/ValueType" "STRING" "Lcom/example/arbora/arbora/sql/ValueType;" (.ref (c 0)) ∧ Sta Z Z.heap "com/example/arbora/arbora/sql/ValueType" "FIXED_STRING" "Lcom/example/arbora/arbora/sql/ValueType;" (.ref (c 1)) ∧ Sta Z Z.heap "com/example/arbora/arbora/sql/ValueType" "LABEL" "Lcom/example/arbora/arbora/sql/ValueType;" (.ref (c 2)) ∧ Sta Z Z.heap "com/example/arbora/arbora/sql/ValueType" "INTEGER" "Lcom/example/arbora/arbora/sql/ValueType;" (.ref (c 3)) ∧ Sta Z Z.heap "com/example/arbora/arbora/sql/ValueType" "DECIMAL" "Lcom/example/arbora/arbora/sql/ValueType;" (.ref (c 4)) ∧ Sta Z Z.heap "com/example/arbora/arbora/sql/ValueType" "FLOATING_POINT" "Lcom/example/arbora/arbora/sql/ValueType;" (.ref (c 5)) ∧ Sta Z Z.heap "com/example/arbora/arbora/sql/ValueType" "BOOLEAN" "Lcom/example/arbora/arbora/sql/ValueType;" (.ref (c 6)) ∧ Sta Z Z.heap "com/example/arbora/arbora/sql/ValueType" "DATE" "Lcom/example/arbora/arbora/sql/ValueType;" (.ref (c 7)) ∧ Sta Z Z.heap "com/example/arbora/arbora/sql/ValueType" "TIMESTAMP" "Lcom/example/arbora/arbora/sql/ValueType;" (.ref (c 8)) ∧ Sta Z Z.heap "com/example/arbora/arbora/sql/ValueType" "TIMESTAMP_WITH_TIME_ZONE" "Lcom/example/arbora/arbora/sql/ValueType;" (.ref (c 9)) ∧ Sta Z Z.heap "com/example/arbora/arbora/sql/ValueType" "BINARY" "Lcom/example/arbora/arbora/sql/ValueType;" (.ref (c 10)) ∧ Sta Z Z.heap "com/example/arbora/arbora/sql/ValueType" "UUID" "Lcom/example/arbora/arbora/sql/ValueType;" (.ref (c 11)) ∧ Sta Z Z.heap "com/example/arbora/arbora/sql/ValueType" "TIME" "Lcom/example/arbora/arbora/sql/ValueType;" (.ref (c 12)) ∧ Sta Z Z.heap "com/example/arbora/arbora/sql/ValueType" "UNSUPPORTED" "Lcom/example/arbora/arbora/sql/ValueType;" (.ref (c 13)) ∧ (∀ i, i < 14 → Exa Z Z.heap (c i) "com/example/arbora/arbora/sql/ValueType") ∧ (∀ i j, i < 14 → j < 14 → c i = c j → i = j)
def fPick (p0 : Int32) : Nat := (if p0 = 0 then 0 else (if p0 = 1 then 1 else (if p0 = 2 then 2 else (if p0 = 3 then 3 else (if p0 = 4 then 4 else (if p0 = 5 then 5 else (if p0 = 6 then 6 else (if p0 = 7 then 7 else (if p0 = 8 then 8 else (if p0 = 9 then 9 else (if p0 = 10 then 10 else (if p0 = 11 then 11 else (if p0 = 12 then 12 else 13)))))))))))))
theorem d1_0 : decode method_2_code 0 = .ok (.iload_n 0, 1) := by decide +kernel
theorem d1_1 : decode method_2_code 1 = .ok (.ifCond .ne 7, 3) := by decide +kernel
theorem d1_4 : decode method_2_code 4 = .ok (.getstatic 7, 3) := by decide +kernel
theorem d1_7 : decode method_2_code 7 = .ok (.areturn, 1) := by decide +kernel
theorem d1_8 : decode method_2_code 8 = .ok (.iload_n 0, 1) := by decide +kernel
theorem d1_9 : decode method_2_code 9 = .ok (.iconst 1, 1) := by decide +kernel
theorem d1_10 : decode method_2_code 10 = .ok (.if_icmp .ne 7, 3) := by decide +kernel
theorem d1_13 : decode method_2_code 13 = .ok (.getstatic 13, 3) := by decide +kernel
theorem d1_16 : decode method_2_code 16 = .ok (.areturn, 1) := by decide +kernel
theorem d1_17 : decode method_2_code 17 = .ok (.iload_n 0, 1) := by decide +kernel
theorem d1_18 : decode method_2_code 18 = .ok (.iconst 2, 1) := by decide +kernel
theorem d1_19 : decode method_2_code 19 = .ok (.if_icmp .ne 7, 3) := by decide +kernel
theorem d1_22 : decode method_2_code 22 = .ok (.getstatic 16, 3) := by decide +kernel
theorem d1_25 : decode method_2_code 25 = .ok (.areturn, 1) := by decide +kernel
theorem d1_26 : decode method_2_code 26 = .ok (.iload_n 0, 1) := by decide +kernel
theorem d1_27 : decode method_2_code 27 = .ok (.iconst 3, 1) := by decide +kernel
theorem d1_28 : decode method_2_code 28 = .ok (.if_icmp .ne 7, 3) := by decide +kernel
theorem d1_31 : decode method_2_code 31 = .ok (.getstatic 19, 3) := by decide +kernel
theorem d1_34 : decode method_2_code 34 = .ok (.areturn, 1) := by decide +kernel
theorem d1_35 : decode method_2_code 35 = .ok (.iload_n 0, 1) := by decide +kernel
theorem d1_36 : decode method_2_code 36 = .ok (.iconst 4, 1) := by decide +kernel
theorem d1_37 : decode method_2_code 37 = .ok (.if_icmp .ne 7, 3) := by decide +kernel
theorem d1_40 : decode method_2_code 40 = .ok (.getstatic 22, 3) := by decide +kernel
theorem d1_43 : decode method_2_code 43 = .ok (.areturn, 1) := by decide +kernel
theorem d1_44 : decode method_2_code 44 = .ok (.iload_n 0, 1) := by decide +kernel
theorem d1_45 : decode method_2_code 45 = .ok (.iconst 5, 1) := by decide +kernel
theorem d1_46 : decode method_2_code 46 = .ok (.if_icmp .ne 7, 3) := by decide +kernel
theorem d1_49 : decode method_2_code 49 = .ok (.getstatic 25, 3) := by decide +kernel
theorem d1_52 : decode method_2_code 52 = .ok (.areturn, 1) := by decide +kernel
theorem d1_53 : decode method_2_code 53 = .ok (.iload_n 0, 1) := by decide +kernel
theorem d1_54 : decode method_2_code 54 = .ok (.bipush 6, 2) := by decide +kernel
theorem d1_56 : decode method_2_code 56 = .ok (.if_icmp .ne 7, 3) := by decide +kernel
theorem d1_59 : decode method_2_code 59 = .ok (.getstatic 28, 3) := by decide +kernel
theorem d1_62 : decode method_2_code 62 = .ok (.areturn, 1) := by decide +kernel
theorem d1_63 : decode method_2_code 63 = .ok (.iload_n 0, 1) := by decide +kernel
theorem d1_64 : decode method_2_code 64 = .ok (.bipush 7, 2) := by decide +kernel
theorem d1_66 : decode method_2_code 66 = .ok (.if_icmp .ne 7, 3) := by decide +kernel
theorem d1_69 : decode method_2_code 69 = .ok (.getstatic 31, 3) := by decide +kernel
theorem d1_72 : decode method_2_code 72 = .ok (.areturn, 1) := by decide +kernel
theorem d1_73 : decode method_2_code 73 = .ok (.iload_n 0, 1) := by decide +kernel
theorem d1_74 : decode method_2_code 74 = .ok (.bipush 8, 2) := by decide +kernel
theorem d1_76 : decode method_2_code 76 = .ok (.if_icmp .ne 7, 3) := by decide +kernel
theorem d1_79 : decode method_2_code 79 = .ok (.getstatic 34, 3) := by decide +kernel
theorem d1_82 : decode method_2_code 82 = .ok (.areturn, 1) := by decide +kernel
theorem d1_83 : decode method_2_code 83 = .ok (.iload_n 0, 1) := by decide +kernel
theorem d1_84 : decode method_2_code 84 = .ok (.bipush 9, 2) := by decide +kernel
theorem d1_86 : decode method_2_code 86 = .ok (.if_icmp .ne 7, 3) := by decide +kernel
theorem d1_89 : decode method_2_code 89 = .ok (.getstatic 37, 3) := by decide +kernel
theorem d1_92 : decode method_2_code 92 = .ok (.areturn, 1) := by decide +kernel
theorem d1_93 : decode method_2_code 93 = .ok (.iload_n 0, 1) := by decide +kernel
theorem d1_94 : decode method_2_code 94 = .ok (.bipush 10, 2) := by decide +kernel
theorem d1_96 : decode method_2_code 96 = .ok (.if_icmp .ne 7, 3) := by decide +kernel
theorem d1_99 : decode method_2_code 99 = .ok (.getstatic 40, 3) := by decide +kernel
theorem d1_102 : decode method_2_code 102 = .ok (.areturn, 1) := by decide +kernel
theorem d1_103 : decode method_2_code 103 = .ok (.iload_n 0, 1) := by decide +kernel
theorem d1_104 : decode method_2_code 104 = .ok (.bipush 11, 2) := by decide +kernel
theorem d1_106 : decode method_2_code 106 = .ok (.if_icmp .ne 7, 3) := by decide +kernel
theorem d1_109 : decode method_2_code 109 = .ok (.getstatic 43, 3) := by decide +kernel
theorem d1_112 : decode method_2_code 112 = .ok (.areturn, 1) := by decide +kernel
theorem d1_113 : decode method_2_code 113 = .ok (.iload_n 0, 1) := by decide +kernel
theorem d1_114 : decode method_2_code 114 = .ok (.bipush 12, 2) := by decide +kernel
theorem d1_116 : decode method_2_code 116 = .ok (.if_icmp .ne 7, 3) := by decide +kernel
theorem d1_119 : decode method_2_code 119 = .ok (.getstatic 46, 3) := by decide +kernel
theorem d1_122 : decode method_2_code 122 = .ok (.areturn, 1) := by decide +kernel
theorem d1_123 : decode method_2_code 123 = .ok (.getstatic 49, 3) := by decide +kernel
theorem d1_126 : decode method_2_code 126 = .ok (.areturn, 1) := by decide +kernel
theorem pn1 : plainName "com/example/arbora/arbora/sql/ValueTypeEqualExactlyWhenTextsArePinLaw" = true := by first | (simp [plainName, overriddenIn]; done) | decide +kernel
theorem ef1 (m : MethodId) (x0 : Int32) : entryFrame m #[(.int x0)] 1 = mkF m 0 #[.val (.int x0)] [] := by first | (simp [entryFrame, mkF, argsToLocals, Value.category, maxLocals]; done) | rfl
def Q1 (Z : State) (p0 : Int32) (c : Nat → Addr) (h0 : Heap) (n0 : Nat) (v : Option Value) (h : Heap) (L : List Loc) : Prop := v = some (.ref (c (fPick p0))) ∧ Fr n0 L ∧ h = h0
set_option maxRecDepth 65536 in
set_option maxHeartbeats 40000000 in
theorem rm1 (l : Launch) (Z : State) (a0 : Array Value) (hw : ∀ d ∈ tables_1, d.before a0 Z = true) (ws : List Jvm.Cond) (p0 : Int32) (c : Nat → Addr) (h0 : Heap) (n0 : Nat) (O0 : Old Z n0 h0) (HS : OwnSt Z c) :
    MetFree l (⟨"com/example/arbora/arbora/sql/ValueTypeEqualExactlyWhenTextsArePinLaw", "pick", "(I)Lcom/example/arbora/arbora/sql/ValueType;"⟩ : MethodName) (head1 (Jvm.Cond.code (⟨"com/example/arbora/arbora/sql/ValueTypeEqualExactlyWhenTextsArePinLaw", "pick", "(I)Lcom/example/arbora/arbora/sql/ValueType;"⟩ : MethodName) method_2_code 1 (some (.object "com/example/arbora/arbora/sql/ValueType")) :: ws) ({ frames := 0, cells := 0, slots := 0, locals := 0 } : Room)) (fun A_ U_ => A_ = #[(.int p0)] ∧ Z.Warmed39 U_.vm ∧ U_.heap = h0) (fun _ _ _ _ _ => True) (fun _ U o U' => ∃ v L, o = .returned v ∧ Q1 Z p0 c h0 n0 v U'.heap L ∧ FrameEnd U o U' L ({ frames := 0, cells := 0, slots := 0, locals := 0 } : Room).cells ({ frames := 0, cells := 0, slots := 0, locals := 0 } : Room).slots) := by
  refine MetFree.of_bodySF (plainFor_of_name pn1) hisR ?_
  intro p e s m args below meth cd s₁ Bd hml0 hP hK
  obtain ⟨rfl, hZ, hh⟩ := hP
  have hx := Bd.exec
  have hby := Bd.bytes
  have hlk : meth.locks = false := BodyLoose.notSynchronized Bd
  have hml : cd.maxLocals = 1 := hml0
  have hown : s.vm.findClass "com/example/arbora/arbora/sql/ValueTypeEqualExactlyWhenTextsArePinLaw" = some m.cls := findClass_of_methodNamed Bd.named
  have hnm := (name_of_methodNamed Bd.named Bd.method).1
  have X0 : Stand p l e ({ frames := 0, cells := 0, slots := 0, locals := 0 } : Room) s m #[(.int p0)] below meth cd s₁ [] 0 0 := Stand.of_body Bd
  have e0 : s₁.heap = h0 := by rw [← hh, Bd.state]; rfl
  have N0 := Fr.nil n0
  have G : Go p e below s 0 0 (Q1 Z p0 c h0 n0) (s₁.setTop (mkF m 0 #[.val (.int p0)] [])) := by
    show Go p e below s _ _ _ (s₁.setTop (mkF m 0 #[.val (.int p0)] []))
    refine Go.st (fun _ kq_ => XS.iloadN X0.here hx rfl (hb hby d1_0) rfl kq_) ?_
    show Go p e below s _ _ _ (s₁.setTop (mkF m 1 #[.val (.int p0)] [(.int p0)]))
    by_cases c1_1 : p0 = (0 : Int32)
    · refine Go.st (fun _ kq_ => XS.ifNo X0.here hx rfl (hb hby d1_1) rfl (XT.i0_ne_f c1_1) kq_) ?_
      show Go p e below s _ _ _ (s₁.setTop (mkF m 4 #[.val (.int p0)] []))
      obtain ⟨T2, X2, e2, st2⟩ := getS X0 hx hZ hown (host := "") (own_w hw 5 rfl) Via.refl e0 (HS.1.ext O0.2) (g := (mkF m 4 #[.val (.int p0)] [])) rfl (hb hby d1_4)
      refine Go.st st2 ?_
      show Go p e below s _ _ _ (T2.setTop (mkF m 7 #[.val (.int p0)] [(.ref (c 0))]))
      exact Go.ret X2 hlk (some (.ref (c 0))) (fun h => by rw [Bd.returns] at h; cases h) (by rw [e2]; exact ⟨by unfold fPick; rw [if_pos c1_1], N0, rfl⟩) (by decide) (by decide) (fun fs hr => retOut X2 hx Bd.returns rfl (Or.inr (Or.inr (Or.inr (Or.inr ⟨rfl, rfl, rfl⟩)))) (hb hby d1_7) hr)
    · refine Go.st (fun _ kq_ => XS.ifYes X0.here hx rfl (pc0 := 1) (pc' := 8) rfl (hb hby d1_1) rfl (XT.i0_ne_t c1_1) (by decide) (by decide) kq_) ?_
      show Go p e below s _ _ _ (s₁.setTop (mkF m 8 #[.val (.int p0)] []))
      refine Go.st (fun _ kq_ => XS.iloadN X0.here hx rfl (hb hby d1_8) rfl kq_) ?_
      show Go p e below s _ _ _ (s₁.setTop (mkF m 9 #[.val (.int p0)] [(.int p0)]))
      refine Go.st (fun _ kq_ => XS.iconst X0.here hx rfl (hb hby d1_9) kq_) ?_
      show Go p e below s _ _ _ (s₁.setTop (mkF m 10 #[.val (.int p0)] [(.int (1 : Int32)), (.int p0)]))
      by_cases c10_3 : p0 = (1 : Int32)
      · refine Go.st (fun _ kq_ => XS.icmpNo X0.here hx rfl (hb hby d1_10) rfl (XT.ii_ne_f c10_3) kq_) ?_
        show Go p e below s _ _ _ (s₁.setTop (mkF m 13 #[.val (.int p0)] []))
        obtain ⟨T4, X4, e4, st4⟩ := getS X0 hx hZ hown (host := "") (own_w hw 52 rfl) Via.refl e0 (HS.2.1.ext O0.2) (g := (mkF m 13 #[.val (.int p0)] [])) rfl (hb hby d1_13)
        refine Go.st st4 ?_
        show Go p e below s _ _ _ (T4.setTop (mkF m 16 #[.val (.int p0)] [(.ref (c 1))]))
        exact Go.ret X4 hlk (some (.ref (c 1))) (fun h => by rw [Bd.returns] at h; cases h) (by rw [e4]; exact ⟨by unfold fPick; rw [if_neg c1_1, if_pos c10_3], N0, rfl⟩) (by decide) (by decide) (fun fs hr => retOut X4 hx Bd.returns rfl (Or.inr (Or.inr (Or.inr (Or.inr ⟨rfl, rfl, rfl⟩)))) (hb hby d1_16) hr)
      · refine Go.st (fun _ kq_ => XS.icmpYes X0.here hx rfl (pc0 := 10) (pc' := 17) rfl (hb hby d1_10) rfl (XT.ii_ne_t c10_3) (by decide) (by decide) kq_) ?_
        show Go p e below s _ _ _ (s₁.setTop (mkF m 17 #[.val (.int p0)] []))
        refine Go.st (fun _ kq_ => XS.iloadN X0.here hx rfl (hb hby d1_17) rfl kq_) ?_
        show Go p e below s _ _ _ (s₁.setTop (mkF m 18 #[.val (.int p0)] [(.int p0)]))
        refine Go.st (fun _ kq_ => XS.iconst X0.here hx rfl (hb hby d1_18) kq_) ?_
        show Go p e below s _ _ _ (s₁.setTop (mkF m 19 #[.val (.int p0)] [(.int (2 : Int32)), (.int p0)]))
        by_cases c19_5 : p0 = (2 : Int32)
        · refine Go.st (fun _ kq_ => XS.icmpNo X0.here hx rfl (hb hby d1_19) rfl (XT.ii_ne_f c19_5) kq_) ?_
          show Go p e below s _ _ _ (s₁.setTop (mkF m 22 #[.val (.int p0)] []))
          obtain ⟨T6, X6, e6, st6⟩ := getS X0 hx hZ hown (host := "") (own_w hw 47 rfl) Via.refl e0 (HS.2.2.1.ext O0.2) (g := (mkF m 22 #[.val (.int p0)] [])) rfl (hb hby d1_22)
          refine Go.st st6 ?_
          show Go p e below s _ _ _ (T6.setTop (mkF m 25 #[.val (.int p0)] [(.ref (c 2))]))
          exact Go.ret X6 hlk (some (.ref (c 2))) (fun h => by rw [Bd.returns] at h; cases h) (by rw [e6]; exact ⟨by unfold fPick; rw [if_neg c1_1, if_neg c10_3, if_pos c19_5], N0, rfl⟩) (by decide) (by decide) (fun fs hr => retOut X6 hx Bd.returns rfl (Or.inr (Or.inr (Or.inr (Or.inr ⟨rfl, rfl, rfl⟩)))) (hb hby d1_25) hr)
        · refine Go.st (fun _ kq_ => XS.icmpYes X0.here hx rfl (pc0 := 19) (pc' := 26) rfl (hb hby d1_19) rfl (XT.ii_ne_t c19_5) (by decide) (by decide) kq_) ?_
          show Go p e below s _ _ _ (s₁.setTop (mkF m 26 #[.val (.int p0)] []))
          refine Go.st (fun _ kq_ => XS.iloadN X0.here hx rfl (hb hby d1_26) rfl kq_) ?_
          show Go p e below s _ _ _ (s₁.setTop (mkF m 27 #[.val (.int p0)] [(.int p0)]))
          refine Go.st (fun _ kq_ => XS.iconst X0.here hx rfl (hb hby d1_27) kq_) ?_
          show Go p e below s _ _ _ (s₁.setTop (mkF m 28 #[.val (.int p0)] [(.int (3 : Int32)), (.int p0)]))
          by_cases c28_7 : p0 = (3 : Int32)
          · refine Go.st (fun _ kq_ => XS.icmpNo X0.here hx rfl (hb hby d1_28) rfl (XT.ii_ne_f c28_7) kq_) ?_
            show Go p e below s _ _ _ (s₁.setTop (mkF m 31 #[.val (.int p0)] []))
            obtain ⟨T8, X8, e8, st8⟩ := getS X0 hx hZ hown (host := "") (own_w hw 19 rfl) Via.refl e0 (HS.2.2.2.1.ext O0.2) (g := (mkF m 31 #[.val (.int p0)] [])) rfl (hb hby d1_31)
            refine Go.st st8 ?_
            show Go p e below s _ _ _ (T8.setTop (mkF m 34 #[.val (.int p0)] [(.ref (c 3))]))
            exact Go.ret X8 hlk (some (.ref (c 3))) (fun h => by rw [Bd.returns] at h; cases h) (by rw [e8]; exact ⟨by unfold fPick; rw [if_neg c1_1, if_neg c10_3, if_neg c19_5, if_pos c28_7], N0, rfl⟩) (by decide) (by decide) (fun fs hr => retOut X8 hx Bd.returns rfl (Or.inr (Or.inr (Or.inr (Or.inr ⟨rfl, rfl, rfl⟩)))) (hb hby d1_34) hr)
          · refine Go.st (fun _ kq_ => XS.icmpYes X0.here hx rfl (pc0 := 28) (pc' := 35) rfl (hb hby d1_28) rfl (XT.ii_ne_t c28_7) (by decide) (by decide) kq_) ?_
            show Go p e below s _ _ _ (s₁.setTop (mkF m 35 #[.val (.int p0)] []))
            refine Go.st (fun _ kq_ => XS.iloadN X0.here hx rfl (hb hby d1_35) rfl kq_) ?_
            show Go p e below s _ _ _ (s₁.setTop (mkF m 36 #[.val (.int p0)] [(.int p0)]))
            refine Go.st (fun _ kq_ => XS.iconst X0.here hx rfl (hb hby d1_36) kq_) ?_
            show Go p e below s _ _ _ (s₁.setTop (mkF m 37 #[.val (.int p0)] [(.int (4 : Int32)), (.int p0)]))
            by_cases c37_9 : p0 = (4 : Int32)
            · refine Go.st (fun _ kq_ => XS.icmpNo X0.here hx rfl (hb hby d1_37) rfl (XT.ii_ne_f c37_9) kq_) ?_
              show Go p e below s _ _ _ (s₁.setTop (mkF m 40 #[.val (.int p0)] []))
              obtain ⟨T10, X10, e10, st10⟩ := getS X0 hx hZ hown (host := "") (own_w hw 45 rfl) Via.refl e0 (HS.2.2.2.2.1.ext O0.2) (g := (mkF m 40 #[.val (.int p0)] [])) rfl (hb hby d1_40)
              refine Go.st st10 ?_
              show Go p e below s _ _ _ (T10.setTop (mkF m 43 #[.val (.int p0)] [(.ref (c 4))]))
              exact Go.ret X10 hlk (some (.ref (c 4))) (fun h => by rw [Bd.returns] at h; cases h) (by rw [e10]; exact ⟨by unfold fPick; rw [if_neg c1_1, if_neg c10_3, if_neg c19_5, if_neg c28_7, if_pos c37_9], N0, rfl⟩) (by decide) (by decide) (fun fs hr => retOut X10 hx Bd.returns rfl (Or.inr (Or.inr (Or.inr (Or.inr ⟨rfl, rfl, rfl⟩)))) (hb hby d1_43) hr)
            · refine Go.st (fun _ kq_ => XS.icmpYes X0.here hx rfl (pc0 := 37) (pc' := 44) rfl (hb hby d1_37) rfl (XT.ii_ne_t c37_9) (by decide) (by decide) kq_) ?_
              show Go p e below s _ _ _ (s₁.setTop (mkF m 44 #[.val (.int p0)] []))
              refine Go.st (fun _ kq_ => XS.iloadN X0.here hx rfl (hb hby d1_44) rfl kq_) ?_
              show Go p e below s _ _ _ (s₁.setTop (mkF m 45 #[.val (.int p0)] [(.int p0)]))
              refine Go.st (fun _ kq_ => XS.iconst X0.here hx rfl (hb hby d1_45) kq_) ?_
              show Go p e below s _ _ _ (s₁.setTop (mkF m 46 #[.val (.int p0)] [(.int (5 : Int32)), (.int p0)]))
              by_cases c46_11 : p0 = (5 : Int32)
              · refine Go.st (fun _ kq_ => XS.icmpNo X0.here hx rfl (hb hby d1_46) rfl (XT.ii_ne_f c46_11) kq_) ?_
                show Go p e below s _ _ _ (s₁.setTop (mkF m 49 #[.val (.int p0)] []))
                obtain ⟨T12, X12, e12, st12⟩ := getS X0 hx hZ hown (host := "") (own_w hw 55 rfl) Via.refl e0 (HS.2.2.2.2.2.1.ext O0.2) (g := (mkF m 49 #[.val (.int p0)] [])) rfl (hb hby d1_49)
                refine Go.st st12 ?_
                show Go p e below s _ _ _ (T12.setTop (mkF m 52 #[.val (.int p0)] [(.ref (c 5))]))
                exact Go.ret X12 hlk (some (.ref (c 5))) (fun h => by rw [Bd.returns] at h; cases h) (by rw [e12]; exact ⟨by unfold fPick; rw [if_neg c1_1, if_neg c10_3, if_neg c19_5, if_neg c28_7, if_neg c37_9, if_pos c46_11], N0, rfl⟩) (by decide) (by decide) (fun fs hr => retOut X12 hx Bd.returns rfl (Or.inr (Or.inr (Or.inr (Or.inr ⟨rfl, rfl, rfl⟩)))) (hb hby d1_52) hr)
              · refine Go.st (fun _ kq_ => XS.icmpYes X0.here hx rfl (pc0 := 46) (pc' := 53) rfl (hb hby d1_46) rfl (XT.ii_ne_t c46_11) (by decide) (by decide) kq_) ?_
                show Go p e below s _ _ _ (s₁.setTop (mkF m 53 #[.val (.int p0)] []))
                refine Go.st (fun _ kq_ => XS.iloadN X0.here hx rfl (hb hby d1_53) rfl kq_) ?_
                show Go p e below s _ _ _ (s₁.setTop (mkF m 54 #[.val (.int p0)] [(.int p0)]))
                refine Go.st (fun _ kq_ => XS.bipush X0.here hx rfl (hb hby d1_54) kq_) ?_
                show Go p e below s _ _ _ (s₁.setTop (mkF m 56 #[.val (.int p0)] [(.int (6 : Int32)), (.int p0)]))
                by_cases c56_13 : p0 = (6 : Int32)
                · refine Go.st (fun _ kq_ => XS.icmpNo X0.here hx rfl (hb hby d1_56) rfl (XT.ii_ne_f c56_13) kq_) ?_
                  show Go p e below s _ _ _ (s₁.setTop (mkF m 59 #[.val (.int p0)] []))
                  obtain ⟨T14, X14, e14, st14⟩ := getS X0 hx hZ hown (host := "") (own_w hw 56 rfl) Via.refl e0 (HS.2.2.2.2.2.2.1.ext O0.2) (g := (mkF m 59 #[.val (.int p0)] [])) rfl (hb hby d1_59)
                  refine Go.st st14 ?_
                  show Go p e below s _ _ _ (T14.setTop (mkF m 62 #[.val (.int p0)] [(.ref (c 6))]))
                  exact Go.ret X14 hlk (some (.ref (c 6))) (fun h => by rw [Bd.returns] at h; cases h) (by rw [e14]; exact ⟨by unfold fPick; rw [if_neg c1_1, if_neg c10_3, if_neg c19_5, if_neg c28_7, if_neg c37_9, if_neg c46_11, if_pos c56_13], N0, rfl⟩) (by decide) (by decide) (fun fs hr => retOut X14 hx Bd.returns rfl (Or.inr (Or.inr (Or.inr (Or.inr ⟨rfl, rfl, rfl⟩)))) (hb hby d1_62) hr)
                · refine Go.st (fun _ kq_ => XS.icmpYes X0.here hx rfl (pc0 := 56) (pc' := 63) rfl (hb hby d1_56) rfl (XT.ii_ne_t c56_13) (by decide) (by decide) kq_) ?_
                  show Go p e below s _ _ _ (s₁.setTop (mkF m 63 #[.val (.int p0)] []))
                  refine Go.st (fun _ kq_ => XS.iloadN X0.here hx rfl (hb hby d1_63) rfl kq_) ?_
                  show Go p e below s _ _ _ (s₁.setTop (mkF m 64 #[.val (.int p0)] [(.int p0)]))
                  refine Go.st (fun _ kq_ => XS.bipush X0.here hx rfl (hb hby d1_64) kq_) ?_
                  show Go p e below s _ _ _ (s₁.setTop (mkF m 66 #[.val (.int p0)] [(.int (7 : Int32)), (.int p0)]))
                  by_cases c66_15 : p0 = (7 : Int32)
                  · refine Go.st (fun _ kq_ => XS.icmpNo X0.here hx rfl (hb hby d1_66) rfl (XT.ii_ne_f c66_15) kq_) ?_
                    show Go p e below s _ _ _ (s₁.setTop (mkF m 69 #[.val (.int p0)] []))
                    obtain ⟨T16, X16, e16, st16⟩ := getS X0 hx hZ hown (host := "") (own_w hw 46 rfl) Via.refl e0 (HS.2.2.2.2.2.2.2.1.ext O0.2) (g := (mkF m 69 #[.val (.int p0)] [])) rfl (hb hby d1_69)
                    refine Go.st st16 ?_
                    show Go p e below s _ _ _ (T16.setTop (mkF m 72 #[.val (.int p0)] [(.ref (c 7))]))
                    exact Go.ret X16 hlk (some (.ref (c 7))) (fun h => by rw [Bd.returns] at h; cases h) (by rw [e16]; exact ⟨by unfold fPick; rw [if_neg c1_1, if_neg c10_3, if_neg c19_5, if_neg c28_7, if_neg c37_9, if_neg c46_11, if_neg c56_13, if_pos c66_15], N0, rfl⟩) (by decide) (by decide) (fun fs hr => retOut X16 hx Bd.returns rfl (Or.inr (Or.inr (Or.inr (Or.inr ⟨rfl, rfl, rfl⟩)))) (hb hby d1_72) hr)
                  · refine Go.st (fun _ kq_ => XS.icmpYes X0.here hx rfl (pc0 := 66) (pc' := 73) rfl (hb hby d1_66) rfl (XT.ii_ne_t c66_15) (by decide) (by decide) kq_) ?_
                    show Go p e below s _ _ _ (s₁.setTop (mkF m 73 #[.val (.int p0)] []))
                    refine Go.st (fun _ kq_ => XS.iloadN X0.here hx rfl (hb hby d1_73) rfl kq_) ?_
                    show Go p e below s _ _ _ (s₁.setTop (mkF m 74 #[.val (.int p0)] [(.int p0)]))
                    refine Go.st (fun _ kq_ => XS.bipush X0.here hx rfl (hb hby d1_74) kq_) ?_
                    show Go p e below s _ _ _ (s₁.setTop (mkF m 76 #[.val (.int p0)] [(.int (8 : Int32)), (.int p0)]))
                    by_cases c76_17 : p0 = (8 : Int32)
                    · refine Go.st (fun _ kq_ => XS.icmpNo X0.here hx rfl (hb hby d1_76) rfl (XT.ii_ne_f c76_17) kq_) ?_
                      show Go p e below s _ _ _ (s₁.setTop (mkF m 79 #[.val (.int p0)] []))
                      obtain ⟨T18, X18, e18, st18⟩ := getS X0 hx hZ hown (host := "") (own_w hw 50 rfl) Via.refl e0 (HS.2.2.2.2.2.2.2.2.1.ext O0.2) (g := (mkF m 79 #[.val (.int p0)] [])) rfl (hb hby d1_79)
                      refine Go.st st18 ?_
                      show Go p e below s _ _ _ (T18.setTop (mkF m 82 #[.val (.int p0)] [(.ref (c 8))]))
                      exact Go.ret X18 hlk (some (.ref (c 8))) (fun h => by rw [Bd.returns] at h; cases h) (by rw [e18]; exact ⟨by unfold fPick; rw [if_neg c1_1, if_neg c10_3, if_neg c19_5, if_neg c28_7, if_neg c37_9, if_neg c46_11, if_neg c56_13, if_neg c66_15, if_pos c76_17], N0, rfl⟩) (by decide) (by decide) (fun fs hr => retOut X18 hx Bd.returns rfl (Or.inr (Or.inr (Or.inr (Or.inr ⟨rfl, rfl, rfl⟩)))) (hb hby d1_82) hr)
                    · refine Go.st (fun _ kq_ => XS.icmpYes X0.here hx rfl (pc0 := 76) (pc' := 83) rfl (hb hby d1_76) rfl (XT.ii_ne_t c76_17) (by decide) (by decide) kq_) ?_
                      show Go p e below s _ _ _ (s₁.setTop (mkF m 83 #[.val (.int p0)] []))
                      refine Go.st (fun _ kq_ => XS.iloadN X0.here hx rfl (hb hby d1_83) rfl kq_) ?_
                      show Go p e below s _ _ _ (s₁.setTop (mkF m 84 #[.val (.int p0)] [(.int p0)]))
                      refine Go.st (fun _ kq_ => XS.bipush X0.here hx rfl (hb hby d1_84) kq_) ?_
                      show Go p e below s _ _ _ (s₁.setTop (mkF m 86 #[.val (.int p0)] [(.int (9 : Int32)), (.int p0)]))
                      by_cases c86_19 : p0 = (9 : Int32)
                      · refine Go.st (fun _ kq_ => XS.icmpNo X0.here hx rfl (hb hby d1_86) rfl (XT.ii_ne_f c86_19) kq_) ?_
                        show Go p e below s _ _ _ (s₁.setTop (mkF m 89 #[.val (.int p0)] []))
                        obtain ⟨T20, X20, e20, st20⟩ := getS X0 hx hZ hown (host := "") (own_w hw 53 rfl) Via.refl e0 (HS.2.2.2.2.2.2.2.2.2.1.ext O0.2) (g := (mkF m 89 #[.val (.int p0)] [])) rfl (hb hby d1_89)
                        refine Go.st st20 ?_
                        show Go p e below s _ _ _ (T20.setTop (mkF m 92 #[.val (.int p0)] [(.ref (c 9))]))
                        exact Go.ret X20 hlk (some (.ref (c 9))) (fun h => by rw [Bd.returns] at h; cases h) (by rw [e20]; exact ⟨by unfold fPick; rw [if_neg c1_1, if_neg c10_3, if_neg c19_5, if_neg c28_7, if_neg c37_9, if_neg c46_11, if_neg c56_13, if_neg c66_15, if_neg c76_17, if_pos c86_19], N0, rfl⟩) (by decide) (by decide) (fun fs hr => retOut X20 hx Bd.returns rfl (Or.inr (Or.inr (Or.inr (Or.inr ⟨rfl, rfl, rfl⟩)))) (hb hby d1_92) hr)
                      · refine Go.st (fun _ kq_ => XS.icmpYes X0.here hx rfl (pc0 := 86) (pc' := 93) rfl (hb hby d1_86) rfl (XT.ii_ne_t c86_19) (by decide) (by decide) kq_) ?_
                        show Go p e below s _ _ _ (s₁.setTop (mkF m 93 #[.val (.int p0)] []))
                        refine Go.st (fun _ kq_ => XS.iloadN X0.here hx rfl (hb hby d1_93) rfl kq_) ?_
                        show Go p e below s _ _ _ (s₁.setTop (mkF m 94 #[.val (.int p0)] [(.int p0)]))
                        refine Go.st (fun _ kq_ => XS.bipush X0.here hx rfl (hb hby d1_94) kq_) ?_
                        show Go p e below s _ _ _ (s₁.setTop (mkF m 96 #[.val (.int p0)] [(.int (10 : Int32)), (.int p0)]))
                        by_cases c96_21 : p0 = (10 : Int32)
                        · refine Go.st (fun _ kq_ => XS.icmpNo X0.here hx rfl (hb hby d1_96) rfl (XT.ii_ne_f c96_21) kq_) ?_
                          show Go p e below s _ _ _ (s₁.setTop (mkF m 99 #[.val (.int p0)] []))
                          obtain ⟨T22, X22, e22, st22⟩ := getS X0 hx hZ hown (host := "") (own_w hw 49 rfl) Via.refl e0 (HS.2.2.2.2.2.2.2.2.2.2.1.ext O0.2) (g := (mkF m 99 #[.val (.int p0)] [])) rfl (hb hby d1_99)
                          refine Go.st st22 ?_
                          show Go p e below s _ _ _ (T22.setTop (mkF m 102 #[.val (.int p0)] [(.ref (c 10))]))
                          exact Go.ret X22 hlk (some (.ref (c 10))) (fun h => by rw [Bd.returns] at h; cases h) (by rw [e22]; exact ⟨by unfold fPick; rw [if_neg c1_1, if_neg c10_3, if_neg c19_5, if_neg c28_7, if_neg c37_9, if_neg c46_11, if_neg c56_13, if_neg c66_15, if_neg c76_17, if_neg c86_19, if_pos c96_21], N0, rfl⟩) (by decide) (by decide) (fun fs hr => retOut X22 hx Bd.returns rfl (Or.inr (Or.inr (Or.inr (Or.inr ⟨rfl, rfl, rfl⟩)))) (hb hby d1_102) hr)
                        · refine Go.st (fun _ kq_ => XS.icmpYes X0.here hx rfl (pc0 := 96) (pc' := 103) rfl (hb hby d1_96) rfl (XT.ii_ne_t c96_21) (by decide) (by decide) kq_) ?_
                          show Go p e below s _ _ _ (s₁.setTop (mkF m 103 #[.val (.int p0)] []))
                          refine Go.st (fun _ kq_ => XS.iloadN X0.here hx rfl (hb hby d1_103) rfl kq_) ?_
                          show Go p e below s _ _ _ (s₁.setTop (mkF m 104 #[.val (.int p0)] [(.int p0)]))
                          refine Go.st (fun _ kq_ => XS.bipush X0.here hx rfl (hb hby d1_104) kq_) ?_
                          show Go p e below s _ _ _ (s₁.setTop (mkF m 106 #[.val (.int p0)] [(.int (11 : Int32)), (.int p0)]))
                          by_cases c106_23 : p0 = (11 : Int32)
                          · refine Go.st (fun _ kq_ => XS.icmpNo X0.here hx rfl (hb hby d1_106) rfl (XT.ii_ne_f c106_23) kq_) ?_
                            show Go p e below s _ _ _ (s₁.setTop (mkF m 109 #[.val (.int p0)] []))
                            obtain ⟨T24, X24, e24, st24⟩ := getS X0 hx hZ hown (host := "") (own_w hw 48 rfl) Via.refl e0 (HS.2.2.2.2.2.2.2.2.2.2.2.1.ext O0.2) (g := (mkF m 109 #[.val (.int p0)] [])) rfl (hb hby d1_109)
                            refine Go.st st24 ?_
                            show Go p e below s _ _ _ (T24.setTop (mkF m 112 #[.val (.int p0)] [(.ref (c 11))]))
                            exact Go.ret X24 hlk (some (.ref (c 11))) (fun h => by rw [Bd.returns] at h; cases h) (by rw [e24]; exact ⟨by unfold fPick; rw [if_neg c1_1, if_neg c10_3, if_neg c19_5, if_neg c28_7, if_neg c37_9, if_neg c46_11, if_neg c56_13, if_neg c66_15, if_neg c76_17, if_neg c86_19, if_neg c96_21, if_pos c106_23], N0, rfl⟩) (by decide) (by decide) (fun fs hr => retOut X24 hx Bd.returns rfl (Or.inr (Or.inr (Or.inr (Or.inr ⟨rfl, rfl, rfl⟩)))) (hb hby d1_112) hr)
                          · refine Go.st (fun _ kq_ => XS.icmpYes X0.here hx rfl (pc0 := 106) (pc' := 113) rfl (hb hby d1_106) rfl (XT.ii_ne_t c106_23) (by decide) (by decide) kq_) ?_
                            show Go p e below s _ _ _ (s₁.setTop (mkF m 113 #[.val (.int p0)] []))
                            refine Go.st (fun _ kq_ => XS.iloadN X0.here hx rfl (hb hby d1_113) rfl kq_) ?_
                            show Go p e below s _ _ _ (s₁.setTop (mkF m 114 #[.val (.int p0)] [(.int p0)]))
                            refine Go.st (fun _ kq_ => XS.bipush X0.here hx rfl (hb hby d1_114) kq_) ?_
                            show Go p e below s _ _ _ (s₁.setTop (mkF m 116 #[.val (.int p0)] [(.int (12 : Int32)), (.int p0)]))
                            by_cases c116_25 : p0 = (12 : Int32)
                            · refine Go.st (fun _ kq_ => XS.icmpNo X0.here hx rfl (hb hby d1_116) rfl (XT.ii_ne_f c116_25) kq_) ?_
                              show Go p e below s _ _ _ (s₁.setTop (mkF m 119 #[.val (.int p0)] []))
                              obtain ⟨T26, X26, e26, st26⟩ := getS X0 hx hZ hown (host := "") (own_w hw 41 rfl) Via.refl e0 (HS.2.2.2.2.2.2.2.2.2.2.2.2.1.ext O0.2) (g := (mkF m 119 #[.val (.int p0)] [])) rfl (hb hby d1_119)
                              refine Go.st st26 ?_
                              show Go p e below s _ _ _ (T26.setTop (mkF m 122 #[.val (.int p0)] [(.ref (c 12))]))
                              exact Go.ret X26 hlk (some (.ref (c 12))) (fun h => by rw [Bd.returns] at h; cases h) (by rw [e26]; exact ⟨by unfold fPick; rw [if_neg c1_1, if_neg c10_3, if_neg c19_5, if_neg c28_7, if_neg c37_9, if_neg c46_11, if_neg c56_13, if_neg c66_15, if_neg c76_17, if_neg c86_19, if_neg c96_21, if_neg c106_23, if_pos c116_25], N0, rfl⟩) (by decide) (by decide) (fun fs hr => retOut X26 hx Bd.returns rfl (Or.inr (Or.inr (Or.inr (Or.inr ⟨rfl, rfl, rfl⟩)))) (hb hby d1_122) hr)
                            · refine Go.st (fun _ kq_ => XS.icmpYes X0.here hx rfl (pc0 := 116) (pc' := 123) rfl (hb hby d1_116) rfl (XT.ii_ne_t c116_25) (by decide) (by decide) kq_) ?_
                              show Go p e below s _ _ _ (s₁.setTop (mkF m 123 #[.val (.int p0)] []))
                              obtain ⟨T27, X27, e27, st27⟩ := getS X0 hx hZ hown (host := "") (own_w hw 43 rfl) Via.refl e0 (HS.2.2.2.2.2.2.2.2.2.2.2.2.2.1.ext O0.2) (g := (mkF m 123 #[.val (.int p0)] [])) rfl (hb hby d1_123)
                              refine Go.st st27 ?_
                              show Go p e below s _ _ _ (T27.setTop (mkF m 126 #[.val (.int p0)] [(.ref (c 13))]))
                              exact Go.ret X27 hlk (some (.ref (c 13))) (fun h => by rw [Bd.returns] at h; cases h) (by rw [e27]; exact ⟨by unfold fPick; rw [if_neg c1_1, if_neg c10_3, if_neg c19_5, if_neg c28_7, if_neg c37_9, if_neg c46_11, if_neg c56_13, if_neg c66_15, if_neg c76_17, if_neg c86_19, if_neg c96_21, if_neg c106_23, if_neg c116_25], N0, rfl⟩) (by decide) (by decide) (fun fs hr => retOut X27 hx Bd.returns rfl (Or.inr (Or.inr (Or.inr (Or.inr ⟨rfl, rfl, rfl⟩)))) (hb hby d1_126) hr)
  obtain ⟨s2, o2, st2, r2⟩ := G
  exact ⟨s2, o2, castTop (ef1 m p0) st2, r2⟩
theorem d2_0 : decode prog_119_method_5_code 0 = .ok (.aload_n 0, 1) := by decide +kernel
theorem d2_1 : decode prog_119_method_5_code 1 = .ok (.getstatic 13, 3) := by decide +kernel
theorem d2_4 : decode prog_119_method_5_code 4 = .ok (.if_acmp .eq 17, 3) := by decide +kernel
theorem d2_7 : decode prog_119_method_5_code 7 = .ok (.aload_n 0, 1) := by decide +kernel
theorem d2_8 : decode prog_119_method_5_code 8 = .ok (.getstatic 25, 3) := by decide +kernel
theorem d2_11 : decode prog_119_method_5_code 11 = .ok (.if_acmp .eq 10, 3) := by decide +kernel
theorem d2_14 : decode prog_119_method_5_code 14 = .ok (.aload_n 0, 1) := by decide +kernel
theorem d2_15 : decode prog_119_method_5_code 15 = .ok (.getstatic 37, 3) := by decide +kernel
theorem d2_18 : decode prog_119_method_5_code 18 = .ok (.if_acmp .ne 7, 3) := by decide +kernel
theorem d2_21 : decode prog_119_method_5_code 21 = .ok (.iconst 1, 1) := by decide +kernel
theorem d2_22 : decode prog_119_method_5_code 22 = .ok (.goto 4, 3) := by decide +kernel
theorem d2_25 : decode prog_119_method_5_code 25 = .ok (.iconst 0, 1) := by decide +kernel
theorem d2_26 : decode prog_119_method_5_code 26 = .ok (.ireturn, 1) := by decide +kernel
theorem pn2 : plainName "com/example/arbora/arbora/sql/ValueType" = true := by first | (simp [plainName, overriddenIn]; done) | decide +kernel
theorem ef2 (m : MethodId) (x0 : Addr) : entryFrame m #[(.ref x0)] 1 = mkF m 0 #[.val (.ref x0)] [] := by first | (simp [entryFrame, mkF, argsToLocals, Value.category, maxLocals]; done) | rfl
def fEq (c : Nat → Addr) (i : Nat) : Int32 := (if ((.ref (c i)) : Value) = (.ref (c 3)) then (1 : Int32) else (if ((.ref (c i)) : Value) = (.ref (c 7)) then (1 : Int32) else (if ((.ref (c i)) : Value) = (.ref (c 11)) then (1 : Int32) else (0 : Int32))))
def Q2 (Z : State) (c : Nat → Addr) (i : Nat) (h0 : Heap) (n0 : Nat) (v : Option Value) (h : Heap) (L : List Loc) : Prop := v = some (.int (fEq c i)) ∧ Fr n0 L ∧ h = h0
set_option maxRecDepth 65536 in
set_option maxHeartbeats 40000000 in
theorem rm2 (l : Launch) (Z : State) (a0 : Array Value) (hw : ∀ d ∈ tables_1, d.before a0 Z = true) (ws : List Jvm.Cond) (c : Nat → Addr) (i : Nat) (h0 : Heap) (n0 : Nat) (O0 : Old Z n0 h0) (HS : OwnSt Z c) :
    MetFree l (⟨"com/example/arbora/arbora/sql/ValueType", "equalExactlyWhenTextsAre", "()Z"⟩ : MethodName) (head1 (Jvm.Cond.code (⟨"com/example/arbora/arbora/sql/ValueType", "equalExactlyWhenTextsAre", "()Z"⟩ : MethodName) prog_119_method_5_code 1 (some .boolean) :: ws) ({ frames := 0, cells := 0, slots := 0, locals := 0 } : Room)) (fun A_ U_ => A_ = #[(.ref (c i))] ∧ Z.Warmed39 U_.vm ∧ U_.heap = h0) (fun _ _ _ _ _ => True) (fun _ U o U' => ∃ v L, o = .returned v ∧ Q2 Z c i h0 n0 v U'.heap L ∧ FrameEnd U o U' L ({ frames := 0, cells := 0, slots := 0, locals := 0 } : Room).cells ({ frames := 0, cells := 0, slots := 0, locals := 0 } : Room).slots) := by
  refine MetFree.of_bodySF (plainFor_of_name pn2) hisR ?_
  intro p e s m args below meth cd s₁ Bd hml0 hP hK
  obtain ⟨rfl, hZ, hh⟩ := hP
  have hx := Bd.exec
  have hby := Bd.bytes
  have hlk : meth.locks = false := BodyLoose.notSynchronized Bd
  have hml : cd.maxLocals = 1 := hml0
  have hown : s.vm.findClass "com/example/arbora/arbora/sql/ValueType" = some m.cls := findClass_of_methodNamed Bd.named
  have hnm := (name_of_methodNamed Bd.named Bd.method).1
  have X0 : Stand p l e ({ frames := 0, cells := 0, slots := 0, locals := 0 } : Room) s m #[(.ref (c i))] below meth cd s₁ [] 0 0 := Stand.of_body Bd
  have e0 : s₁.heap = h0 := by rw [← hh, Bd.state]; rfl
  have N0 := Fr.nil n0
  have G : Go p e below s 0 0 (Q2 Z c i h0 n0) (s₁.setTop (mkF m 0 #[.val (.ref (c i))] [])) := by
    show Go p e below s _ _ _ (s₁.setTop (mkF m 0 #[.val (.ref (c i))] []))
    refine Go.st (fun _ kq_ => XS.aloadN X0.here hx rfl (hb hby d2_0) rfl rfl kq_) ?_
    show Go p e below s _ _ _ (s₁.setTop (mkF m 1 #[.val (.ref (c i))] [(.ref (c i))]))
    obtain ⟨T1, X1, e1, st1⟩ := getS X0 hx hZ hown (host := "") (own_w hw 13 rfl) Via.refl e0 (HS.2.2.2.1.ext O0.2) (g := (mkF m 1 #[.val (.ref (c i))] [(.ref (c i))])) rfl (hb hby d2_1)
    refine Go.st st1 ?_
    show Go p e below s _ _ _ (T1.setTop (mkF m 4 #[.val (.ref (c i))] [(.ref (c 3)), (.ref (c i))]))
    by_cases c4_2 : ((.ref (c i)) : Value) = (.ref (c 3))
    · refine Go.st (fun _ kq_ => XT.acmpYes X1.here hx rfl (pc0 := 4) (pc' := 21) rfl (hb hby d2_4) rfl rfl rfl (XT.aa_eq_t c4_2) (by decide) (by decide) kq_) ?_
      show Go p e below s _ _ _ (T1.setTop (mkF m 21 #[.val (.ref (c i))] []))
      refine Go.st (fun _ kq_ => XS.iconst X1.here hx rfl (hb hby d2_21) kq_) ?_
      show Go p e below s _ _ _ (T1.setTop (mkF m 22 #[.val (.ref (c i))] [(.int (1 : Int32))]))
      refine Go.st (fun _ kq_ => XS.goto X1.here hx rfl (pc0 := 22) (pc' := 26) rfl (hb hby d2_22) (by decide) (by decide) kq_) ?_
      show Go p e below s _ _ _ (T1.setTop (mkF m 26 #[.val (.ref (c i))] [(.int (1 : Int32))]))
      exact Go.ret X1 hlk (some (.int (nar .boolean (1 : Int32)))) (fun h => by rw [Bd.returns] at h; cases h) (by rw [e1]; exact ⟨own_res (z' := (1 : Int32)) (by unfold fEq; rw [if_pos c4_2]) rfl, N0, rfl⟩) (by decide) (by decide) (fun fs hr => retN X1 hx (t := .boolean) Bd.returns (by simp) (hb hby d2_26) hr)
    · refine Go.st (fun _ kq_ => XT.acmpNo X1.here hx rfl (hb hby d2_4) rfl rfl rfl (XT.aa_eq_f c4_2) kq_) ?_
      show Go p e below s _ _ _ (T1.setTop (mkF m 7 #[.val (.ref (c i))] []))
      refine Go.st (fun _ kq_ => XS.aloadN X1.here hx rfl (hb hby d2_7) rfl rfl kq_) ?_
      show Go p e below s _ _ _ (T1.setTop (mkF m 8 #[.val (.ref (c i))] [(.ref (c i))]))
      obtain ⟨T3, X3, e3, st3⟩ := getS X1 hx hZ hown (host := "") (own_w hw 15 rfl) Via.refl e1 (HS.2.2.2.2.2.2.2.1.ext O0.2) (g := (mkF m 8 #[.val (.ref (c i))] [(.ref (c i))])) rfl (hb hby d2_8)
      refine Go.st st3 ?_
      show Go p e below s _ _ _ (T3.setTop (mkF m 11 #[.val (.ref (c i))] [(.ref (c 7)), (.ref (c i))]))
      by_cases c11_4 : ((.ref (c i)) : Value) = (.ref (c 7))
      · refine Go.st (fun _ kq_ => XT.acmpYes X3.here hx rfl (pc0 := 11) (pc' := 21) rfl (hb hby d2_11) rfl rfl rfl (XT.aa_eq_t c11_4) (by decide) (by decide) kq_) ?_
        show Go p e below s _ _ _ (T3.setTop (mkF m 21 #[.val (.ref (c i))] []))
        refine Go.st (fun _ kq_ => XS.iconst X3.here hx rfl (hb hby d2_21) kq_) ?_
        show Go p e below s _ _ _ (T3.setTop (mkF m 22 #[.val (.ref (c i))] [(.int (1 : Int32))]))
        refine Go.st (fun _ kq_ => XS.goto X3.here hx rfl (pc0 := 22) (pc' := 26) rfl (hb hby d2_22) (by decide) (by decide) kq_) ?_
        show Go p e below s _ _ _ (T3.setTop (mkF m 26 #[.val (.ref (c i))] [(.int (1 : Int32))]))
        exact Go.ret X3 hlk (some (.int (nar .boolean (1 : Int32)))) (fun h => by rw [Bd.returns] at h; cases h) (by rw [e3]; exact ⟨own_res (z' := (1 : Int32)) (by unfold fEq; rw [if_neg c4_2, if_pos c11_4]) rfl, N0, rfl⟩) (by decide) (by decide) (fun fs hr => retN X3 hx (t := .boolean) Bd.returns (by simp) (hb hby d2_26) hr)
      · refine Go.st (fun _ kq_ => XT.acmpNo X3.here hx rfl (hb hby d2_11) rfl rfl rfl (XT.aa_eq_f c11_4) kq_) ?_
        show Go p e below s _ _ _ (T3.setTop (mkF m 14 #[.val (.ref (c i))] []))
        refine Go.st (fun _ kq_ => XS.aloadN X3.here hx rfl (hb hby d2_14) rfl rfl kq_) ?_
        show Go p e below s _ _ _ (T3.setTop (mkF m 15 #[.val (.ref (c i))] [(.ref (c i))]))
        obtain ⟨T5, X5, e5, st5⟩ := getS X3 hx hZ hown (host := "") (own_w hw 17 rfl) Via.refl e3 (HS.2.2.2.2.2.2.2.2.2.2.2.1.ext O0.2) (g := (mkF m 15 #[.val (.ref (c i))] [(.ref (c i))])) rfl (hb hby d2_15)
        refine Go.st st5 ?_
        show Go p e below s _ _ _ (T5.setTop (mkF m 18 #[.val (.ref (c i))] [(.ref (c 11)), (.ref (c i))]))
        by_cases c18_6 : ((.ref (c i)) : Value) = (.ref (c 11))
        · refine Go.st (fun _ kq_ => XT.acmpNo X5.here hx rfl (hb hby d2_18) rfl rfl rfl (XT.aa_ne_f c18_6) kq_) ?_
          show Go p e below s _ _ _ (T5.setTop (mkF m 21 #[.val (.ref (c i))] []))
          refine Go.st (fun _ kq_ => XS.iconst X5.here hx rfl (hb hby d2_21) kq_) ?_
          show Go p e below s _ _ _ (T5.setTop (mkF m 22 #[.val (.ref (c i))] [(.int (1 : Int32))]))
          refine Go.st (fun _ kq_ => XS.goto X5.here hx rfl (pc0 := 22) (pc' := 26) rfl (hb hby d2_22) (by decide) (by decide) kq_) ?_
          show Go p e below s _ _ _ (T5.setTop (mkF m 26 #[.val (.ref (c i))] [(.int (1 : Int32))]))
          exact Go.ret X5 hlk (some (.int (nar .boolean (1 : Int32)))) (fun h => by rw [Bd.returns] at h; cases h) (by rw [e5]; exact ⟨own_res (z' := (1 : Int32)) (by unfold fEq; rw [if_neg c4_2, if_neg c11_4, if_pos c18_6]) rfl, N0, rfl⟩) (by decide) (by decide) (fun fs hr => retN X5 hx (t := .boolean) Bd.returns (by simp) (hb hby d2_26) hr)
        · refine Go.st (fun _ kq_ => XT.acmpYes X5.here hx rfl (pc0 := 18) (pc' := 25) rfl (hb hby d2_18) rfl rfl rfl (XT.aa_ne_t c18_6) (by decide) (by decide) kq_) ?_
          show Go p e below s _ _ _ (T5.setTop (mkF m 25 #[.val (.ref (c i))] []))
          refine Go.st (fun _ kq_ => XS.iconst X5.here hx rfl (hb hby d2_25) kq_) ?_
          show Go p e below s _ _ _ (T5.setTop (mkF m 26 #[.val (.ref (c i))] [(.int (0 : Int32))]))
          exact Go.ret X5 hlk (some (.int (nar .boolean (0 : Int32)))) (fun h => by rw [Bd.returns] at h; cases h) (by rw [e5]; exact ⟨own_res (z' := (0 : Int32)) (by unfold fEq; rw [if_neg c4_2, if_neg c11_4, if_neg c18_6]) rfl, N0, rfl⟩) (by decide) (by decide) (fun fs hr => retN X5 hx (t := .boolean) Bd.returns (by simp) (hb hby d2_26) hr)
  obtain ⟨s2, o2, st2, r2⟩ := G
  exact ⟨s2, o2, castTop (ef2 m (c i)) st2, r2⟩
theorem d3_0 : decode prog_119_method_6_code 0 = .ok (.aload_n 0, 1) := by decide +kernel
theorem d3_1 : decode prog_119_method_6_code 1 = .ok (.getstatic 16, 3) := by decide +kernel
theorem d3_4 : decode prog_119_method_6_code 4 = .ok (.if_acmp .eq 14, 3) := by decide +kernel
theorem d3_7 : decode prog_119_method_6_code 7 = .ok (.aload_n 0, 1) := by decide +kernel
theorem d3_8 : decode prog_119_method_6_code 8 = .ok (.getstatic 19, 3) := by decide +kernel
theorem d3_11 : decode prog_119_method_6_code 11 = .ok (.if_acmp .eq 7, 3) := by decide +kernel
theorem d3_14 : decode prog_119_method_6_code 14 = .ok (.iconst 1, 1) := by decide +kernel
theorem d3_15 : decode prog_119_method_6_code 15 = .ok (.goto 4, 3) := by decide +kernel
theorem d3_18 : decode prog_119_method_6_code 18 = .ok (.iconst 0, 1) := by decide +kernel
theorem d3_19 : decode prog_119_method_6_code 19 = .ok (.ireturn, 1) := by decide +kernel
theorem pn3 : plainName "com/example/arbora/arbora/sql/ValueType" = true := by first | (simp [plainName, overriddenIn]; done) | decide +kernel
theorem ef3 (m : MethodId) (x0 : Addr) : entryFrame m #[(.ref x0)] 1 = mkF m 0 #[.val (.ref x0)] [] := by first | (simp [entryFrame, mkF, argsToLocals, Value.category, maxLocals]; done) | rfl
def fSo (c : Nat → Addr) (i : Nat) : Int32 := (if ((.ref (c i)) : Value) = (.ref (c 4)) then (0 : Int32) else (if ((.ref (c i)) : Value) = (.ref (c 5)) then (0 : Int32) else (1 : Int32)))
def Q3 (Z : State) (c : Nat → Addr) (i : Nat) (h0 : Heap) (n0 : Nat) (v : Option Value) (h : Heap) (L : List Loc) : Prop := v = some (.int (fSo c i)) ∧ Fr n0 L ∧ h = h0
set_option maxRecDepth 65536 in
set_option maxHeartbeats 40000000 in
theorem rm3 (l : Launch) (Z : State) (a0 : Array Value) (hw : ∀ d ∈ tables_1, d.before a0 Z = true) (ws : List Jvm.Cond) (c : Nat → Addr) (i : Nat) (h0 : Heap) (n0 : Nat) (O0 : Old Z n0 h0) (HS : OwnSt Z c) :
    MetFree l (⟨"com/example/arbora/arbora/sql/ValueType", "sortEqualOnlyWhenTextsAre", "()Z"⟩ : MethodName) (head1 (Jvm.Cond.code (⟨"com/example/arbora/arbora/sql/ValueType", "sortEqualOnlyWhenTextsAre", "()Z"⟩ : MethodName) prog_119_method_6_code 1 (some .boolean) :: ws) ({ frames := 0, cells := 0, slots := 0, locals := 0 } : Room)) (fun A_ U_ => A_ = #[(.ref (c i))] ∧ Z.Warmed39 U_.vm ∧ U_.heap = h0) (fun _ _ _ _ _ => True) (fun _ U o U' => ∃ v L, o = .returned v ∧ Q3 Z c i h0 n0 v U'.heap L ∧ FrameEnd U o U' L ({ frames := 0, cells := 0, slots := 0, locals := 0 } : Room).cells ({ frames := 0, cells := 0, slots := 0, locals := 0 } : Room).slots) := by
  refine MetFree.of_bodySF (plainFor_of_name pn3) hisR ?_
  intro p e s m args below meth cd s₁ Bd hml0 hP hK
  obtain ⟨rfl, hZ, hh⟩ := hP
  have hx := Bd.exec
  have hby := Bd.bytes
  have hlk : meth.locks = false := BodyLoose.notSynchronized Bd
  have hml : cd.maxLocals = 1 := hml0
  have hown : s.vm.findClass "com/example/arbora/arbora/sql/ValueType" = some m.cls := findClass_of_methodNamed Bd.named
  have hnm := (name_of_methodNamed Bd.named Bd.method).1
  have X0 : Stand p l e ({ frames := 0, cells := 0, slots := 0, locals := 0 } : Room) s m #[(.ref (c i))] below meth cd s₁ [] 0 0 := Stand.of_body Bd
  have e0 : s₁.heap = h0 := by rw [← hh, Bd.state]; rfl
  have N0 := Fr.nil n0
  have G : Go p e below s 0 0 (Q3 Z c i h0 n0) (s₁.setTop (mkF m 0 #[.val (.ref (c i))] [])) := by
    show Go p e below s _ _ _ (s₁.setTop (mkF m 0 #[.val (.ref (c i))] []))
    refine Go.st (fun _ kq_ => XS.aloadN X0.here hx rfl (hb hby d3_0) rfl rfl kq_) ?_
    show Go p e below s _ _ _ (s₁.setTop (mkF m 1 #[.val (.ref (c i))] [(.ref (c i))]))
    obtain ⟨T1, X1, e1, st1⟩ := getS X0 hx hZ hown (host := "") (own_w hw 25 rfl) Via.refl e0 (HS.2.2.2.2.1.ext O0.2) (g := (mkF m 1 #[.val (.ref (c i))] [(.ref (c i))])) rfl (hb hby d3_1)
    refine Go.st st1 ?_
    show Go p e below s _ _ _ (T1.setTop (mkF m 4 #[.val (.ref (c i))] [(.ref (c 4)), (.ref (c i))]))
    by_cases c4_2 : ((.ref (c i)) : Value) = (.ref (c 4))
    · refine Go.st (fun _ kq_ => XT.acmpYes X1.here hx rfl (pc0 := 4) (pc' := 18) rfl (hb hby d3_4) rfl rfl rfl (XT.aa_eq_t c4_2) (by decide) (by decide) kq_) ?_
      show Go p e below s _ _ _ (T1.setTop (mkF m 18 #[.val (.ref (c i))] []))
      refine Go.st (fun _ kq_ => XS.iconst X1.here hx rfl (hb hby d3_18) kq_) ?_
      show Go p e below s _ _ _ (T1.setTop (mkF m 19 #[.val (.ref (c i))] [(.int (0 : Int32))]))
      exact Go.ret X1 hlk (some (.int (nar .boolean (0 : Int32)))) (fun h => by rw [Bd.returns] at h; cases h) (by rw [e1]; exact ⟨own_res (z' := (0 : Int32)) (by unfold fSo; rw [if_pos c4_2]) rfl, N0, rfl⟩) (by decide) (by decide) (fun fs hr => retN X1 hx (t := .boolean) Bd.returns (by simp) (hb hby d3_19) hr)
    · refine Go.st (fun _ kq_ => XT.acmpNo X1.here hx rfl (hb hby d3_4) rfl rfl rfl (XT.aa_eq_f c4_2) kq_) ?_
      show Go p e below s _ _ _ (T1.setTop (mkF m 7 #[.val (.ref (c i))] []))
      refine Go.st (fun _ kq_ => XS.aloadN X1.here hx rfl (hb hby d3_7) rfl rfl kq_) ?_
      show Go p e below s _ _ _ (T1.setTop (mkF m 8 #[.val (.ref (c i))] [(.ref (c i))]))
      obtain ⟨T3, X3, e3, st3⟩ := getS X1 hx hZ hown (host := "") (own_w hw 27 rfl) Via.refl e1 (HS.2.2.2.2.2.1.ext O0.2) (g := (mkF m 8 #[.val (.ref (c i))] [(.ref (c i))])) rfl (hb hby d3_8)
      refine Go.st st3 ?_
      show Go p e below s _ _ _ (T3.setTop (mkF m 11 #[.val (.ref (c i))] [(.ref (c 5)), (.ref (c i))]))
      by_cases c11_4 : ((.ref (c i)) : Value) = (.ref (c 5))
      · refine Go.st (fun _ kq_ => XT.acmpYes X3.here hx rfl (pc0 := 11) (pc' := 18) rfl (hb hby d3_11) rfl rfl rfl (XT.aa_eq_t c11_4) (by decide) (by decide) kq_) ?_
        show Go p e below s _ _ _ (T3.setTop (mkF m 18 #[.val (.ref (c i))] []))
        refine Go.st (fun _ kq_ => XS.iconst X3.here hx rfl (hb hby d3_18) kq_) ?_
        show Go p e below s _ _ _ (T3.setTop (mkF m 19 #[.val (.ref (c i))] [(.int (0 : Int32))]))
        exact Go.ret X3 hlk (some (.int (nar .boolean (0 : Int32)))) (fun h => by rw [Bd.returns] at h; cases h) (by rw [e3]; exact ⟨own_res (z' := (0 : Int32)) (by unfold fSo; rw [if_neg c4_2, if_pos c11_4]) rfl, N0, rfl⟩) (by decide) (by decide) (fun fs hr => retN X3 hx (t := .boolean) Bd.returns (by simp) (hb hby d3_19) hr)
      · refine Go.st (fun _ kq_ => XT.acmpNo X3.here hx rfl (hb hby d3_11) rfl rfl rfl (XT.aa_eq_f c11_4) kq_) ?_
        show Go p e below s _ _ _ (T3.setTop (mkF m 14 #[.val (.ref (c i))] []))
        refine Go.st (fun _ kq_ => XS.iconst X3.here hx rfl (hb hby d3_14) kq_) ?_
        show Go p e below s _ _ _ (T3.setTop (mkF m 15 #[.val (.ref (c i))] [(.int (1 : Int32))]))
        refine Go.st (fun _ kq_ => XS.goto X3.here hx rfl (pc0 := 15) (pc' := 19) rfl (hb hby d3_15) (by decide) (by decide) kq_) ?_
        show Go p e below s _ _ _ (T3.setTop (mkF m 19 #[.val (.ref (c i))] [(.int (1 : Int32))]))
        exact Go.ret X3 hlk (some (.int (nar .boolean (1 : Int32)))) (fun h => by rw [Bd.returns] at h; cases h) (by rw [e3]; exact ⟨own_res (z' := (1 : Int32)) (by unfold fSo; rw [if_neg c4_2, if_neg c11_4]) rfl, N0, rfl⟩) (by decide) (by decide) (fun fs hr => retN X3 hx (t := .boolean) Bd.returns (by simp) (hb hby d3_19) hr)
  obtain ⟨s2, o2, st2, r2⟩ := G
  exact ⟨s2, o2, castTop (ef3 m (c i)) st2, r2⟩
theorem d4_0 : decode prog_119_method_7_code 0 = .ok (.aload_n 0, 1) := by decide +kernel
theorem d4_1 : decode prog_119_method_7_code 1 = .ok (.getstatic 3, 3) := by decide +kernel
theorem d4_4 : decode prog_119_method_7_code 4 = .ok (.if_acmp .eq 24, 3) := by decide +kernel
theorem d4_7 : decode prog_119_method_7_code 7 = .ok (.aload_n 0, 1) := by decide +kernel
theorem d4_8 : decode prog_119_method_7_code 8 = .ok (.getstatic 7, 3) := by decide +kernel
theorem d4_11 : decode prog_119_method_7_code 11 = .ok (.if_acmp .eq 17, 3) := by decide +kernel
theorem d4_14 : decode prog_119_method_7_code 14 = .ok (.aload_n 0, 1) := by decide +kernel
theorem d4_15 : decode prog_119_method_7_code 15 = .ok (.getstatic 10, 3) := by decide +kernel
theorem d4_18 : decode prog_119_method_7_code 18 = .ok (.if_acmp .eq 10, 3) := by decide +kernel
theorem d4_21 : decode prog_119_method_7_code 21 = .ok (.aload_n 0, 1) := by decide +kernel
theorem d4_22 : decode prog_119_method_7_code 22 = .ok (.getstatic 34, 3) := by decide +kernel
theorem d4_25 : decode prog_119_method_7_code 25 = .ok (.if_acmp .ne 7, 3) := by decide +kernel
theorem d4_28 : decode prog_119_method_7_code 28 = .ok (.iconst 1, 1) := by decide +kernel
theorem d4_29 : decode prog_119_method_7_code 29 = .ok (.goto 4, 3) := by decide +kernel
theorem d4_32 : decode prog_119_method_7_code 32 = .ok (.iconst 0, 1) := by decide +kernel
theorem d4_33 : decode prog_119_method_7_code 33 = .ok (.ireturn, 1) := by decide +kernel
theorem pn4 : plainName "com/example/arbora/arbora/sql/ValueType" = true := by first | (simp [plainName, overriddenIn]; done) | decide +kernel
theorem ef4 (m : MethodId) (x0 : Addr) : entryFrame m #[(.ref x0)] 1 = mkF m 0 #[.val (.ref x0)] [] := by first | (simp [entryFrame, mkF, argsToLocals, Value.category, maxLocals]; done) | rfl
def fTe (c : Nat → Addr) (i : Nat) : Int32 := (if ((.ref (c i)) : Value) = (.ref (c 0)) then (1 : Int32) else (if ((.ref (c i)) : Value) = (.ref (c 1)) then (1 : Int32) else (if ((.ref (c i)) : Value) = (.ref (c 2)) then (1 : Int32) else (if ((.ref (c i)) : Value) = (.ref (c 10)) then (1 : Int32) else (0 : Int32)))))
def Q4 (Z : State) (c : Nat → Addr) (i : Nat) (h0 : Heap) (n0 : Nat) (v : Option Value) (h : Heap) (L : List Loc) : Prop := v = some (.int (fTe c i)) ∧ Fr n0 L ∧ h = h0
set_option maxRecDepth 65536 in
set_option maxHeartbeats 40000000 in
theorem rm4 (l : Launch) (Z : State) (a0 : Array Value) (hw : ∀ d ∈ tables_1, d.before a0 Z = true) (ws : List Jvm.Cond) (c : Nat → Addr) (i : Nat) (h0 : Heap) (n0 : Nat) (O0 : Old Z n0 h0) (HS : OwnSt Z c) :
    MetFree l (⟨"com/example/arbora/arbora/sql/ValueType", "textMayBeEmpty", "()Z"⟩ : MethodName) (head1 (Jvm.Cond.code (⟨"com/example/arbora/arbora/sql/ValueType", "textMayBeEmpty", "()Z"⟩ : MethodName) prog_119_method_7_code 1 (some .boolean) :: ws) ({ frames := 0, cells := 0, slots := 0, locals := 0 } : Room)) (fun A_ U_ => A_ = #[(.ref (c i))] ∧ Z.Warmed39 U_.vm ∧ U_.heap = h0) (fun _ _ _ _ _ => True) (fun _ U o U' => ∃ v L, o = .returned v ∧ Q4 Z c i h0 n0 v U'.heap L ∧ FrameEnd U o U' L ({ frames := 0, cells := 0, slots := 0, locals := 0 } : Room).cells ({ frames := 0, cells := 0, slots := 0, locals := 0 } : Room).slots) := by
  refine MetFree.of_bodySF (plainFor_of_name pn4) hisR ?_
  intro p e s m args below meth cd s₁ Bd hml0 hP hK
  obtain ⟨rfl, hZ, hh⟩ := hP
  have hx := Bd.exec
  have hby := Bd.bytes
  have hlk : meth.locks = false := BodyLoose.notSynchronized Bd
  have hml : cd.maxLocals = 1 := hml0
  have hown : s.vm.findClass "com/example/arbora/arbora/sql/ValueType" = some m.cls := findClass_of_methodNamed Bd.named
  have hnm := (name_of_methodNamed Bd.named Bd.method).1
  have X0 : Stand p l e ({ frames := 0, cells := 0, slots := 0, locals := 0 } : Room) s m #[(.ref (c i))] below meth cd s₁ [] 0 0 := Stand.of_body Bd
  have e0 : s₁.heap = h0 := by rw [← hh, Bd.state]; rfl
  have N0 := Fr.nil n0
  have G : Go p e below s 0 0 (Q4 Z c i h0 n0) (s₁.setTop (mkF m 0 #[.val (.ref (c i))] [])) := by
    show Go p e below s _ _ _ (s₁.setTop (mkF m 0 #[.val (.ref (c i))] []))
    refine Go.st (fun _ kq_ => XS.aloadN X0.here hx rfl (hb hby d4_0) rfl rfl kq_) ?_
    show Go p e below s _ _ _ (s₁.setTop (mkF m 1 #[.val (.ref (c i))] [(.ref (c i))]))
    obtain ⟨T1, X1, e1, st1⟩ := getS X0 hx hZ hown (host := "") (own_w hw 34 rfl) Via.refl e0 (HS.1.ext O0.2) (g := (mkF m 1 #[.val (.ref (c i))] [(.ref (c i))])) rfl (hb hby d4_1)
    refine Go.st st1 ?_
    show Go p e below s _ _ _ (T1.setTop (mkF m 4 #[.val (.ref (c i))] [(.ref (c 0)), (.ref (c i))]))
    by_cases c4_2 : ((.ref (c i)) : Value) = (.ref (c 0))
    · refine Go.st (fun _ kq_ => XT.acmpYes X1.here hx rfl (pc0 := 4) (pc' := 28) rfl (hb hby d4_4) rfl rfl rfl (XT.aa_eq_t c4_2) (by decide) (by decide) kq_) ?_
      show Go p e below s _ _ _ (T1.setTop (mkF m 28 #[.val (.ref (c i))] []))
      refine Go.st (fun _ kq_ => XS.iconst X1.here hx rfl (hb hby d4_28) kq_) ?_
      show Go p e below s _ _ _ (T1.setTop (mkF m 29 #[.val (.ref (c i))] [(.int (1 : Int32))]))
      refine Go.st (fun _ kq_ => XS.goto X1.here hx rfl (pc0 := 29) (pc' := 33) rfl (hb hby d4_29) (by decide) (by decide) kq_) ?_
      show Go p e below s _ _ _ (T1.setTop (mkF m 33 #[.val (.ref (c i))] [(.int (1 : Int32))]))
      exact Go.ret X1 hlk (some (.int (nar .boolean (1 : Int32)))) (fun h => by rw [Bd.returns] at h; cases h) (by rw [e1]; exact ⟨own_res (z' := (1 : Int32)) (by unfold fTe; rw [if_pos c4_2]) rfl, N0, rfl⟩) (by decide) (by decide) (fun fs hr => retN X1 hx (t := .boolean) Bd.returns (by simp) (hb hby d4_33) hr)
    · refine Go.st (fun _ kq_ => XT.acmpNo X1.here hx rfl (hb hby d4_4) rfl rfl rfl (XT.aa_eq_f c4_2) kq_) ?_
      show Go p e below s _ _ _ (T1.setTop (mkF m 7 #[.val (.ref (c i))] []))
      refine Go.st (fun _ kq_ => XS.aloadN X1.here hx rfl (hb hby d4_7) rfl rfl kq_) ?_
      show Go p e below s _ _ _ (T1.setTop (mkF m 8 #[.val (.ref (c i))] [(.ref (c i))]))
      obtain ⟨T3, X3, e3, st3⟩ := getS X1 hx hZ hown (host := "") (own_w hw 35 rfl) Via.refl e1 (HS.2.1.ext O0.2) (g := (mkF m 8 #[.val (.ref (c i))] [(.ref (c i))])) rfl (hb hby d4_8)
      refine Go.st st3 ?_
      show Go p e below s _ _ _ (T3.setTop (mkF m 11 #[.val (.ref (c i))] [(.ref (c 1)), (.ref (c i))]))
      by_cases c11_4 : ((.ref (c i)) : Value) = (.ref (c 1))
      · refine Go.st (fun _ kq_ => XT.acmpYes X3.here hx rfl (pc0 := 11) (pc' := 28) rfl (hb hby d4_11) rfl rfl rfl (XT.aa_eq_t c11_4) (by decide) (by decide) kq_) ?_
        show Go p e below s _ _ _ (T3.setTop (mkF m 28 #[.val (.ref (c i))] []))
        refine Go.st (fun _ kq_ => XS.iconst X3.here hx rfl (hb hby d4_28) kq_) ?_
        show Go p e below s _ _ _ (T3.setTop (mkF m 29 #[.val (.ref (c i))] [(.int (1 : Int32))]))
        refine Go.st (fun _ kq_ => XS.goto X3.here hx rfl (pc0 := 29) (pc' := 33) rfl (hb hby d4_29) (by decide) (by decide) kq_) ?_
        show Go p e below s _ _ _ (T3.setTop (mkF m 33 #[.val (.ref (c i))] [(.int (1 : Int32))]))
        exact Go.ret X3 hlk (some (.int (nar .boolean (1 : Int32)))) (fun h => by rw [Bd.returns] at h; cases h) (by rw [e3]; exact ⟨own_res (z' := (1 : Int32)) (by unfold fTe; rw [if_neg c4_2, if_pos c11_4]) rfl, N0, rfl⟩) (by decide) (by decide) (fun fs hr => retN X3 hx (t := .boolean) Bd.returns (by simp) (hb hby d4_33) hr)
      · refine Go.st (fun _ kq_ => XT.acmpNo X3.here hx rfl (hb hby d4_11) rfl rfl rfl (XT.aa_eq_f c11_4) kq_) ?_
        show Go p e below s _ _ _ (T3.setTop (mkF m 14 #[.val (.ref (c i))] []))
        refine Go.st (fun _ kq_ => XS.aloadN X3.here hx rfl (hb hby d4_14) rfl rfl kq_) ?_
        show Go p e below s _ _ _ (T3.setTop (mkF m 15 #[.val (.ref (c i))] [(.ref (c i))]))
        obtain ⟨T5, X5, e5, st5⟩ := getS X3 hx hZ hown (host := "") (own_w hw 37 rfl) Via.refl e3 (HS.2.2.1.ext O0.2) (g := (mkF m 15 #[.val (.ref (c i))] [(.ref (c i))])) rfl (hb hby d4_15)
        refine Go.st st5 ?_
        show Go p e below s _ _ _ (T5.setTop (mkF m 18 #[.val (.ref (c i))] [(.ref (c 2)), (.ref (c i))]))
        by_cases c18_6 : ((.ref (c i)) : Value) = (.ref (c 2))
        · refine Go.st (fun _ kq_ => XT.acmpYes X5.here hx rfl (pc0 := 18) (pc' := 28) rfl (hb hby d4_18) rfl rfl rfl (XT.aa_eq_t c18_6) (by decide) (by decide) kq_) ?_
          show Go p e below s _ _ _ (T5.setTop (mkF m 28 #[.val (.ref (c i))] []))
          refine Go.st (fun _ kq_ => XS.iconst X5.here hx rfl (hb hby d4_28) kq_) ?_
          show Go p e below s _ _ _ (T5.setTop (mkF m 29 #[.val (.ref (c i))] [(.int (1 : Int32))]))
          refine Go.st (fun _ kq_ => XS.goto X5.here hx rfl (pc0 := 29) (pc' := 33) rfl (hb hby d4_29) (by decide) (by decide) kq_) ?_
          show Go p e below s _ _ _ (T5.setTop (mkF m 33 #[.val (.ref (c i))] [(.int (1 : Int32))]))
          exact Go.ret X5 hlk (some (.int (nar .boolean (1 : Int32)))) (fun h => by rw [Bd.returns] at h; cases h) (by rw [e5]; exact ⟨own_res (z' := (1 : Int32)) (by unfold fTe; rw [if_neg c4_2, if_neg c11_4, if_pos c18_6]) rfl, N0, rfl⟩) (by decide) (by decide) (fun fs hr => retN X5 hx (t := .boolean) Bd.returns (by simp) (hb hby d4_33) hr)
        · refine Go.st (fun _ kq_ => XT.acmpNo X5.here hx rfl (hb hby d4_18) rfl rfl rfl (XT.aa_eq_f c18_6) kq_) ?_
          show Go p e below s _ _ _ (T5.setTop (mkF m 21 #[.val (.ref (c i))] []))
          refine Go.st (fun _ kq_ => XS.aloadN X5.here hx rfl (hb hby d4_21) rfl rfl kq_) ?_
          show Go p e below s _ _ _ (T5.setTop (mkF m 22 #[.val (.ref (c i))] [(.ref (c i))]))
          obtain ⟨T7, X7, e7, st7⟩ := getS X5 hx hZ hown (host := "") (own_w hw 39 rfl) Via.refl e5 (HS.2.2.2.2.2.2.2.2.2.2.1.ext O0.2) (g := (mkF m 22 #[.val (.ref (c i))] [(.ref (c i))])) rfl (hb hby d4_22)
          refine Go.st st7 ?_
          show Go p e below s _ _ _ (T7.setTop (mkF m 25 #[.val (.ref (c i))] [(.ref (c 10)), (.ref (c i))]))
          by_cases c25_8 : ((.ref (c i)) : Value) = (.ref (c 10))
          · refine Go.st (fun _ kq_ => XT.acmpNo X7.here hx rfl (hb hby d4_25) rfl rfl rfl (XT.aa_ne_f c25_8) kq_) ?_
            show Go p e below s _ _ _ (T7.setTop (mkF m 28 #[.val (.ref (c i))] []))
            refine Go.st (fun _ kq_ => XS.iconst X7.here hx rfl (hb hby d4_28) kq_) ?_
            show Go p e below s _ _ _ (T7.setTop (mkF m 29 #[.val (.ref (c i))] [(.int (1 : Int32))]))
            refine Go.st (fun _ kq_ => XS.goto X7.here hx rfl (pc0 := 29) (pc' := 33) rfl (hb hby d4_29) (by decide) (by decide) kq_) ?_
            show Go p e below s _ _ _ (T7.setTop (mkF m 33 #[.val (.ref (c i))] [(.int (1 : Int32))]))
            exact Go.ret X7 hlk (some (.int (nar .boolean (1 : Int32)))) (fun h => by rw [Bd.returns] at h; cases h) (by rw [e7]; exact ⟨own_res (z' := (1 : Int32)) (by unfold fTe; rw [if_neg c4_2, if_neg c11_4, if_neg c18_6, if_pos c25_8]) rfl, N0, rfl⟩) (by decide) (by decide) (fun fs hr => retN X7 hx (t := .boolean) Bd.returns (by simp) (hb hby d4_33) hr)
          · refine Go.st (fun _ kq_ => XT.acmpYes X7.here hx rfl (pc0 := 25) (pc' := 32) rfl (hb hby d4_25) rfl rfl rfl (XT.aa_ne_t c25_8) (by decide) (by decide) kq_) ?_
            show Go p e below s _ _ _ (T7.setTop (mkF m 32 #[.val (.ref (c i))] []))
            refine Go.st (fun _ kq_ => XS.iconst X7.here hx rfl (hb hby d4_32) kq_) ?_
            show Go p e below s _ _ _ (T7.setTop (mkF m 33 #[.val (.ref (c i))] [(.int (0 : Int32))]))
            exact Go.ret X7 hlk (some (.int (nar .boolean (0 : Int32)))) (fun h => by rw [Bd.returns] at h; cases h) (by rw [e7]; exact ⟨own_res (z' := (0 : Int32)) (by unfold fTe; rw [if_neg c4_2, if_neg c11_4, if_neg c18_6, if_neg c25_8]) rfl, N0, rfl⟩) (by decide) (by decide) (fun fs hr => retN X7 hx (t := .boolean) Bd.returns (by simp) (hb hby d4_33) hr)
  obtain ⟨s2, o2, st2, r2⟩ := G
  exact ⟨s2, o2, castTop (ef4 m (c i)) st2, r2⟩
theorem own_ci (c : Nat → Addr) (inj : ∀ i j, i < 14 → j < 14 → c i = c j → i = j) (i j : Nat) (hi : i < 14) (hj : j < 14) (q : ¬ i = j) : ¬ (Value.ref (c i)) = .ref (c j) := fun z => q (inj i j hi hj (Value.ref.inj z))
theorem fEq_0 (c : Nat → Addr) (inj : ∀ i j, i < 14 → j < 14 → c i = c j → i = j) : fEq c 0 = 0 := by unfold fEq; rw [if_neg (own_ci c inj 0 3 (by decide) (by decide) (by decide)), if_neg (own_ci c inj 0 7 (by decide) (by decide) (by decide)), if_neg (own_ci c inj 0 11 (by decide) (by decide) (by decide))]
theorem fEq_1 (c : Nat → Addr) (inj : ∀ i j, i < 14 → j < 14 → c i = c j → i = j) : fEq c 1 = 0 := by unfold fEq; rw [if_neg (own_ci c inj 1 3 (by decide) (by decide) (by decide)), if_neg (own_ci c inj 1 7 (by decide) (by decide) (by decide)), if_neg (own_ci c inj 1 11 (by decide) (by decide) (by decide))]
theorem fEq_2 (c : Nat → Addr) (inj : ∀ i j, i < 14 → j < 14 → c i = c j → i = j) : fEq c 2 = 0 := by unfold fEq; rw [if_neg (own_ci c inj 2 3 (by decide) (by decide) (by decide)), if_neg (own_ci c inj 2 7 (by decide) (by decide) (by decide)), if_neg (own_ci c inj 2 11 (by decide) (by decide) (by decide))]
theorem fEq_3 (c : Nat → Addr) (inj : ∀ i j, i < 14 → j < 14 → c i = c j → i = j) : fEq c 3 = 1 := by unfold fEq; rw [if_pos rfl]
theorem fEq_4 (c : Nat → Addr) (inj : ∀ i j, i < 14 → j < 14 → c i = c j → i = j) : fEq c 4 = 0 := by unfold fEq; rw [if_neg (own_ci c inj 4 3 (by decide) (by decide) (by decide)), if_neg (own_ci c inj 4 7 (by decide) (by decide) (by decide)), if_neg (own_ci c inj 4 11 (by decide) (by decide) (by decide))]
theorem fEq_5 (c : Nat → Addr) (inj : ∀ i j, i < 14 → j < 14 → c i = c j → i = j) : fEq c 5 = 0 := by unfold fEq; rw [if_neg (own_ci c inj 5 3 (by decide) (by decide) (by decide)), if_neg (own_ci c inj 5 7 (by decide) (by decide) (by decide)), if_neg (own_ci c inj 5 11 (by decide) (by decide) (by decide))]
theorem fEq_6 (c : Nat → Addr) (inj : ∀ i j, i < 14 → j < 14 → c i = c j → i = j) : fEq c 6 = 0 := by unfold fEq; rw [if_neg (own_ci c inj 6 3 (by decide) (by decide) (by decide)), if_neg (own_ci c inj 6 7 (by decide) (by decide) (by decide)), if_neg (own_ci c inj 6 11 (by decide) (by decide) (by decide))]
theorem fEq_7 (c : Nat → Addr) (inj : ∀ i j, i < 14 → j < 14 → c i = c j → i = j) : fEq c 7 = 1 := by unfold fEq; rw [if_neg (own_ci c inj 7 3 (by decide) (by decide) (by decide)), if_pos rfl]
theorem fEq_8 (c : Nat → Addr) (inj : ∀ i j, i < 14 → j < 14 → c i = c j → i = j) : fEq c 8 = 0 := by unfold fEq; rw [if_neg (own_ci c inj 8 3 (by decide) (by decide) (by decide)), if_neg (own_ci c inj 8 7 (by decide) (by decide) (by decide)), if_neg (own_ci c inj 8 11 (by decide) (by decide) (by decide))]
theorem fEq_9 (c : Nat → Addr) (inj : ∀ i j, i < 14 → j < 14 → c i = c j → i = j) : fEq c 9 = 0 := by unfold fEq; rw [if_neg (own_ci c inj 9 3 (by decide) (by decide) (by decide)), if_neg (own_ci c inj 9 7 (by decide) (by decide) (by decide)), if_neg (own_ci c inj 9 11 (by decide) (by decide) (by decide))]
theorem fEq_10 (c : Nat → Addr) (inj : ∀ i j, i < 14 → j < 14 → c i = c j → i = j) : fEq c 10 = 0 := by unfold fEq; rw [if_neg (own_ci c inj 10 3 (by decide) (by decide) (by decide)), if_neg (own_ci c inj 10 7 (by decide) (by decide) (by decide)), if_neg (own_ci c inj 10 11 (by decide) (by decide) (by decide))]
theorem fEq_11 (c : Nat → Addr) (inj : ∀ i j, i < 14 → j < 14 → c i = c j → i = j) : fEq c 11 = 1 := by unfold fEq; rw [if_neg (own_ci c inj 11 3 (by decide) (by decide) (by decide)), if_neg (own_ci c inj 11 7 (by decide) (by decide) (by decide)), if_pos rfl]
theorem fEq_12 (c : Nat → Addr) (inj : ∀ i j, i < 14 → j < 14 → c i = c j → i = j) : fEq c 12 = 0 := by unfold fEq; rw [if_neg (own_ci c inj 12 3 (by decide) (by decide) (by decide)), if_neg (own_ci c inj 12 7 (by decide) (by decide) (by decide)), if_neg (own_ci c inj 12 11 (by decide) (by decide) (by decide))]
theorem fEq_13 (c : Nat → Addr) (inj : ∀ i j, i < 14 → j < 14 → c i = c j → i = j) : fEq c 13 = 0 := by unfold fEq; rw [if_neg (own_ci c inj 13 3 (by decide) (by decide) (by decide)), if_neg (own_ci c inj 13 7 (by decide) (by decide) (by decide)), if_neg (own_ci c inj 13 11 (by decide) (by decide) (by decide))]
theorem fSo_0 (c : Nat → Addr) (inj : ∀ i j, i < 14 → j < 14 → c i = c j → i = j) : fSo c 0 = 1 := by unfold fSo; rw [if_neg (own_ci c inj 0 4 (by decide) (by decide) (by decide)), if_neg (own_ci c inj 0 5 (by decide) (by decide) (by decide))]
theorem fSo_1 (c : Nat → Addr) (inj : ∀ i j, i < 14 → j < 14 → c i = c j → i = j) : fSo c 1 = 1 := by unfold fSo; rw [if_neg (own_ci c inj 1 4 (by decide) (by decide) (by decide)), if_neg (own_ci c inj 1 5 (by decide) (by decide) (by decide))]
theorem fSo_2 (c : Nat → Addr) (inj : ∀ i j, i < 14 → j < 14 → c i = c j → i = j) : fSo c 2 = 1 := by unfold fSo; rw [if_neg (own_ci c inj 2 4 (by decide) (by decide) (by decide)), if_neg (own_ci c inj 2 5 (by decide) (by decide) (by decide))]
theorem fSo_3 (c : Nat → Addr) (inj : ∀ i j, i < 14 → j < 14 → c i = c j → i = j) : fSo c 3 = 1 := by unfold fSo; rw [if_neg (own_ci c inj 3 4 (by decide) (by decide) (by decide)), if_neg (own_ci c inj 3 5 (by decide) (by decide) (by decide))]
theorem fSo_4 (c : Nat → Addr) (inj : ∀ i j, i < 14 → j < 14 → c i = c j → i = j) : fSo c 4 = 0 := by unfold fSo; rw [if_pos rfl]
theorem fSo_5 (c : Nat → Addr) (inj : ∀ i j, i < 14 → j < 14 → c i = c j → i = j) : fSo c 5 = 0 := by unfold fSo; rw [if_neg (own_ci c inj 5 4 (by decide) (by decide) (by decide)), if_pos rfl]
theorem fSo_6 (c : Nat → Addr) (inj : ∀ i j, i < 14 → j < 14 → c i = c j → i = j) : fSo c 6 = 1 := by unfold fSo; rw [if_neg (own_ci c inj 6 4 (by decide) (by decide) (by decide)), if_neg (own_ci c inj 6 5 (by decide) (by decide) (by decide))]
theorem fSo_7 (c : Nat → Addr) (inj : ∀ i j, i < 14 → j < 14 → c i = c j → i = j) : fSo c 7 = 1 := by unfold fSo; rw [if_neg (own_ci c inj 7 4 (by decide) (by decide) (by decide)), if_neg (own_ci c inj 7 5 (by decide) (by decide) (by decide))]
theorem fSo_8 (c : Nat → Addr) (inj : ∀ i j, i < 14 → j < 14 → c i = c j → i = j) : fSo c 8 = 1 := by unfold fSo; rw [if_neg (own_ci c inj 8 4 (by decide) (by decide) (by decide)), if_neg (own_ci c inj 8 5 (by decide) (by decide) (by decide))]
theorem fSo_9 (c : Nat → Addr) (inj : ∀ i j, i < 14 → j < 14 → c i = c j → i = j) : fSo c 9 = 1 := by unfold fSo; rw [if_neg (own_ci c inj 9 4 (by decide) (by decide) (by decide)), if_neg (own_ci c inj 9 5 (by decide) (by decide) (by decide))]
theorem fSo_10 (c : Nat → Addr) (inj : ∀ i j, i < 14 → j < 14 → c i = c j → i = j) : fSo c 10 = 1 := by unfold fSo; rw [if_neg (own_ci c inj 10 4 (by decide) (by decide) (by decide)), if_neg (own_ci c inj 10 5 (by decide) (by decide) (by decide))]
theorem fSo_11 (c : Nat → Addr) (inj : ∀ i j, i < 14 → j < 14 → c i = c j → i = j) : fSo c 11 = 1 := by unfold fSo; rw [if_neg (own_ci c inj 11 4 (by decide) (by decide) (by decide)), if_neg (own_ci c inj 11 5 (by decide) (by decide) (by decide))]
theorem fSo_12 (c : Nat → Addr) (inj : ∀ i j, i < 14 → j < 14 → c i = c j → i = j) : fSo c 12 = 1 := by unfold fSo; rw [if_neg (own_ci c inj 12 4 (by decide) (by decide) (by decide)), if_neg (own_ci c inj 12 5 (by decide) (by decide) (by decide))]
theorem fSo_13 (c : Nat → Addr) (inj : ∀ i j, i < 14 → j < 14 → c i = c j → i = j) : fSo c 13 = 1 := by unfold fSo; rw [if_neg (own_ci c inj 13 4 (by decide) (by decide) (by decide)), if_neg (own_ci c inj 13 5 (by decide) (by decide) (by decide))]
theorem fTe_0 (c : Nat → Addr) (inj : ∀ i j, i < 14 → j < 14 → c i = c j → i = j) : fTe c 0 = 1 := by unfold fTe; rw [if_pos rfl]
theorem fTe_1 (c : Nat → Addr) (inj : ∀ i j, i < 14 → j < 14 → c i = c j → i = j) : fTe c 1 = 1 := by unfold fTe; rw [if_neg (own_ci c inj 1 0 (by decide) (by decide) (by decide)), if_pos rfl]
theorem fTe_2 (c : Nat → Addr) (inj : ∀ i j, i < 14 → j < 14 → c i = c j → i = j) : fTe c 2 = 1 := by unfold fTe; rw [if_neg (own_ci c inj 2 0 (by decide) (by decide) (by decide)), if_neg (own_ci c inj 2 1 (by decide) (by decide) (by decide)), if_pos rfl]
theorem fTe_3 (c : Nat → Addr) (inj : ∀ i j, i < 14 → j < 14 → c i = c j → i = j) : fTe c 3 = 0 := by unfold fTe; rw [if_neg (own_ci c inj 3 0 (by decide) (by decide) (by decide)), if_neg (own_ci c inj 3 1 (by decide) (by decide) (by decide)), if_neg (own_ci c inj 3 2 (by decide) (by decide) (by decide)), if_neg (own_ci c inj 3 10 (by decide) (by decide) (by decide))]
theorem fTe_4 (c : Nat → Addr) (inj : ∀ i j, i < 14 → j < 14 → c i = c j → i = j) : fTe c 4 = 0 := by unfold fTe; rw [if_neg (own_ci c inj 4 0 (by decide) (by decide) (by decide)), if_neg (own_ci c inj 4 1 (by decide) (by decide) (by decide)), if_neg (own_ci c inj 4 2 (by decide) (by decide) (by decide)), if_neg (own_ci c inj 4 10 (by decide) (by decide) (by decide))]
theorem fTe_5 (c : Nat → Addr) (inj : ∀ i j, i < 14 → j < 14 → c i = c j → i = j) : fTe c 5 = 0 := by unfold fTe; rw [if_neg (own_ci c inj 5 0 (by decide) (by decide) (by decide)), if_neg (own_ci c inj 5 1 (by decide) (by decide) (by decide)), if_neg (own_ci c inj 5 2 (by decide) (by decide) (by decide)), if_neg (own_ci c inj 5 10 (by decide) (by decide) (by decide))]
theorem fTe_6 (c : Nat → Addr) (inj : ∀ i j, i < 14 → j < 14 → c i = c j → i = j) : fTe c 6 = 0 := by unfold fTe; rw [if_neg (own_ci c inj 6 0 (by decide) (by decide) (by decide)), if_neg (own_ci c inj 6 1 (by decide) (by decide) (by decide)), if_neg (own_ci c inj 6 2 (by decide) (by decide) (by decide)), if_neg (own_ci c inj 6 10 (by decide) (by decide) (by decide))]
theorem fTe_7 (c : Nat → Addr) (inj : ∀ i j, i < 14 → j < 14 → c i = c j → i = j) : fTe c 7 = 0 := by unfold fTe; rw [if_neg (own_ci c inj 7 0 (by decide) (by decide) (by decide)), if_neg (own_ci c inj 7 1 (by decide) (by decide) (by decide)), if_neg (own_ci c inj 7 2 (by decide) (by decide) (by decide)), if_neg (own_ci c inj 7 10 (by decide) (by decide) (by decide))]
theorem fTe_8 (c : Nat → Addr) (inj : ∀ i j, i < 14 → j < 14 → c i = c j → i = j) : fTe c 8 = 0 := by unfold fTe; rw [if_neg (own_ci c inj 8 0 (by decide) (by decide) (by decide)), if_neg (own_ci c inj 8 1 (by decide) (by decide) (by decide)), if_neg (own_ci c inj 8 2 (by decide) (by decide) (by decide)), if_neg (own_ci c inj 8 10 (by decide) (by decide) (by decide))]
theorem fTe_9 (c : Nat → Addr) (inj : ∀ i j, i < 14 → j < 14 → c i = c j → i = j) : fTe c 9 = 0 := by unfold fTe; rw [if_neg (own_ci c inj 9 0 (by decide) (by decide) (by decide)), if_neg (own_ci c inj 9 1 (by decide) (by decide) (by decide)), if_neg (own_ci c inj 9 2 (by decide) (by decide) (by decide)), if_neg (own_ci c inj 9 10 (by decide) (by decide) (by decide))]
theorem fTe_10 (c : Nat → Addr) (inj : ∀ i j, i < 14 → j < 14 → c i = c j → i = j) : fTe c 10 = 1 := by unfold fTe; rw [if_neg (own_ci c inj 10 0 (by decide) (by decide) (by decide)), if_neg (own_ci c inj 10 1 (by decide) (by decide) (by decide)), if_neg (own_ci c inj 10 2 (by decide) (by decide) (by decide)), if_pos rfl]
theorem fTe_11 (c : Nat → Addr) (inj : ∀ i j, i < 14 → j < 14 → c i = c j → i = j) : fTe c 11 = 0 := by unfold fTe; rw [if_neg (own_ci c inj 11 0 (by decide) (by decide) (by decide)), if_neg (own_ci c inj 11 1 (by decide) (by decide) (by decide)), if_neg (own_ci c inj 11 2 (by decide) (by decide) (by decide)), if_neg (own_ci c inj 11 10 (by decide) (by decide) (by decide))]
theorem fTe_12 (c : Nat → Addr) (inj : ∀ i j, i < 14 → j < 14 → c i = c j → i = j) : fTe c 12 = 0 := by unfold fTe; rw [if_neg (own_ci c inj 12 0 (by decide) (by decide) (by decide)), if_neg (own_ci c inj 12 1 (by decide) (by decide) (by decide)), if_neg (own_ci c inj 12 2 (by decide) (by decide) (by decide)), if_neg (own_ci c inj 12 10 (by decide) (by decide) (by decide))]
theorem fTe_13 (c : Nat → Addr) (inj : ∀ i j, i < 14 → j < 14 → c i = c j → i = j) : fTe c 13 = 0 := by unfold fTe; rw [if_neg (own_ci c inj 13 0 (by decide) (by decide) (by decide)), if_neg (own_ci c inj 13 1 (by decide) (by decide) (by decide)), if_neg (own_ci c inj 13 2 (by decide) (by decide) (by decide)), if_neg (own_ci c inj 13 10 (by decide) (by decide) (by decide))]
theorem own_14 {k : Int32} (h : ¬ k < 0 ∧ k < 14) : k = 0 ∨ k = 1 ∨ k = 2 ∨ k = 3 ∨ k = 4 ∨ k = 5 ∨ k = 6 ∨ k = 7 ∨ k = 8 ∨ k = 9 ∨ k = 10 ∨ k = 11 ∨ k = 12 ∨ k = 13 := by
  simp only [own_lt, own_eq, Int32.reduceToInt] at h ⊢
  omega
theorem pd0_0 : parseMethodDescriptor "(I)Lcom/example/arbora/arbora/sql/ValueType;" = some ⟨[.int], some (.object "com/example/arbora/arbora/sql/ValueType")⟩ := by decide +kernel
theorem pd0_1 : parseMethodDescriptor "()Z" = some ⟨[], some .boolean⟩ := by decide +kernel
theorem pn0 : plainName "com/example/arbora/arbora/sql/ValueTypeEqualExactlyWhenTextsArePinLaw" = true := by first | (simp [plainName, overriddenIn]; done) | decide +kernel
theorem ef0 (m : MethodId) (x0 : Int32) : entryFrame m #[(.int x0)] maxLocals = mkF m 0 #[.val (.int x0), .unset, .unset, .unset, .unset] [] := by first | (simp [entryFrame, mkF, argsToLocals, Value.category, maxLocals]; done) | rfl
def Q0 (Z : State) (p0 : Int32) (c : Nat → Addr) (h0 : Heap) (n0 : Nat) (v : Option Value) (h : Heap) (L : List Loc) : Prop := v = some (.int 1) ∧ Fr n0 L
set_option maxRecDepth 65536 in
set_option maxHeartbeats 40000000 in
theorem rm0 (l : Launch) (Z : State) (a0 : Array Value) (hw : ∀ d ∈ tables_1, d.before a0 Z = true) (ws : List Jvm.Cond) (p0 : Int32) (c : Nat → Addr) (h0 : Heap) (n0 : Nat) (O0 : Old Z n0 h0) (HS : OwnSt Z c) :
    MetFree l x (head1 (Jvm.Cond.code x code maxLocals ret :: ws) room_1) (fun A_ U_ => A_ = #[(.int p0)] ∧ Z.Warmed39 U_.vm ∧ U_.heap = h0) (fun _ _ _ _ _ => True) (fun _ U o U' => ∃ v L, o = .returned v ∧ Q0 Z p0 c h0 n0 v U'.heap L ∧ FrameEnd U o U' L room_1.cells room_1.slots) := by
  refine MetFree.of_bodySF (plainFor_of_name pn0) hisR ?_
  intro p e s m args below meth cd s₁ Bd hml0 hP hK
  obtain ⟨rfl, hZ, hh⟩ := hP
  have hx := Bd.exec
  have hby := Bd.bytes
  have hlk : meth.locks = false := BodyLoose.notSynchronized Bd
  have hml : cd.maxLocals = 5 := hml0
  have hown : s.vm.findClass "com/example/arbora/arbora/sql/ValueTypeEqualExactlyWhenTextsArePinLaw" = some m.cls := findClass_of_methodNamed Bd.named
  have hnm := (name_of_methodNamed Bd.named Bd.method).1
  have X0 : Stand p l e room_1 s m #[(.int p0)] below meth cd s₁ [] 0 0 := Stand.of_body Bd
  have e0 : s₁.heap = h0 := by rw [← hh, Bd.state]; rfl
  have N0 := Fr.nil n0
  have G : Go p e below s room_1.cells room_1.slots (Q0 Z p0 c h0 n0) (s₁.setTop (mkF m 0 #[.val (.int p0), .unset, .unset, .unset, .unset] [])) := by
    show Go p e below s _ _ _ (s₁.setTop (mkF m 0 #[.val (.int p0), .unset, .unset, .unset, .unset] []))
    refine Go.st (fun _ kq_ => XS.iloadN X0.here hx rfl (hb hby at_0) rfl kq_) ?_
    show Go p e below s _ _ _ (s₁.setTop (mkF m 1 #[.val (.int p0), .unset, .unset, .unset, .unset] [(.int p0)]))
    refine Go.st (fun _ kq_ => X0.ldcI hx hown (mvT hZ (own_w hw 0 rfl)) rfl (hb hby at_1) kq_) ?_
    show Go p e below s _ _ _ (s₁.setTop (mkF m 3 #[.val (.int p0), .unset, .unset, .unset, .unset] [(.int (2147483647 : Int32)), (.int p0)]))
    refine Go.st (fun _ kq_ => XS.iand X0.here hx rfl (hb hby at_3) rfl kq_) ?_
    show Go p e below s _ _ _ (s₁.setTop (mkF m 4 #[.val (.int p0), .unset, .unset, .unset, .unset] [(.int (p0 &&& (2147483647 : Int32)))]))
    refine Go.st (fun _ kq_ => XS.bipush X0.here hx rfl (hb hby at_4) kq_) ?_
    show Go p e below s _ _ _ (s₁.setTop (mkF m 6 #[.val (.int p0), .unset, .unset, .unset, .unset] [(.int (14 : Int32)), (.int (p0 &&& (2147483647 : Int32)))]))
    refine Go.st (fun _ kq_ => iremM X0 hx rfl (hb hby at_6) rfl (by decide) kq_) ?_
    show Go p e below s _ _ _ (s₁.setTop (mkF m 7 #[.val (.int p0), .unset, .unset, .unset, .unset] [(.int ((p0 &&& (2147483647 : Int32)) % (14 : Int32)))]))
    obtain ⟨k, hk⟩ : ∃ z, ((p0 &&& (2147483647 : Int32)) % (14 : Int32)) = z := ⟨_, rfl⟩
    have hr : ¬ k < 0 ∧ k < 14 := hk ▸ own_rem p0 14 (by decide)
    rw [hk]
    rcases own_14 hr with rfl | rfl | rfl | rfl | rfl | rfl | rfl | rfl | rfl | rfl | rfl | rfl | rfl | rfl
    · show Go p e below s _ _ _ (s₁.setTop (mkF m 7 #[.val (.int p0), .unset, .unset, .unset, .unset] [(.int (0 : Int32))]))
      refine Go.st (fun _ kq_ => XS.istoreN X0.here hx rfl (hb hby at_7) rfl (l' := #[.val (.int p0), .val (.int (0 : Int32)), .unset, .unset, .unset]) rfl kq_) ?_
      show Go p e below s _ _ _ (s₁.setTop (mkF m 8 #[.val (.int p0), .val (.int (0 : Int32)), .unset, .unset, .unset] []))
      refine Go.st (fun _ kq_ => XS.iloadN X0.here hx rfl (hb hby at_8) rfl kq_) ?_
      show Go p e below s _ _ _ (s₁.setTop (mkF m 9 #[.val (.int p0), .val (.int (0 : Int32)), .unset, .unset, .unset] [(.int (0 : Int32))]))
      obtain ⟨_, _, ⟨T1, L1, k1, n1⟩, -, X1, ⟨Lc1, hQ1, l1, y1, z1⟩, st1⟩ := Jvm.LawKit.callS X0 hx (y := (⟨"com/example/arbora/arbora/sql/ValueTypeEqualExactlyWhenTextsArePinLaw", "pick", "(I)Lcom/example/arbora/arbora/sql/ValueType;"⟩ : MethodName)) hown (mvT hZ (own_w hw 1 rfl)) (mvT hZ (own_w hw 2 rfl)) (mvT hZ (own_w hw 3 rfl)) (mvT hZ (own_w hw 4 rfl)) (by decide) (backOf (W := 0) (rm1 l Z a0 hw [] (0 : Int32) c h0 n0 O0 HS) hZ (own_w hw 4 rfl) (own_w hw 3 rfl) (by decide) (by decide)) (g := (mkF m 9 #[.val (.int p0), .val (.int (0 : Int32)), .unset, .unset, .unset] [(.int (0 : Int32))])) rfl (by rw [hml]; rfl) (argsL := [(.int (0 : Int32))]) (rest := []) (lenOf pd0_0 rfl) rfl (by show 2 * 0 + _ ≤ _; exact Nat.le_of_eq rfl) (hb hby at_9) (fun _ _ => ⟨rfl, e0, (by decide : 0 + 0 ≤ _), (by decide : 0 + 0 ≤ _)⟩)
      dsimp only [Pt.U, Pt.locs, Pt.cells, Pt.slots] at X1 l1 y1 z1 st1 hQ1
      subst l1 y1 z1
      obtain ⟨rfl, Nc1, e1⟩ := hQ1
      have N1 := Fr.app N0 Nc1
      rw [(by decide : fPick (0 : Int32) = 0)] at st1
      refine Go.st st1 ?_
      show Go p e below s _ _ _ (T1.setTop (mkF m 12 #[.val (.int p0), .val (.int (0 : Int32)), .unset, .unset, .unset] [(.ref (c 0))]))
      refine Go.st (fun _ kq_ => XS.astoreN X1.here hx rfl (hb hby at_12) rfl rfl (l' := #[.val (.int p0), .val (.int (0 : Int32)), .val (.ref (c 0)), .unset, .unset]) rfl kq_) ?_
      show Go p e below s _ _ _ (T1.setTop (mkF m 13 #[.val (.int p0), .val (.int (0 : Int32)), .val (.ref (c 0)), .unset, .unset] []))
      refine Go.st (fun _ kq_ => XS.iloadN X1.here hx rfl (hb hby at_13) rfl kq_) ?_
      show Go p e below s _ _ _ (T1.setTop (mkF m 14 #[.val (.int p0), .val (.int (0 : Int32)), .val (.ref (c 0)), .unset, .unset] [(.int (0 : Int32))]))
      refine Go.st (fun _ kq_ => XS.iconst X1.here hx rfl (hb hby at_14) kq_) ?_
      show Go p e below s _ _ _ (T1.setTop (mkF m 15 #[.val (.int p0), .val (.int (0 : Int32)), .val (.ref (c 0)), .unset, .unset] [(.int (3 : Int32)), (.int (0 : Int32))]))
      refine Go.st (fun _ kq_ => XS.icmpNo X1.here hx rfl (hb hby at_15) rfl (by decide) kq_) ?_
      show Go p e below s _ _ _ (T1.setTop (mkF m 18 #[.val (.int p0), .val (.int (0 : Int32)), .val (.ref (c 0)), .unset, .unset] []))
      refine Go.st (fun _ kq_ => XS.iloadN X1.here hx rfl (hb hby at_18) rfl kq_) ?_
      show Go p e below s _ _ _ (T1.setTop (mkF m 19 #[.val (.int p0), .val (.int (0 : Int32)), .val (.ref (c 0)), .unset, .unset] [(.int (0 : Int32))]))
      refine Go.st (fun _ kq_ => XS.bipush X1.here hx rfl (hb hby at_19) kq_) ?_
      show Go p e below s _ _ _ (T1.setTop (mkF m 21 #[.val (.int p0), .val (.int (0 : Int32)), .val (.ref (c 0)), .unset, .unset] [(.int (7 : Int32)), (.int (0 : Int32))]))
      refine Go.st (fun _ kq_ => XS.icmpNo X1.here hx rfl (hb hby at_21) rfl (by decide) kq_) ?_
      show Go p e below s _ _ _ (T1.setTop (mkF m 24 #[.val (.int p0), .val (.int (0 : Int32)), .val (.ref (c 0)), .unset, .unset] []))
      refine Go.st (fun _ kq_ => XS.iloadN X1.here hx rfl (hb hby at_24) rfl kq_) ?_
      show Go p e below s _ _ _ (T1.setTop (mkF m 25 #[.val (.int p0), .val (.int (0 : Int32)), .val (.ref (c 0)), .unset, .unset] [(.int (0 : Int32))]))
      refine Go.st (fun _ kq_ => XS.bipush X1.here hx rfl (hb hby at_25) kq_) ?_
      show Go p e below s _ _ _ (T1.setTop (mkF m 27 #[.val (.int p0), .val (.int (0 : Int32)), .val (.ref (c 0)), .unset, .unset] [(.int (11 : Int32)), (.int (0 : Int32))]))
      refine Go.st (fun _ kq_ => XS.icmpYes X1.here hx rfl (pc0 := 27) (pc' := 34) rfl (hb hby at_27) rfl (by decide) (by decide) (by decide) kq_) ?_
      show Go p e below s _ _ _ (T1.setTop (mkF m 34 #[.val (.int p0), .val (.int (0 : Int32)), .val (.ref (c 0)), .unset, .unset] []))
      refine Go.st (fun _ kq_ => XS.iconst X1.here hx rfl (hb hby at_34) kq_) ?_
      show Go p e below s _ _ _ (T1.setTop (mkF m 35 #[.val (.int p0), .val (.int (0 : Int32)), .val (.ref (c 0)), .unset, .unset] [(.int (0 : Int32))]))
      refine Go.st (fun _ kq_ => XS.istoreN X1.here hx rfl (hb hby at_35) rfl (l' := #[.val (.int p0), .val (.int (0 : Int32)), .val (.ref (c 0)), .val (.int (0 : Int32)), .unset]) rfl kq_) ?_
      show Go p e below s _ _ _ (T1.setTop (mkF m 36 #[.val (.int p0), .val (.int (0 : Int32)), .val (.ref (c 0)), .val (.int (0 : Int32)), .unset] []))
      refine Go.st (fun _ kq_ => XS.aloadN X1.here hx rfl (hb hby at_36) rfl rfl kq_) ?_
      show Go p e below s _ _ _ (T1.setTop (mkF m 37 #[.val (.int p0), .val (.int (0 : Int32)), .val (.ref (c 0)), .val (.int (0 : Int32)), .unset] [(.ref (c 0))]))
      obtain ⟨cq2, kq2, qa2, qb2, qc2⟩ := isOf hZ e1 ((HS.2.2.2.2.2.2.2.2.2.2.2.2.2.2.1 0 (by decide)).ext O0.2)
      obtain ⟨_, _, ⟨T2, L2, k2, n2⟩, -, X2, ⟨Lc2, hQ2, l2, y2, z2⟩, st2⟩ := X1.virtualBack hx (y := (⟨"com/example/arbora/arbora/sql/ValueType", "equalExactlyWhenTextsAre", "()Z"⟩ : MethodName)) (z := (⟨"com/example/arbora/arbora/sql/ValueType", "equalExactlyWhenTextsAre", "()Z"⟩ : MethodName)) hown (mvT hZ (own_w hw 8 rfl)) (mvT hZ (own_w hw 9 rfl)) (notFace_of_selects (args := #[]) (mvT hZ (own_w hw 11 rfl))) (mvT hZ (own_w hw 11 rfl)) (mvT hZ (own_w hw 10 rfl)) (by decide) (backOf (W := 0) (rm2 l Z a0 hw [] c 0 h0 n0 O0 HS) hZ (own_w hw 12 rfl) (own_w hw 6 rfl) (by decide) (by decide)) qa2 qc2 (g := (mkF m 37 #[.val (.int p0), .val (.int (0 : Int32)), .val (.ref (c 0)), .val (.int (0 : Int32)), .unset] [(.ref (c 0))])) rfl (by rw [hml]; rfl) (Steps.refl _) (argsL := []) (rest := []) (lenOf pd0_1 rfl) rfl (by show 2 * 0 + _ ≤ _; exact Nat.le_of_eq rfl) (hb hby at_37) (fun _ _ => ⟨rfl, e1, (by decide : 0 + 0 ≤ _), (by decide : 0 + 0 ≤ _)⟩)
      dsimp only [Pt.U, Pt.locs, Pt.cells, Pt.slots] at X2 l2 y2 z2 st2 hQ2
      subst l2 y2 z2
      obtain ⟨rfl, Nc2, e2⟩ := hQ2
      have N2 := Fr.app N1 Nc2
      rw [fEq_0 c HS.2.2.2.2.2.2.2.2.2.2.2.2.2.2.2] at st2
      refine Go.tr st2 ?_
      show Go p e below s _ _ _ (T2.setTop (mkF m 40 #[.val (.int p0), .val (.int (0 : Int32)), .val (.ref (c 0)), .val (.int (0 : Int32)), .unset] [(.int (0 : Int32))]))
      refine Go.st (fun _ kq_ => XS.istore X2.here hx rfl (hb hby at_40) rfl (l' := #[.val (.int p0), .val (.int (0 : Int32)), .val (.ref (c 0)), .val (.int (0 : Int32)), .val (.int (0 : Int32))]) rfl kq_) ?_
      show Go p e below s _ _ _ (T2.setTop (mkF m 42 #[.val (.int p0), .val (.int (0 : Int32)), .val (.ref (c 0)), .val (.int (0 : Int32)), .val (.int (0 : Int32))] []))
      refine Go.st (fun _ kq_ => XS.iload X2.here hx rfl (hb hby at_42) rfl kq_) ?_
      show Go p e below s _ _ _ (T2.setTop (mkF m 44 #[.val (.int p0), .val (.int (0 : Int32)), .val (.ref (c 0)), .val (.int (0 : Int32)), .val (.int (0 : Int32))] [(.int (0 : Int32))]))
      refine Go.st (fun _ kq_ => XS.iloadN X2.here hx rfl (hb hby at_44) rfl kq_) ?_
      show Go p e below s _ _ _ (T2.setTop (mkF m 45 #[.val (.int p0), .val (.int (0 : Int32)), .val (.ref (c 0)), .val (.int (0 : Int32)), .val (.int (0 : Int32))] [(.int (0 : Int32)), (.int (0 : Int32))]))
      refine Go.st (fun _ kq_ => XS.icmpYes X2.here hx rfl (pc0 := 45) (pc' := 50) rfl (hb hby at_45) rfl (by decide) (by decide) (by decide) kq_) ?_
      show Go p e below s _ _ _ (T2.setTop (mkF m 50 #[.val (.int p0), .val (.int (0 : Int32)), .val (.ref (c 0)), .val (.int (0 : Int32)), .val (.int (0 : Int32))] []))
      refine Go.st (fun _ kq_ => XS.iload X2.here hx rfl (hb hby at_50) rfl kq_) ?_
      show Go p e below s _ _ _ (T2.setTop (mkF m 52 #[.val (.int p0), .val (.int (0 : Int32)), .val (.ref (c 0)), .val (.int (0 : Int32)), .val (.int (0 : Int32))] [(.int (0 : Int32))]))
      refine Go.st (fun _ kq_ => XS.ifYes X2.here hx rfl (pc0 := 52) (pc' := 64) rfl (hb hby at_52) rfl (by decide) (by decide) (by decide) kq_) ?_
      show Go p e below s _ _ _ (T2.setTop (mkF m 64 #[.val (.int p0), .val (.int (0 : Int32)), .val (.ref (c 0)), .val (.int (0 : Int32)), .val (.int (0 : Int32))] []))
      refine Go.st (fun _ kq_ => XS.iload X2.here hx rfl (hb hby at_64) rfl kq_) ?_
      show Go p e below s _ _ _ (T2.setTop (mkF m 66 #[.val (.int p0), .val (.int (0 : Int32)), .val (.ref (c 0)), .val (.int (0 : Int32)), .val (.int (0 : Int32))] [(.int (0 : Int32))]))
      refine Go.st (fun _ kq_ => XS.ifYes X2.here hx rfl (pc0 := 66) (pc' := 78) rfl (hb hby at_66) rfl (by decide) (by decide) (by decide) kq_) ?_
      show Go p e below s _ _ _ (T2.setTop (mkF m 78 #[.val (.int p0), .val (.int (0 : Int32)), .val (.ref (c 0)), .val (.int (0 : Int32)), .val (.int (0 : Int32))] []))
      refine Go.st (fun _ kq_ => XS.iconst X2.here hx rfl (hb hby at_78) kq_) ?_
      show Go p e below s _ _ _ (T2.setTop (mkF m 79 #[.val (.int p0), .val (.int (0 : Int32)), .val (.ref (c 0)), .val (.int (0 : Int32)), .val (.int (0 : Int32))] [(.int (1 : Int32))]))
      exact Go.ret X2 hlk (some (.int (nar .boolean (1 : Int32)))) (fun h => by rw [Bd.returns] at h; cases h) (by rw [e2]; exact ⟨rfl, N2⟩) (by decide) (by decide) (fun fs hr => retN X2 hx (t := .boolean) Bd.returns (by simp) (hb hby at_79) hr)
    · show Go p e below s _ _ _ (s₁.setTop (mkF m 7 #[.val (.int p0), .unset, .unset, .unset, .unset] [(.int (1 : Int32))]))
      refine Go.st (fun _ kq_ => XS.istoreN X0.here hx rfl (hb hby at_7) rfl (l' := #[.val (.int p0), .val (.int (1 : Int32)), .unset, .unset, .unset]) rfl kq_) ?_
      show Go p e below s _ _ _ (s₁.setTop (mkF m 8 #[.val (.int p0), .val (.int (1 : Int32)), .unset, .unset, .unset] []))
      refine Go.st (fun _ kq_ => XS.iloadN X0.here hx rfl (hb hby at_8) rfl kq_) ?_
      show Go p e below s _ _ _ (s₁.setTop (mkF m 9 #[.val (.int p0), .val (.int (1 : Int32)), .unset, .unset, .unset] [(.int (1 : Int32))]))
      obtain ⟨_, _, ⟨T3, L3, k3, n3⟩, -, X3, ⟨Lc3, hQ3, l3, y3, z3⟩, st3⟩ := Jvm.LawKit.callS X0 hx (y := (⟨"com/example/arbora/arbora/sql/ValueTypeEqualExactlyWhenTextsArePinLaw", "pick", "(I)Lcom/example/arbora/arbora/sql/ValueType;"⟩ : MethodName)) hown (mvT hZ (own_w hw 1 rfl)) (mvT hZ (own_w hw 2 rfl)) (mvT hZ (own_w hw 3 rfl)) (mvT hZ (own_w hw 4 rfl)) (by decide) (backOf (W := 0) (rm1 l Z a0 hw [] (1 : Int32) c h0 n0 O0 HS) hZ (own_w hw 4 rfl) (own_w hw 3 rfl) (by decide) (by decide)) (g := (mkF m 9 #[.val (.int p0), .val (.int (1 : Int32)), .unset, .unset, .unset] [(.int (1 : Int32))])) rfl (by rw [hml]; rfl) (argsL := [(.int (1 : Int32))]) (rest := []) (lenOf pd0_0 rfl) rfl (by show 2 * 0 + _ ≤ _; exact Nat.le_of_eq rfl) (hb hby at_9) (fun _ _ => ⟨rfl, e0, (by decide : 0 + 0 ≤ _), (by decide : 0 + 0 ≤ _)⟩)
      dsimp only [Pt.U, Pt.locs, Pt.cells, Pt.slots] at X3 l3 y3 z3 st3 hQ3
      subst l3 y3 z3
      obtain ⟨rfl, Nc3, e3⟩ := hQ3
      have N3 := Fr.app N0 Nc3
      rw [(by decide : fPick (1 : Int32) = 1)] at st3
      refine Go.st st3 ?_
      show Go p e below s _ _ _ (T3.setTop (mkF m 12 #[.val (.int p0), .val (.int (1 : Int32)), .unset, .unset, .unset] [(.ref (c 1))]))
      refine Go.st (fun _ kq_ => XS.astoreN X3.here hx rfl (hb hby at_12) rfl rfl (l' := #[.val (.int p0), .val (.int (1 : Int32)), .val (.ref (c 1)), .unset, .unset]) rfl kq_) ?_
      show Go p e below s _ _ _ (T3.setTop (mkF m 13 #[.val (.int p0), .val (.int (1 : Int32)), .val (.ref (c 1)), .unset, .unset] []))
      refine Go.st (fun _ kq_ => XS.iloadN X3.here hx rfl (hb hby at_13) rfl kq_) ?_
      show Go p e below s _ _ _ (T3.setTop (mkF m 14 #[.val (.int p0), .val (.int (1 : Int32)), .val (.ref (c 1)), .unset, .unset] [(.int (1 : Int32))]))
      refine Go.st (fun _ kq_ => XS.iconst X3.here hx rfl (hb hby at_14) kq_) ?_
      show Go p e below s _ _ _ (T3.setTop (mkF m 15 #[.val (.int p0), .val (.int (1 : Int32)), .val (.ref (c 1)), .unset, .unset] [(.int (3 : Int32)), (.int (1 : Int32))]))
      refine Go.st (fun _ kq_ => XS.icmpNo X3.here hx rfl (hb hby at_15) rfl (by decide) kq_) ?_
      show Go p e below s _ _ _ (T3.setTop (mkF m 18 #[.val (.int p0), .val (.int (1 : Int32)), .val (.ref (c 1)), .unset, .unset] []))
      refine Go.st (fun _ kq_ => XS.iloadN X3.here hx rfl (hb hby at_18) rfl kq_) ?_
      show Go p e below s _ _ _ (T3.setTop (mkF m 19 #[.val (.int p0), .val (.int (1 : Int32)), .val (.ref (c 1)), .unset, .unset] [(.int (1 : Int32))]))
      refine Go.st (fun _ kq_ => XS.bipush X3.here hx rfl (hb hby at_19) kq_) ?_
      show Go p e below s _ _ _ (T3.setTop (mkF m 21 #[.val (.int p0), .val (.int (1 : Int32)), .val (.ref (c 1)), .unset, .unset] [(.int (7 : Int32)), (.int (1 : Int32))]))
      refine Go.st (fun _ kq_ => XS.icmpNo X3.here hx rfl (hb hby at_21) rfl (by decide) kq_) ?_
      show Go p e below s _ _ _ (T3.setTop (mkF m 24 #[.val (.int p0), .val (.int (1 : Int32)), .val (.ref (c 1)), .unset, .unset] []))
      refine Go.st (fun _ kq_ => XS.iloadN X3.here hx rfl (hb hby at_24) rfl kq_) ?_
      show Go p e below s _ _ _ (T3.setTop (mkF m 25 #[.val (.int p0), .val (.int (1 : Int32)), .val (.ref (c 1)), .unset, .unset] [(.int (1 : Int32))]))
      refine Go.st (fun _ kq_ => XS.bipush X3.here hx rfl (hb hby at_25) kq_) ?_
      show Go p e below s _ _ _ (T3.setTop (mkF m 27 #[.val (.int p0), .val (.int (1 : Int32)), .val (.ref (c 1)), .unset, .unset] [(.int (11 : Int32)), (.int (1 : Int32))]))
      refine Go.st (fun _ kq_ => XS.icmpYes X3.here hx rfl (pc0 := 27) (pc' := 34) rfl (hb hby at_27) rfl (by decide) (by decide) (by decide) kq_) ?_
      show Go p e below s _ _ _ (T3.setTop (mkF m 34 #[.val (.int p0), .val (.int (1 : Int32)), .val (.ref (c 1)), .unset, .unset] []))
      refine Go.st (fun _ kq_ => XS.iconst X3.here hx rfl (hb hby at_34) kq_) ?_
      show Go p e below s _ _ _ (T3.setTop (mkF m 35 #[.val (.int p0), .val (.int (1 : Int32)), .val (.ref (c 1)), .unset, .unset] [(.int (0 : Int32))]))
      refine Go.st (fun _ kq_ => XS.istoreN X3.here hx rfl (hb hby at_35) rfl (l' := #[.val (.int p0), .val (.int (1 : Int32)), .val (.ref (c 1)), .val (.int (0 : Int32)), .unset]) rfl kq_) ?_
      show Go p e below s _ _ _ (T3.setTop (mkF m 36 #[.val (.int p0), .val (.int (1 : Int32)), .val (.ref (c 1)), .val (.int (0 : Int32)), .unset] []))
      refine Go.st (fun _ kq_ => XS.aloadN X3.here hx rfl (hb hby at_36) rfl rfl kq_) ?_
      show Go p e below s _ _ _ (T3.setTop (mkF m 37 #[.val (.int p0), .val (.int (1 : Int32)), .val (.ref (c 1)), .val (.int (0 : Int32)), .unset] [(.ref (c 1))]))
      obtain ⟨cq4, kq4, qa4, qb4, qc4⟩ := isOf hZ e3 ((HS.2.2.2.2.2.2.2.2.2.2.2.2.2.2.1 1 (by decide)).ext O0.2)
      obtain ⟨_, _, ⟨T4, L4, k4, n4⟩, -, X4, ⟨Lc4, hQ4, l4, y4, z4⟩, st4⟩ := X3.virtualBack hx (y := (⟨"com/example/arbora/arbora/sql/ValueType", "equalExactlyWhenTextsAre", "()Z"⟩ : MethodName)) (z := (⟨"com/example/arbora/arbora/sql/ValueType", "equalExactlyWhenTextsAre", "()Z"⟩ : MethodName)) hown (mvT hZ (own_w hw 8 rfl)) (mvT hZ (own_w hw 9 rfl)) (notFace_of_selects (args := #[]) (mvT hZ (own_w hw 11 rfl))) (mvT hZ (own_w hw 11 rfl)) (mvT hZ (own_w hw 10 rfl)) (by decide) (backOf (W := 0) (rm2 l Z a0 hw [] c 1 h0 n0 O0 HS) hZ (own_w hw 12 rfl) (own_w hw 6 rfl) (by decide) (by decide)) qa4 qc4 (g := (mkF m 37 #[.val (.int p0), .val (.int (1 : Int32)), .val (.ref (c 1)), .val (.int (0 : Int32)), .unset] [(.ref (c 1))])) rfl (by rw [hml]; rfl) (Steps.refl _) (argsL := []) (rest := []) (lenOf pd0_1 rfl) rfl (by show 2 * 0 + _ ≤ _; exact Nat.le_of_eq rfl) (hb hby at_37) (fun _ _ => ⟨rfl, e3, (by decide : 0 + 0 ≤ _), (by decide : 0 + 0 ≤ _)⟩)
      dsimp only [Pt.U, Pt.locs, Pt.cells, Pt.slots] at X4 l4 y4 z4 st4 hQ4
      subst l4 y4 z4
      obtain ⟨rfl, Nc4, e4⟩ := hQ4
      have N4 := Fr.app N3 Nc4
      rw [fEq_1 c HS.2.2.2.2.2.2.2.2.2.2.2.2.2.2.2] at st4
      refine Go.tr st4 ?_
      show Go p e below s _ _ _ (T4.setTop (mkF m 40 #[.val (.int p0), .val (.int (1 : Int32)), .val (.ref (c 1)), .val (.int (0 : Int32)), .unset] [(.int (0 : Int32))]))
      refine Go.st (fun _ kq_ => XS.istore X4.here hx rfl (hb hby at_40) rfl (l' := #[.val (.int p0), .val (.int (1 : Int32)), .val (.ref (c 1)), .val (.int (0 : Int32)), .val (.int (0 : Int32))]) rfl kq_) ?_
      show Go p e below s _ _ _ (T4.setTop (mkF m 42 #[.val (.int p0), .val (.int (1 : Int32)), .val (.ref (c 1)), .val (.int (0 : Int32)), .val (.int (0 : Int32))] []))
      refine Go.st (fun _ kq_ => XS.iload X4.here hx rfl (hb hby at_42) rfl kq_) ?_
      show Go p e below s _ _ _ (T4.setTop (mkF m 44 #[.val (.int p0), .val (.int (1 : Int32)), .val (.ref (c 1)), .val (.int (0 : Int32)), .val (.int (0 : Int32))] [(.int (0 : Int32))]))
      refine Go.st (fun _ kq_ => XS.iloadN X4.here hx rfl (hb hby at_44) rfl kq_) ?_
      show Go p e below s _ _ _ (T4.setTop (mkF m 45 #[.val (.int p0), .val (.int (1 : Int32)), .val (.ref (c 1)), .val (.int (0 : Int32)), .val (.int (0 : Int32))] [(.int (0 : Int32)), (.int (0 : Int32))]))
      refine Go.st (fun _ kq_ => XS.icmpYes X4.here hx rfl (pc0 := 45) (pc' := 50) rfl (hb hby at_45) rfl (by decide) (by decide) (by decide) kq_) ?_
      show Go p e below s _ _ _ (T4.setTop (mkF m 50 #[.val (.int p0), .val (.int (1 : Int32)), .val (.ref (c 1)), .val (.int (0 : Int32)), .val (.int (0 : Int32))] []))
      refine Go.st (fun _ kq_ => XS.iload X4.here hx rfl (hb hby at_50) rfl kq_) ?_
      show Go p e below s _ _ _ (T4.setTop (mkF m 52 #[.val (.int p0), .val (.int (1 : Int32)), .val (.ref (c 1)), .val (.int (0 : Int32)), .val (.int (0 : Int32))] [(.int (0 : Int32))]))
      refine Go.st (fun _ kq_ => XS.ifYes X4.here hx rfl (pc0 := 52) (pc' := 64) rfl (hb hby at_52) rfl (by decide) (by decide) (by decide) kq_) ?_
      show Go p e below s _ _ _ (T4.setTop (mkF m 64 #[.val (.int p0), .val (.int (1 : Int32)), .val (.ref (c 1)), .val (.int (0 : Int32)), .val (.int (0 : Int32))] []))
      refine Go.st (fun _ kq_ => XS.iload X4.here hx rfl (hb hby at_64) rfl kq_) ?_
      show Go p e below s _ _ _ (T4.setTop (mkF m 66 #[.val (.int p0), .val (.int (1 : Int32)), .val (.ref (c 1)), .val (.int (0 : Int32)), .val (.int (0 : Int32))] [(.int (0 : Int32))]))
      refine Go.st (fun _ kq_ => XS.ifYes X4.here hx rfl (pc0 := 66) (pc' := 78) rfl (hb hby at_66) rfl (by decide) (by decide) (by decide) kq_) ?_
      show Go p e below s _ _ _ (T4.setTop (mkF m 78 #[.val (.int p0), .val (.int (1 : Int32)), .val (.ref (c 1)), .val (.int (0 : Int32)), .val (.int (0 : Int32))] []))
      refine Go.st (fun _ kq_ => XS.iconst X4.here hx rfl (hb hby at_78) kq_) ?_
      show Go p e below s _ _ _ (T4.setTop (mkF m 79 #[.val (.int p0), .val (.int (1 : Int32)), .val (.ref (c 1)), .val (.int (0 : Int32)), .val (.int (0 : Int32))] [(.int (1 : Int32))]))
      exact Go.ret X4 hlk (some (.int (nar .boolean (1 : Int32)))) (fun h => by rw [Bd.returns] at h; cases h) (by rw [e4]; exact ⟨rfl, N4⟩) (by decide) (by decide) (fun fs hr => retN X4 hx (t := .boolean) Bd.returns (by simp) (hb hby at_79) hr)
    · show Go p e below s _ _ _ (s₁.setTop (mkF m 7 #[.val (.int p0), .unset, .unset, .unset, .unset] [(.int (2 : Int32))]))
      refine Go.st (fun _ kq_ => XS.istoreN X0.here hx rfl (hb hby at_7) rfl (l' := #[.val (.int p0), .val (.int (2 : Int32)), .unset, .unset, .unset]) rfl kq_) ?_
      show Go p e below s _ _ _ (s₁.setTop (mkF m 8 #[.val (.int p0), .val (.int (2 : Int32)), .unset, .unset, .unset] []))
      refine Go.st (fun _ kq_ => XS.iloadN X0.here hx rfl (hb hby at_8) rfl kq_) ?_
      show Go p e below s _ _ _ (s₁.setTop (mkF m 9 #[.val (.int p0), .val (.int (2 : Int32)), .unset, .unset, .unset] [(.int (2 : Int32))]))
      obtain ⟨_, _, ⟨T5, L5, k5, n5⟩, -, X5, ⟨Lc5, hQ5, l5, y5, z5⟩, st5⟩ := Jvm.LawKit.callS X0 hx (y := (⟨"com/example/arbora/arbora/sql/ValueTypeEqualExactlyWhenTextsArePinLaw", "pick", "(I)Lcom/example/arbora/arbora/sql/ValueType;"⟩ : MethodName)) hown (mvT hZ (own_w hw 1 rfl)) (mvT hZ (own_w hw 2 rfl)) (mvT hZ (own_w hw 3 rfl)) (mvT hZ (own_w hw 4 rfl)) (by decide) (backOf (W := 0) (rm1 l Z a0 hw [] (2 : Int32) c h0 n0 O0 HS) hZ (own_w hw 4 rfl) (own_w hw 3 rfl) (by decide) (by decide)) (g := (mkF m 9 #[.val (.int p0), .val (.int (2 : Int32)), .unset, .unset, .unset] [(.int (2 : Int32))])) rfl (by rw [hml]; rfl) (argsL := [(.int (2 : Int32))]) (rest := []) (lenOf pd0_0 rfl) rfl (by show 2 * 0 + _ ≤ _; exact Nat.le_of_eq rfl) (hb hby at_9) (fun _ _ => ⟨rfl, e0, (by decide : 0 + 0 ≤ _), (by decide : 0 + 0 ≤ _)⟩)
      dsimp only [Pt.U, Pt.locs, Pt.cells, Pt.slots] at X5 l5 y5 z5 st5 hQ5
      subst l5 y5 z5
      obtain ⟨rfl, Nc5, e5⟩ := hQ5
      have N5 := Fr.app N0 Nc5
      rw [(by decide : fPick (2 : Int32) = 2)] at st5
      refine Go.st st5 ?_
      show Go p e below s _ _ _ (T5.setTop (mkF m 12 #[.val (.int p0), .val (.int (2 : Int32)), .unset, .unset, .unset] [(.ref (c 2))]))
      refine Go.st (fun _ kq_ => XS.astoreN X5.here hx rfl (hb hby at_12) rfl rfl (l' := #[.val (.int p0), .val (.int (2 : Int32)), .val (.ref (c 2)), .unset, .unset]) rfl kq_) ?_
      show Go p e below s _ _ _ (T5.setTop (mkF m 13 #[.val (.int p0), .val (.int (2 : Int32)), .val (.ref (c 2)), .unset, .unset] []))
      refine Go.st (fun _ kq_ => XS.iloadN X5.here hx rfl (hb hby at_13) rfl kq_) ?_
      show Go p e below s _ _ _ (T5.setTop (mkF m 14 #[.val (.int p0), .val (.int (2 : Int32)), .val (.ref (c 2)), .unset, .unset] [(.int (2 : Int32))]))
      refine Go.st (fun _ kq_ => XS.iconst X5.here hx rfl (hb hby at_14) kq_) ?_
      show Go p e below s _ _ _ (T5.setTop (mkF m 15 #[.val (.int p0), .val (.int (2 : Int32)), .val (.ref (c 2)), .unset, .unset] [(.int (3 : Int32)), (.int (2 : Int32))]))
      refine Go.st (fun _ kq_ => XS.icmpNo X5.here hx rfl (hb hby at_15) rfl (by decide) kq_) ?_
      show Go p e below s _ _ _ (T5.setTop (mkF m 18 #[.val (.int p0), .val (.int (2 : Int32)), .val (.ref (c 2)), .unset, .unset] []))
      refine Go.st (fun _ kq_ => XS.iloadN X5.here hx rfl (hb hby at_18) rfl kq_) ?_
      show Go p e below s _ _ _ (T5.setTop (mkF m 19 #[.val (.int p0), .val (.int (2 : Int32)), .val (.ref (c 2)), .unset, .unset] [(.int (2 : Int32))]))
      refine Go.st (fun _ kq_ => XS.bipush X5.here hx rfl (hb hby at_19) kq_) ?_
      show Go p e below s _ _ _ (T5.setTop (mkF m 21 #[.val (.int p0), .val (.int (2 : Int32)), .val (.ref (c 2)), .unset, .unset] [(.int (7 : Int32)), (.int (2 : Int32))]))
      refine Go.st (fun _ kq_ => XS.icmpNo X5.here hx rfl (hb hby at_21) rfl (by decide) kq_) ?_
      show Go p e below s _ _ _ (T5.setTop (mkF m 24 #[.val (.int p0), .val (.int (2 : Int32)), .val (.ref (c 2)), .unset, .unset] []))
      refine Go.st (fun _ kq_ => XS.iloadN X5.here hx rfl (hb hby at_24) rfl kq_) ?_
      show Go p e below s _ _ _ (T5.setTop (mkF m 25 #[.val (.int p0), .val (.int (2 : Int32)), .val (.ref (c 2)), .unset, .unset] [(.int (2 : Int32))]))
      refine Go.st (fun _ kq_ => XS.bipush X5.here hx rfl (hb hby at_25) kq_) ?_
      show Go p e below s _ _ _ (T5.setTop (mkF m 27 #[.val (.int p0), .val (.int (2 : Int32)), .val (.ref (c 2)), .unset, .unset] [(.int (11 : Int32)), (.int (2 : Int32))]))
      refine Go.st (fun _ kq_ => XS.icmpYes X5.here hx rfl (pc0 := 27) (pc' := 34) rfl (hb hby at_27) rfl (by decide) (by decide) (by decide) kq_) ?_
      show Go p e below s _ _ _ (T5.setTop (mkF m 34 #[.val (.int p0), .val (.int (2 : Int32)), .val (.ref (c 2)), .unset, .unset] []))
      refine Go.st (fun _ kq_ => XS.iconst X5.here hx rfl (hb hby at_34) kq_) ?_
      show Go p e below s _ _ _ (T5.setTop (mkF m 35 #[.val (.int p0), .val (.int (2 : Int32)), .val (.ref (c 2)), .unset, .unset] [(.int (0 : Int32))]))
      refine Go.st (fun _ kq_ => XS.istoreN X5.here hx rfl (hb hby at_35) rfl (l' := #[.val (.int p0), .val (.int (2 : Int32)), .val (.ref (c 2)), .val (.int (0 : Int32)), .unset]) rfl kq_) ?_
      show Go p e below s _ _ _ (T5.setTop (mkF m 36 #[.val (.int p0), .val (.int (2 : Int32)), .val (.ref (c 2)), .val (.int (0 : Int32)), .unset] []))
      refine Go.st (fun _ kq_ => XS.aloadN X5.here hx rfl (hb hby at_36) rfl rfl kq_) ?_
      show Go p e below s _ _ _ (T5.setTop (mkF m 37 #[.val (.int p0), .val (.int (2 : Int32)), .val (.ref (c 2)), .val (.int (0 : Int32)), .unset] [(.ref (c 2))]))
      obtain ⟨cq6, kq6, qa6, qb6, qc6⟩ := isOf hZ e5 ((HS.2.2.2.2.2.2.2.2.2.2.2.2.2.2.1 2 (by decide)).ext O0.2)
      obtain ⟨_, _, ⟨T6, L6, k6, n6⟩, -, X6, ⟨Lc6, hQ6, l6, y6, z6⟩, st6⟩ := X5.virtualBack hx (y := (⟨"com/example/arbora/arbora/sql/ValueType", "equalExactlyWhenTextsAre", "()Z"⟩ : MethodName)) (z := (⟨"com/example/arbora/arbora/sql/ValueType", "equalExactlyWhenTextsAre", "()Z"⟩ : MethodName)) hown (mvT hZ (own_w hw 8 rfl)) (mvT hZ (own_w hw 9 rfl)) (notFace_of_selects (args := #[]) (mvT hZ (own_w hw 11 rfl))) (mvT hZ (own_w hw 11 rfl)) (mvT hZ (own_w hw 10 rfl)) (by decide) (backOf (W := 0) (rm2 l Z a0 hw [] c 2 h0 n0 O0 HS) hZ (own_w hw 12 rfl) (own_w hw 6 rfl) (by decide) (by decide)) qa6 qc6 (g := (mkF m 37 #[.val (.int p0), .val (.int (2 : Int32)), .val (.ref (c 2)), .val (.int (0 : Int32)), .unset] [(.ref (c 2))])) rfl (by rw [hml]; rfl) (Steps.refl _) (argsL := []) (rest := []) (lenOf pd0_1 rfl) rfl (by show 2 * 0 + _ ≤ _; exact Nat.le_of_eq rfl) (hb hby at_37) (fun _ _ => ⟨rfl, e5, (by decide : 0 + 0 ≤ _), (by decide : 0 + 0 ≤ _)⟩)
      dsimp only [Pt.U, Pt.locs, Pt.cells, Pt.slots] at X6 l6 y6 z6 st6 hQ6
      subst l6 y6 z6
      obtain ⟨rfl, Nc6, e6⟩ := hQ6
      have N6 := Fr.app N5 Nc6
      rw [fEq_2 c HS.2.2.2.2.2.2.2.2.2.2.2.2.2.2.2] at st6
      refine Go.tr st6 ?_
      show Go p e below s _ _ _ (T6.setTop (mkF m 40 #[.val (.int p0), .val (.int (2 : Int32)), .val (.ref (c 2)), .val (.int (0 : Int32)), .unset] [(.int (0 : Int32))]))
      refine Go.st (fun _ kq_ => XS.istore X6.here hx rfl (hb hby at_40) rfl (l' := #[.val (.int p0), .val (.int (2 : Int32)), .val (.ref (c 2)), .val (.int (0 : Int32)), .val (.int (0 : Int32))]) rfl kq_) ?_
      show Go p e below s _ _ _ (T6.setTop (mkF m 42 #[.val (.int p0), .val (.int (2 : Int32)), .val (.ref (c 2)), .val (.int (0 : Int32)), .val (.int (0 : Int32))] []))
      refine Go.st (fun _ kq_ => XS.iload X6.here hx rfl (hb hby at_42) rfl kq_) ?_
      show Go p e below s _ _ _ (T6.setTop (mkF m 44 #[.val (.int p0), .val (.int (2 : Int32)), .val (.ref (c 2)), .val (.int (0 : Int32)), .val (.int (0 : Int32))] [(.int (0 : Int32))]))
      refine Go.st (fun _ kq_ => XS.iloadN X6.here hx rfl (hb hby at_44) rfl kq_) ?_
      show Go p e below s _ _ _ (T6.setTop (mkF m 45 #[.val (.int p0), .val (.int (2 : Int32)), .val (.ref (c 2)), .val (.int (0 : Int32)), .val (.int (0 : Int32))] [(.int (0 : Int32)), (.int (0 : Int32))]))
      refine Go.st (fun _ kq_ => XS.icmpYes X6.here hx rfl (pc0 := 45) (pc' := 50) rfl (hb hby at_45) rfl (by decide) (by decide) (by decide) kq_) ?_
      show Go p e below s _ _ _ (T6.setTop (mkF m 50 #[.val (.int p0), .val (.int (2 : Int32)), .val (.ref (c 2)), .val (.int (0 : Int32)), .val (.int (0 : Int32))] []))
      refine Go.st (fun _ kq_ => XS.iload X6.here hx rfl (hb hby at_50) rfl kq_) ?_
      show Go p e below s _ _ _ (T6.setTop (mkF m 52 #[.val (.int p0), .val (.int (2 : Int32)), .val (.ref (c 2)), .val (.int (0 : Int32)), .val (.int (0 : Int32))] [(.int (0 : Int32))]))
      refine Go.st (fun _ kq_ => XS.ifYes X6.here hx rfl (pc0 := 52) (pc' := 64) rfl (hb hby at_52) rfl (by decide) (by decide) (by decide) kq_) ?_
      show Go p e below s _ _ _ (T6.setTop (mkF m 64 #[.val (.int p0), .val (.int (2 : Int32)), .val (.ref (c 2)), .val (.int (0 : Int32)), .val (.int (0 : Int32))] []))
      refine Go.st (fun _ kq_ => XS.iload X6.here hx rfl (hb hby at_64) rfl kq_) ?_
      show Go p e below s _ _ _ (T6.setTop (mkF m 66 #[.val (.int p0), .val (.int (2 : Int32)), .val (.ref (c 2)), .val (.int (0 : Int32)), .val (.int (0 : Int32))] [(.int (0 : Int32))]))
      refine Go.st (fun _ kq_ => XS.ifYes X6.here hx rfl (pc0 := 66) (pc' := 78) rfl (hb hby at_66) rfl (by decide) (by decide) (by decide) kq_) ?_
      show Go p e below s _ _ _ (T6.setTop (mkF m 78 #[.val (.int p0), .val (.int (2 : Int32)), .val (.ref (c 2)), .val (.int (0 : Int32)), .val (.int (0 : Int32))] []))
      refine Go.st (fun _ kq_ => XS.iconst X6.here hx rfl (hb hby at_78) kq_) ?_
      show Go p e below s _ _ _ (T6.setTop (mkF m 79 #[.val (.int p0), .val (.int (2 : Int32)), .val (.ref (c 2)), .val (.int (0 : Int32)), .val (.int (0 : Int32))] [(.int (1 : Int32))]))
      exact Go.ret X6 hlk (some (.int (nar .boolean (1 : Int32)))) (fun h => by rw [Bd.returns] at h; cases h) (by rw [e6]; exact ⟨rfl, N6⟩) (by decide) (by decide) (fun fs hr => retN X6 hx (t := .boolean) Bd.returns (by simp) (hb hby at_79) hr)
    · show Go p e below s _ _ _ (s₁.setTop (mkF m 7 #[.val (.int p0), .unset, .unset, .unset, .unset] [(.int (3 : Int32))]))
      refine Go.st (fun _ kq_ => XS.istoreN X0.here hx rfl (hb hby at_7) rfl (l' := #[.val (.int p0), .val (.int (3 : Int32)), .unset, .unset, .unset]) rfl kq_) ?_
      show Go p e below s _ _ _ (s₁.setTop (mkF m 8 #[.val (.int p0), .val (.int (3 : Int32)), .unset, .unset, .unset] []))
      refine Go.st (fun _ kq_ => XS.iloadN X0.here hx rfl (hb hby at_8) rfl kq_) ?_
      show Go p e below s _ _ _ (s₁.setTop (mkF m 9 #[.val (.int p0), .val (.int (3 : Int32)), .unset, .unset, .unset] [(.int (3 : Int32))]))
      obtain ⟨_, _, ⟨T7, L7, k7, n7⟩, -, X7, ⟨Lc7, hQ7, l7, y7, z7⟩, st7⟩ := Jvm.LawKit.callS X0 hx (y := (⟨"com/example/arbora/arbora/sql/ValueTypeEqualExactlyWhenTextsArePinLaw", "pick", "(I)Lcom/example/arbora/arbora/sql/ValueType;"⟩ : MethodName)) hown (mvT hZ (own_w hw 1 rfl)) (mvT hZ (own_w hw 2 rfl)) (mvT hZ (own_w hw 3 rfl)) (mvT hZ (own_w hw 4 rfl)) (by decide) (backOf (W := 0) (rm1 l Z a0 hw [] (3 : Int32) c h0 n0 O0 HS) hZ (own_w hw 4 rfl) (own_w hw 3 rfl) (by decide) (by decide)) (g := (mkF m 9 #[.val (.int p0), .val (.int (3 : Int32)), .unset, .unset, .unset] [(.int (3 : Int32))])) rfl (by rw [hml]; rfl) (argsL := [(.int (3 : Int32))]) (rest := []) (lenOf pd0_0 rfl) rfl (by show 2 * 0 + _ ≤ _; exact Nat.le_of_eq rfl) (hb hby at_9) (fun _ _ => ⟨rfl, e0, (by decide : 0 + 0 ≤ _), (by decide : 0 + 0 ≤ _)⟩)
      dsimp only [Pt.U, Pt.locs, Pt.cells, Pt.slots] at X7 l7 y7 z7 st7 hQ7
      subst l7 y7 z7
      obtain ⟨rfl, Nc7, e7⟩ := hQ7
      have N7 := Fr.app N0 Nc7
      rw [(by decide : fPick (3 : Int32) = 3)] at st7
      refine Go.st st7 ?_
      show Go p e below s _ _ _ (T7.setTop (mkF m 12 #[.val (.int p0), .val (.int (3 : Int32)), .unset, .unset, .unset] [(.ref (c 3))]))
      refine Go.st (fun _ kq_ => XS.astoreN X7.here hx rfl (hb hby at_12) rfl rfl (l' := #[.val (.int p0), .val (.int (3 : Int32)), .val (.ref (c 3)), .unset, .unset]) rfl kq_) ?_
      show Go p e below s _ _ _ (T7.setTop (mkF m 13 #[.val (.int p0), .val (.int (3 : Int32)), .val (.ref (c 3)), .unset, .unset] []))
      refine Go.st (fun _ kq_ => XS.iloadN X7.here hx rfl (hb hby at_13) rfl kq_) ?_
      show Go p e below s _ _ _ (T7.setTop (mkF m 14 #[.val (.int p0), .val (.int (3 : Int32)), .val (.ref (c 3)), .unset, .unset] [(.int (3 : Int32))]))
      refine Go.st (fun _ kq_ => XS.iconst X7.here hx rfl (hb hby at_14) kq_) ?_
      show Go p e below s _ _ _ (T7.setTop (mkF m 15 #[.val (.int p0), .val (.int (3 : Int32)), .val (.ref (c 3)), .unset, .unset] [(.int (3 : Int32)), (.int (3 : Int32))]))
      refine Go.st (fun _ kq_ => XS.icmpYes X7.here hx rfl (pc0 := 15) (pc' := 30) rfl (hb hby at_15) rfl (by decide) (by decide) (by decide) kq_) ?_
      show Go p e below s _ _ _ (T7.setTop (mkF m 30 #[.val (.int p0), .val (.int (3 : Int32)), .val (.ref (c 3)), .unset, .unset] []))
      refine Go.st (fun _ kq_ => XS.iconst X7.here hx rfl (hb hby at_30) kq_) ?_
      show Go p e below s _ _ _ (T7.setTop (mkF m 31 #[.val (.int p0), .val (.int (3 : Int32)), .val (.ref (c 3)), .unset, .unset] [(.int (1 : Int32))]))
      refine Go.st (fun _ kq_ => XS.goto X7.here hx rfl (pc0 := 31) (pc' := 35) rfl (hb hby at_31) (by decide) (by decide) kq_) ?_
      show Go p e below s _ _ _ (T7.setTop (mkF m 35 #[.val (.int p0), .val (.int (3 : Int32)), .val (.ref (c 3)), .unset, .unset] [(.int (1 : Int32))]))
      refine Go.st (fun _ kq_ => XS.istoreN X7.here hx rfl (hb hby at_35) rfl (l' := #[.val (.int p0), .val (.int (3 : Int32)), .val (.ref (c 3)), .val (.int (1 : Int32)), .unset]) rfl kq_) ?_
      show Go p e below s _ _ _ (T7.setTop (mkF m 36 #[.val (.int p0), .val (.int (3 : Int32)), .val (.ref (c 3)), .val (.int (1 : Int32)), .unset] []))
      refine Go.st (fun _ kq_ => XS.aloadN X7.here hx rfl (hb hby at_36) rfl rfl kq_) ?_
      show Go p e below s _ _ _ (T7.setTop (mkF m 37 #[.val (.int p0), .val (.int (3 : Int32)), .val (.ref (c 3)), .val (.int (1 : Int32)), .unset] [(.ref (c 3))]))
      obtain ⟨cq8, kq8, qa8, qb8, qc8⟩ := isOf hZ e7 ((HS.2.2.2.2.2.2.2.2.2.2.2.2.2.2.1 3 (by decide)).ext O0.2)
      obtain ⟨_, _, ⟨T8, L8, k8, n8⟩, -, X8, ⟨Lc8, hQ8, l8, y8, z8⟩, st8⟩ := X7.virtualBack hx (y := (⟨"com/example/arbora/arbora/sql/ValueType", "equalExactlyWhenTextsAre", "()Z"⟩ : MethodName)) (z := (⟨"com/example/arbora/arbora/sql/ValueType", "equalExactlyWhenTextsAre", "()Z"⟩ : MethodName)) hown (mvT hZ (own_w hw 8 rfl)) (mvT hZ (own_w hw 9 rfl)) (notFace_of_selects (args := #[]) (mvT hZ (own_w hw 11 rfl))) (mvT hZ (own_w hw 11 rfl)) (mvT hZ (own_w hw 10 rfl)) (by decide) (backOf (W := 0) (rm2 l Z a0 hw [] c 3 h0 n0 O0 HS) hZ (own_w hw 12 rfl) (own_w hw 6 rfl) (by decide) (by decide)) qa8 qc8 (g := (mkF m 37 #[.val (.int p0), .val (.int (3 : Int32)), .val (.ref (c 3)), .val (.int (1 : Int32)), .unset] [(.ref (c 3))])) rfl (by rw [hml]; rfl) (Steps.refl _) (argsL := []) (rest := []) (lenOf pd0_1 rfl) rfl (by show 2 * 0 + _ ≤ _; exact Nat.le_of_eq rfl) (hb hby at_37) (fun _ _ => ⟨rfl, e7, (by decide : 0 + 0 ≤ _), (by decide : 0 + 0 ≤ _)⟩)
      dsimp only [Pt.U, Pt.locs, Pt.cells, Pt.slots] at X8 l8 y8 z8 st8 hQ8
      subst l8 y8 z8
      obtain ⟨rfl, Nc8, e8⟩ := hQ8
      have N8 := Fr.app N7 Nc8
      rw [fEq_3 c HS.2.2.2.2.2.2.2.2.2.2.2.2.2.2.2] at st8
      refine Go.tr st8 ?_
      show Go p e below s _ _ _ (T8.setTop (mkF m 40 #[.val (.int p0), .val (.int (3 : Int32)), .val (.ref (c 3)), .val (.int (1 : Int32)), .unset] [(.int (1 : Int32))]))
      refine Go.st (fun _ kq_ => XS.istore X8.here hx rfl (hb hby at_40) rfl (l' := #[.val (.int p0), .val (.int (3 : Int32)), .val (.ref (c 3)), .val (.int (1 : Int32)), .val (.int (1 : Int32))]) rfl kq_) ?_
      show Go p e below s _ _ _ (T8.setTop (mkF m 42 #[.val (.int p0), .val (.int (3 : Int32)), .val (.ref (c 3)), .val (.int (1 : Int32)), .val (.int (1 : Int32))] []))
      refine Go.st (fun _ kq_ => XS.iload X8.here hx rfl (hb hby at_42) rfl kq_) ?_
      show Go p e below s _ _ _ (T8.setTop (mkF m 44 #[.val (.int p0), .val (.int (3 : Int32)), .val (.ref (c 3)), .val (.int (1 : Int32)), .val (.int (1 : Int32))] [(.int (1 : Int32))]))
      refine Go.st (fun _ kq_ => XS.iloadN X8.here hx rfl (hb hby at_44) rfl kq_) ?_
      show Go p e below s _ _ _ (T8.setTop (mkF m 45 #[.val (.int p0), .val (.int (3 : Int32)), .val (.ref (c 3)), .val (.int (1 : Int32)), .val (.int (1 : Int32))] [(.int (1 : Int32)), (.int (1 : Int32))]))
      refine Go.st (fun _ kq_ => XS.icmpYes X8.here hx rfl (pc0 := 45) (pc' := 50) rfl (hb hby at_45) rfl (by decide) (by decide) (by decide) kq_) ?_
      show Go p e below s _ _ _ (T8.setTop (mkF m 50 #[.val (.int p0), .val (.int (3 : Int32)), .val (.ref (c 3)), .val (.int (1 : Int32)), .val (.int (1 : Int32))] []))
      refine Go.st (fun _ kq_ => XS.iload X8.here hx rfl (hb hby at_50) rfl kq_) ?_
      show Go p e below s _ _ _ (T8.setTop (mkF m 52 #[.val (.int p0), .val (.int (3 : Int32)), .val (.ref (c 3)), .val (.int (1 : Int32)), .val (.int (1 : Int32))] [(.int (1 : Int32))]))
      refine Go.st (fun _ kq_ => XS.ifNo X8.here hx rfl (hb hby at_52) rfl (by decide) kq_) ?_
      show Go p e below s _ _ _ (T8.setTop (mkF m 55 #[.val (.int p0), .val (.int (3 : Int32)), .val (.ref (c 3)), .val (.int (1 : Int32)), .val (.int (1 : Int32))] []))
      refine Go.st (fun _ kq_ => XS.aloadN X8.here hx rfl (hb hby at_55) rfl rfl kq_) ?_
      show Go p e below s _ _ _ (T8.setTop (mkF m 56 #[.val (.int p0), .val (.int (3 : Int32)), .val (.ref (c 3)), .val (.int (1 : Int32)), .val (.int (1 : Int32))] [(.ref (c 3))]))
      obtain ⟨cq9, kq9, qa9, qb9, qc9⟩ := isOf hZ e8 ((HS.2.2.2.2.2.2.2.2.2.2.2.2.2.2.1 3 (by decide)).ext O0.2)
      obtain ⟨_, _, ⟨T9, L9, k9, n9⟩, -, X9, ⟨Lc9, hQ9, l9, y9, z9⟩, st9⟩ := X8.virtualBack hx (y := (⟨"com/example/arbora/arbora/sql/ValueType", "sortEqualOnlyWhenTextsAre", "()Z"⟩ : MethodName)) (z := (⟨"com/example/arbora/arbora/sql/ValueType", "sortEqualOnlyWhenTextsAre", "()Z"⟩ : MethodName)) hown (mvT hZ (own_w hw 20 rfl)) (mvT hZ (own_w hw 21 rfl)) (notFace_of_selects (args := #[]) (mvT hZ (own_w hw 23 rfl))) (mvT hZ (own_w hw 23 rfl)) (mvT hZ (own_w hw 22 rfl)) (by decide) (backOf (W := 0) (rm3 l Z a0 hw [] c 3 h0 n0 O0 HS) hZ (own_w hw 24 rfl) (own_w hw 6 rfl) (by decide) (by decide)) qa9 qc9 (g := (mkF m 56 #[.val (.int p0), .val (.int (3 : Int32)), .val (.ref (c 3)), .val (.int (1 : Int32)), .val (.int (1 : Int32))] [(.ref (c 3))])) rfl (by rw [hml]; rfl) (Steps.refl _) (argsL := []) (rest := []) (lenOf pd0_1 rfl) rfl (by show 2 * 0 + _ ≤ _; exact Nat.le_of_eq rfl) (hb hby at_56) (fun _ _ => ⟨rfl, e8, (by decide : 0 + 0 ≤ _), (by decide : 0 + 0 ≤ _)⟩)
      dsimp only [Pt.U, Pt.locs, Pt.cells, Pt.slots] at X9 l9 y9 z9 st9 hQ9
      subst l9 y9 z9
      obtain ⟨rfl, Nc9, e9⟩ := hQ9
      have N9 := Fr.app N8 Nc9
      rw [fSo_3 c HS.2.2.2.2.2.2.2.2.2.2.2.2.2.2.2] at st9
      refine Go.tr st9 ?_
      show Go p e below s _ _ _ (T9.setTop (mkF m 59 #[.val (.int p0), .val (.int (3 : Int32)), .val (.ref (c 3)), .val (.int (1 : Int32)), .val (.int (1 : Int32))] [(.int (1 : Int32))]))
      refine Go.st (fun _ kq_ => XS.ifYes X9.here hx rfl (pc0 := 59) (pc' := 64) rfl (hb hby at_59) rfl (by decide) (by decide) (by decide) kq_) ?_
      show Go p e below s _ _ _ (T9.setTop (mkF m 64 #[.val (.int p0), .val (.int (3 : Int32)), .val (.ref (c 3)), .val (.int (1 : Int32)), .val (.int (1 : Int32))] []))
      refine Go.st (fun _ kq_ => XS.iload X9.here hx rfl (hb hby at_64) rfl kq_) ?_
      show Go p e below s _ _ _ (T9.setTop (mkF m 66 #[.val (.int p0), .val (.int (3 : Int32)), .val (.ref (c 3)), .val (.int (1 : Int32)), .val (.int (1 : Int32))] [(.int (1 : Int32))]))
      refine Go.st (fun _ kq_ => XS.ifNo X9.here hx rfl (hb hby at_66) rfl (by decide) kq_) ?_
      show Go p e below s _ _ _ (T9.setTop (mkF m 69 #[.val (.int p0), .val (.int (3 : Int32)), .val (.ref (c 3)), .val (.int (1 : Int32)), .val (.int (1 : Int32))] []))
      refine Go.st (fun _ kq_ => XS.aloadN X9.here hx rfl (hb hby at_69) rfl rfl kq_) ?_
      show Go p e below s _ _ _ (T9.setTop (mkF m 70 #[.val (.int p0), .val (.int (3 : Int32)), .val (.ref (c 3)), .val (.int (1 : Int32)), .val (.int (1 : Int32))] [(.ref (c 3))]))
      obtain ⟨cq10, kq10, qa10, qb10, qc10⟩ := isOf hZ e9 ((HS.2.2.2.2.2.2.2.2.2.2.2.2.2.2.1 3 (by decide)).ext O0.2)
      obtain ⟨_, _, ⟨T10, L10, k10, n10⟩, -, X10, ⟨Lc10, hQ10, l10, y10, z10⟩, st10⟩ := X9.virtualBack hx (y := (⟨"com/example/arbora/arbora/sql/ValueType", "textMayBeEmpty", "()Z"⟩ : MethodName)) (z := (⟨"com/example/arbora/arbora/sql/ValueType", "textMayBeEmpty", "()Z"⟩ : MethodName)) hown (mvT hZ (own_w hw 29 rfl)) (mvT hZ (own_w hw 30 rfl)) (notFace_of_selects (args := #[]) (mvT hZ (own_w hw 32 rfl))) (mvT hZ (own_w hw 32 rfl)) (mvT hZ (own_w hw 31 rfl)) (by decide) (backOf (W := 0) (rm4 l Z a0 hw [] c 3 h0 n0 O0 HS) hZ (own_w hw 33 rfl) (own_w hw 6 rfl) (by decide) (by decide)) qa10 qc10 (g := (mkF m 70 #[.val (.int p0), .val (.int (3 : Int32)), .val (.ref (c 3)), .val (.int (1 : Int32)), .val (.int (1 : Int32))] [(.ref (c 3))])) rfl (by rw [hml]; rfl) (Steps.refl _) (argsL := []) (rest := []) (lenOf pd0_1 rfl) rfl (by show 2 * 0 + _ ≤ _; exact Nat.le_of_eq rfl) (hb hby at_70) (fun _ _ => ⟨rfl, e9, (by decide : 0 + 0 ≤ _), (by decide : 0 + 0 ≤ _)⟩)
      dsimp only [Pt.U, Pt.locs, Pt.cells, Pt.slots] at X10 l10 y10 z10 st10 hQ10
      subst l10 y10 z10
      obtain ⟨rfl, Nc10, e10⟩ := hQ10
      have N10 := Fr.app N9 Nc10
      rw [fTe_3 c HS.2.2.2.2.2.2.2.2.2.2.2.2.2.2.2] at st10
      refine Go.tr st10 ?_
      show Go p e below s _ _ _ (T10.setTop (mkF m 73 #[.val (.int p0), .val (.int (3 : Int32)), .val (.ref (c 3)), .val (.int (1 : Int32)), .val (.int (1 : Int32))] [(.int (0 : Int32))]))
      refine Go.st (fun _ kq_ => XS.ifYes X10.here hx rfl (pc0 := 73) (pc' := 78) rfl (hb hby at_73) rfl (by decide) (by decide) (by decide) kq_) ?_
      show Go p e below s _ _ _ (T10.setTop (mkF m 78 #[.val (.int p0), .val (.int (3 : Int32)), .val (.ref (c 3)), .val (.int (1 : Int32)), .val (.int (1 : Int32))] []))
      refine Go.st (fun _ kq_ => XS.iconst X10.here hx rfl (hb hby at_78) kq_) ?_
      show Go p e below s _ _ _ (T10.setTop (mkF m 79 #[.val (.int p0), .val (.int (3 : Int32)), .val (.ref (c 3)), .val (.int (1 : Int32)), .val (.int (1 : Int32))] [(.int (1 : Int32))]))
      exact Go.ret X10 hlk (some (.int (nar .boolean (1 : Int32)))) (fun h => by rw [Bd.returns] at h; cases h) (by rw [e10]; exact ⟨rfl, N10⟩) (by decide) (by decide) (fun fs hr => retN X10 hx (t := .boolean) Bd.returns (by simp) (hb hby at_79) hr)
    · show Go p e below s _ _ _ (s₁.setTop (mkF m 7 #[.val (.int p0), .unset, .unset, .unset, .unset] [(.int (4 : Int32))]))
      refine Go.st (fun _ kq_ => XS.istoreN X0.here hx rfl (hb hby at_7) rfl (l' := #[.val (.int p0), .val (.int (4 : Int32)), .unset, .unset, .unset]) rfl kq_) ?_
      show Go p e below s _ _ _ (s₁.setTop (mkF m 8 #[.val (.int p0), .val (.int (4 : Int32)), .unset, .unset, .unset] []))
      refine Go.st (fun _ kq_ => XS.iloadN X0.here hx rfl (hb hby at_8) rfl kq_) ?_
      show Go p e below s _ _ _ (s₁.setTop (mkF m 9 #[.val (.int p0), .val (.int (4 : Int32)), .unset, .unset, .unset] [(.int (4 : Int32))]))
      obtain ⟨_, _, ⟨T11, L11, k11, n11⟩, -, X11, ⟨Lc11, hQ11, l11, y11, z11⟩, st11⟩ := Jvm.LawKit.callS X0 hx (y := (⟨"com/example/arbora/arbora/sql/ValueTypeEqualExactlyWhenTextsArePinLaw", "pick", "(I)Lcom/example/arbora/arbora/sql/ValueType;"⟩ : MethodName)) hown (mvT hZ (own_w hw 1 rfl)) (mvT hZ (own_w hw 2 rfl)) (mvT hZ (own_w hw 3 rfl)) (mvT hZ (own_w hw 4 rfl)) (by decide) (backOf (W := 0) (rm1 l Z a0 hw [] (4 : Int32) c h0 n0 O0 HS) hZ (own_w hw 4 rfl) (own_w hw 3 rfl) (by decide) (by decide)) (g := (mkF m 9 #[.val (.int p0), .val (.int (4 : Int32)), .unset, .unset, .unset] [(.int (4 : Int32))])) rfl (by rw [hml]; rfl) (argsL := [(.int (4 : Int32))]) (rest := []) (lenOf pd0_0 rfl) rfl (by show 2 * 0 + _ ≤ _; exact Nat.le_of_eq rfl) (hb hby at_9) (fun _ _ => ⟨rfl, e0, (by decide : 0 + 0 ≤ _), (by decide : 0 + 0 ≤ _)⟩)
      dsimp only [Pt.U, Pt.locs, Pt.cells, Pt.slots] at X11 l11 y11 z11 st11 hQ11
      subst l11 y11 z11
      obtain ⟨rfl, Nc11, e11⟩ := hQ11
      have N11 := Fr.app N0 Nc11
      rw [(by decide : fPick (4 : Int32) = 4)] at st11
      refine Go.st st11 ?_
      show Go p e below s _ _ _ (T11.setTop (mkF m 12 #[.val (.int p0), .val (.int (4 : Int32)), .unset, .unset, .unset] [(.ref (c 4))]))
      refine Go.st (fun _ kq_ => XS.astoreN X11.here hx rfl (hb hby at_12) rfl rfl (l' := #[.val (.int p0), .val (.int (4 : Int32)), .val (.ref (c 4)), .unset, .unset]) rfl kq_) ?_
      show Go p e below s _ _ _ (T11.setTop (mkF m 13 #[.val (.int p0), .val (.int (4 : Int32)), .val (.ref (c 4)), .unset, .unset] []))
      refine Go.st (fun _ kq_ => XS.iloadN X11.here hx rfl (hb hby at_13) rfl kq_) ?_
      show Go p e below s _ _ _ (T11.setTop (mkF m 14 #[.val (.int p0), .val (.int (4 : Int32)), .val (.ref (c 4)), .unset, .unset] [(.int (4 : Int32))]))
      refine Go.st (fun _ kq_ => XS.iconst X11.here hx rfl (hb hby at_14) kq_) ?_
      show Go p e below s _ _ _ (T11.setTop (mkF m 15 #[.val (.int p0), .val (.int (4 : Int32)), .val (.ref (c 4)), .unset, .unset] [(.int (3 : Int32)), (.int (4 : Int32))]))
      refine Go.st (fun _ kq_ => XS.icmpNo X11.here hx rfl (hb hby at_15) rfl (by decide) kq_) ?_
      show Go p e below s _ _ _ (T11.setTop (mkF m 18 #[.val (.int p0), .val (.int (4 : Int32)), .val (.ref (c 4)), .unset, .unset] []))
      refine Go.st (fun _ kq_ => XS.iloadN X11.here hx rfl (hb hby at_18) rfl kq_) ?_
      show Go p e below s _ _ _ (T11.setTop (mkF m 19 #[.val (.int p0), .val (.int (4 : Int32)), .val (.ref (c 4)), .unset, .unset] [(.int (4 : Int32))]))
      refine Go.st (fun _ kq_ => XS.bipush X11.here hx rfl (hb hby at_19) kq_) ?_
      show Go p e below s _ _ _ (T11.setTop (mkF m 21 #[.val (.int p0), .val (.int (4 : Int32)), .val (.ref (c 4)), .unset, .unset] [(.int (7 : Int32)), (.int (4 : Int32))]))
      refine Go.st (fun _ kq_ => XS.icmpNo X11.here hx rfl (hb hby at_21) rfl (by decide) kq_) ?_
      show Go p e below s _ _ _ (T11.setTop (mkF m 24 #[.val (.int p0), .val (.int (4 : Int32)), .val (.ref (c 4)), .unset, .unset] []))
      refine Go.st (fun _ kq_ => XS.iloadN X11.here hx rfl (hb hby at_24) rfl kq_) ?_
      show Go p e below s _ _ _ (T11.setTop (mkF m 25 #[.val (.int p0), .val (.int (4 : Int32)), .val (.ref (c 4)), .unset, .unset] [(.int (4 : Int32))]))
      refine Go.st (fun _ kq_ => XS.bipush X11.here hx rfl (hb hby at_25) kq_) ?_
      show Go p e below s _ _ _ (T11.setTop (mkF m 27 #[.val (.int p0), .val (.int (4 : Int32)), .val (.ref (c 4)), .unset, .unset] [(.int (11 : Int32)), (.int (4 : Int32))]))
      refine Go.st (fun _ kq_ => XS.icmpYes X11.here hx rfl (pc0 := 27) (pc' := 34) rfl (hb hby at_27) rfl (by decide) (by decide) (by decide) kq_) ?_
      show Go p e below s _ _ _ (T11.setTop (mkF m 34 #[.val (.int p0), .val (.int (4 : Int32)), .val (.ref (c 4)), .unset, .unset] []))
      refine Go.st (fun _ kq_ => XS.iconst X11.here hx rfl (hb hby at_34) kq_) ?_
      show Go p e below s _ _ _ (T11.setTop (mkF m 35 #[.val (.int p0), .val (.int (4 : Int32)), .val (.ref (c 4)), .unset, .unset] [(.int (0 : Int32))]))
      refine Go.st (fun _ kq_ => XS.istoreN X11.here hx rfl (hb hby at_35) rfl (l' := #[.val (.int p0), .val (.int (4 : Int32)), .val (.ref (c 4)), .val (.int (0 : Int32)), .unset]) rfl kq_) ?_
      show Go p e below s _ _ _ (T11.setTop (mkF m 36 #[.val (.int p0), .val (.int (4 : Int32)), .val (.ref (c 4)), .val (.int (0 : Int32)), .unset] []))
      refine Go.st (fun _ kq_ => XS.aloadN X11.here hx rfl (hb hby at_36) rfl rfl kq_) ?_
      show Go p e below s _ _ _ (T11.setTop (mkF m 37 #[.val (.int p0), .val (.int (4 : Int32)), .val (.ref (c 4)), .val (.int (0 : Int32)), .unset] [(.ref (c 4))]))
      obtain ⟨cq12, kq12, qa12, qb12, qc12⟩ := isOf hZ e11 ((HS.2.2.2.2.2.2.2.2.2.2.2.2.2.2.1 4 (by decide)).ext O0.2)
      obtain ⟨_, _, ⟨T12, L12, k12, n12⟩, -, X12, ⟨Lc12, hQ12, l12, y12, z12⟩, st12⟩ := X11.virtualBack hx (y := (⟨"com/example/arbora/arbora/sql/ValueType", "equalExactlyWhenTextsAre", "()Z"⟩ : MethodName)) (z := (⟨"com/example/arbora/arbora/sql/ValueType", "equalExactlyWhenTextsAre", "()Z"⟩ : MethodName)) hown (mvT hZ (own_w hw 8 rfl)) (mvT hZ (own_w hw 9 rfl)) (notFace_of_selects (args := #[]) (mvT hZ (own_w hw 11 rfl))) (mvT hZ (own_w hw 11 rfl)) (mvT hZ (own_w hw 10 rfl)) (by decide) (backOf (W := 0) (rm2 l Z a0 hw [] c 4 h0 n0 O0 HS) hZ (own_w hw 12 rfl) (own_w hw 6 rfl) (by decide) (by decide)) qa12 qc12 (g := (mkF m 37 #[.val (.int p0), .val (.int (4 : Int32)), .val (.ref (c 4)), .val (.int (0 : Int32)), .unset] [(.ref (c 4))])) rfl (by rw [hml]; rfl) (Steps.refl _) (argsL := []) (rest := []) (lenOf pd0_1 rfl) rfl (by show 2 * 0 + _ ≤ _; exact Nat.le_of_eq rfl) (hb hby at_37) (fun _ _ => ⟨rfl, e11, (by decide : 0 + 0 ≤ _), (by decide : 0 + 0 ≤ _)⟩)
      dsimp only [Pt.U, Pt.locs, Pt.cells, Pt.slots] at X12 l12 y12 z12 st12 hQ12
      subst l12 y12 z12
      obtain ⟨rfl, Nc12, e12⟩ := hQ12
      have N12 := Fr.app N11 Nc12
      rw [fEq_4 c HS.2.2.2.2.2.2.2.2.2.2.2.2.2.2.2] at st12
      refine Go.tr st12 ?_
      show Go p e below s _ _ _ (T12.setTop (mkF m 40 #[.val (.int p0), .val (.int (4 : Int32)), .val (.ref (c 4)), .val (.int (0 : Int32)), .unset] [(.int (0 : Int32))]))
      refine Go.st (fun _ kq_ => XS.istore X12.here hx rfl (hb hby at_40) rfl (l' := #[.val (.int p0), .val (.int (4 : Int32)), .val (.ref (c 4)), .val (.int (0 : Int32)), .val (.int (0 : Int32))]) rfl kq_) ?_
      show Go p e below s _ _ _ (T12.setTop (mkF m 42 #[.val (.int p0), .val (.int (4 : Int32)), .val (.ref (c 4)), .val (.int (0 : Int32)), .val (.int (0 : Int32))] []))
      refine Go.st (fun _ kq_ => XS.iload X12.here hx rfl (hb hby at_42) rfl kq_) ?_
      show Go p e below s _ _ _ (T12.setTop (mkF m 44 #[.val (.int p0), .val (.int (4 : Int32)), .val (.ref (c 4)), .val (.int (0 : Int32)), .val (.int (0 : Int32))] [(.int (0 : Int32))]))
      refine Go.st (fun _ kq_ => XS.iloadN X12.here hx rfl (hb hby at_44) rfl kq_) ?_
      show Go p e below s _ _ _ (T12.setTop (mkF m 45 #[.val (.int p0), .val (.int (4 : Int32)), .val (.ref (c 4)), .val (.int (0 : Int32)), .val (.int (0 : Int32))] [(.int (0 : Int32)), (.int (0 : Int32))]))
      refine Go.st (fun _ kq_ => XS.icmpYes X12.here hx rfl (pc0 := 45) (pc' := 50) rfl (hb hby at_45) rfl (by decide) (by decide) (by decide) kq_) ?_
      show Go p e below s _ _ _ (T12.setTop (mkF m 50 #[.val (.int p0), .val (.int (4 : Int32)), .val (.ref (c 4)), .val (.int (0 : Int32)), .val (.int (0 : Int32))] []))
      refine Go.st (fun _ kq_ => XS.iload X12.here hx rfl (hb hby at_50) rfl kq_) ?_
      show Go p e below s _ _ _ (T12.setTop (mkF m 52 #[.val (.int p0), .val (.int (4 : Int32)), .val (.ref (c 4)), .val (.int (0 : Int32)), .val (.int (0 : Int32))] [(.int (0 : Int32))]))
      refine Go.st (fun _ kq_ => XS.ifYes X12.here hx rfl (pc0 := 52) (pc' := 64) rfl (hb hby at_52) rfl (by decide) (by decide) (by decide) kq_) ?_
      show Go p e below s _ _ _ (T12.setTop (mkF m 64 #[.val (.int p0), .val (.int (4 : Int32)), .val (.ref (c 4)), .val (.int (0 : Int32)), .val (.int (0 : Int32))] []))
      refine Go.st (fun _ kq_ => XS.iload X12.here hx rfl (hb hby at_64) rfl kq_) ?_
      show Go p e below s _ _ _ (T12.setTop (mkF m 66 #[.val (.int p0), .val (.int (4 : Int32)), .val (.ref (c 4)), .val (.int (0 : Int32)), .val (.int (0 : Int32))] [(.int (0 : Int32))]))
      refine Go.st (fun _ kq_ => XS.ifYes X12.here hx rfl (pc0 := 66) (pc' := 78) rfl (hb hby at_66) rfl (by decide) (by decide) (by decide) kq_) ?_
      show Go p e below s _ _ _ (T12.setTop (mkF m 78 #[.val (.int p0), .val (.int (4 : Int32)), .val (.ref (c 4)), .val (.int (0 : Int32)), .val (.int (0 : Int32))] []))
      refine Go.st (fun _ kq_ => XS.iconst X12.here hx rfl (hb hby at_78) kq_) ?_
      show Go p e below s _ _ _ (T12.setTop (mkF m 79 #[.val (.int p0), .val (.int (4 : Int32)), .val (.ref (c 4)), .val (.int (0 : Int32)), .val (.int (0 : Int32))] [(.int (1 : Int32))]))
      exact Go.ret X12 hlk (some (.int (nar .boolean (1 : Int32)))) (fun h => by rw [Bd.returns] at h; cases h) (by rw [e12]; exact ⟨rfl, N12⟩) (by decide) (by decide) (fun fs hr => retN X12 hx (t := .boolean) Bd.returns (by simp) (hb hby at_79) hr)
    · show Go p e below s _ _ _ (s₁.setTop (mkF m 7 #[.val (.int p0), .unset, .unset, .unset, .unset] [(.int (5 : Int32))]))
      refine Go.st (fun _ kq_ => XS.istoreN X0.here hx rfl (hb hby at_7) rfl (l' := #[.val (.int p0), .val (.int (5 : Int32)), .unset, .unset, .unset]) rfl kq_) ?_
      show Go p e below s _ _ _ (s₁.setTop (mkF m 8 #[.val (.int p0), .val (.int (5 : Int32)), .unset, .unset, .unset] []))
      refine Go.st (fun _ kq_ => XS.iloadN X0.here hx rfl (hb hby at_8) rfl kq_) ?_
      show Go p e below s _ _ _ (s₁.setTop (mkF m 9 #[.val (.int p0), .val (.int (5 : Int32)), .unset, .unset, .unset] [(.int (5 : Int32))]))
      obtain ⟨_, _, ⟨T13, L13, k13, n13⟩, -, X13, ⟨Lc13, hQ13, l13, y13, z13⟩, st13⟩ := Jvm.LawKit.callS X0 hx (y := (⟨"com/example/arbora/arbora/sql/ValueTypeEqualExactlyWhenTextsArePinLaw", "pick", "(I)Lcom/example/arbora/arbora/sql/ValueType;"⟩ : MethodName)) hown (mvT hZ (own_w hw 1 rfl)) (mvT hZ (own_w hw 2 rfl)) (mvT hZ (own_w hw 3 rfl)) (mvT hZ (own_w hw 4 rfl)) (by decide) (backOf (W := 0) (rm1 l Z a0 hw [] (5 : Int32) c h0 n0 O0 HS) hZ (own_w hw 4 rfl) (own_w hw 3 rfl) (by decide) (by decide)) (g := (mkF m 9 #[.val (.int p0), .val (.int (5 : Int32)), .unset, .unset, .unset] [(.int (5 : Int32))])) rfl (by rw [hml]; rfl) (argsL := [(.int (5 : Int32))]) (rest := []) (lenOf pd0_0 rfl) rfl (by show 2 * 0 + _ ≤ _; exact Nat.le_of_eq rfl) (hb hby at_9) (fun _ _ => ⟨rfl, e0, (by decide : 0 + 0 ≤ _), (by decide : 0 + 0 ≤ _)⟩)
      dsimp only [Pt.U, Pt.locs, Pt.cells, Pt.slots] at X13 l13 y13 z13 st13 hQ13
      subst l13 y13 z13
      obtain ⟨rfl, Nc13, e13⟩ := hQ13
      have N13 := Fr.app N0 Nc13
      rw [(by decide : fPick (5 : Int32) = 5)] at st13
      refine Go.st st13 ?_
      show Go p e below s _ _ _ (T13.setTop (mkF m 12 #[.val (.int p0), .val (.int (5 : Int32)), .unset, .unset, .unset] [(.ref (c 5))]))
      refine Go.st (fun _ kq_ => XS.astoreN X13.here hx rfl (hb hby at_12) rfl rfl (l' := #[.val (.int p0), .val (.int (5 : Int32)), .val (.ref (c 5)), .unset, .unset]) rfl kq_) ?_
      show Go p e below s _ _ _ (T13.setTop (mkF m 13 #[.val (.int p0), .val (.int (5 : Int32)), .val (.ref (c 5)), .unset, .unset] []))
      refine Go.st (fun _ kq_ => XS.iloadN X13.here hx rfl (hb hby at_13) rfl kq_) ?_
      show Go p e below s _ _ _ (T13.setTop (mkF m 14 #[.val (.int p0), .val (.int (5 : Int32)), .val (.ref (c 5)), .unset, .unset] [(.int (5 : Int32))]))
      refine Go.st (fun _ kq_ => XS.iconst X13.here hx rfl (hb hby at_14) kq_) ?_
      show Go p e below s _ _ _ (T13.setTop (mkF m 15 #[.val (.int p0), .val (.int (5 : Int32)), .val (.ref (c 5)), .unset, .unset] [(.int (3 : Int32)), (.int (5 : Int32))]))
      refine Go.st (fun _ kq_ => XS.icmpNo X13.here hx rfl (hb hby at_15) rfl (by decide) kq_) ?_
      show Go p e below s _ _ _ (T13.setTop (mkF m 18 #[.val (.int p0), .val (.int (5 : Int32)), .val (.ref (c 5)), .unset, .unset] []))
      refine Go.st (fun _ kq_ => XS.iloadN X13.here hx rfl (hb hby at_18) rfl kq_) ?_
      show Go p e below s _ _ _ (T13.setTop (mkF m 19 #[.val (.int p0), .val (.int (5 : Int32)), .val (.ref (c 5)), .unset, .unset] [(.int (5 : Int32))]))
      refine Go.st (fun _ kq_ => XS.bipush X13.here hx rfl (hb hby at_19) kq_) ?_
      show Go p e below s _ _ _ (T13.setTop (mkF m 21 #[.val (.int p0), .val (.int (5 : Int32)), .val (.ref (c 5)), .unset, .unset] [(.int (7 : Int32)), (.int (5 : Int32))]))
      refine Go.st (fun _ kq_ => XS.icmpNo X13.here hx rfl (hb hby at_21) rfl (by decide) kq_) ?_
      show Go p e below s _ _ _ (T13.setTop (mkF m 24 #[.val (.int p0), .val (.int (5 : Int32)), .val (.ref (c 5)), .unset, .unset] []))
      refine Go.st (fun _ kq_ => XS.iloadN X13.here hx rfl (hb hby at_24) rfl kq_) ?_
      show Go p e below s _ _ _ (T13.setTop (mkF m 25 #[.val (.int p0), .val (.int (5 : Int32)), .val (.ref (c 5)), .unset, .unset] [(.int (5 : Int32))]))
      refine Go.st (fun _ kq_ => XS.bipush X13.here hx rfl (hb hby at_25) kq_) ?_
      show Go p e below s _ _ _ (T13.setTop (mkF m 27 #[.val (.int p0), .val (.int (5 : Int32)), .val (.ref (c 5)), .unset, .unset] [(.int (11 : Int32)), (.int (5 : Int32))]))
      refine Go.st (fun _ kq_ => XS.icmpYes X13.here hx rfl (pc0 := 27) (pc' := 34) rfl (hb hby at_27) rfl (by decide) (by decide) (by decide) kq_) ?_
      show Go p e below s _ _ _ (T13.setTop (mkF m 34 #[.val (.int p0), .val (.int (5 : Int32)), .val (.ref (c 5)), .unset, .unset] []))
      refine Go.st (fun _ kq_ => XS.iconst X13.here hx rfl (hb hby at_34) kq_) ?_
      show Go p e below s _ _ _ (T13.setTop (mkF m 35 #[.val (.int p0), .val (.int (5 : Int32)), .val (.ref (c 5)), .unset, .unset] [(.int (0 : Int32))]))
      refine Go.st (fun _ kq_ => XS.istoreN X13.here hx rfl (hb hby at_35) rfl (l' := #[.val (.int p0), .val (.int (5 : Int32)), .val (.ref (c 5)), .val (.int (0 : Int32)), .unset]) rfl kq_) ?_
      show Go p e below s _ _ _ (T13.setTop (mkF m 36 #[.val (.int p0), .val (.int (5 : Int32)), .val (.ref (c 5)), .val (.int (0 : Int32)), .unset] []))
      refine Go.st (fun _ kq_ => XS.aloadN X13.here hx rfl (hb hby at_36) rfl rfl kq_) ?_
      show Go p e below s _ _ _ (T13.setTop (mkF m 37 #[.val (.int p0), .val (.int (5 : Int32)), .val (.ref (c 5)), .val (.int (0 : Int32)), .unset] [(.ref (c 5))]))
      obtain ⟨cq14, kq14, qa14, qb14, qc14⟩ := isOf hZ e13 ((HS.2.2.2.2.2.2.2.2.2.2.2.2.2.2.1 5 (by decide)).ext O0.2)
      obtain ⟨_, _, ⟨T14, L14, k14, n14⟩, -, X14, ⟨Lc14, hQ14, l14, y14, z14⟩, st14⟩ := X13.virtualBack hx (y := (⟨"com/example/arbora/arbora/sql/ValueType", "equalExactlyWhenTextsAre", "()Z"⟩ : MethodName)) (z := (⟨"com/example/arbora/arbora/sql/ValueType", "equalExactlyWhenTextsAre", "()Z"⟩ : MethodName)) hown (mvT hZ (own_w hw 8 rfl)) (mvT hZ (own_w hw 9 rfl)) (notFace_of_selects (args := #[]) (mvT hZ (own_w hw 11 rfl))) (mvT hZ (own_w hw 11 rfl)) (mvT hZ (own_w hw 10 rfl)) (by decide) (backOf (W := 0) (rm2 l Z a0 hw [] c 5 h0 n0 O0 HS) hZ (own_w hw 12 rfl) (own_w hw 6 rfl) (by decide) (by decide)) qa14 qc14 (g := (mkF m 37 #[.val (.int p0), .val (.int (5 : Int32)), .val (.ref (c 5)), .val (.int (0 : Int32)), .unset] [(.ref (c 5))])) rfl (by rw [hml]; rfl) (Steps.refl _) (argsL := []) (rest := []) (lenOf pd0_1 rfl) rfl (by show 2 * 0 + _ ≤ _; exact Nat.le_of_eq rfl) (hb hby at_37) (fun _ _ => ⟨rfl, e13, (by decide : 0 + 0 ≤ _), (by decide : 0 + 0 ≤ _)⟩)
      dsimp only [Pt.U, Pt.locs, Pt.cells, Pt.slots] at X14 l14 y14 z14 st14 hQ14
      subst l14 y14 z14
      obtain ⟨rfl, Nc14, e14⟩ := hQ14
      have N14 := Fr.app N13 Nc14
      rw [fEq_5 c HS.2.2.2.2.2.2.2.2.2.2.2.2.2.2.2] at st14
      refine Go.tr st14 ?_
      show Go p e below s _ _ _ (T14.setTop (mkF m 40 #[.val (.int p0), .val (.int (5 : Int32)), .val (.ref (c 5)), .val (.int (0 : Int32)), .unset] [(.int (0 : Int32))]))
      refine Go.st (fun _ kq_ => XS.istore X14.here hx rfl (hb hby at_40) rfl (l' := #[.val (.int p0), .val (.int (5 : Int32)), .val (.ref (c 5)), .val (.int (0 : Int32)), .val (.int (0 : Int32))]) rfl kq_) ?_
      show Go p e below s _ _ _ (T14.setTop (mkF m 42 #[.val (.int p0), .val (.int (5 : Int32)), .val (.ref (c 5)), .val (.int (0 : Int32)), .val (.int (0 : Int32))] []))
      refine Go.st (fun _ kq_ => XS.iload X14.here hx rfl (hb hby at_42) rfl kq_) ?_
      show Go p e below s _ _ _ (T14.setTop (mkF m 44 #[.val (.int p0), .val (.int (5 : Int32)), .val (.ref (c 5)), .val (.int (0 : Int32)), .val (.int (0 : Int32))] [(.int (0 : Int32))]))
      refine Go.st (fun _ kq_ => XS.iloadN X14.here hx rfl (hb hby at_44) rfl kq_) ?_
      show Go p e below s _ _ _ (T14.setTop (mkF m 45 #[.val (.int p0), .val (.int (5 : Int32)), .val (.ref (c 5)), .val (.int (0 : Int32)), .val (.int (0 : Int32))] [(.int (0 : Int32)), (.int (0 : Int32))]))
      refine Go.st (fun _ kq_ => XS.icmpYes X14.here hx rfl (pc0 := 45) (pc' := 50) rfl (hb hby at_45) rfl (by decide) (by decide) (by decide) kq_) ?_
      show Go p e below s _ _ _ (T14.setTop (mkF m 50 #[.val (.int p0), .val (.int (5 : Int32)), .val (.ref (c 5)), .val (.int (0 : Int32)), .val (.int (0 : Int32))] []))
      refine Go.st (fun _ kq_ => XS.iload X14.here hx rfl (hb hby at_50) rfl kq_) ?_
      show Go p e below s _ _ _ (T14.setTop (mkF m 52 #[.val (.int p0), .val (.int (5 : Int32)), .val (.ref (c 5)), .val (.int (0 : Int32)), .val (.int (0 : Int32))] [(.int (0 : Int32))]))
      refine Go.st (fun _ kq_ => XS.ifYes X14.here hx rfl (pc0 := 52) (pc' := 64) rfl (hb hby at_52) rfl (by decide) (by decide) (by decide) kq_) ?_
      show Go p e below s _ _ _ (T14.setTop (mkF m 64 #[.val (.int p0), .val (.int (5 : Int32)), .val (.ref (c 5)), .val (.int (0 : Int32)), .val (.int (0 : Int32))] []))
      refine Go.st (fun _ kq_ => XS.iload X14.here hx rfl (hb hby at_64) rfl kq_) ?_
      show Go p e below s _ _ _ (T14.setTop (mkF m 66 #[.val (.int p0), .val (.int (5 : Int32)), .val (.ref (c 5)), .val (.int (0 : Int32)), .val (.int (0 : Int32))] [(.int (0 : Int32))]))
      refine Go.st (fun _ kq_ => XS.ifYes X14.here hx rfl (pc0 := 66) (pc' := 78) rfl (hb hby at_66) rfl (by decide) (by decide) (by decide) kq_) ?_
      show Go p e below s _ _ _ (T14.setTop (mkF m 78 #[.val (.int p0), .val (.int (5 : Int32)), .val (.ref (c 5)), .val (.int (0 : Int32)), .val (.int (0 : Int32))] []))
      refine Go.st (fun _ kq_ => XS.iconst X14.here hx rfl (hb hby at_78) kq_) ?_
      show Go p e below s _ _ _ (T14.setTop (mkF m 79 #[.val (.int p0), .val (.int (5 : Int32)), .val (.ref (c 5)), .val (.int (0 : Int32)), .val (.int (0 : Int32))] [(.int (1 : Int32))]))
      exact Go.ret X14 hlk (some (.int (nar .boolean (1 : Int32)))) (fun h => by rw [Bd.returns] at h; cases h) (by rw [e14]; exact ⟨rfl, N14⟩) (by decide) (by decide) (fun fs hr => retN X14 hx (t := .boolean) Bd.returns (by simp) (hb hby at_79) hr)
    · show Go p e below s _ _ _ (s₁.setTop (mkF m 7 #[.val (.int p0), .unset, .unset, .unset, .unset] [(.int (6 : Int32))]))
      refine Go.st (fun _ kq_ => XS.istoreN X0.here hx rfl (hb hby at_7) rfl (l' := #[.val (.int p0), .val (.int (6 : Int32)), .unset, .unset, .unset]) rfl kq_) ?_
      show Go p e below s _ _ _ (s₁.setTop (mkF m 8 #[.val (.int p0), .val (.int (6 : Int32)), .unset, .unset, .unset] []))
      refine Go.st (fun _ kq_ => XS.iloadN X0.here hx rfl (hb hby at_8) rfl kq_) ?_
      show Go p e below s _ _ _ (s₁.setTop (mkF m 9 #[.val (.int p0), .val (.int (6 : Int32)), .unset, .unset, .unset] [(.int (6 : Int32))]))
      obtain ⟨_, _, ⟨T15, L15, k15, n15⟩, -, X15, ⟨Lc15, hQ15, l15, y15, z15⟩, st15⟩ := Jvm.LawKit.callS X0 hx (y := (⟨"com/example/arbora/arbora/sql/ValueTypeEqualExactlyWhenTextsArePinLaw", "pick", "(I)Lcom/example/arbora/arbora/sql/ValueType;"⟩ : MethodName)) hown (mvT hZ (own_w hw 1 rfl)) (mvT hZ (own_w hw 2 rfl)) (mvT hZ (own_w hw 3 rfl)) (mvT hZ (own_w hw 4 rfl)) (by decide) (backOf (W := 0) (rm1 l Z a0 hw [] (6 : Int32) c h0 n0 O0 HS) hZ (own_w hw 4 rfl) (own_w hw 3 rfl) (by decide) (by decide)) (g := (mkF m 9 #[.val (.int p0), .val (.int (6 : Int32)), .unset, .unset, .unset] [(.int (6 : Int32))])) rfl (by rw [hml]; rfl) (argsL := [(.int (6 : Int32))]) (rest := []) (lenOf pd0_0 rfl) rfl (by show 2 * 0 + _ ≤ _; exact Nat.le_of_eq rfl) (hb hby at_9) (fun _ _ => ⟨rfl, e0, (by decide : 0 + 0 ≤ _), (by decide : 0 + 0 ≤ _)⟩)
      dsimp only [Pt.U, Pt.locs, Pt.cells, Pt.slots] at X15 l15 y15 z15 st15 hQ15
      subst l15 y15 z15
      obtain ⟨rfl, Nc15, e15⟩ := hQ15
      have N15 := Fr.app N0 Nc15
      rw [(by decide : fPick (6 : Int32) = 6)] at st15
      refine Go.st st15 ?_
      show Go p e below s _ _ _ (T15.setTop (mkF m 12 #[.val (.int p0), .val (.int (6 : Int32)), .unset, .unset, .unset] [(.ref (c 6))]))
      refine Go.st (fun _ kq_ => XS.astoreN X15.here hx rfl (hb hby at_12) rfl rfl (l' := #[.val (.int p0), .val (.int (6 : Int32)), .val (.ref (c 6)), .unset, .unset]) rfl kq_) ?_
      show Go p e below s _ _ _ (T15.setTop (mkF m 13 #[.val (.int p0), .val (.int (6 : Int32)), .val (.ref (c 6)), .unset, .unset] []))
      refine Go.st (fun _ kq_ => XS.iloadN X15.here hx rfl (hb hby at_13) rfl kq_) ?_
      show Go p e below s _ _ _ (T15.setTop (mkF m 14 #[.val (.int p0), .val (.int (6 : Int32)), .val (.ref (c 6)), .unset, .unset] [(.int (6 : Int32))]))
      refine Go.st (fun _ kq_ => XS.iconst X15.here hx rfl (hb hby at_14) kq_) ?_
      show Go p e below s _ _ _ (T15.setTop (mkF m 15 #[.val (.int p0), .val (.int (6 : Int32)), .val (.ref (c 6)), .unset, .unset] [(.int (3 : Int32)), (.int (6 : Int32))]))
      refine Go.st (fun _ kq_ => XS.icmpNo X15.here hx rfl (hb hby at_15) rfl (by decide) kq_) ?_
      show Go p e below s _ _ _ (T15.setTop (mkF m 18 #[.val (.int p0), .val (.int (6 : Int32)), .val (.ref (c 6)), .unset, .unset] []))
      refine Go.st (fun _ kq_ => XS.iloadN X15.here hx rfl (hb hby at_18) rfl kq_) ?_
      show Go p e below s _ _ _ (T15.setTop (mkF m 19 #[.val (.int p0), .val (.int (6 : Int32)), .val (.ref (c 6)), .unset, .unset] [(.int (6 : Int32))]))
      refine Go.st (fun _ kq_ => XS.bipush X15.here hx rfl (hb hby at_19) kq_) ?_
      show Go p e below s _ _ _ (T15.setTop (mkF m 21 #[.val (.int p0), .val (.int (6 : Int32)), .val (.ref (c 6)), .unset, .unset] [(.int (7 : Int32)), (.int (6 : Int32))]))
      refine Go.st (fun _ kq_ => XS.icmpNo X15.here hx rfl (hb hby at_21) rfl (by decide) kq_) ?_
      show Go p e below s _ _ _ (T15.setTop (mkF m 24 #[.val (.int p0), .val (.int (6 : Int32)), .val (.ref (c 6)), .unset, .unset] []))
      refine Go.st (fun _ kq_ => XS.iloadN X15.here hx rfl (hb hby at_24) rfl kq_) ?_
      show Go p e below s _ _ _ (T15.setTop (mkF m 25 #[.val (.int p0), .val (.int (6 : Int32)), .val (.ref (c 6)), .unset, .unset] [(.int (6 : Int32))]))
      refine Go.st (fun _ kq_ => XS.bipush X15.here hx rfl (hb hby at_25) kq_) ?_
      show Go p e below s _ _ _ (T15.setTop (mkF m 27 #[.val (.int p0), .val (.int (6 : Int32)), .val (.ref (c 6)), .unset, .unset] [(.int (11 : Int32)), (.int (6 : Int32))]))
      refine Go.st (fun _ kq_ => XS.icmpYes X15.here hx rfl (pc0 := 27) (pc' := 34) rfl (hb hby at_27) rfl (by decide) (by decide) (by decide) kq_) ?_
      show Go p e below s _ _ _ (T15.setTop (mkF m 34 #[.val (.int p0), .val (.int (6 : Int32)), .val (.ref (c 6)), .unset, .unset] []))
      refine Go.st (fun _ kq_ => XS.iconst X15.here hx rfl (hb hby at_34) kq_) ?_
      show Go p e below s _ _ _ (T15.setTop (mkF m 35 #[.val (.int p0), .val (.int (6 : Int32)), .val (.ref (c 6)), .unset, .unset] [(.int (0 : Int32))]))
      refine Go.st (fun _ kq_ => XS.istoreN X15.here hx rfl (hb hby at_35) rfl (l' := #[.val (.int p0), .val (.int (6 : Int32)), .val (.ref (c 6)), .val (.int (0 : Int32)), .unset]) rfl kq_) ?_
      show Go p e below s _ _ _ (T15.setTop (mkF m 36 #[.val (.int p0), .val (.int (6 : Int32)), .val (.ref (c 6)), .val (.int (0 : Int32)), .unset] []))
      refine Go.st (fun _ kq_ => XS.aloadN X15.here hx rfl (hb hby at_36) rfl rfl kq_) ?_
      show Go p e below s _ _ _ (T15.setTop (mkF m 37 #[.val (.int p0), .val (.int (6 : Int32)), .val (.ref (c 6)), .val (.int (0 : Int32)), .unset] [(.ref (c 6))]))
      obtain ⟨cq16, kq16, qa16, qb16, qc16⟩ := isOf hZ e15 ((HS.2.2.2.2.2.2.2.2.2.2.2.2.2.2.1 6 (by decide)).ext O0.2)
      obtain ⟨_, _, ⟨T16, L16, k16, n16⟩, -, X16, ⟨Lc16, hQ16, l16, y16, z16⟩, st16⟩ := X15.virtualBack hx (y := (⟨"com/example/arbora/arbora/sql/ValueType", "equalExactlyWhenTextsAre", "()Z"⟩ : MethodName)) (z := (⟨"com/example/arbora/arbora/sql/ValueType", "equalExactlyWhenTextsAre", "()Z"⟩ : MethodName)) hown (mvT hZ (own_w hw 8 rfl)) (mvT hZ (own_w hw 9 rfl)) (notFace_of_selects (args := #[]) (mvT hZ (own_w hw 11 rfl))) (mvT hZ (own_w hw 11 rfl)) (mvT hZ (own_w hw 10 rfl)) (by decide) (backOf (W := 0) (rm2 l Z a0 hw [] c 6 h0 n0 O0 HS) hZ (own_w hw 12 rfl) (own_w hw 6 rfl) (by decide) (by decide)) qa16 qc16 (g := (mkF m 37 #[.val (.int p0), .val (.int (6 : Int32)), .val (.ref (c 6)), .val (.int (0 : Int32)), .unset] [(.ref (c 6))])) rfl (by rw [hml]; rfl) (Steps.refl _) (argsL := []) (rest := []) (lenOf pd0_1 rfl) rfl (by show 2 * 0 + _ ≤ _; exact Nat.le_of_eq rfl) (hb hby at_37) (fun _ _ => ⟨rfl, e15, (by decide : 0 + 0 ≤ _), (by decide : 0 + 0 ≤ _)⟩)
      dsimp only [Pt.U, Pt.locs, Pt.cells, Pt.slots] at X16 l16 y16 z16 st16 hQ16
      subst l16 y16 z16
      obtain ⟨rfl, Nc16, e16⟩ := hQ16
      have N16 := Fr.app N15 Nc16
      rw [fEq_6 c HS.2.2.2.2.2.2.2.2.2.2.2.2.2.2.2] at st16
      refine Go.tr st16 ?_
      show Go p e below s _ _ _ (T16.setTop (mkF m 40 #[.val (.int p0), .val (.int (6 : Int32)), .val (.ref (c 6)), .val (.int (0 : Int32)), .unset] [(.int (0 : Int32))]))
      refine Go.st (fun _ kq_ => XS.istore X16.here hx rfl (hb hby at_40) rfl (l' := #[.val (.int p0), .val (.int (6 : Int32)), .val (.ref (c 6)), .val (.int (0 : Int32)), .val (.int (0 : Int32))]) rfl kq_) ?_
      show Go p e below s _ _ _ (T16.setTop (mkF m 42 #[.val (.int p0), .val (.int (6 : Int32)), .val (.ref (c 6)), .val (.int (0 : Int32)), .val (.int (0 : Int32))] []))
      refine Go.st (fun _ kq_ => XS.iload X16.here hx rfl (hb hby at_42) rfl kq_) ?_
      show Go p e below s _ _ _ (T16.setTop (mkF m 44 #[.val (.int p0), .val (.int (6 : Int32)), .val (.ref (c 6)), .val (.int (0 : Int32)), .val (.int (0 : Int32))] [(.int (0 : Int32))]))
      refine Go.st (fun _ kq_ => XS.iloadN X16.here hx rfl (hb hby at_44) rfl kq_) ?_
      show Go p e below s _ _ _ (T16.setTop (mkF m 45 #[.val (.int p0), .val (.int (6 : Int32)), .val (.ref (c 6)), .val (.int (0 : Int32)), .val (.int (0 : Int32))] [(.int (0 : Int32)), (.int (0 : Int32))]))
      refine Go.st (fun _ kq_ => XS.icmpYes X16.here hx rfl (pc0 := 45) (pc' := 50) rfl (hb hby at_45) rfl (by decide) (by decide) (by decide) kq_) ?_
      show Go p e below s _ _ _ (T16.setTop (mkF m 50 #[.val (.int p0), .val (.int (6 : Int32)), .val (.ref (c 6)), .val (.int (0 : Int32)), .val (.int (0 : Int32))] []))
      refine Go.st (fun _ kq_ => XS.iload X16.here hx rfl (hb hby at_50) rfl kq_) ?_
      show Go p e below s _ _ _ (T16.setTop (mkF m 52 #[.val (.int p0), .val (.int (6 : Int32)), .val (.ref (c 6)), .val (.int (0 : Int32)), .val (.int (0 : Int32))] [(.int (0 : Int32))]))
      refine Go.st (fun _ kq_ => XS.ifYes X16.here hx rfl (pc0 := 52) (pc' := 64) rfl (hb hby at_52) rfl (by decide) (by decide) (by decide) kq_) ?_
      show Go p e below s _ _ _ (T16.setTop (mkF m 64 #[.val (.int p0), .val (.int (6 : Int32)), .val (.ref (c 6)), .val (.int (0 : Int32)), .val (.int (0 : Int32))] []))
      refine Go.st (fun _ kq_ => XS.iload X16.here hx rfl (hb hby at_64) rfl kq_) ?_
      show Go p e below s _ _ _ (T16.setTop (mkF m 66 #[.val (.int p0), .val (.int (6 : Int32)), .val (.ref (c 6)), .val (.int (0 : Int32)), .val (.int (0 : Int32))] [(.int (0 : Int32))]))
      refine Go.st (fun _ kq_ => XS.ifYes X16.here hx rfl (pc0 := 66) (pc' := 78) rfl (hb hby at_66) rfl (by decide) (by decide) (by decide) kq_) ?_
      show Go p e below s _ _ _ (T16.setTop (mkF m 78 #[.val (.int p0), .val (.int (6 : Int32)), .val (.ref (c 6)), .val (.int (0 : Int32)), .val (.int (0 : Int32))] []))
      refine Go.st (fun _ kq_ => XS.iconst X16.here hx rfl (hb hby at_78) kq_) ?_
      show Go p e below s _ _ _ (T16.setTop (mkF m 79 #[.val (.int p0), .val (.int (6 : Int32)), .val (.ref (c 6)), .val (.int (0 : Int32)), .val (.int (0 : Int32))] [(.int (1 : Int32))]))
      exact Go.ret X16 hlk (some (.int (nar .boolean (1 : Int32)))) (fun h => by rw [Bd.returns] at h; cases h) (by rw [e16]; exact ⟨rfl, N16⟩) (by decide) (by decide) (fun fs hr => retN X16 hx (t := .boolean) Bd.returns (by simp) (hb hby at_79) hr)
    · show Go p e below s _ _ _ (s₁.setTop (mkF m 7 #[.val (.int p0), .unset, .unset, .unset, .unset] [(.int (7 : Int32))]))
      refine Go.st (fun _ kq_ => XS.istoreN X0.here hx rfl (hb hby at_7) rfl (l' := #[.val (.int p0), .val (.int (7 : Int32)), .unset, .unset, .unset]) rfl kq_) ?_
      show Go p e below s _ _ _ (s₁.setTop (mkF m 8 #[.val (.int p0), .val (.int (7 : Int32)), .unset, .unset, .unset] []))
      refine Go.st (fun _ kq_ => XS.iloadN X0.here hx rfl (hb hby at_8) rfl kq_) ?_
      show Go p e below s _ _ _ (s₁.setTop (mkF m 9 #[.val (.int p0), .val (.int (7 : Int32)), .unset, .unset, .unset] [(.int (7 : Int32))]))
      obtain ⟨_, _, ⟨T17, L17, k17, n17⟩, -, X17, ⟨Lc17, hQ17, l17, y17, z17⟩, st17⟩ := Jvm.LawKit.callS X0 hx (y := (⟨"com/example/arbora/arbora/sql/ValueTypeEqualExactlyWhenTextsArePinLaw", "pick", "(I)Lcom/example/arbora/arbora/sql/ValueType;"⟩ : MethodName)) hown (mvT hZ (own_w hw 1 rfl)) (mvT hZ (own_w hw 2 rfl)) (mvT hZ (own_w hw 3 rfl)) (mvT hZ (own_w hw 4 rfl)) (by decide) (backOf (W := 0) (rm1 l Z a0 hw [] (7 : Int32) c h0 n0 O0 HS) hZ (own_w hw 4 rfl) (own_w hw 3 rfl) (by decide) (by decide)) (g := (mkF m 9 #[.val (.int p0), .val (.int (7 : Int32)), .unset, .unset, .unset] [(.int (7 : Int32))])) rfl (by rw [hml]; rfl) (argsL := [(.int (7 : Int32))]) (rest := []) (lenOf pd0_0 rfl) rfl (by show 2 * 0 + _ ≤ _; exact Nat.le_of_eq rfl) (hb hby at_9) (fun _ _ => ⟨rfl, e0, (by decide : 0 + 0 ≤ _), (by decide : 0 + 0 ≤ _)⟩)
      dsimp only [Pt.U, Pt.locs, Pt.cells, Pt.slots] at X17 l17 y17 z17 st17 hQ17
      subst l17 y17 z17
      obtain ⟨rfl, Nc17, e17⟩ := hQ17
      have N17 := Fr.app N0 Nc17
      rw [(by decide : fPick (7 : Int32) = 7)] at st17
      refine Go.st st17 ?_
      show Go p e below s _ _ _ (T17.setTop (mkF m 12 #[.val (.int p0), .val (.int (7 : Int32)), .unset, .unset, .unset] [(.ref (c 7))]))
      refine Go.st (fun _ kq_ => XS.astoreN X17.here hx rfl (hb hby at_12) rfl rfl (l' := #[.val (.int p0), .val (.int (7 : Int32)), .val (.ref (c 7)), .unset, .unset]) rfl kq_) ?_
      show Go p e below s _ _ _ (T17.setTop (mkF m 13 #[.val (.int p0), .val (.int (7 : Int32)), .val (.ref (c 7)), .unset, .unset] []))
      refine Go.st (fun _ kq_ => XS.iloadN X17.here hx rfl (hb hby at_13) rfl kq_) ?_
      show Go p e below s _ _ _ (T17.setTop (mkF m 14 #[.val (.int p0), .val (.int (7 : Int32)), .val (.ref (c 7)), .unset, .unset] [(.int (7 : Int32))]))
      refine Go.st (fun _ kq_ => XS.iconst X17.here hx rfl (hb hby at_14) kq_) ?_
      show Go p e below s _ _ _ (T17.setTop (mkF m 15 #[.val (.int p0), .val (.int (7 : Int32)), .val (.ref (c 7)), .unset, .unset] [(.int (3 : Int32)), (.int (7 : Int32))]))
      refine Go.st (fun _ kq_ => XS.icmpNo X17.here hx rfl (hb hby at_15) rfl (by decide) kq_) ?_
      show Go p e below s _ _ _ (T17.setTop (mkF m 18 #[.val (.int p0), .val (.int (7 : Int32)), .val (.ref (c 7)), .unset, .unset] []))
      refine Go.st (fun _ kq_ => XS.iloadN X17.here hx rfl (hb hby at_18) rfl kq_) ?_
      show Go p e below s _ _ _ (T17.setTop (mkF m 19 #[.val (.int p0), .val (.int (7 : Int32)), .val (.ref (c 7)), .unset, .unset] [(.int (7 : Int32))]))
      refine Go.st (fun _ kq_ => XS.bipush X17.here hx rfl (hb hby at_19) kq_) ?_
      show Go p e below s _ _ _ (T17.setTop (mkF m 21 #[.val (.int p0), .val (.int (7 : Int32)), .val (.ref (c 7)), .unset, .unset] [(.int (7 : Int32)), (.int (7 : Int32))]))
      refine Go.st (fun _ kq_ => XS.icmpYes X17.here hx rfl (pc0 := 21) (pc' := 30) rfl (hb hby at_21) rfl (by decide) (by decide) (by decide) kq_) ?_
      show Go p e below s _ _ _ (T17.setTop (mkF m 30 #[.val (.int p0), .val (.int (7 : Int32)), .val (.ref (c 7)), .unset, .unset] []))
      refine Go.st (fun _ kq_ => XS.iconst X17.here hx rfl (hb hby at_30) kq_) ?_
      show Go p e below s _ _ _ (T17.setTop (mkF m 31 #[.val (.int p0), .val (.int (7 : Int32)), .val (.ref (c 7)), .unset, .unset] [(.int (1 : Int32))]))
      refine Go.st (fun _ kq_ => XS.goto X17.here hx rfl (pc0 := 31) (pc' := 35) rfl (hb hby at_31) (by decide) (by decide) kq_) ?_
      show Go p e below s _ _ _ (T17.setTop (mkF m 35 #[.val (.int p0), .val (.int (7 : Int32)), .val (.ref (c 7)), .unset, .unset] [(.int (1 : Int32))]))
      refine Go.st (fun _ kq_ => XS.istoreN X17.here hx rfl (hb hby at_35) rfl (l' := #[.val (.int p0), .val (.int (7 : Int32)), .val (.ref (c 7)), .val (.int (1 : Int32)), .unset]) rfl kq_) ?_
      show Go p e below s _ _ _ (T17.setTop (mkF m 36 #[.val (.int p0), .val (.int (7 : Int32)), .val (.ref (c 7)), .val (.int (1 : Int32)), .unset] []))
      refine Go.st (fun _ kq_ => XS.aloadN X17.here hx rfl (hb hby at_36) rfl rfl kq_) ?_
      show Go p e below s _ _ _ (T17.setTop (mkF m 37 #[.val (.int p0), .val (.int (7 : Int32)), .val (.ref (c 7)), .val (.int (1 : Int32)), .unset] [(.ref (c 7))]))
      obtain ⟨cq18, kq18, qa18, qb18, qc18⟩ := isOf hZ e17 ((HS.2.2.2.2.2.2.2.2.2.2.2.2.2.2.1 7 (by decide)).ext O0.2)
      obtain ⟨_, _, ⟨T18, L18, k18, n18⟩, -, X18, ⟨Lc18, hQ18, l18, y18, z18⟩, st18⟩ := X17.virtualBack hx (y := (⟨"com/example/arbora/arbora/sql/ValueType", "equalExactlyWhenTextsAre", "()Z"⟩ : MethodName)) (z := (⟨"com/example/arbora/arbora/sql/ValueType", "equalExactlyWhenTextsAre", "()Z"⟩ : MethodName)) hown (mvT hZ (own_w hw 8 rfl)) (mvT hZ (own_w hw 9 rfl)) (notFace_of_selects (args := #[]) (mvT hZ (own_w hw 11 rfl))) (mvT hZ (own_w hw 11 rfl)) (mvT hZ (own_w hw 10 rfl)) (by decide) (backOf (W := 0) (rm2 l Z a0 hw [] c 7 h0 n0 O0 HS) hZ (own_w hw 12 rfl) (own_w hw 6 rfl) (by decide) (by decide)) qa18 qc18 (g := (mkF m 37 #[.val (.int p0), .val (.int (7 : Int32)), .val (.ref (c 7)), .val (.int (1 : Int32)), .unset] [(.ref (c 7))])) rfl (by rw [hml]; rfl) (Steps.refl _) (argsL := []) (rest := []) (lenOf pd0_1 rfl) rfl (by show 2 * 0 + _ ≤ _; exact Nat.le_of_eq rfl) (hb hby at_37) (fun _ _ => ⟨rfl, e17, (by decide : 0 + 0 ≤ _), (by decide : 0 + 0 ≤ _)⟩)
      dsimp only [Pt.U, Pt.locs, Pt.cells, Pt.slots] at X18 l18 y18 z18 st18 hQ18
      subst l18 y18 z18
      obtain ⟨rfl, Nc18, e18⟩ := hQ18
      have N18 := Fr.app N17 Nc18
      rw [fEq_7 c HS.2.2.2.2.2.2.2.2.2.2.2.2.2.2.2] at st18
      refine Go.tr st18 ?_
      show Go p e below s _ _ _ (T18.setTop (mkF m 40 #[.val (.int p0), .val (.int (7 : Int32)), .val (.ref (c 7)), .val (.int (1 : Int32)), .unset] [(.int (1 : Int32))]))
      refine Go.st (fun _ kq_ => XS.istore X18.here hx rfl (hb hby at_40) rfl (l' := #[.val (.int p0), .val (.int (7 : Int32)), .val (.ref (c 7)), .val (.int (1 : Int32)), .val (.int (1 : Int32))]) rfl kq_) ?_
      show Go p e below s _ _ _ (T18.setTop (mkF m 42 #[.val (.int p0), .val (.int (7 : Int32)), .val (.ref (c 7)), .val (.int (1 : Int32)), .val (.int (1 : Int32))] []))
      refine Go.st (fun _ kq_ => XS.iload X18.here hx rfl (hb hby at_42) rfl kq_) ?_
      show Go p e below s _ _ _ (T18.setTop (mkF m 44 #[.val (.int p0), .val (.int (7 : Int32)), .val (.ref (c 7)), .val (.int (1 : Int32)), .val (.int (1 : Int32))] [(.int (1 : Int32))]))
      refine Go.st (fun _ kq_ => XS.iloadN X18.here hx rfl (hb hby at_44) rfl kq_) ?_
      show Go p e below s _ _ _ (T18.setTop (mkF m 45 #[.val (.int p0), .val (.int (7 : Int32)), .val (.ref (c 7)), .val (.int (1 : Int32)), .val (.int (1 : Int32))] [(.int (1 : Int32)), (.int (1 : Int32))]))
      refine Go.st (fun _ kq_ => XS.icmpYes X18.here hx rfl (pc0 := 45) (pc' := 50) rfl (hb hby at_45) rfl (by decide) (by decide) (by decide) kq_) ?_
      show Go p e below s _ _ _ (T18.setTop (mkF m 50 #[.val (.int p0), .val (.int (7 : Int32)), .val (.ref (c 7)), .val (.int (1 : Int32)), .val (.int (1 : Int32))] []))
      refine Go.st (fun _ kq_ => XS.iload X18.here hx rfl (hb hby at_50) rfl kq_) ?_
      show Go p e below s _ _ _ (T18.setTop (mkF m 52 #[.val (.int p0), .val (.int (7 : Int32)), .val (.ref (c 7)), .val (.int (1 : Int32)), .val (.int (1 : Int32))] [(.int (1 : Int32))]))
      refine Go.st (fun _ kq_ => XS.ifNo X18.here hx rfl (hb hby at_52) rfl (by decide) kq_) ?_
      show Go p e below s _ _ _ (T18.setTop (mkF m 55 #[.val (.int p0), .val (.int (7 : Int32)), .val (.ref (c 7)), .val (.int (1 : Int32)), .val (.int (1 : Int32))] []))
      refine Go.st (fun _ kq_ => XS.aloadN X18.here hx rfl (hb hby at_55) rfl rfl kq_) ?_
      show Go p e below s _ _ _ (T18.setTop (mkF m 56 #[.val (.int p0), .val (.int (7 : Int32)), .val (.ref (c 7)), .val (.int (1 : Int32)), .val (.int (1 : Int32))] [(.ref (c 7))]))
      obtain ⟨cq19, kq19, qa19, qb19, qc19⟩ := isOf hZ e18 ((HS.2.2.2.2.2.2.2.2.2.2.2.2.2.2.1 7 (by decide)).ext O0.2)
      obtain ⟨_, _, ⟨T19, L19, k19, n19⟩, -, X19, ⟨Lc19, hQ19, l19, y19, z19⟩, st19⟩ := X18.virtualBack hx (y := (⟨"com/example/arbora/arbora/sql/ValueType", "sortEqualOnlyWhenTextsAre", "()Z"⟩ : MethodName)) (z := (⟨"com/example/arbora/arbora/sql/ValueType", "sortEqualOnlyWhenTextsAre", "()Z"⟩ : MethodName)) hown (mvT hZ (own_w hw 20 rfl)) (mvT hZ (own_w hw 21 rfl)) (notFace_of_selects (args := #[]) (mvT hZ (own_w hw 23 rfl))) (mvT hZ (own_w hw 23 rfl)) (mvT hZ (own_w hw 22 rfl)) (by decide) (backOf (W := 0) (rm3 l Z a0 hw [] c 7 h0 n0 O0 HS) hZ (own_w hw 24 rfl) (own_w hw 6 rfl) (by decide) (by decide)) qa19 qc19 (g := (mkF m 56 #[.val (.int p0), .val (.int (7 : Int32)), .val (.ref (c 7)), .val (.int (1 : Int32)), .val (.int (1 : Int32))] [(.ref (c 7))])) rfl (by rw [hml]; rfl) (Steps.refl _) (argsL := []) (rest := []) (lenOf pd0_1 rfl) rfl (by show 2 * 0 + _ ≤ _; exact Nat.le_of_eq rfl) (hb hby at_56) (fun _ _ => ⟨rfl, e18, (by decide : 0 + 0 ≤ _), (by decide : 0 + 0 ≤ _)⟩)
      dsimp only [Pt.U, Pt.locs, Pt.cells, Pt.slots] at X19 l19 y19 z19 st19 hQ19
      subst l19 y19 z19
      obtain ⟨rfl, Nc19, e19⟩ := hQ19
      have N19 := Fr.app N18 Nc19
      rw [fSo_7 c HS.2.2.2.2.2.2.2.2.2.2.2.2.2.2.2] at st19
      refine Go.tr st19 ?_
      show Go p e below s _ _ _ (T19.setTop (mkF m 59 #[.val (.int p0), .val (.int (7 : Int32)), .val (.ref (c 7)), .val (.int (1 : Int32)), .val (.int (1 : Int32))] [(.int (1 : Int32))]))
      refine Go.st (fun _ kq_ => XS.ifYes X19.here hx rfl (pc0 := 59) (pc' := 64) rfl (hb hby at_59) rfl (by decide) (by decide) (by decide) kq_) ?_
      show Go p e below s _ _ _ (T19.setTop (mkF m 64 #[.val (.int p0), .val (.int (7 : Int32)), .val (.ref (c 7)), .val (.int (1 : Int32)), .val (.int (1 : Int32))] []))
      refine Go.st (fun _ kq_ => XS.iload X19.here hx rfl (hb hby at_64) rfl kq_) ?_
      show Go p e below s _ _ _ (T19.setTop (mkF m 66 #[.val (.int p0), .val (.int (7 : Int32)), .val (.ref (c 7)), .val (.int (1 : Int32)), .val (.int (1 : Int32))] [(.int (1 : Int32))]))
      refine Go.st (fun _ kq_ => XS.ifNo X19.here hx rfl (hb hby at_66) rfl (by decide) kq_) ?_
      show Go p e below s _ _ _ (T19.setTop (mkF m 69 #[.val (.int p0), .val (.int (7 : Int32)), .val (.ref (c 7)), .val (.int (1 : Int32)), .val (.int (1 : Int32))] []))
      refine Go.st (fun _ kq_ => XS.aloadN X19.here hx rfl (hb hby at_69) rfl rfl kq_) ?_
      show Go p e below s _ _ _ (T19.setTop (mkF m 70 #[.val (.int p0), .val (.int (7 : Int32)), .val (.ref (c 7)), .val (.int (1 : Int32)), .val (.int (1 : Int32))] [(.ref (c 7))]))
      obtain ⟨cq20, kq20, qa20, qb20, qc20⟩ := isOf hZ e19 ((HS.2.2.2.2.2.2.2.2.2.2.2.2.2.2.1 7 (by decide)).ext O0.2)
      obtain ⟨_, _, ⟨T20, L20, k20, n20⟩, -, X20, ⟨Lc20, hQ20, l20, y20, z20⟩, st20⟩ := X19.virtualBack hx (y := (⟨"com/example/arbora/arbora/sql/ValueType", "textMayBeEmpty", "()Z"⟩ : MethodName)) (z := (⟨"com/example/arbora/arbora/sql/ValueType", "textMayBeEmpty", "()Z"⟩ : MethodName)) hown (mvT hZ (own_w hw 29 rfl)) (mvT hZ (own_w hw 30 rfl)) (notFace_of_selects (args := #[]) (mvT hZ (own_w hw 32 rfl))) (mvT hZ (own_w hw 32 rfl)) (mvT hZ (own_w hw 31 rfl)) (by decide) (backOf (W := 0) (rm4 l Z a0 hw [] c 7 h0 n0 O0 HS) hZ (own_w hw 33 rfl) (own_w hw 6 rfl) (by decide) (by decide)) qa20 qc20 (g := (mkF m 70 #[.val (.int p0), .val (.int (7 : Int32)), .val (.ref (c 7)), .val (.int (1 : Int32)), .val (.int (1 : Int32))] [(.ref (c 7))])) rfl (by rw [hml]; rfl) (Steps.refl _) (argsL := []) (rest := []) (lenOf pd0_1 rfl) rfl (by show 2 * 0 + _ ≤ _; exact Nat.le_of_eq rfl) (hb hby at_70) (fun _ _ => ⟨rfl, e19, (by decide : 0 + 0 ≤ _), (by decide : 0 + 0 ≤ _)⟩)
      dsimp only [Pt.U, Pt.locs, Pt.cells, Pt.slots] at X20 l20 y20 z20 st20 hQ20
      subst l20 y20 z20
      obtain ⟨rfl, Nc20, e20⟩ := hQ20
      have N20 := Fr.app N19 Nc20
      rw [fTe_7 c HS.2.2.2.2.2.2.2.2.2.2.2.2.2.2.2] at st20
      refine Go.tr st20 ?_
      show Go p e below s _ _ _ (T20.setTop (mkF m 73 #[.val (.int p0), .val (.int (7 : Int32)), .val (.ref (c 7)), .val (.int (1 : Int32)), .val (.int (1 : Int32))] [(.int (0 : Int32))]))
      refine Go.st (fun _ kq_ => XS.ifYes X20.here hx rfl (pc0 := 73) (pc' := 78) rfl (hb hby at_73) rfl (by decide) (by decide) (by decide) kq_) ?_
      show Go p e below s _ _ _ (T20.setTop (mkF m 78 #[.val (.int p0), .val (.int (7 : Int32)), .val (.ref (c 7)), .val (.int (1 : Int32)), .val (.int (1 : Int32))] []))
      refine Go.st (fun _ kq_ => XS.iconst X20.here hx rfl (hb hby at_78) kq_) ?_
      show Go p e below s _ _ _ (T20.setTop (mkF m 79 #[.val (.int p0), .val (.int (7 : Int32)), .val (.ref (c 7)), .val (.int (1 : Int32)), .val (.int (1 : Int32))] [(.int (1 : Int32))]))
      exact Go.ret X20 hlk (some (.int (nar .boolean (1 : Int32)))) (fun h => by rw [Bd.returns] at h; cases h) (by rw [e20]; exact ⟨rfl, N20⟩) (by decide) (by decide) (fun fs hr => retN X20 hx (t := .boolean) Bd.returns (by simp) (hb hby at_79) hr)
    · show Go p e below s _ _ _ (s₁.setTop (mkF m 7 #[.val (.int p0), .unset, .unset, .unset, .unset] [(.int (8 : Int32))]))
      refine Go.st (fun _ kq_ => XS.istoreN X0.here hx rfl (hb hby at_7) rfl (l' := #[.val (.int p0), .val (.int (8 : Int32)), .unset, .unset, .unset]) rfl kq_) ?_
      show Go p e below s _ _ _ (s₁.setTop (mkF m 8 #[.val (.int p0), .val (.int (8 : Int32)), .unset, .unset, .unset] []))
      refine Go.st (fun _ kq_ => XS.iloadN X0.here hx rfl (hb hby at_8) rfl kq_) ?_
      show Go p e below s _ _ _ (s₁.setTop (mkF m 9 #[.val (.int p0), .val (.int (8 : Int32)), .unset, .unset, .unset] [(.int (8 : Int32))]))
      obtain ⟨_, _, ⟨T21, L21, k21, n21⟩, -, X21, ⟨Lc21, hQ21, l21, y21, z21⟩, st21⟩ := Jvm.LawKit.callS X0 hx (y := (⟨"com/example/arbora/arbora/sql/ValueTypeEqualExactlyWhenTextsArePinLaw", "pick", "(I)Lcom/example/arbora/arbora/sql/ValueType;"⟩ : MethodName)) hown (mvT hZ (own_w hw 1 rfl)) (mvT hZ (own_w hw 2 rfl)) (mvT hZ (own_w hw 3 rfl)) (mvT hZ (own_w hw 4 rfl)) (by decide) (backOf (W := 0) (rm1 l Z a0 hw [] (8 : Int32) c h0 n0 O0 HS) hZ (own_w hw 4 rfl) (own_w hw 3 rfl) (by decide) (by decide)) (g := (mkF m 9 #[.val (.int p0), .val (.int (8 : Int32)), .unset, .unset, .unset] [(.int (8 : Int32))])) rfl (by rw [hml]; rfl) (argsL := [(.int (8 : Int32))]) (rest := []) (lenOf pd0_0 rfl) rfl (by show 2 * 0 + _ ≤ _; exact Nat.le_of_eq rfl) (hb hby at_9) (fun _ _ => ⟨rfl, e0, (by decide : 0 + 0 ≤ _), (by decide : 0 + 0 ≤ _)⟩)
      dsimp only [Pt.U, Pt.locs, Pt.cells, Pt.slots] at X21 l21 y21 z21 st21 hQ21
      subst l21 y21 z21
      obtain ⟨rfl, Nc21, e21⟩ := hQ21
      have N21 := Fr.app N0 Nc21
      rw [(by decide : fPick (8 : Int32) = 8)] at st21
      refine Go.st st21 ?_
      show Go p e below s _ _ _ (T21.setTop (mkF m 12 #[.val (.int p0), .val (.int (8 : Int32)), .unset, .unset, .unset] [(.ref (c 8))]))
      refine Go.st (fun _ kq_ => XS.astoreN X21.here hx rfl (hb hby at_12) rfl rfl (l' := #[.val (.int p0), .val (.int (8 : Int32)), .val (.ref (c 8)), .unset, .unset]) rfl kq_) ?_
      show Go p e below s _ _ _ (T21.setTop (mkF m 13 #[.val (.int p0), .val (.int (8 : Int32)), .val (.ref (c 8)), .unset, .unset] []))
      refine Go.st (fun _ kq_ => XS.iloadN X21.here hx rfl (hb hby at_13) rfl kq_) ?_
      show Go p e below s _ _ _ (T21.setTop (mkF m 14 #[.val (.int p0), .val (.int (8 : Int32)), .val (.ref (c 8)), .unset, .unset] [(.int (8 : Int32))]))
      refine Go.st (fun _ kq_ => XS.iconst X21.here hx rfl (hb hby at_14) kq_) ?_
      show Go p e below s _ _ _ (T21.setTop (mkF m 15 #[.val (.int p0), .val (.int (8 : Int32)), .val (.ref (c 8)), .unset, .unset] [(.int (3 : Int32)), (.int (8 : Int32))]))
      refine Go.st (fun _ kq_ => XS.icmpNo X21.here hx rfl (hb hby at_15) rfl (by decide) kq_) ?_
      show Go p e below s _ _ _ (T21.setTop (mkF m 18 #[.val (.int p0), .val (.int (8 : Int32)), .val (.ref (c 8)), .unset, .unset] []))
      refine Go.st (fun _ kq_ => XS.iloadN X21.here hx rfl (hb hby at_18) rfl kq_) ?_
      show Go p e below s _ _ _ (T21.setTop (mkF m 19 #[.val (.int p0), .val (.int (8 : Int32)), .val (.ref (c 8)), .unset, .unset] [(.int (8 : Int32))]))
      refine Go.st (fun _ kq_ => XS.bipush X21.here hx rfl (hb hby at_19) kq_) ?_
      show Go p e below s _ _ _ (T21.setTop (mkF m 21 #[.val (.int p0), .val (.int (8 : Int32)), .val (.ref (c 8)), .unset, .unset] [(.int (7 : Int32)), (.int (8 : Int32))]))
      refine Go.st (fun _ kq_ => XS.icmpNo X21.here hx rfl (hb hby at_21) rfl (by decide) kq_) ?_
      show Go p e below s _ _ _ (T21.setTop (mkF m 24 #[.val (.int p0), .val (.int (8 : Int32)), .val (.ref (c 8)), .unset, .unset] []))
      refine Go.st (fun _ kq_ => XS.iloadN X21.here hx rfl (hb hby at_24) rfl kq_) ?_
      show Go p e below s _ _ _ (T21.setTop (mkF m 25 #[.val (.int p0), .val (.int (8 : Int32)), .val (.ref (c 8)), .unset, .unset] [(.int (8 : Int32))]))
      refine Go.st (fun _ kq_ => XS.bipush X21.here hx rfl (hb hby at_25) kq_) ?_
      show Go p e below s _ _ _ (T21.setTop (mkF m 27 #[.val (.int p0), .val (.int (8 : Int32)), .val (.ref (c 8)), .unset, .unset] [(.int (11 : Int32)), (.int (8 : Int32))]))
      refine Go.st (fun _ kq_ => XS.icmpYes X21.here hx rfl (pc0 := 27) (pc' := 34) rfl (hb hby at_27) rfl (by decide) (by decide) (by decide) kq_) ?_
      show Go p e below s _ _ _ (T21.setTop (mkF m 34 #[.val (.int p0), .val (.int (8 : Int32)), .val (.ref (c 8)), .unset, .unset] []))
      refine Go.st (fun _ kq_ => XS.iconst X21.here hx rfl (hb hby at_34) kq_) ?_
      show Go p e below s _ _ _ (T21.setTop (mkF m 35 #[.val (.int p0), .val (.int (8 : Int32)), .val (.ref (c 8)), .unset, .unset] [(.int (0 : Int32))]))
      refine Go.st (fun _ kq_ => XS.istoreN X21.here hx rfl (hb hby at_35) rfl (l' := #[.val (.int p0), .val (.int (8 : Int32)), .val (.ref (c 8)), .val (.int (0 : Int32)), .unset]) rfl kq_) ?_
      show Go p e below s _ _ _ (T21.setTop (mkF m 36 #[.val (.int p0), .val (.int (8 : Int32)), .val (.ref (c 8)), .val (.int (0 : Int32)), .unset] []))
      refine Go.st (fun _ kq_ => XS.aloadN X21.here hx rfl (hb hby at_36) rfl rfl kq_) ?_
      show Go p e below s _ _ _ (T21.setTop (mkF m 37 #[.val (.int p0), .val (.int (8 : Int32)), .val (.ref (c 8)), .val (.int (0 : Int32)), .unset] [(.ref (c 8))]))
      obtain ⟨cq22, kq22, qa22, qb22, qc22⟩ := isOf hZ e21 ((HS.2.2.2.2.2.2.2.2.2.2.2.2.2.2.1 8 (by decide)).ext O0.2)
      obtain ⟨_, _, ⟨T22, L22, k22, n22⟩, -, X22, ⟨Lc22, hQ22, l22, y22, z22⟩, st22⟩ := X21.virtualBack hx (y := (⟨"com/example/arbora/arbora/sql/ValueType", "equalExactlyWhenTextsAre", "()Z"⟩ : MethodName)) (z := (⟨"com/example/arbora/arbora/sql/ValueType", "equalExactlyWhenTextsAre", "()Z"⟩ : MethodName)) hown (mvT hZ (own_w hw 8 rfl)) (mvT hZ (own_w hw 9 rfl)) (notFace_of_selects (args := #[]) (mvT hZ (own_w hw 11 rfl))) (mvT hZ (own_w hw 11 rfl)) (mvT hZ (own_w hw 10 rfl)) (by decide) (backOf (W := 0) (rm2 l Z a0 hw [] c 8 h0 n0 O0 HS) hZ (own_w hw 12 rfl) (own_w hw 6 rfl) (by decide) (by decide)) qa22 qc22 (g := (mkF m 37 #[.val (.int p0), .val (.int (8 : Int32)), .val (.ref (c 8)), .val (.int (0 : Int32)), .unset] [(.ref (c 8))])) rfl (by rw [hml]; rfl) (Steps.refl _) (argsL := []) (rest := []) (lenOf pd0_1 rfl) rfl (by show 2 * 0 + _ ≤ _; exact Nat.le_of_eq rfl) (hb hby at_37) (fun _ _ => ⟨rfl, e21, (by decide : 0 + 0 ≤ _), (by decide : 0 + 0 ≤ _)⟩)
      dsimp only [Pt.U, Pt.locs, Pt.cells, Pt.slots] at X22 l22 y22 z22 st22 hQ22
      subst l22 y22 z22
      obtain ⟨rfl, Nc22, e22⟩ := hQ22
      have N22 := Fr.app N21 Nc22
      rw [fEq_8 c HS.2.2.2.2.2.2.2.2.2.2.2.2.2.2.2] at st22
      refine Go.tr st22 ?_
      show Go p e below s _ _ _ (T22.setTop (mkF m 40 #[.val (.int p0), .val (.int (8 : Int32)), .val (.ref (c 8)), .val (.int (0 : Int32)), .unset] [(.int (0 : Int32))]))
      refine Go.st (fun _ kq_ => XS.istore X22.here hx rfl (hb hby at_40) rfl (l' := #[.val (.int p0), .val (.int (8 : Int32)), .val (.ref (c 8)), .val (.int (0 : Int32)), .val (.int (0 : Int32))]) rfl kq_) ?_
      show Go p e below s _ _ _ (T22.setTop (mkF m 42 #[.val (.int p0), .val (.int (8 : Int32)), .val (.ref (c 8)), .val (.int (0 : Int32)), .val (.int (0 : Int32))] []))
      refine Go.st (fun _ kq_ => XS.iload X22.here hx rfl (hb hby at_42) rfl kq_) ?_
      show Go p e below s _ _ _ (T22.setTop (mkF m 44 #[.val (.int p0), .val (.int (8 : Int32)), .val (.ref (c 8)), .val (.int (0 : Int32)), .val (.int (0 : Int32))] [(.int (0 : Int32))]))
      refine Go.st (fun _ kq_ => XS.iloadN X22.here hx rfl (hb hby at_44) rfl kq_) ?_
      show Go p e below s _ _ _ (T22.setTop (mkF m 45 #[.val (.int p0), .val (.int (8 : Int32)), .val (.ref (c 8)), .val (.int (0 : Int32)), .val (.int (0 : Int32))] [(.int (0 : Int32)), (.int (0 : Int32))]))
      refine Go.st (fun _ kq_ => XS.icmpYes X22.here hx rfl (pc0 := 45) (pc' := 50) rfl (hb hby at_45) rfl (by decide) (by decide) (by decide) kq_) ?_
      show Go p e below s _ _ _ (T22.setTop (mkF m 50 #[.val (.int p0), .val (.int (8 : Int32)), .val (.ref (c 8)), .val (.int (0 : Int32)), .val (.int (0 : Int32))] []))
      refine Go.st (fun _ kq_ => XS.iload X22.here hx rfl (hb hby at_50) rfl kq_) ?_
      show Go p e below s _ _ _ (T22.setTop (mkF m 52 #[.val (.int p0), .val (.int (8 : Int32)), .val (.ref (c 8)), .val (.int (0 : Int32)), .val (.int (0 : Int32))] [(.int (0 : Int32))]))
      refine Go.st (fun _ kq_ => XS.ifYes X22.here hx rfl (pc0 := 52) (pc' := 64) rfl (hb hby at_52) rfl (by decide) (by decide) (by decide) kq_) ?_
      show Go p e below s _ _ _ (T22.setTop (mkF m 64 #[.val (.int p0), .val (.int (8 : Int32)), .val (.ref (c 8)), .val (.int (0 : Int32)), .val (.int (0 : Int32))] []))
      refine Go.st (fun _ kq_ => XS.iload X22.here hx rfl (hb hby at_64) rfl kq_) ?_
      show Go p e below s _ _ _ (T22.setTop (mkF m 66 #[.val (.int p0), .val (.int (8 : Int32)), .val (.ref (c 8)), .val (.int (0 : Int32)), .val (.int (0 : Int32))] [(.int (0 : Int32))]))
      refine Go.st (fun _ kq_ => XS.ifYes X22.here hx rfl (pc0 := 66) (pc' := 78) rfl (hb hby at_66) rfl (by decide) (by decide) (by decide) kq_) ?_
      show Go p e below s _ _ _ (T22.setTop (mkF m 78 #[.val (.int p0), .val (.int (8 : Int32)), .val (.ref (c 8)), .val (.int (0 : Int32)), .val (.int (0 : Int32))] []))
      refine Go.st (fun _ kq_ => XS.iconst X22.here hx rfl (hb hby at_78) kq_) ?_
      show Go p e below s _ _ _ (T22.setTop (mkF m 79 #[.val (.int p0), .val (.int (8 : Int32)), .val (.ref (c 8)), .val (.int (0 : Int32)), .val (.int (0 : Int32))] [(.int (1 : Int32))]))
      exact Go.ret X22 hlk (some (.int (nar .boolean (1 : Int32)))) (fun h => by rw [Bd.returns] at h; cases h) (by rw [e22]; exact ⟨rfl, N22⟩) (by decide) (by decide) (fun fs hr => retN X22 hx (t := .boolean) Bd.returns (by simp) (hb hby at_79) hr)
    · show Go p e below s _ _ _ (s₁.setTop (mkF m 7 #[.val (.int p0), .unset, .unset, .unset, .unset] [(.int (9 : Int32))]))
      refine Go.st (fun _ kq_ => XS.istoreN X0.here hx rfl (hb hby at_7) rfl (l' := #[.val (.int p0), .val (.int (9 : Int32)), .unset, .unset, .unset]) rfl kq_) ?_
      show Go p e below s _ _ _ (s₁.setTop (mkF m 8 #[.val (.int p0), .val (.int (9 : Int32)), .unset, .unset, .unset] []))
      refine Go.st (fun _ kq_ => XS.iloadN X0.here hx rfl (hb hby at_8) rfl kq_) ?_
      show Go p e below s _ _ _ (s₁.setTop (mkF m 9 #[.val (.int p0), .val (.int (9 : Int32)), .unset, .unset, .unset] [(.int (9 : Int32))]))
      obtain ⟨_, _, ⟨T23, L23, k23, n23⟩, -, X23, ⟨Lc23, hQ23, l23, y23, z23⟩, st23⟩ := Jvm.LawKit.callS X0 hx (y := (⟨"com/example/arbora/arbora/sql/ValueTypeEqualExactlyWhenTextsArePinLaw", "pick", "(I)Lcom/example/arbora/arbora/sql/ValueType;"⟩ : MethodName)) hown (mvT hZ (own_w hw 1 rfl)) (mvT hZ (own_w hw 2 rfl)) (mvT hZ (own_w hw 3 rfl)) (mvT hZ (own_w hw 4 rfl)) (by decide) (backOf (W := 0) (rm1 l Z a0 hw [] (9 : Int32) c h0 n0 O0 HS) hZ (own_w hw 4 rfl) (own_w hw 3 rfl) (by decide) (by decide)) (g := (mkF m 9 #[.val (.int p0), .val (.int (9 : Int32)), .unset, .unset, .unset] [(.int (9 : Int32))])) rfl (by rw [hml]; rfl) (argsL := [(.int (9 : Int32))]) (rest := []) (lenOf pd0_0 rfl) rfl (by show 2 * 0 + _ ≤ _; exact Nat.le_of_eq rfl) (hb hby at_9) (fun _ _ => ⟨rfl, e0, (by decide : 0 + 0 ≤ _), (by decide : 0 + 0 ≤ _)⟩)
      dsimp only [Pt.U, Pt.locs, Pt.cells, Pt.slots] at X23 l23 y23 z23 st23 hQ23
      subst l23 y23 z23
      obtain ⟨rfl, Nc23, e23⟩ := hQ23
      have N23 := Fr.app N0 Nc23
      rw [(by decide : fPick (9 : Int32) = 9)] at st23
      refine Go.st st23 ?_
      show Go p e below s _ _ _ (T23.setTop (mkF m 12 #[.val (.int p0), .val (.int (9 : Int32)), .unset, .unset, .unset] [(.ref (c 9))]))
      refine Go.st (fun _ kq_ => XS.astoreN X23.here hx rfl (hb hby at_12) rfl rfl (l' := #[.val (.int p0), .val (.int (9 : Int32)), .val (.ref (c 9)), .unset, .unset]) rfl kq_) ?_
      show Go p e below s _ _ _ (T23.setTop (mkF m 13 #[.val (.int p0), .val (.int (9 : Int32)), .val (.ref (c 9)), .unset, .unset] []))
      refine Go.st (fun _ kq_ => XS.iloadN X23.here hx rfl (hb hby at_13) rfl kq_) ?_
      show Go p e below s _ _ _ (T23.setTop (mkF m 14 #[.val (.int p0), .val (.int (9 : Int32)), .val (.ref (c 9)), .unset, .unset] [(.int (9 : Int32))]))
      refine Go.st (fun _ kq_ => XS.iconst X23.here hx rfl (hb hby at_14) kq_) ?_
      show Go p e below s _ _ _ (T23.setTop (mkF m 15 #[.val (.int p0), .val (.int (9 : Int32)), .val (.ref (c 9)), .unset, .unset] [(.int (3 : Int32)), (.int (9 : Int32))]))
      refine Go.st (fun _ kq_ => XS.icmpNo X23.here hx rfl (hb hby at_15) rfl (by decide) kq_) ?_
      show Go p e below s _ _ _ (T23.setTop (mkF m 18 #[.val (.int p0), .val (.int (9 : Int32)), .val (.ref (c 9)), .unset, .unset] []))
      refine Go.st (fun _ kq_ => XS.iloadN X23.here hx rfl (hb hby at_18) rfl kq_) ?_
      show Go p e below s _ _ _ (T23.setTop (mkF m 19 #[.val (.int p0), .val (.int (9 : Int32)), .val (.ref (c 9)), .unset, .unset] [(.int (9 : Int32))]))
      refine Go.st (fun _ kq_ => XS.bipush X23.here hx rfl (hb hby at_19) kq_) ?_
      show Go p e below s _ _ _ (T23.setTop (mkF m 21 #[.val (.int p0), .val (.int (9 : Int32)), .val (.ref (c 9)), .unset, .unset] [(.int (7 : Int32)), (.int (9 : Int32))]))
      refine Go.st (fun _ kq_ => XS.icmpNo X23.here hx rfl (hb hby at_21) rfl (by decide) kq_) ?_
      show Go p e below s _ _ _ (T23.setTop (mkF m 24 #[.val (.int p0), .val (.int (9 : Int32)), .val (.ref (c 9)), .unset, .unset] []))
      refine Go.st (fun _ kq_ => XS.iloadN X23.here hx rfl (hb hby at_24) rfl kq_) ?_
      show Go p e below s _ _ _ (T23.setTop (mkF m 25 #[.val (.int p0), .val (.int (9 : Int32)), .val (.ref (c 9)), .unset, .unset] [(.int (9 : Int32))]))
      refine Go.st (fun _ kq_ => XS.bipush X23.here hx rfl (hb hby at_25) kq_) ?_
      show Go p e below s _ _ _ (T23.setTop (mkF m 27 #[.val (.int p0), .val (.int (9 : Int32)), .val (.ref (c 9)), .unset, .unset] [(.int (11 : Int32)), (.int (9 : Int32))]))
      refine Go.st (fun _ kq_ => XS.icmpYes X23.here hx rfl (pc0 := 27) (pc' := 34) rfl (hb hby at_27) rfl (by decide) (by decide) (by decide) kq_) ?_
      show Go p e below s _ _ _ (T23.setTop (mkF m 34 #[.val (.int p0), .val (.int (9 : Int32)), .val (.ref (c 9)), .unset, .unset] []))
      refine Go.st (fun _ kq_ => XS.iconst X23.here hx rfl (hb hby at_34) kq_) ?_
      show Go p e below s _ _ _ (T23.setTop (mkF m 35 #[.val (.int p0), .val (.int (9 : Int32)), .val (.ref (c 9)), .unset, .unset] [(.int (0 : Int32))]))
      refine Go.st (fun _ kq_ => XS.istoreN X23.here hx rfl (hb hby at_35) rfl (l' := #[.val (.int p0), .val (.int (9 : Int32)), .val (.ref (c 9)), .val (.int (0 : Int32)), .unset]) rfl kq_) ?_
      show Go p e below s _ _ _ (T23.setTop (mkF m 36 #[.val (.int p0), .val (.int (9 : Int32)), .val (.ref (c 9)), .val (.int (0 : Int32)), .unset] []))
      refine Go.st (fun _ kq_ => XS.aloadN X23.here hx rfl (hb hby at_36) rfl rfl kq_) ?_
      show Go p e below s _ _ _ (T23.setTop (mkF m 37 #[.val (.int p0), .val (.int (9 : Int32)), .val (.ref (c 9)), .val (.int (0 : Int32)), .unset] [(.ref (c 9))]))
      obtain ⟨cq24, kq24, qa24, qb24, qc24⟩ := isOf hZ e23 ((HS.2.2.2.2.2.2.2.2.2.2.2.2.2.2.1 9 (by decide)).ext O0.2)
      obtain ⟨_, _, ⟨T24, L24, k24, n24⟩, -, X24, ⟨Lc24, hQ24, l24, y24, z24⟩, st24⟩ := X23.virtualBack hx (y := (⟨"com/example/arbora/arbora/sql/ValueType", "equalExactlyWhenTextsAre", "()Z"⟩ : MethodName)) (z := (⟨"com/example/arbora/arbora/sql/ValueType", "equalExactlyWhenTextsAre", "()Z"⟩ : MethodName)) hown (mvT hZ (own_w hw 8 rfl)) (mvT hZ (own_w hw 9 rfl)) (notFace_of_selects (args := #[]) (mvT hZ (own_w hw 11 rfl))) (mvT hZ (own_w hw 11 rfl)) (mvT hZ (own_w hw 10 rfl)) (by decide) (backOf (W := 0) (rm2 l Z a0 hw [] c 9 h0 n0 O0 HS) hZ (own_w hw 12 rfl) (own_w hw 6 rfl) (by decide) (by decide)) qa24 qc24 (g := (mkF m 37 #[.val (.int p0), .val (.int (9 : Int32)), .val (.ref (c 9)), .val (.int (0 : Int32)), .unset] [(.ref (c 9))])) rfl (by rw [hml]; rfl) (Steps.refl _) (argsL := []) (rest := []) (lenOf pd0_1 rfl) rfl (by show 2 * 0 + _ ≤ _; exact Nat.le_of_eq rfl) (hb hby at_37) (fun _ _ => ⟨rfl, e23, (by decide : 0 + 0 ≤ _), (by decide : 0 + 0 ≤ _)⟩)
      dsimp only [Pt.U, Pt.locs, Pt.cells, Pt.slots] at X24 l24 y24 z24 st24 hQ24
      subst l24 y24 z24
      obtain ⟨rfl, Nc24, e24⟩ := hQ24
      have N24 := Fr.app N23 Nc24
      rw [fEq_9 c HS.2.2.2.2.2.2.2.2.2.2.2.2.2.2.2] at st24
      refine Go.tr st24 ?_
      show Go p e below s _ _ _ (T24.setTop (mkF m 40 #[.val (.int p0), .val (.int (9 : Int32)), .val (.ref (c 9)), .val (.int (0 : Int32)), .unset] [(.int (0 : Int32))]))
      refine Go.st (fun _ kq_ => XS.istore X24.here hx rfl (hb hby at_40) rfl (l' := #[.val (.int p0), .val (.int (9 : Int32)), .val (.ref (c 9)), .val (.int (0 : Int32)), .val (.int (0 : Int32))]) rfl kq_) ?_
      show Go p e below s _ _ _ (T24.setTop (mkF m 42 #[.val (.int p0), .val (.int (9 : Int32)), .val (.ref (c 9)), .val (.int (0 : Int32)), .val (.int (0 : Int32))] []))
      refine Go.st (fun _ kq_ => XS.iload X24.here hx rfl (hb hby at_42) rfl kq_) ?_
      show Go p e below s _ _ _ (T24.setTop (mkF m 44 #[.val (.int p0), .val (.int (9 : Int32)), .val (.ref (c 9)), .val (.int (0 : Int32)), .val (.int (0 : Int32))] [(.int (0 : Int32))]))
      refine Go.st (fun _ kq_ => XS.iloadN X24.here hx rfl (hb hby at_44) rfl kq_) ?_
      show Go p e below s _ _ _ (T24.setTop (mkF m 45 #[.val (.int p0), .val (.int (9 : Int32)), .val (.ref (c 9)), .val (.int (0 : Int32)), .val (.int (0 : Int32))] [(.int (0 : Int32)), (.int (0 : Int32))]))
      refine Go.st (fun _ kq_ => XS.icmpYes X24.here hx rfl (pc0 := 45) (pc' := 50) rfl (hb hby at_45) rfl (by decide) (by decide) (by decide) kq_) ?_
      show Go p e below s _ _ _ (T24.setTop (mkF m 50 #[.val (.int p0), .val (.int (9 : Int32)), .val (.ref (c 9)), .val (.int (0 : Int32)), .val (.int (0 : Int32))] []))
      refine Go.st (fun _ kq_ => XS.iload X24.here hx rfl (hb hby at_50) rfl kq_) ?_
      show Go p e below s _ _ _ (T24.setTop (mkF m 52 #[.val (.int p0), .val (.int (9 : Int32)), .val (.ref (c 9)), .val (.int (0 : Int32)), .val (.int (0 : Int32))] [(.int (0 : Int32))]))
      refine Go.st (fun _ kq_ => XS.ifYes X24.here hx rfl (pc0 := 52) (pc' := 64) rfl (hb hby at_52) rfl (by decide) (by decide) (by decide) kq_) ?_
      show Go p e below s _ _ _ (T24.setTop (mkF m 64 #[.val (.int p0), .val (.int (9 : Int32)), .val (.ref (c 9)), .val (.int (0 : Int32)), .val (.int (0 : Int32))] []))
      refine Go.st (fun _ kq_ => XS.iload X24.here hx rfl (hb hby at_64) rfl kq_) ?_
      show Go p e below s _ _ _ (T24.setTop (mkF m 66 #[.val (.int p0), .val (.int (9 : Int32)), .val (.ref (c 9)), .val (.int (0 : Int32)), .val (.int (0 : Int32))] [(.int (0 : Int32))]))
      refine Go.st (fun _ kq_ => XS.ifYes X24.here hx rfl (pc0 := 66) (pc' := 78) rfl (hb hby at_66) rfl (by decide) (by decide) (by decide) kq_) ?_
      show Go p e below s _ _ _ (T24.setTop (mkF m 78 #[.val (.int p0), .val (.int (9 : Int32)), .val (.ref (c 9)), .val (.int (0 : Int32)), .val (.int (0 : Int32))] []))
      refine Go.st (fun _ kq_ => XS.iconst X24.here hx rfl (hb hby at_78) kq_) ?_
      show Go p e below s _ _ _ (T24.setTop (mkF m 79 #[.val (.int p0), .val (.int (9 : Int32)), .val (.ref (c 9)), .val (.int (0 : Int32)), .val (.int (0 : Int32))] [(.int (1 : Int32))]))
      exact Go.ret X24 hlk (some (.int (nar .boolean (1 : Int32)))) (fun h => by rw [Bd.returns] at h; cases h) (by rw [e24]; exact ⟨rfl, N24⟩) (by decide) (by decide) (fun fs hr => retN X24 hx (t := .boolean) Bd.returns (by simp) (hb hby at_79) hr)
    · show Go p e below s _ _ _ (s₁.setTop (mkF m 7 #[.val (.int p0), .unset, .unset, .unset, .unset] [(.int (10 : Int32))]))
      refine Go.st (fun _ kq_ => XS.istoreN X0.here hx rfl (hb hby at_7) rfl (l' := #[.val (.int p0), .val (.int (10 : Int32)), .unset, .unset, .unset]) rfl kq_) ?_
      show Go p e below s _ _ _ (s₁.setTop (mkF m 8 #[.val (.int p0), .val (.int (10 : Int32)), .unset, .unset, .unset] []))
      refine Go.st (fun _ kq_ => XS.iloadN X0.here hx rfl (hb hby at_8) rfl kq_) ?_
      show Go p e below s _ _ _ (s₁.setTop (mkF m 9 #[.val (.int p0), .val (.int (10 : Int32)), .unset, .unset, .unset] [(.int (10 : Int32))]))
      obtain ⟨_, _, ⟨T25, L25, k25, n25⟩, -, X25, ⟨Lc25, hQ25, l25, y25, z25⟩, st25⟩ := Jvm.LawKit.callS X0 hx (y := (⟨"com/example/arbora/arbora/sql/ValueTypeEqualExactlyWhenTextsArePinLaw", "pick", "(I)Lcom/example/arbora/arbora/sql/ValueType;"⟩ : MethodName)) hown (mvT hZ (own_w hw 1 rfl)) (mvT hZ (own_w hw 2 rfl)) (mvT hZ (own_w hw 3 rfl)) (mvT hZ (own_w hw 4 rfl)) (by decide) (backOf (W := 0) (rm1 l Z a0 hw [] (10 : Int32) c h0 n0 O0 HS) hZ (own_w hw 4 rfl) (own_w hw 3 rfl) (by decide) (by decide)) (g := (mkF m 9 #[.val (.int p0), .val (.int (10 : Int32)), .unset, .unset, .unset] [(.int (10 : Int32))])) rfl (by rw [hml]; rfl) (argsL := [(.int (10 : Int32))]) (rest := []) (lenOf pd0_0 rfl) rfl (by show 2 * 0 + _ ≤ _; exact Nat.le_of_eq rfl) (hb hby at_9) (fun _ _ => ⟨rfl, e0, (by decide : 0 + 0 ≤ _), (by decide : 0 + 0 ≤ _)⟩)
      dsimp only [Pt.U, Pt.locs, Pt.cells, Pt.slots] at X25 l25 y25 z25 st25 hQ25
      subst l25 y25 z25
      obtain ⟨rfl, Nc25, e25⟩ := hQ25
      have N25 := Fr.app N0 Nc25
      rw [(by decide : fPick (10 : Int32) = 10)] at st25
      refine Go.st st25 ?_
      show Go p e below s _ _ _ (T25.setTop (mkF m 12 #[.val (.int p0), .val (.int (10 : Int32)), .unset, .unset, .unset] [(.ref (c 10))]))
      refine Go.st (fun _ kq_ => XS.astoreN X25.here hx rfl (hb hby at_12) rfl rfl (l' := #[.val (.int p0), .val (.int (10 : Int32)), .val (.ref (c 10)), .unset, .unset]) rfl kq_) ?_
      show Go p e below s _ _ _ (T25.setTop (mkF m 13 #[.val (.int p0), .val (.int (10 : Int32)), .val (.ref (c 10)), .unset, .unset] []))
      refine Go.st (fun _ kq_ => XS.iloadN X25.here hx rfl (hb hby at_13) rfl kq_) ?_
      show Go p e below s _ _ _ (T25.setTop (mkF m 14 #[.val (.int p0), .val (.int (10 : Int32)), .val (.ref (c 10)), .unset, .unset] [(.int (10 : Int32))]))
      refine Go.st (fun _ kq_ => XS.iconst X25.here hx rfl (hb hby at_14) kq_) ?_
      show Go p e below s _ _ _ (T25.setTop (mkF m 15 #[.val (.int p0), .val (.int (10 : Int32)), .val (.ref (c 10)), .unset, .unset] [(.int (3 : Int32)), (.int (10 : Int32))]))
      refine Go.st (fun _ kq_ => XS.icmpNo X25.here hx rfl (hb hby at_15) rfl (by decide) kq_) ?_
      show Go p e below s _ _ _ (T25.setTop (mkF m 18 #[.val (.int p0), .val (.int (10 : Int32)), .val (.ref (c 10)), .unset, .unset] []))
      refine Go.st (fun _ kq_ => XS.iloadN X25.here hx rfl (hb hby at_18) rfl kq_) ?_
      show Go p e below s _ _ _ (T25.setTop (mkF m 19 #[.val (.int p0), .val (.int (10 : Int32)), .val (.ref (c 10)), .unset, .unset] [(.int (10 : Int32))]))
      refine Go.st (fun _ kq_ => XS.bipush X25.here hx rfl (hb hby at_19) kq_) ?_
      show Go p e below s _ _ _ (T25.setTop (mkF m 21 #[.val (.int p0), .val (.int (10 : Int32)), .val (.ref (c 10)), .unset, .unset] [(.int (7 : Int32)), (.int (10 : Int32))]))
      refine Go.st (fun _ kq_ => XS.icmpNo X25.here hx rfl (hb hby at_21) rfl (by decide) kq_) ?_
      show Go p e below s _ _ _ (T25.setTop (mkF m 24 #[.val (.int p0), .val (.int (10 : Int32)), .val (.ref (c 10)), .unset, .unset] []))
      refine Go.st (fun _ kq_ => XS.iloadN X25.here hx rfl (hb hby at_24) rfl kq_) ?_
      show Go p e below s _ _ _ (T25.setTop (mkF m 25 #[.val (.int p0), .val (.int (10 : Int32)), .val (.ref (c 10)), .unset, .unset] [(.int (10 : Int32))]))
      refine Go.st (fun _ kq_ => XS.bipush X25.here hx rfl (hb hby at_25) kq_) ?_
      show Go p e below s _ _ _ (T25.setTop (mkF m 27 #[.val (.int p0), .val (.int (10 : Int32)), .val (.ref (c 10)), .unset, .unset] [(.int (11 : Int32)), (.int (10 : Int32))]))
      refine Go.st (fun _ kq_ => XS.icmpYes X25.here hx rfl (pc0 := 27) (pc' := 34) rfl (hb hby at_27) rfl (by decide) (by decide) (by decide) kq_) ?_
      show Go p e below s _ _ _ (T25.setTop (mkF m 34 #[.val (.int p0), .val (.int (10 : Int32)), .val (.ref (c 10)), .unset, .unset] []))
      refine Go.st (fun _ kq_ => XS.iconst X25.here hx rfl (hb hby at_34) kq_) ?_
      show Go p e below s _ _ _ (T25.setTop (mkF m 35 #[.val (.int p0), .val (.int (10 : Int32)), .val (.ref (c 10)), .unset, .unset] [(.int (0 : Int32))]))
      refine Go.st (fun _ kq_ => XS.istoreN X25.here hx rfl (hb hby at_35) rfl (l' := #[.val (.int p0), .val (.int (10 : Int32)), .val (.ref (c 10)), .val (.int (0 : Int32)), .unset]) rfl kq_) ?_
      show Go p e below s _ _ _ (T25.setTop (mkF m 36 #[.val (.int p0), .val (.int (10 : Int32)), .val (.ref (c 10)), .val (.int (0 : Int32)), .unset] []))
      refine Go.st (fun _ kq_ => XS.aloadN X25.here hx rfl (hb hby at_36) rfl rfl kq_) ?_
      show Go p e below s _ _ _ (T25.setTop (mkF m 37 #[.val (.int p0), .val (.int (10 : Int32)), .val (.ref (c 10)), .val (.int (0 : Int32)), .unset] [(.ref (c 10))]))
      obtain ⟨cq26, kq26, qa26, qb26, qc26⟩ := isOf hZ e25 ((HS.2.2.2.2.2.2.2.2.2.2.2.2.2.2.1 10 (by decide)).ext O0.2)
      obtain ⟨_, _, ⟨T26, L26, k26, n26⟩, -, X26, ⟨Lc26, hQ26, l26, y26, z26⟩, st26⟩ := X25.virtualBack hx (y := (⟨"com/example/arbora/arbora/sql/ValueType", "equalExactlyWhenTextsAre", "()Z"⟩ : MethodName)) (z := (⟨"com/example/arbora/arbora/sql/ValueType", "equalExactlyWhenTextsAre", "()Z"⟩ : MethodName)) hown (mvT hZ (own_w hw 8 rfl)) (mvT hZ (own_w hw 9 rfl)) (notFace_of_selects (args := #[]) (mvT hZ (own_w hw 11 rfl))) (mvT hZ (own_w hw 11 rfl)) (mvT hZ (own_w hw 10 rfl)) (by decide) (backOf (W := 0) (rm2 l Z a0 hw [] c 10 h0 n0 O0 HS) hZ (own_w hw 12 rfl) (own_w hw 6 rfl) (by decide) (by decide)) qa26 qc26 (g := (mkF m 37 #[.val (.int p0), .val (.int (10 : Int32)), .val (.ref (c 10)), .val (.int (0 : Int32)), .unset] [(.ref (c 10))])) rfl (by rw [hml]; rfl) (Steps.refl _) (argsL := []) (rest := []) (lenOf pd0_1 rfl) rfl (by show 2 * 0 + _ ≤ _; exact Nat.le_of_eq rfl) (hb hby at_37) (fun _ _ => ⟨rfl, e25, (by decide : 0 + 0 ≤ _), (by decide : 0 + 0 ≤ _)⟩)
      dsimp only [Pt.U, Pt.locs, Pt.cells, Pt.slots] at X26 l26 y26 z26 st26 hQ26
      subst l26 y26 z26
      obtain ⟨rfl, Nc26, e26⟩ := hQ26
      have N26 := Fr.app N25 Nc26
      rw [fEq_10 c HS.2.2.2.2.2.2.2.2.2.2.2.2.2.2.2] at st26
      refine Go.tr st26 ?_
      show Go p e below s _ _ _ (T26.setTop (mkF m 40 #[.val (.int p0), .val (.int (10 : Int32)), .val (.ref (c 10)), .val (.int (0 : Int32)), .unset] [(.int (0 : Int32))]))
      refine Go.st (fun _ kq_ => XS.istore X26.here hx rfl (hb hby at_40) rfl (l' := #[.val (.int p0), .val (.int (10 : Int32)), .val (.ref (c 10)), .val (.int (0 : Int32)), .val (.int (0 : Int32))]) rfl kq_) ?_
      show Go p e below s _ _ _ (T26.setTop (mkF m 42 #[.val (.int p0), .val (.int (10 : Int32)), .val (.ref (c 10)), .val (.int (0 : Int32)), .val (.int (0 : Int32))] []))
      refine Go.st (fun _ kq_ => XS.iload X26.here hx rfl (hb hby at_42) rfl kq_) ?_
      show Go p e below s _ _ _ (T26.setTop (mkF m 44 #[.val (.int p0), .val (.int (10 : Int32)), .val (.ref (c 10)), .val (.int (0 : Int32)), .val (.int (0 : Int32))] [(.int (0 : Int32))]))
      refine Go.st (fun _ kq_ => XS.iloadN X26.here hx rfl (hb hby at_44) rfl kq_) ?_
      show Go p e below s _ _ _ (T26.setTop (mkF m 45 #[.val (.int p0), .val (.int (10 : Int32)), .val (.ref (c 10)), .val (.int (0 : Int32)), .val (.int (0 : Int32))] [(.int (0 : Int32)), (.int (0 : Int32))]))
      refine Go.st (fun _ kq_ => XS.icmpYes X26.here hx rfl (pc0 := 45) (pc' := 50) rfl (hb hby at_45) rfl (by decide) (by decide) (by decide) kq_) ?_
      show Go p e below s _ _ _ (T26.setTop (mkF m 50 #[.val (.int p0), .val (.int (10 : Int32)), .val (.ref (c 10)), .val (.int (0 : Int32)), .val (.int (0 : Int32))] []))
      refine Go.st (fun _ kq_ => XS.iload X26.here hx rfl (hb hby at_50) rfl kq_) ?_
      show Go p e below s _ _ _ (T26.setTop (mkF m 52 #[.val (.int p0), .val (.int (10 : Int32)), .val (.ref (c 10)), .val (.int (0 : Int32)), .val (.int (0 : Int32))] [(.int (0 : Int32))]))
      refine Go.st (fun _ kq_ => XS.ifYes X26.here hx rfl (pc0 := 52) (pc' := 64) rfl (hb hby at_52) rfl (by decide) (by decide) (by decide) kq_) ?_
      show Go p e below s _ _ _ (T26.setTop (mkF m 64 #[.val (.int p0), .val (.int (10 : Int32)), .val (.ref (c 10)), .val (.int (0 : Int32)), .val (.int (0 : Int32))] []))
      refine Go.st (fun _ kq_ => XS.iload X26.here hx rfl (hb hby at_64) rfl kq_) ?_
      show Go p e below s _ _ _ (T26.setTop (mkF m 66 #[.val (.int p0), .val (.int (10 : Int32)), .val (.ref (c 10)), .val (.int (0 : Int32)), .val (.int (0 : Int32))] [(.int (0 : Int32))]))
      refine Go.st (fun _ kq_ => XS.ifYes X26.here hx rfl (pc0 := 66) (pc' := 78) rfl (hb hby at_66) rfl (by decide) (by decide) (by decide) kq_) ?_
      show Go p e below s _ _ _ (T26.setTop (mkF m 78 #[.val (.int p0), .val (.int (10 : Int32)), .val (.ref (c 10)), .val (.int (0 : Int32)), .val (.int (0 : Int32))] []))
      refine Go.st (fun _ kq_ => XS.iconst X26.here hx rfl (hb hby at_78) kq_) ?_
      show Go p e below s _ _ _ (T26.setTop (mkF m 79 #[.val (.int p0), .val (.int (10 : Int32)), .val (.ref (c 10)), .val (.int (0 : Int32)), .val (.int (0 : Int32))] [(.int (1 : Int32))]))
      exact Go.ret X26 hlk (some (.int (nar .boolean (1 : Int32)))) (fun h => by rw [Bd.returns] at h; cases h) (by rw [e26]; exact ⟨rfl, N26⟩) (by decide) (by decide) (fun fs hr => retN X26 hx (t := .boolean) Bd.returns (by simp) (hb hby at_79) hr)
    · show Go p e below s _ _ _ (s₁.setTop (mkF m 7 #[.val (.int p0), .unset, .unset, .unset, .unset] [(.int (11 : Int32))]))
      refine Go.st (fun _ kq_ => XS.istoreN X0.here hx rfl (hb hby at_7) rfl (l' := #[.val (.int p0), .val (.int (11 : Int32)), .unset, .unset, .unset]) rfl kq_) ?_
      show Go p e below s _ _ _ (s₁.setTop (mkF m 8 #[.val (.int p0), .val (.int (11 : Int32)), .unset, .unset, .unset] []))
      refine Go.st (fun _ kq_ => XS.iloadN X0.here hx rfl (hb hby at_8) rfl kq_) ?_
      show Go p e below s _ _ _ (s₁.setTop (mkF m 9 #[.val (.int p0), .val (.int (11 : Int32)), .unset, .unset, .unset] [(.int (11 : Int32))]))
      obtain ⟨_, _, ⟨T27, L27, k27, n27⟩, -, X27, ⟨Lc27, hQ27, l27, y27, z27⟩, st27⟩ := Jvm.LawKit.callS X0 hx (y := (⟨"com/example/arbora/arbora/sql/ValueTypeEqualExactlyWhenTextsArePinLaw", "pick", "(I)Lcom/example/arbora/arbora/sql/ValueType;"⟩ : MethodName)) hown (mvT hZ (own_w hw 1 rfl)) (mvT hZ (own_w hw 2 rfl)) (mvT hZ (own_w hw 3 rfl)) (mvT hZ (own_w hw 4 rfl)) (by decide) (backOf (W := 0) (rm1 l Z a0 hw [] (11 : Int32) c h0 n0 O0 HS) hZ (own_w hw 4 rfl) (own_w hw 3 rfl) (by decide) (by decide)) (g := (mkF m 9 #[.val (.int p0), .val (.int (11 : Int32)), .unset, .unset, .unset] [(.int (11 : Int32))])) rfl (by rw [hml]; rfl) (argsL := [(.int (11 : Int32))]) (rest := []) (lenOf pd0_0 rfl) rfl (by show 2 * 0 + _ ≤ _; exact Nat.le_of_eq rfl) (hb hby at_9) (fun _ _ => ⟨rfl, e0, (by decide : 0 + 0 ≤ _), (by decide : 0 + 0 ≤ _)⟩)
      dsimp only [Pt.U, Pt.locs, Pt.cells, Pt.slots] at X27 l27 y27 z27 st27 hQ27
      subst l27 y27 z27
      obtain ⟨rfl, Nc27, e27⟩ := hQ27
      have N27 := Fr.app N0 Nc27
      rw [(by decide : fPick (11 : Int32) = 11)] at st27
      refine Go.st st27 ?_
      show Go p e below s _ _ _ (T27.setTop (mkF m 12 #[.val (.int p0), .val (.int (11 : Int32)), .unset, .unset, .unset] [(.ref (c 11))]))
      refine Go.st (fun _ kq_ => XS.astoreN X27.here hx rfl (hb hby at_12) rfl rfl (l' := #[.val (.int p0), .val (.int (11 : Int32)), .val (.ref (c 11)), .unset, .unset]) rfl kq_) ?_
      show Go p e below s _ _ _ (T27.setTop (mkF m 13 #[.val (.int p0), .val (.int (11 : Int32)), .val (.ref (c 11)), .unset, .unset] []))
      refine Go.st (fun _ kq_ => XS.iloadN X27.here hx rfl (hb hby at_13) rfl kq_) ?_
      show Go p e below s _ _ _ (T27.setTop (mkF m 14 #[.val (.int p0), .val (.int (11 : Int32)), .val (.ref (c 11)), .unset, .unset] [(.int (11 : Int32))]))
      refine Go.st (fun _ kq_ => XS.iconst X27.here hx rfl (hb hby at_14) kq_) ?_
      show Go p e below s _ _ _ (T27.setTop (mkF m 15 #[.val (.int p0), .val (.int (11 : Int32)), .val (.ref (c 11)), .unset, .unset] [(.int (3 : Int32)), (.int (11 : Int32))]))
      refine Go.st (fun _ kq_ => XS.icmpNo X27.here hx rfl (hb hby at_15) rfl (by decide) kq_) ?_
      show Go p e below s _ _ _ (T27.setTop (mkF m 18 #[.val (.int p0), .val (.int (11 : Int32)), .val (.ref (c 11)), .unset, .unset] []))
      refine Go.st (fun _ kq_ => XS.iloadN X27.here hx rfl (hb hby at_18) rfl kq_) ?_
      show Go p e below s _ _ _ (T27.setTop (mkF m 19 #[.val (.int p0), .val (.int (11 : Int32)), .val (.ref (c 11)), .unset, .unset] [(.int (11 : Int32))]))
      refine Go.st (fun _ kq_ => XS.bipush X27.here hx rfl (hb hby at_19) kq_) ?_
      show Go p e below s _ _ _ (T27.setTop (mkF m 21 #[.val (.int p0), .val (.int (11 : Int32)), .val (.ref (c 11)), .unset, .unset] [(.int (7 : Int32)), (.int (11 : Int32))]))
      refine Go.st (fun _ kq_ => XS.icmpNo X27.here hx rfl (hb hby at_21) rfl (by decide) kq_) ?_
      show Go p e below s _ _ _ (T27.setTop (mkF m 24 #[.val (.int p0), .val (.int (11 : Int32)), .val (.ref (c 11)), .unset, .unset] []))
      refine Go.st (fun _ kq_ => XS.iloadN X27.here hx rfl (hb hby at_24) rfl kq_) ?_
      show Go p e below s _ _ _ (T27.setTop (mkF m 25 #[.val (.int p0), .val (.int (11 : Int32)), .val (.ref (c 11)), .unset, .unset] [(.int (11 : Int32))]))
      refine Go.st (fun _ kq_ => XS.bipush X27.here hx rfl (hb hby at_25) kq_) ?_
      show Go p e below s _ _ _ (T27.setTop (mkF m 27 #[.val (.int p0), .val (.int (11 : Int32)), .val (.ref (c 11)), .unset, .unset] [(.int (11 : Int32)), (.int (11 : Int32))]))
      refine Go.st (fun _ kq_ => XS.icmpNo X27.here hx rfl (hb hby at_27) rfl (by decide) kq_) ?_
      show Go p e below s _ _ _ (T27.setTop (mkF m 30 #[.val (.int p0), .val (.int (11 : Int32)), .val (.ref (c 11)), .unset, .unset] []))
      refine Go.st (fun _ kq_ => XS.iconst X27.here hx rfl (hb hby at_30) kq_) ?_
      show Go p e below s _ _ _ (T27.setTop (mkF m 31 #[.val (.int p0), .val (.int (11 : Int32)), .val (.ref (c 11)), .unset, .unset] [(.int (1 : Int32))]))
      refine Go.st (fun _ kq_ => XS.goto X27.here hx rfl (pc0 := 31) (pc' := 35) rfl (hb hby at_31) (by decide) (by decide) kq_) ?_
      show Go p e below s _ _ _ (T27.setTop (mkF m 35 #[.val (.int p0), .val (.int (11 : Int32)), .val (.ref (c 11)), .unset, .unset] [(.int (1 : Int32))]))
      refine Go.st (fun _ kq_ => XS.istoreN X27.here hx rfl (hb hby at_35) rfl (l' := #[.val (.int p0), .val (.int (11 : Int32)), .val (.ref (c 11)), .val (.int (1 : Int32)), .unset]) rfl kq_) ?_
      show Go p e below s _ _ _ (T27.setTop (mkF m 36 #[.val (.int p0), .val (.int (11 : Int32)), .val (.ref (c 11)), .val (.int (1 : Int32)), .unset] []))
      refine Go.st (fun _ kq_ => XS.aloadN X27.here hx rfl (hb hby at_36) rfl rfl kq_) ?_
      show Go p e below s _ _ _ (T27.setTop (mkF m 37 #[.val (.int p0), .val (.int (11 : Int32)), .val (.ref (c 11)), .val (.int (1 : Int32)), .unset] [(.ref (c 11))]))
      obtain ⟨cq28, kq28, qa28, qb28, qc28⟩ := isOf hZ e27 ((HS.2.2.2.2.2.2.2.2.2.2.2.2.2.2.1 11 (by decide)).ext O0.2)
      obtain ⟨_, _, ⟨T28, L28, k28, n28⟩, -, X28, ⟨Lc28, hQ28, l28, y28, z28⟩, st28⟩ := X27.virtualBack hx (y := (⟨"com/example/arbora/arbora/sql/ValueType", "equalExactlyWhenTextsAre", "()Z"⟩ : MethodName)) (z := (⟨"com/example/arbora/arbora/sql/ValueType", "equalExactlyWhenTextsAre", "()Z"⟩ : MethodName)) hown (mvT hZ (own_w hw 8 rfl)) (mvT hZ (own_w hw 9 rfl)) (notFace_of_selects (args := #[]) (mvT hZ (own_w hw 11 rfl))) (mvT hZ (own_w hw 11 rfl)) (mvT hZ (own_w hw 10 rfl)) (by decide) (backOf (W := 0) (rm2 l Z a0 hw [] c 11 h0 n0 O0 HS) hZ (own_w hw 12 rfl) (own_w hw 6 rfl) (by decide) (by decide)) qa28 qc28 (g := (mkF m 37 #[.val (.int p0), .val (.int (11 : Int32)), .val (.ref (c 11)), .val (.int (1 : Int32)), .unset] [(.ref (c 11))])) rfl (by rw [hml]; rfl) (Steps.refl _) (argsL := []) (rest := []) (lenOf pd0_1 rfl) rfl (by show 2 * 0 + _ ≤ _; exact Nat.le_of_eq rfl) (hb hby at_37) (fun _ _ => ⟨rfl, e27, (by decide : 0 + 0 ≤ _), (by decide : 0 + 0 ≤ _)⟩)
      dsimp only [Pt.U, Pt.locs, Pt.cells, Pt.slots] at X28 l28 y28 z28 st28 hQ28
      subst l28 y28 z28
      obtain ⟨rfl, Nc28, e28⟩ := hQ28
      have N28 := Fr.app N27 Nc28
      rw [fEq_11 c HS.2.2.2.2.2.2.2.2.2.2.2.2.2.2.2] at st28
      refine Go.tr st28 ?_
      show Go p e below s _ _ _ (T28.setTop (mkF m 40 #[.val (.int p0), .val (.int (11 : Int32)), .val (.ref (c 11)), .val (.int (1 : Int32)), .unset] [(.int (1 : Int32))]))
      refine Go.st (fun _ kq_ => XS.istore X28.here hx rfl (hb hby at_40) rfl (l' := #[.val (.int p0), .val (.int (11 : Int32)), .val (.ref (c 11)), .val (.int (1 : Int32)), .val (.int (1 : Int32))]) rfl kq_) ?_
      show Go p e below s _ _ _ (T28.setTop (mkF m 42 #[.val (.int p0), .val (.int (11 : Int32)), .val (.ref (c 11)), .val (.int (1 : Int32)), .val (.int (1 : Int32))] []))
      refine Go.st (fun _ kq_ => XS.iload X28.here hx rfl (hb hby at_42) rfl kq_) ?_
      show Go p e below s _ _ _ (T28.setTop (mkF m 44 #[.val (.int p0), .val (.int (11 : Int32)), .val (.ref (c 11)), .val (.int (1 : Int32)), .val (.int (1 : Int32))] [(.int (1 : Int32))]))
      refine Go.st (fun _ kq_ => XS.iloadN X28.here hx rfl (hb hby at_44) rfl kq_) ?_
      show Go p e below s _ _ _ (T28.setTop (mkF m 45 #[.val (.int p0), .val (.int (11 : Int32)), .val (.ref (c 11)), .val (.int (1 : Int32)), .val (.int (1 : Int32))] [(.int (1 : Int32)), (.int (1 : Int32))]))
      refine Go.st (fun _ kq_ => XS.icmpYes X28.here hx rfl (pc0 := 45) (pc' := 50) rfl (hb hby at_45) rfl (by decide) (by decide) (by decide) kq_) ?_
      show Go p e below s _ _ _ (T28.setTop (mkF m 50 #[.val (.int p0), .val (.int (11 : Int32)), .val (.ref (c 11)), .val (.int (1 : Int32)), .val (.int (1 : Int32))] []))
      refine Go.st (fun _ kq_ => XS.iload X28.here hx rfl (hb hby at_50) rfl kq_) ?_
      show Go p e below s _ _ _ (T28.setTop (mkF m 52 #[.val (.int p0), .val (.int (11 : Int32)), .val (.ref (c 11)), .val (.int (1 : Int32)), .val (.int (1 : Int32))] [(.int (1 : Int32))]))
      refine Go.st (fun _ kq_ => XS.ifNo X28.here hx rfl (hb hby at_52) rfl (by decide) kq_) ?_
      show Go p e below s _ _ _ (T28.setTop (mkF m 55 #[.val (.int p0), .val (.int (11 : Int32)), .val (.ref (c 11)), .val (.int (1 : Int32)), .val (.int (1 : Int32))] []))
      refine Go.st (fun _ kq_ => XS.aloadN X28.here hx rfl (hb hby at_55) rfl rfl kq_) ?_
      show Go p e below s _ _ _ (T28.setTop (mkF m 56 #[.val (.int p0), .val (.int (11 : Int32)), .val (.ref (c 11)), .val (.int (1 : Int32)), .val (.int (1 : Int32))] [(.ref (c 11))]))
      obtain ⟨cq29, kq29, qa29, qb29, qc29⟩ := isOf hZ e28 ((HS.2.2.2.2.2.2.2.2.2.2.2.2.2.2.1 11 (by decide)).ext O0.2)
      obtain ⟨_, _, ⟨T29, L29, k29, n29⟩, -, X29, ⟨Lc29, hQ29, l29, y29, z29⟩, st29⟩ := X28.virtualBack hx (y := (⟨"com/example/arbora/arbora/sql/ValueType", "sortEqualOnlyWhenTextsAre", "()Z"⟩ : MethodName)) (z := (⟨"com/example/arbora/arbora/sql/ValueType", "sortEqualOnlyWhenTextsAre", "()Z"⟩ : MethodName)) hown (mvT hZ (own_w hw 20 rfl)) (mvT hZ (own_w hw 21 rfl)) (notFace_of_selects (args := #[]) (mvT hZ (own_w hw 23 rfl))) (mvT hZ (own_w hw 23 rfl)) (mvT hZ (own_w hw 22 rfl)) (by decide) (backOf (W := 0) (rm3 l Z a0 hw [] c 11 h0 n0 O0 HS) hZ (own_w hw 24 rfl) (own_w hw 6 rfl) (by decide) (by decide)) qa29 qc29 (g := (mkF m 56 #[.val (.int p0), .val (.int (11 : Int32)), .val (.ref (c 11)), .val (.int (1 : Int32)), .val (.int (1 : Int32))] [(.ref (c 11))])) rfl (by rw [hml]; rfl) (Steps.refl _) (argsL := []) (rest := []) (lenOf pd0_1 rfl) rfl (by show 2 * 0 + _ ≤ _; exact Nat.le_of_eq rfl) (hb hby at_56) (fun _ _ => ⟨rfl, e28, (by decide : 0 + 0 ≤ _), (by decide : 0 + 0 ≤ _)⟩)
      dsimp only [Pt.U, Pt.locs, Pt.cells, Pt.slots] at X29 l29 y29 z29 st29 hQ29
      subst l29 y29 z29
      obtain ⟨rfl, Nc29, e29⟩ := hQ29
      have N29 := Fr.app N28 Nc29
      rw [fSo_11 c HS.2.2.2.2.2.2.2.2.2.2.2.2.2.2.2] at st29
      refine Go.tr st29 ?_
      show Go p e below s _ _ _ (T29.setTop (mkF m 59 #[.val (.int p0), .val (.int (11 : Int32)), .val (.ref (c 11)), .val (.int (1 : Int32)), .val (.int (1 : Int32))] [(.int (1 : Int32))]))
      refine Go.st (fun _ kq_ => XS.ifYes X29.here hx rfl (pc0 := 59) (pc' := 64) rfl (hb hby at_59) rfl (by decide) (by decide) (by decide) kq_) ?_
      show Go p e below s _ _ _ (T29.setTop (mkF m 64 #[.val (.int p0), .val (.int (11 : Int32)), .val (.ref (c 11)), .val (.int (1 : Int32)), .val (.int (1 : Int32))] []))
      refine Go.st (fun _ kq_ => XS.iload X29.here hx rfl (hb hby at_64) rfl kq_) ?_
      show Go p e below s _ _ _ (T29.setTop (mkF m 66 #[.val (.int p0), .val (.int (11 : Int32)), .val (.ref (c 11)), .val (.int (1 : Int32)), .val (.int (1 : Int32))] [(.int (1 : Int32))]))
      refine Go.st (fun _ kq_ => XS.ifNo X29.here hx rfl (hb hby at_66) rfl (by decide) kq_) ?_
      show Go p e below s _ _ _ (T29.setTop (mkF m 69 #[.val (.int p0), .val (.int (11 : Int32)), .val (.ref (c 11)), .val (.int (1 : Int32)), .val (.int (1 : Int32))] []))
      refine Go.st (fun _ kq_ => XS.aloadN X29.here hx rfl (hb hby at_69) rfl rfl kq_) ?_
      show Go p e below s _ _ _ (T29.setTop (mkF m 70 #[.val (.int p0), .val (.int (11 : Int32)), .val (.ref (c 11)), .val (.int (1 : Int32)), .val (.int (1 : Int32))] [(.ref (c 11))]))
      obtain ⟨cq30, kq30, qa30, qb30, qc30⟩ := isOf hZ e29 ((HS.2.2.2.2.2.2.2.2.2.2.2.2.2.2.1 11 (by decide)).ext O0.2)
      obtain ⟨_, _, ⟨T30, L30, k30, n30⟩, -, X30, ⟨Lc30, hQ30, l30, y30, z30⟩, st30⟩ := X29.virtualBack hx (y := (⟨"com/example/arbora/arbora/sql/ValueType", "textMayBeEmpty", "()Z"⟩ : MethodName)) (z := (⟨"com/example/arbora/arbora/sql/ValueType", "textMayBeEmpty", "()Z"⟩ : MethodName)) hown (mvT hZ (own_w hw 29 rfl)) (mvT hZ (own_w hw 30 rfl)) (notFace_of_selects (args := #[]) (mvT hZ (own_w hw 32 rfl))) (mvT hZ (own_w hw 32 rfl)) (mvT hZ (own_w hw 31 rfl)) (by decide) (backOf (W := 0) (rm4 l Z a0 hw [] c 11 h0 n0 O0 HS) hZ (own_w hw 33 rfl) (own_w hw 6 rfl) (by decide) (by decide)) qa30 qc30 (g := (mkF m 70 #[.val (.int p0), .val (.int (11 : Int32)), .val (.ref (c 11)), .val (.int (1 : Int32)), .val (.int (1 : Int32))] [(.ref (c 11))])) rfl (by rw [hml]; rfl) (Steps.refl _) (argsL := []) (rest := []) (lenOf pd0_1 rfl) rfl (by show 2 * 0 + _ ≤ _; exact Nat.le_of_eq rfl) (hb hby at_70) (fun _ _ => ⟨rfl, e29, (by decide : 0 + 0 ≤ _), (by decide : 0 + 0 ≤ _)⟩)
      dsimp only [Pt.U, Pt.locs, Pt.cells, Pt.slots] at X30 l30 y30 z30 st30 hQ30
      subst l30 y30 z30
      obtain ⟨rfl, Nc30, e30⟩ := hQ30
      have N30 := Fr.app N29 Nc30
      rw [fTe_11 c HS.2.2.2.2.2.2.2.2.2.2.2.2.2.2.2] at st30
      refine Go.tr st30 ?_
      show Go p e below s _ _ _ (T30.setTop (mkF m 73 #[.val (.int p0), .val (.int (11 : Int32)), .val (.ref (c 11)), .val (.int (1 : Int32)), .val (.int (1 : Int32))] [(.int (0 : Int32))]))
      refine Go.st (fun _ kq_ => XS.ifYes X30.here hx rfl (pc0 := 73) (pc' := 78) rfl (hb hby at_73) rfl (by decide) (by decide) (by decide) kq_) ?_
      show Go p e below s _ _ _ (T30.setTop (mkF m 78 #[.val (.int p0), .val (.int (11 : Int32)), .val (.ref (c 11)), .val (.int (1 : Int32)), .val (.int (1 : Int32))] []))
      refine Go.st (fun _ kq_ => XS.iconst X30.here hx rfl (hb hby at_78) kq_) ?_
      show Go p e below s _ _ _ (T30.setTop (mkF m 79 #[.val (.int p0), .val (.int (11 : Int32)), .val (.ref (c 11)), .val (.int (1 : Int32)), .val (.int (1 : Int32))] [(.int (1 : Int32))]))
      exact Go.ret X30 hlk (some (.int (nar .boolean (1 : Int32)))) (fun h => by rw [Bd.returns] at h; cases h) (by rw [e30]; exact ⟨rfl, N30⟩) (by decide) (by decide) (fun fs hr => retN X30 hx (t := .boolean) Bd.returns (by simp) (hb hby at_79) hr)
    · show Go p e below s _ _ _ (s₁.setTop (mkF m 7 #[.val (.int p0), .unset, .unset, .unset, .unset] [(.int (12 : Int32))]))
      refine Go.st (fun _ kq_ => XS.istoreN X0.here hx rfl (hb hby at_7) rfl (l' := #[.val (.int p0), .val (.int (12 : Int32)), .unset, .unset, .unset]) rfl kq_) ?_
      show Go p e below s _ _ _ (s₁.setTop (mkF m 8 #[.val (.int p0), .val (.int (12 : Int32)), .unset, .unset, .unset] []))
      refine Go.st (fun _ kq_ => XS.iloadN X0.here hx rfl (hb hby at_8) rfl kq_) ?_
      show Go p e below s _ _ _ (s₁.setTop (mkF m 9 #[.val (.int p0), .val (.int (12 : Int32)), .unset, .unset, .unset] [(.int (12 : Int32))]))
      obtain ⟨_, _, ⟨T31, L31, k31, n31⟩, -, X31, ⟨Lc31, hQ31, l31, y31, z31⟩, st31⟩ := Jvm.LawKit.callS X0 hx (y := (⟨"com/example/arbora/arbora/sql/ValueTypeEqualExactlyWhenTextsArePinLaw", "pick", "(I)Lcom/example/arbora/arbora/sql/ValueType;"⟩ : MethodName)) hown (mvT hZ (own_w hw 1 rfl)) (mvT hZ (own_w hw 2 rfl)) (mvT hZ (own_w hw 3 rfl)) (mvT hZ (own_w hw 4 rfl)) (by decide) (backOf (W := 0) (rm1 l Z a0 hw [] (12 : Int32) c h0 n0 O0 HS) hZ (own_w hw 4 rfl) (own_w hw 3 rfl) (by decide) (by decide)) (g := (mkF m 9 #[.val (.int p0), .val (.int (12 : Int32)), .unset, .unset, .unset] [(.int (12 : Int32))])) rfl (by rw [hml]; rfl) (argsL := [(.int (12 : Int32))]) (rest := []) (lenOf pd0_0 rfl) rfl (by show 2 * 0 + _ ≤ _; exact Nat.le_of_eq rfl) (hb hby at_9) (fun _ _ => ⟨rfl, e0, (by decide : 0 + 0 ≤ _), (by decide : 0 + 0 ≤ _)⟩)
      dsimp only [Pt.U, Pt.locs, Pt.cells, Pt.slots] at X31 l31 y31 z31 st31 hQ31
      subst l31 y31 z31
      obtain ⟨rfl, Nc31, e31⟩ := hQ31
      have N31 := Fr.app N0 Nc31
      rw [(by decide : fPick (12 : Int32) = 12)] at st31
      refine Go.st st31 ?_
      show Go p e below s _ _ _ (T31.setTop (mkF m 12 #[.val (.int p0), .val (.int (12 : Int32)), .unset, .unset, .unset] [(.ref (c 12))]))
      refine Go.st (fun _ kq_ => XS.astoreN X31.here hx rfl (hb hby at_12) rfl rfl (l' := #[.val (.int p0), .val (.int (12 : Int32)), .val (.ref (c 12)), .unset, .unset]) rfl kq_) ?_
      show Go p e below s _ _ _ (T31.setTop (mkF m 13 #[.val (.int p0), .val (.int (12 : Int32)), .val (.ref (c 12)), .unset, .unset] []))
      refine Go.st (fun _ kq_ => XS.iloadN X31.here hx rfl (hb hby at_13) rfl kq_) ?_
      show Go p e below s _ _ _ (T31.setTop (mkF m 14 #[.val (.int p0), .val (.int (12 : Int32)), .val (.ref (c 12)), .unset, .unset] [(.int (12 : Int32))]))
      refine Go.st (fun _ kq_ => XS.iconst X31.here hx rfl (hb hby at_14) kq_) ?_
      show Go p e below s _ _ _ (T31.setTop (mkF m 15 #[.val (.int p0), .val (.int (12 : Int32)), .val (.ref (c 12)), .unset, .unset] [(.int (3 : Int32)), (.int (12 : Int32))]))
      refine Go.st (fun _ kq_ => XS.icmpNo X31.here hx rfl (hb hby at_15) rfl (by decide) kq_) ?_
      show Go p e below s _ _ _ (T31.setTop (mkF m 18 #[.val (.int p0), .val (.int (12 : Int32)), .val (.ref (c 12)), .unset, .unset] []))
      refine Go.st (fun _ kq_ => XS.iloadN X31.here hx rfl (hb hby at_18) rfl kq_) ?_
      show Go p e below s _ _ _ (T31.setTop (mkF m 19 #[.val (.int p0), .val (.int (12 : Int32)), .val (.ref (c 12)), .unset, .unset] [(.int (12 : Int32))]))
      refine Go.st (fun _ kq_ => XS.bipush X31.here hx rfl (hb hby at_19) kq_) ?_
      show Go p e below s _ _ _ (T31.setTop (mkF m 21 #[.val (.int p0), .val (.int (12 : Int32)), .val (.ref (c 12)), .unset, .unset] [(.int (7 : Int32)), (.int (12 : Int32))]))
      refine Go.st (fun _ kq_ => XS.icmpNo X31.here hx rfl (hb hby at_21) rfl (by decide) kq_) ?_
      show Go p e below s _ _ _ (T31.setTop (mkF m 24 #[.val (.int p0), .val (.int (12 : Int32)), .val (.ref (c 12)), .unset, .unset] []))
      refine Go.st (fun _ kq_ => XS.iloadN X31.here hx rfl (hb hby at_24) rfl kq_) ?_
      show Go p e below s _ _ _ (T31.setTop (mkF m 25 #[.val (.int p0), .val (.int (12 : Int32)), .val (.ref (c 12)), .unset, .unset] [(.int (12 : Int32))]))
      refine Go.st (fun _ kq_ => XS.bipush X31.here hx rfl (hb hby at_25) kq_) ?_
      show Go p e below s _ _ _ (T31.setTop (mkF m 27 #[.val (.int p0), .val (.int (12 : Int32)), .val (.ref (c 12)), .unset, .unset] [(.int (11 : Int32)), (.int (12 : Int32))]))
      refine Go.st (fun _ kq_ => XS.icmpYes X31.here hx rfl (pc0 := 27) (pc' := 34) rfl (hb hby at_27) rfl (by decide) (by decide) (by decide) kq_) ?_
      show Go p e below s _ _ _ (T31.setTop (mkF m 34 #[.val (.int p0), .val (.int (12 : Int32)), .val (.ref (c 12)), .unset, .unset] []))
      refine Go.st (fun _ kq_ => XS.iconst X31.here hx rfl (hb hby at_34) kq_) ?_
      show Go p e below s _ _ _ (T31.setTop (mkF m 35 #[.val (.int p0), .val (.int (12 : Int32)), .val (.ref (c 12)), .unset, .unset] [(.int (0 : Int32))]))
      refine Go.st (fun _ kq_ => XS.istoreN X31.here hx rfl (hb hby at_35) rfl (l' := #[.val (.int p0), .val (.int (12 : Int32)), .val (.ref (c 12)), .val (.int (0 : Int32)), .unset]) rfl kq_) ?_
      show Go p e below s _ _ _ (T31.setTop (mkF m 36 #[.val (.int p0), .val (.int (12 : Int32)), .val (.ref (c 12)), .val (.int (0 : Int32)), .unset] []))
      refine Go.st (fun _ kq_ => XS.aloadN X31.here hx rfl (hb hby at_36) rfl rfl kq_) ?_
      show Go p e below s _ _ _ (T31.setTop (mkF m 37 #[.val (.int p0), .val (.int (12 : Int32)), .val (.ref (c 12)), .val (.int (0 : Int32)), .unset] [(.ref (c 12))]))
      obtain ⟨cq32, kq32, qa32, qb32, qc32⟩ := isOf hZ e31 ((HS.2.2.2.2.2.2.2.2.2.2.2.2.2.2.1 12 (by decide)).ext O0.2)
      obtain ⟨_, _, ⟨T32, L32, k32, n32⟩, -, X32, ⟨Lc32, hQ32, l32, y32, z32⟩, st32⟩ := X31.virtualBack hx (y := (⟨"com/example/arbora/arbora/sql/ValueType", "equalExactlyWhenTextsAre", "()Z"⟩ : MethodName)) (z := (⟨"com/example/arbora/arbora/sql/ValueType", "equalExactlyWhenTextsAre", "()Z"⟩ : MethodName)) hown (mvT hZ (own_w hw 8 rfl)) (mvT hZ (own_w hw 9 rfl)) (notFace_of_selects (args := #[]) (mvT hZ (own_w hw 11 rfl))) (mvT hZ (own_w hw 11 rfl)) (mvT hZ (own_w hw 10 rfl)) (by decide) (backOf (W := 0) (rm2 l Z a0 hw [] c 12 h0 n0 O0 HS) hZ (own_w hw 12 rfl) (own_w hw 6 rfl) (by decide) (by decide)) qa32 qc32 (g := (mkF m 37 #[.val (.int p0), .val (.int (12 : Int32)), .val (.ref (c 12)), .val (.int (0 : Int32)), .unset] [(.ref (c 12))])) rfl (by rw [hml]; rfl) (Steps.refl _) (argsL := []) (rest := []) (lenOf pd0_1 rfl) rfl (by show 2 * 0 + _ ≤ _; exact Nat.le_of_eq rfl) (hb hby at_37) (fun _ _ => ⟨rfl, e31, (by decide : 0 + 0 ≤ _), (by decide : 0 + 0 ≤ _)⟩)
      dsimp only [Pt.U, Pt.locs, Pt.cells, Pt.slots] at X32 l32 y32 z32 st32 hQ32
      subst l32 y32 z32
      obtain ⟨rfl, Nc32, e32⟩ := hQ32
      have N32 := Fr.app N31 Nc32
      rw [fEq_12 c HS.2.2.2.2.2.2.2.2.2.2.2.2.2.2.2] at st32
      refine Go.tr st32 ?_
      show Go p e below s _ _ _ (T32.setTop (mkF m 40 #[.val (.int p0), .val (.int (12 : Int32)), .val (.ref (c 12)), .val (.int (0 : Int32)), .unset] [(.int (0 : Int32))]))
      refine Go.st (fun _ kq_ => XS.istore X32.here hx rfl (hb hby at_40) rfl (l' := #[.val (.int p0), .val (.int (12 : Int32)), .val (.ref (c 12)), .val (.int (0 : Int32)), .val (.int (0 : Int32))]) rfl kq_) ?_
      show Go p e below s _ _ _ (T32.setTop (mkF m 42 #[.val (.int p0), .val (.int (12 : Int32)), .val (.ref (c 12)), .val (.int (0 : Int32)), .val (.int (0 : Int32))] []))
      refine Go.st (fun _ kq_ => XS.iload X32.here hx rfl (hb hby at_42) rfl kq_) ?_
      show Go p e below s _ _ _ (T32.setTop (mkF m 44 #[.val (.int p0), .val (.int (12 : Int32)), .val (.ref (c 12)), .val (.int (0 : Int32)), .val (.int (0 : Int32))] [(.int (0 : Int32))]))
      refine Go.st (fun _ kq_ => XS.iloadN X32.here hx rfl (hb hby at_44) rfl kq_) ?_
      show Go p e below s _ _ _ (T32.setTop (mkF m 45 #[.val (.int p0), .val (.int (12 : Int32)), .val (.ref (c 12)), .val (.int (0 : Int32)), .val (.int (0 : Int32))] [(.int (0 : Int32)), (.int (0 : Int32))]))
      refine Go.st (fun _ kq_ => XS.icmpYes X32.here hx rfl (pc0 := 45) (pc' := 50) rfl (hb hby at_45) rfl (by decide) (by decide) (by decide) kq_) ?_
      show Go p e below s _ _ _ (T32.setTop (mkF m 50 #[.val (.int p0), .val (.int (12 : Int32)), .val (.ref (c 12)), .val (.int (0 : Int32)), .val (.int (0 : Int32))] []))
      refine Go.st (fun _ kq_ => XS.iload X32.here hx rfl (hb hby at_50) rfl kq_) ?_
      show Go p e below s _ _ _ (T32.setTop (mkF m 52 #[.val (.int p0), .val (.int (12 : Int32)), .val (.ref (c 12)), .val (.int (0 : Int32)), .val (.int (0 : Int32))] [(.int (0 : Int32))]))
      refine Go.st (fun _ kq_ => XS.ifYes X32.here hx rfl (pc0 := 52) (pc' := 64) rfl (hb hby at_52) rfl (by decide) (by decide) (by decide) kq_) ?_
      show Go p e below s _ _ _ (T32.setTop (mkF m 64 #[.val (.int p0), .val (.int (12 : Int32)), .val (.ref (c 12)), .val (.int (0 : Int32)), .val (.int (0 : Int32))] []))
      refine Go.st (fun _ kq_ => XS.iload X32.here hx rfl (hb hby at_64) rfl kq_) ?_
      show Go p e below s _ _ _ (T32.setTop (mkF m 66 #[.val (.int p0), .val (.int (12 : Int32)), .val (.ref (c 12)), .val (.int (0 : Int32)), .val (.int (0 : Int32))] [(.int (0 : Int32))]))
      refine Go.st (fun _ kq_ => XS.ifYes X32.here hx rfl (pc0 := 66) (pc' := 78) rfl (hb hby at_66) rfl (by decide) (by decide) (by decide) kq_) ?_
      show Go p e below s _ _ _ (T32.setTop (mkF m 78 #[.val (.int p0), .val (.int (12 : Int32)), .val (.ref (c 12)), .val (.int (0 : Int32)), .val (.int (0 : Int32))] []))
      refine Go.st (fun _ kq_ => XS.iconst X32.here hx rfl (hb hby at_78) kq_) ?_
      show Go p e below s _ _ _ (T32.setTop (mkF m 79 #[.val (.int p0), .val (.int (12 : Int32)), .val (.ref (c 12)), .val (.int (0 : Int32)), .val (.int (0 : Int32))] [(.int (1 : Int32))]))
      exact Go.ret X32 hlk (some (.int (nar .boolean (1 : Int32)))) (fun h => by rw [Bd.returns] at h; cases h) (by rw [e32]; exact ⟨rfl, N32⟩) (by decide) (by decide) (fun fs hr => retN X32 hx (t := .boolean) Bd.returns (by simp) (hb hby at_79) hr)
    · show Go p e below s _ _ _ (s₁.setTop (mkF m 7 #[.val (.int p0), .unset, .unset, .unset, .unset] [(.int (13 : Int32))]))
      refine Go.st (fun _ kq_ => XS.istoreN X0.here hx rfl (hb hby at_7) rfl (l' := #[.val (.int p0), .val (.int (13 : Int32)), .unset, .unset, .unset]) rfl kq_) ?_
      show Go p e below s _ _ _ (s₁.setTop (mkF m 8 #[.val (.int p0), .val (.int (13 : Int32)), .unset, .unset, .unset] []))
      refine Go.st (fun _ kq_ => XS.iloadN X0.here hx rfl (hb hby at_8) rfl kq_) ?_
      show Go p e below s _ _ _ (s₁.setTop (mkF m 9 #[.val (.int p0), .val (.int (13 : Int32)), .unset, .unset, .unset] [(.int (13 : Int32))]))
      obtain ⟨_, _, ⟨T33, L33, k33, n33⟩, -, X33, ⟨Lc33, hQ33, l33, y33, z33⟩, st33⟩ := Jvm.LawKit.callS X0 hx (y := (⟨"com/example/arbora/arbora/sql/ValueTypeEqualExactlyWhenTextsArePinLaw", "pick", "(I)Lcom/example/arbora/arbora/sql/ValueType;"⟩ : MethodName)) hown (mvT hZ (own_w hw 1 rfl)) (mvT hZ (own_w hw 2 rfl)) (mvT hZ (own_w hw 3 rfl)) (mvT hZ (own_w hw 4 rfl)) (by decide) (backOf (W := 0) (rm1 l Z a0 hw [] (13 : Int32) c h0 n0 O0 HS) hZ (own_w hw 4 rfl) (own_w hw 3 rfl) (by decide) (by decide)) (g := (mkF m 9 #[.val (.int p0), .val (.int (13 : Int32)), .unset, .unset, .unset] [(.int (13 : Int32))])) rfl (by rw [hml]; rfl) (argsL := [(.int (13 : Int32))]) (rest := []) (lenOf pd0_0 rfl) rfl (by show 2 * 0 + _ ≤ _; exact Nat.le_of_eq rfl) (hb hby at_9) (fun _ _ => ⟨rfl, e0, (by decide : 0 + 0 ≤ _), (by decide : 0 + 0 ≤ _)⟩)
      dsimp only [Pt.U, Pt.locs, Pt.cells, Pt.slots] at X33 l33 y33 z33 st33 hQ33
      subst l33 y33 z33
      obtain ⟨rfl, Nc33, e33⟩ := hQ33
      have N33 := Fr.app N0 Nc33
      rw [(by decide : fPick (13 : Int32) = 13)] at st33
      refine Go.st st33 ?_
      show Go p e below s _ _ _ (T33.setTop (mkF m 12 #[.val (.int p0), .val (.int (13 : Int32)), .unset, .unset, .unset] [(.ref (c 13))]))
      refine Go.st (fun _ kq_ => XS.astoreN X33.here hx rfl (hb hby at_12) rfl rfl (l' := #[.val (.int p0), .val (.int (13 : Int32)), .val (.ref (c 13)), .unset, .unset]) rfl kq_) ?_
      show Go p e below s _ _ _ (T33.setTop (mkF m 13 #[.val (.int p0), .val (.int (13 : Int32)), .val (.ref (c 13)), .unset, .unset] []))
      refine Go.st (fun _ kq_ => XS.iloadN X33.here hx rfl (hb hby at_13) rfl kq_) ?_
      show Go p e below s _ _ _ (T33.setTop (mkF m 14 #[.val (.int p0), .val (.int (13 : Int32)), .val (.ref (c 13)), .unset, .unset] [(.int (13 : Int32))]))
      refine Go.st (fun _ kq_ => XS.iconst X33.here hx rfl (hb hby at_14) kq_) ?_
      show Go p e below s _ _ _ (T33.setTop (mkF m 15 #[.val (.int p0), .val (.int (13 : Int32)), .val (.ref (c 13)), .unset, .unset] [(.int (3 : Int32)), (.int (13 : Int32))]))
      refine Go.st (fun _ kq_ => XS.icmpNo X33.here hx rfl (hb hby at_15) rfl (by decide) kq_) ?_
      show Go p e below s _ _ _ (T33.setTop (mkF m 18 #[.val (.int p0), .val (.int (13 : Int32)), .val (.ref (c 13)), .unset, .unset] []))
      refine Go.st (fun _ kq_ => XS.iloadN X33.here hx rfl (hb hby at_18) rfl kq_) ?_
      show Go p e below s _ _ _ (T33.setTop (mkF m 19 #[.val (.int p0), .val (.int (13 : Int32)), .val (.ref (c 13)), .unset, .unset] [(.int (13 : Int32))]))
      refine Go.st (fun _ kq_ => XS.bipush X33.here hx rfl (hb hby at_19) kq_) ?_
      show Go p e below s _ _ _ (T33.setTop (mkF m 21 #[.val (.int p0), .val (.int (13 : Int32)), .val (.ref (c 13)), .unset, .unset] [(.int (7 : Int32)), (.int (13 : Int32))]))
      refine Go.st (fun _ kq_ => XS.icmpNo X33.here hx rfl (hb hby at_21) rfl (by decide) kq_) ?_
      show Go p e below s _ _ _ (T33.setTop (mkF m 24 #[.val (.int p0), .val (.int (13 : Int32)), .val (.ref (c 13)), .unset, .unset] []))
      refine Go.st (fun _ kq_ => XS.iloadN X33.here hx rfl (hb hby at_24) rfl kq_) ?_
      show Go p e below s _ _ _ (T33.setTop (mkF m 25 #[.val (.int p0), .val (.int (13 : Int32)), .val (.ref (c 13)), .unset, .unset] [(.int (13 : Int32))]))
      refine Go.st (fun _ kq_ => XS.bipush X33.here hx rfl (hb hby at_25) kq_) ?_
      show Go p e below s _ _ _ (T33.setTop (mkF m 27 #[.val (.int p0), .val (.int (13 : Int32)), .val (.ref (c 13)), .unset, .unset] [(.int (11 : Int32)), (.int (13 : Int32))]))
      refine Go.st (fun _ kq_ => XS.icmpYes X33.here hx rfl (pc0 := 27) (pc' := 34) rfl (hb hby at_27) rfl (by decide) (by decide) (by decide) kq_) ?_
      show Go p e below s _ _ _ (T33.setTop (mkF m 34 #[.val (.int p0), .val (.int (13 : Int32)), .val (.ref (c 13)), .unset, .unset] []))
      refine Go.st (fun _ kq_ => XS.iconst X33.here hx rfl (hb hby at_34) kq_) ?_
      show Go p e below s _ _ _ (T33.setTop (mkF m 35 #[.val (.int p0), .val (.int (13 : Int32)), .val (.ref (c 13)), .unset, .unset] [(.int (0 : Int32))]))
      refine Go.st (fun _ kq_ => XS.istoreN X33.here hx rfl (hb hby at_35) rfl (l' := #[.val (.int p0), .val (.int (13 : Int32)), .val (.ref (c 13)), .val (.int (0 : Int32)), .unset]) rfl kq_) ?_
      show Go p e below s _ _ _ (T33.setTop (mkF m 36 #[.val (.int p0), .val (.int (13 : Int32)), .val (.ref (c 13)), .val (.int (0 : Int32)), .unset] []))
      refine Go.st (fun _ kq_ => XS.aloadN X33.here hx rfl (hb hby at_36) rfl rfl kq_) ?_
      show Go p e below s _ _ _ (T33.setTop (mkF m 37 #[.val (.int p0), .val (.int (13 : Int32)), .val (.ref (c 13)), .val (.int (0 : Int32)), .unset] [(.ref (c 13))]))
      obtain ⟨cq34, kq34, qa34, qb34, qc34⟩ := isOf hZ e33 ((HS.2.2.2.2.2.2.2.2.2.2.2.2.2.2.1 13 (by decide)).ext O0.2)
      obtain ⟨_, _, ⟨T34, L34, k34, n34⟩, -, X34, ⟨Lc34, hQ34, l34, y34, z34⟩, st34⟩ := X33.virtualBack hx (y := (⟨"com/example/arbora/arbora/sql/ValueType", "equalExactlyWhenTextsAre", "()Z"⟩ : MethodName)) (z := (⟨"com/example/arbora/arbora/sql/ValueType", "equalExactlyWhenTextsAre", "()Z"⟩ : MethodName)) hown (mvT hZ (own_w hw 8 rfl)) (mvT hZ (own_w hw 9 rfl)) (notFace_of_selects (args := #[]) (mvT hZ (own_w hw 11 rfl))) (mvT hZ (own_w hw 11 rfl)) (mvT hZ (own_w hw 10 rfl)) (by decide) (backOf (W := 0) (rm2 l Z a0 hw [] c 13 h0 n0 O0 HS) hZ (own_w hw 12 rfl) (own_w hw 6 rfl) (by decide) (by decide)) qa34 qc34 (g := (mkF m 37 #[.val (.int p0), .val (.int (13 : Int32)), .val (.ref (c 13)), .val (.int (0 : Int32)), .unset] [(.ref (c 13))])) rfl (by rw [hml]; rfl) (Steps.refl _) (argsL := []) (rest := []) (lenOf pd0_1 rfl) rfl (by show 2 * 0 + _ ≤ _; exact Nat.le_of_eq rfl) (hb hby at_37) (fun _ _ => ⟨rfl, e33, (by decide : 0 + 0 ≤ _), (by decide : 0 + 0 ≤ _)⟩)
      dsimp only [Pt.U, Pt.locs, Pt.cells, Pt.slots] at X34 l34 y34 z34 st34 hQ34
      subst l34 y34 z34
      obtain ⟨rfl, Nc34, e34⟩ := hQ34
      have N34 := Fr.app N33 Nc34
      rw [fEq_13 c HS.2.2.2.2.2.2.2.2.2.2.2.2.2.2.2] at st34
      refine Go.tr st34 ?_
      show Go p e below s _ _ _ (T34.setTop (mkF m 40 #[.val (.int p0), .val (.int (13 : Int32)), .val (.ref (c 13)), .val (.int (0 : Int32)), .unset] [(.int (0 : Int32))]))
      refine Go.st (fun _ kq_ => XS.istore X34.here hx rfl (hb hby at_40) rfl (l' := #[.val (.int p0), .val (.int (13 : Int32)), .val (.ref (c 13)), .val (.int (0 : Int32)), .val (.int (0 : Int32))]) rfl kq_) ?_
      show Go p e below s _ _ _ (T34.setTop (mkF m 42 #[.val (.int p0), .val (.int (13 : Int32)), .val (.ref (c 13)), .val (.int (0 : Int32)), .val (.int (0 : Int32))] []))
      refine Go.st (fun _ kq_ => XS.iload X34.here hx rfl (hb hby at_42) rfl kq_) ?_
      show Go p e below s _ _ _ (T34.setTop (mkF m 44 #[.val (.int p0), .val (.int (13 : Int32)), .val (.ref (c 13)), .val (.int (0 : Int32)), .val (.int (0 : Int32))] [(.int (0 : Int32))]))
      refine Go.st (fun _ kq_ => XS.iloadN X34.here hx rfl (hb hby at_44) rfl kq_) ?_
      show Go p e below s _ _ _ (T34.setTop (mkF m 45 #[.val (.int p0), .val (.int (13 : Int32)), .val (.ref (c 13)), .val (.int (0 : Int32)), .val (.int (0 : Int32))] [(.int (0 : Int32)), (.int (0 : Int32))]))
      refine Go.st (fun _ kq_ => XS.icmpYes X34.here hx rfl (pc0 := 45) (pc' := 50) rfl (hb hby at_45) rfl (by decide) (by decide) (by decide) kq_) ?_
      show Go p e below s _ _ _ (T34.setTop (mkF m 50 #[.val (.int p0), .val (.int (13 : Int32)), .val (.ref (c 13)), .val (.int (0 : Int32)), .val (.int (0 : Int32))] []))
      refine Go.st (fun _ kq_ => XS.iload X34.here hx rfl (hb hby at_50) rfl kq_) ?_
      show Go p e below s _ _ _ (T34.setTop (mkF m 52 #[.val (.int p0), .val (.int (13 : Int32)), .val (.ref (c 13)), .val (.int (0 : Int32)), .val (.int (0 : Int32))] [(.int (0 : Int32))]))
      refine Go.st (fun _ kq_ => XS.ifYes X34.here hx rfl (pc0 := 52) (pc' := 64) rfl (hb hby at_52) rfl (by decide) (by decide) (by decide) kq_) ?_
      show Go p e below s _ _ _ (T34.setTop (mkF m 64 #[.val (.int p0), .val (.int (13 : Int32)), .val (.ref (c 13)), .val (.int (0 : Int32)), .val (.int (0 : Int32))] []))
      refine Go.st (fun _ kq_ => XS.iload X34.here hx rfl (hb hby at_64) rfl kq_) ?_
      show Go p e below s _ _ _ (T34.setTop (mkF m 66 #[.val (.int p0), .val (.int (13 : Int32)), .val (.ref (c 13)), .val (.int (0 : Int32)), .val (.int (0 : Int32))] [(.int (0 : Int32))]))
      refine Go.st (fun _ kq_ => XS.ifYes X34.here hx rfl (pc0 := 66) (pc' := 78) rfl (hb hby at_66) rfl (by decide) (by decide) (by decide) kq_) ?_
      show Go p e below s _ _ _ (T34.setTop (mkF m 78 #[.val (.int p0), .val (.int (13 : Int32)), .val (.ref (c 13)), .val (.int (0 : Int32)), .val (.int (0 : Int32))] []))
      refine Go.st (fun _ kq_ => XS.iconst X34.here hx rfl (hb hby at_78) kq_) ?_
      show Go p e below s _ _ _ (T34.setTop (mkF m 79 #[.val (.int p0), .val (.int (13 : Int32)), .val (.ref (c 13)), .val (.int (0 : Int32)), .val (.int (0 : Int32))] [(.int (1 : Int32))]))
      exact Go.ret X34 hlk (some (.int (nar .boolean (1 : Int32)))) (fun h => by rw [Bd.returns] at h; cases h) (by rw [e34]; exact ⟨rfl, N34⟩) (by decide) (by decide) (fun fs hr => retN X34 hx (t := .boolean) Bd.returns (by simp) (hb hby at_79) hr)
  obtain ⟨s2, o2, st2, r2⟩ := G
  exact ⟨s2, o2, castTop (ef0 m p0) st2, r2⟩
set_option maxRecDepth 65536 in
set_option maxHeartbeats 40000000 in
theorem comes_1 {Post : Tables → Env → Array Value → State → Outcome → State → Prop} (hpost : ∀ tb e args s v u, (limb_1_1.after args s (.returned v) u = true ∧ limb_1_2.after args s (.returned v) u = true ∧ True) → FrameEnd s (.returned v) u (Jvm.fieldLocs frame_1_writes args s ++ Jvm.arrayLocs frame_1_arrays args s ++ Jvm.staticLocs frame_1_statics s) 0 0 → Post tb e args s (.returned v) u) :
    ArmFor flags0 classFile x code maxLocals ret World_1 tables_1 room_1 Calls_1 rest_1 Pre_1 Post := by
  intro l hfl _ _ p e ha hc hk s m args below hf hA hF happ hP
  obtain ⟨hcalls, hrest, hpre⟩ := hP
  obtain ⟨-, -, -, hnamed, -, -, -, hat⟩ := (Spec.applies_iff hf).mp happ
  obtain ⟨hg, hn⟩ := and_e (Cond.before_iff.mp (show (Jvm.Cond.and given_1 narrow_1).before args s = true from hpre))
  obtain ⟨h1, r1⟩ := and_e hg
  obtain ⟨w0, rfl⟩ : ∃ w0 : Value, args = #[w0] := by
    have hs : args.size = 1 := by simpa [Cond.value, given_1] using h1
    obtain ⟨L⟩ := args
    match L, hs with
    | [w0], _ => exact ⟨w0, rfl⟩
  have hw := fun d (hd : d ∈ tables_1) => atoms_spec (ws := Jvm.Cond.code x code maxLocals ret :: tables_1) hat d (List.mem_cons_of_mem _ hd)
  have hfit : Fit s := fun {y c} hc i hi => by
    obtain ⟨ha, rfl⟩ := Array.getElem?_eq_some_iff.mp hc
    have q := List.all_eq_true.mp ((Array.all_eq_true_iff_forall_mem.mp hF) _ (Array.getElem_mem ha)) i (List.mem_range.mpr hi)
    simpa [Array.getElem?_eq_getElem hi] using q
  obtain ⟨i0, ei0⟩ := is_v r1
  obtain rfl : w0 = (.int i0) := Option.some.inj ei0
  obtain ⟨q0, hn0⟩ := and_e hn
  obtain ⟨q1, hn1⟩ := and_e hn0
  obtain ⟨q2, hn2⟩ := and_e hn1
  obtain ⟨q3, hn3⟩ := and_e hn2
  obtain ⟨q4, hn4⟩ := and_e hn3
  obtain ⟨q5, hn5⟩ := and_e hn4
  obtain ⟨q6, hn6⟩ := and_e hn5
  obtain ⟨q7, hn7⟩ := and_e hn6
  obtain ⟨q8, hn8⟩ := and_e hn7
  obtain ⟨q9, hn9⟩ := and_e hn8
  obtain ⟨q10, hn10⟩ := and_e hn9
  obtain ⟨q11, hn11⟩ := and_e hn10
  obtain ⟨q12, hn12⟩ := and_e hn11
  obtain ⟨q13, hn13⟩ := and_e hn12
  obtain ⟨q14, hn14⟩ := and_e hn13
  obtain ⟨q15, hn15⟩ := and_e hn14
  obtain ⟨q16, hn16⟩ := and_e hn15
  obtain ⟨q17, hn17⟩ := and_e hn16
  obtain ⟨q18, hn18⟩ := and_e hn17
  obtain ⟨q19, hn19⟩ := and_e hn18
  obtain ⟨q20, hn20⟩ := and_e hn19
  obtain ⟨q21, hn21⟩ := and_e hn20
  obtain ⟨q22, hn22⟩ := and_e hn21
  obtain ⟨q23, hn23⟩ := and_e hn22
  obtain ⟨q24, hn24⟩ := and_e hn23
  obtain ⟨q25, hn25⟩ := and_e hn24
  obtain ⟨q26, hn26⟩ := and_e hn25
  have q27 := hn26
  obtain ⟨a_STRING, v_STRING⟩ := exa_v q0
  have S_STRING : Sta s s.heap "com/example/arbora/arbora/sql/ValueType" "STRING" "Lcom/example/arbora/arbora/sql/ValueType;" (.ref a_STRING) := Sta.start v_STRING (Or.inr ⟨own_w hw 6 rfl, own_w hw 7 rfl⟩)
  have E_STRING : Exa s s.heap a_STRING "com/example/arbora/arbora/sql/ValueType" := Exa.start v_STRING q0
  obtain ⟨a_INTEGER, v_INTEGER⟩ := exa_v q1
  have S_INTEGER : Sta s s.heap "com/example/arbora/arbora/sql/ValueType" "INTEGER" "Lcom/example/arbora/arbora/sql/ValueType;" (.ref a_INTEGER) := Sta.start v_INTEGER (Or.inr ⟨own_w hw 6 rfl, own_w hw 14 rfl⟩)
  have E_INTEGER : Exa s s.heap a_INTEGER "com/example/arbora/arbora/sql/ValueType" := Exa.start v_INTEGER q1
  obtain ⟨a_DATE, v_DATE⟩ := exa_v q4
  have S_DATE : Sta s s.heap "com/example/arbora/arbora/sql/ValueType" "DATE" "Lcom/example/arbora/arbora/sql/ValueType;" (.ref a_DATE) := Sta.start v_DATE (Or.inr ⟨own_w hw 6 rfl, own_w hw 16 rfl⟩)
  have E_DATE : Exa s s.heap a_DATE "com/example/arbora/arbora/sql/ValueType" := Exa.start v_DATE q4
  obtain ⟨a_UUID, v_UUID⟩ := exa_v q6
  have S_UUID : Sta s s.heap "com/example/arbora/arbora/sql/ValueType" "UUID" "Lcom/example/arbora/arbora/sql/ValueType;" (.ref a_UUID) := Sta.start v_UUID (Or.inr ⟨own_w hw 6 rfl, own_w hw 18 rfl⟩)
  have E_UUID : Exa s s.heap a_UUID "com/example/arbora/arbora/sql/ValueType" := Exa.start v_UUID q6
  obtain ⟨a_DECIMAL, v_DECIMAL⟩ := exa_v q8
  have S_DECIMAL : Sta s s.heap "com/example/arbora/arbora/sql/ValueType" "DECIMAL" "Lcom/example/arbora/arbora/sql/ValueType;" (.ref a_DECIMAL) := Sta.start v_DECIMAL (Or.inr ⟨own_w hw 6 rfl, own_w hw 26 rfl⟩)
  have E_DECIMAL : Exa s s.heap a_DECIMAL "com/example/arbora/arbora/sql/ValueType" := Exa.start v_DECIMAL q8
  obtain ⟨a_FLOATING_POINT, v_FLOATING_POINT⟩ := exa_v q10
  have S_FLOATING_POINT : Sta s s.heap "com/example/arbora/arbora/sql/ValueType" "FLOATING_POINT" "Lcom/example/arbora/arbora/sql/ValueType;" (.ref a_FLOATING_POINT) := Sta.start v_FLOATING_POINT (Or.inr ⟨own_w hw 6 rfl, own_w hw 28 rfl⟩)
  have E_FLOATING_POINT : Exa s s.heap a_FLOATING_POINT "com/example/arbora/arbora/sql/ValueType" := Exa.start v_FLOATING_POINT q10
  obtain ⟨a_FIXED_STRING, v_FIXED_STRING⟩ := exa_v q12
  have S_FIXED_STRING : Sta s s.heap "com/example/arbora/arbora/sql/ValueType" "FIXED_STRING" "Lcom/example/arbora/arbora/sql/ValueType;" (.ref a_FIXED_STRING) := Sta.start v_FIXED_STRING (Or.inr ⟨own_w hw 6 rfl, own_w hw 36 rfl⟩)
  have E_FIXED_STRING : Exa s s.heap a_FIXED_STRING "com/example/arbora/arbora/sql/ValueType" := Exa.start v_FIXED_STRING q12
  obtain ⟨a_LABEL, v_LABEL⟩ := exa_v q14
  have S_LABEL : Sta s s.heap "com/example/arbora/arbora/sql/ValueType" "LABEL" "Lcom/example/arbora/arbora/sql/ValueType;" (.ref a_LABEL) := Sta.start v_LABEL (Or.inr ⟨own_w hw 6 rfl, own_w hw 38 rfl⟩)
  have E_LABEL : Exa s s.heap a_LABEL "com/example/arbora/arbora/sql/ValueType" := Exa.start v_LABEL q14
  obtain ⟨a_BINARY, v_BINARY⟩ := exa_v q16
  have S_BINARY : Sta s s.heap "com/example/arbora/arbora/sql/ValueType" "BINARY" "Lcom/example/arbora/arbora/sql/ValueType;" (.ref a_BINARY) := Sta.start v_BINARY (Or.inr ⟨own_w hw 6 rfl, own_w hw 40 rfl⟩)
  have E_BINARY : Exa s s.heap a_BINARY "com/example/arbora/arbora/sql/ValueType" := Exa.start v_BINARY q16
  obtain ⟨a_TIME, v_TIME⟩ := exa_v q18
  have S_TIME : Sta s s.heap "com/example/arbora/arbora/sql/ValueType" "TIME" "Lcom/example/arbora/arbora/sql/ValueType;" (.ref a_TIME) := Sta.start v_TIME (Or.inr ⟨own_w hw 6 rfl, own_w hw 42 rfl⟩)
  have E_TIME : Exa s s.heap a_TIME "com/example/arbora/arbora/sql/ValueType" := Exa.start v_TIME q18
  obtain ⟨a_UNSUPPORTED, v_UNSUPPORTED⟩ := exa_v q20
  have S_UNSUPPORTED : Sta s s.heap "com/example/arbora/arbora/sql/ValueType" "UNSUPPORTED" "Lcom/example/arbora/arbora/sql/ValueType;" (.ref a_UNSUPPORTED) := Sta.start v_UNSUPPORTED (Or.inr ⟨own_w hw 6 rfl, own_w hw 44 rfl⟩)
  have E_UNSUPPORTED : Exa s s.heap a_UNSUPPORTED "com/example/arbora/arbora/sql/ValueType" := Exa.start v_UNSUPPORTED q20
  obtain ⟨a_TIMESTAMP, v_TIMESTAMP⟩ := exa_v q22
  have S_TIMESTAMP : Sta s s.heap "com/example/arbora/arbora/sql/ValueType" "TIMESTAMP" "Lcom/example/arbora/arbora/sql/ValueType;" (.ref a_TIMESTAMP) := Sta.start v_TIMESTAMP (Or.inr ⟨own_w hw 6 rfl, own_w hw 51 rfl⟩)
  have E_TIMESTAMP : Exa s s.heap a_TIMESTAMP "com/example/arbora/arbora/sql/ValueType" := Exa.start v_TIMESTAMP q22
  obtain ⟨a_TIMESTAMP_WITH_TIME_ZONE, v_TIMESTAMP_WITH_TIME_ZONE⟩ := exa_v q24
  have S_TIMESTAMP_WITH_TIME_ZONE : Sta s s.heap "com/example/arbora/arbora/sql/ValueType" "TIMESTAMP_WITH_TIME_ZONE" "Lcom/example/arbora/arbora/sql/ValueType;" (.ref a_TIMESTAMP_WITH_TIME_ZONE) := Sta.start v_TIMESTAMP_WITH_TIME_ZONE (Or.inr ⟨own_w hw 6 rfl, own_w hw 54 rfl⟩)
  have E_TIMESTAMP_WITH_TIME_ZONE : Exa s s.heap a_TIMESTAMP_WITH_TIME_ZONE "com/example/arbora/arbora/sql/ValueType" := Exa.start v_TIMESTAMP_WITH_TIME_ZONE q24
  obtain ⟨a_BOOLEAN, v_BOOLEAN⟩ := exa_v q26
  have S_BOOLEAN : Sta s s.heap "com/example/arbora/arbora/sql/ValueType" "BOOLEAN" "Lcom/example/arbora/arbora/sql/ValueType;" (.ref a_BOOLEAN) := Sta.start v_BOOLEAN (Or.inr ⟨own_w hw 6 rfl, own_w hw 57 rfl⟩)
  have E_BOOLEAN : Exa s s.heap a_BOOLEAN "com/example/arbora/arbora/sql/ValueType" := Exa.start v_BOOLEAN q26
  have F_STRING_ordinal : Fld s s.heap a_STRING "java/lang/Enum" "ordinal" "I" (.int 0) := own_fld v_STRING q2
  have F_INTEGER_ordinal : Fld s s.heap a_INTEGER "java/lang/Enum" "ordinal" "I" (.int 3) := own_fld v_INTEGER q3
  have F_DATE_ordinal : Fld s s.heap a_DATE "java/lang/Enum" "ordinal" "I" (.int 7) := own_fld v_DATE q5
  have F_UUID_ordinal : Fld s s.heap a_UUID "java/lang/Enum" "ordinal" "I" (.int 11) := own_fld v_UUID q7
  have F_DECIMAL_ordinal : Fld s s.heap a_DECIMAL "java/lang/Enum" "ordinal" "I" (.int 4) := own_fld v_DECIMAL q9
  have F_FLOATING_POINT_ordinal : Fld s s.heap a_FLOATING_POINT "java/lang/Enum" "ordinal" "I" (.int 5) := own_fld v_FLOATING_POINT q11
  have F_FIXED_STRING_ordinal : Fld s s.heap a_FIXED_STRING "java/lang/Enum" "ordinal" "I" (.int 1) := own_fld v_FIXED_STRING q13
  have F_LABEL_ordinal : Fld s s.heap a_LABEL "java/lang/Enum" "ordinal" "I" (.int 2) := own_fld v_LABEL q15
  have F_BINARY_ordinal : Fld s s.heap a_BINARY "java/lang/Enum" "ordinal" "I" (.int 10) := own_fld v_BINARY q17
  have F_TIME_ordinal : Fld s s.heap a_TIME "java/lang/Enum" "ordinal" "I" (.int 12) := own_fld v_TIME q19
  have F_UNSUPPORTED_ordinal : Fld s s.heap a_UNSUPPORTED "java/lang/Enum" "ordinal" "I" (.int 13) := own_fld v_UNSUPPORTED q21
  have F_TIMESTAMP_ordinal : Fld s s.heap a_TIMESTAMP "java/lang/Enum" "ordinal" "I" (.int 8) := own_fld v_TIMESTAMP q23
  have F_TIMESTAMP_WITH_TIME_ZONE_ordinal : Fld s s.heap a_TIMESTAMP_WITH_TIME_ZONE "java/lang/Enum" "ordinal" "I" (.int 9) := own_fld v_TIMESTAMP_WITH_TIME_ZONE q25
  have F_BOOLEAN_ordinal : Fld s s.heap a_BOOLEAN "java/lang/Enum" "ordinal" "I" (.int 6) := own_fld v_BOOLEAN q27
  let c : Nat → Addr := fun i => if i = 0 then a_STRING else if i = 1 then a_FIXED_STRING else if i = 2 then a_LABEL else if i = 3 then a_INTEGER else if i = 4 then a_DECIMAL else if i = 5 then a_FLOATING_POINT else if i = 6 then a_BOOLEAN else if i = 7 then a_DATE else if i = 8 then a_TIMESTAMP else if i = 9 then a_TIMESTAMP_WITH_TIME_ZONE else if i = 10 then a_BINARY else if i = 11 then a_UUID else if i = 12 then a_TIME else a_UNSUPPORTED
  have hF : ∀ i, i < 14 → Fld s s.heap (c i) "java/lang/Enum" "ordinal" "I" (.int (Int32.ofNat i)) := by
    intro i hi
    match i, hi with
    | 0, _ => exact F_STRING_ordinal
    | 1, _ => exact F_FIXED_STRING_ordinal
    | 2, _ => exact F_LABEL_ordinal
    | 3, _ => exact F_INTEGER_ordinal
    | 4, _ => exact F_DECIMAL_ordinal
    | 5, _ => exact F_FLOATING_POINT_ordinal
    | 6, _ => exact F_BOOLEAN_ordinal
    | 7, _ => exact F_DATE_ordinal
    | 8, _ => exact F_TIMESTAMP_ordinal
    | 9, _ => exact F_TIMESTAMP_WITH_TIME_ZONE_ordinal
    | 10, _ => exact F_BINARY_ordinal
    | 11, _ => exact F_UUID_ordinal
    | 12, _ => exact F_TIME_ordinal
    | 13, _ => exact F_UNSUPPORTED_ordinal
  have hE : ∀ i, i < 14 → Exa s s.heap (c i) "com/example/arbora/arbora/sql/ValueType" := by
    intro i hi
    match i, hi with
    | 0, _ => exact E_STRING
    | 1, _ => exact E_FIXED_STRING
    | 2, _ => exact E_LABEL
    | 3, _ => exact E_INTEGER
    | 4, _ => exact E_DECIMAL
    | 5, _ => exact E_FLOATING_POINT
    | 6, _ => exact E_BOOLEAN
    | 7, _ => exact E_DATE
    | 8, _ => exact E_TIMESTAMP
    | 9, _ => exact E_TIMESTAMP_WITH_TIME_ZONE
    | 10, _ => exact E_BINARY
    | 11, _ => exact E_UUID
    | 12, _ => exact E_TIME
    | 13, _ => exact E_UNSUPPORTED
  have hinj : ∀ i j, i < 14 → j < 14 → c i = c j → i = j := by
    intro i j hi hj hc
    by_cases hq : i = j
    · exact hq
    · exact absurd hc ((hF i hi).ne (hF j hj) (own_neI (fun z => hq (own_ofNat (by omega) (by omega) z))))
  have HS : OwnSt s c := ⟨S_STRING, S_FIXED_STRING, S_LABEL, S_INTEGER, S_DECIMAL, S_FLOATING_POINT, S_BOOLEAN, S_DATE, S_TIMESTAMP, S_TIMESTAMP_WITH_TIME_ZONE, S_BINARY, S_UUID, S_TIME, S_UNSUPPORTED, hE, hinj⟩
  obtain ⟨n, o, h1, h2, h3, _, L, rfl, ⟨rfl, N⟩, hq⟩ := rm0 l s _ hw tables_1 i0 c s.heap s.heap.size (Old.start s) HS p e ha hc hk s m _ below hf ((Spec.applies_iff_loose hf).mp happ).1 ⟨rfl, State.Warmed39.refl s, rfl⟩ trivial
  refine ⟨n, _, h1, h2, h3, hpost _ _ _ _ _ _ ⟨Cond.after_iff.mpr rfl, Cond.after_iff.mpr (eq_i res_at (Term.int_eval (1)) rfl), trivial⟩ ⟨hq.1, hq.2.1, (hq.2.2.sift fun y hy => Or.inr (N y hy)).mono (by decide) (by decide)⟩⟩
theorem main_1_1 : Claimed_1_1 := comes_1 fun _ _ _ _ _ _ h hF => ⟨h.1, hF⟩
theorem main_1_2 : Claimed_1_2 := comes_1 fun _ _ _ _ _ _ h hF => ⟨h.2.1, hF⟩
end Jvm.Pilot.@@N@@
namespace Jvm.Pilot.@@N@@
open Jvm Jvm.ClassFile Sem Op Lib Jvm.Free Jvm.Stand Jvm.Pilot.@@N@@.Jvm.D
/-! MADE BY PROGRAM (witnessworld.py) out of the Statement's table words and the real class files: 12 classes; the members and pool entries that the words name. The judged class is class 1, her method 2. -/
namespace start1
open Jvm.ClassFile
def u (s : String) : CpInfo := .utf8 (stringToUtf16 s)
/-- a pool by its gaps: so many unusable entries, then the entry; so many at the end -/
def gap : Nat → List CpInfo → List CpInfo
  | 0, r => r
  | n + 1, r => .unusable :: gap n r
def poolList (es : List (Nat × CpInfo)) (last : Nat) : List CpInfo := es.foldr (fun e r => gap e.1 (e.2 :: r)) (gap last [])
def pool (es : List (Nat × CpInfo)) (last : Nat) : Array CpInfo := ⟨poolList es last⟩
def fileOf (pool : Array CpInfo) (this : Nat) (attrs : Array Attribute := #[]) (ms : Array MethodInfo := #[]) (fl : Nat := 33) (sup : Nat := 0) (ifs : Array Nat := #[]) (fds : Array FieldInfo := #[]) : ClassFile where
  minorVersion := 0
  majorVersion := 65
  constantPool := pool
  accessFlags := fl
  thisClass := this
  superClass := sup
  interfaces := ifs
  fields := fds
  methods := ms
  attributes := attrs
def plain (name : String) (sup : Option ClassId) : Class where
  name := name
  kind := .ordinary
  loader := none
  accessFlags := 33
  super := sup
  interfaces := #[]
  cf := none
  fields := #[]
  methods := #[]
  instanceTypes := #[]
  staticTypes := #[]
  resolved := #[]
  callSites := []
  init := .initialized
  statics := none
  mirror := none

def pool0 : Array CpInfo := pool [(5, u "<init>"), (0, u "()V"), (1, .class_ 10), (1, u "java/lang/Object")] 113

def k0m0 : Method := { name := "<init>", desc := "()V", sig := { parameters := [], returnType := none }, accessFlags := 1, code := none }
/-- java/lang/Object -/
def k0 : Class := { plain "java/lang/Object" none with
  accessFlags := 33
  interfaces := #[]
  cf := some (fileOf pool0 8 #[] #[{ accessFlags := 1, nameIndex := 5, descriptorIndex := 6, attributes := #[] }] 33 0 #[] #[])
  fields := #[]
  methods := #[k0m0]
  instanceTypes := #[]
  staticTypes := #[]
  resolved := Array.replicate 124 none
  statics := none }

def pool1 : Array CpInfo := pool [(2, .class_ 4), (1, u "java/lang/Object"), (0, u "<init>"), (0, u "()V"), (0, .fieldref 8 9), (0, .class_ 10), (0, .nameAndType 11 12), (0, u "com/example/arbora/arbora/sql/ValueType"), (0, u "STRING"), (0, u "Lcom/example/arbora/arbora/sql/ValueType;"), (0, .fieldref 8 14), (0, .nameAndType 15 12), (0, u "FIXED_STRING"), (0, .fieldref 8 17), (0, .nameAndType 18 12), (0, u "LABEL"), (0, .fieldref 8 20), (0, .nameAndType 21 12), (0, u "INTEGER"), (0, .fieldref 8 23), (0, .nameAndType 24 12), (0, u "DECIMAL"), (0, .fieldref 8 26), (0, .nameAndType 27 12), (0, u "FLOATING_POINT"), (0, .fieldref 8 29), (0, .nameAndType 30 12), (0, u "BOOLEAN"), (0, .fieldref 8 32), (0, .nameAndType 33 12), (0, u "DATE"), (0, .fieldref 8 35), (0, .nameAndType 36 12), (0, u "TIMESTAMP"), (0, .fieldref 8 38), (0, .nameAndType 39 12), (0, u "TIMESTAMP_WITH_TIME_ZONE"), (0, .fieldref 8 41), (0, .nameAndType 42 12), (0, u "BINARY"), (0, .fieldref 8 44), (0, .nameAndType 45 12), (0, u "UUID"), (0, .fieldref 8 47), (0, .nameAndType 48 12), (0, u "TIME"), (0, .fieldref 8 50), (0, .nameAndType 51 12), (0, u "UNSUPPORTED"), (0, .integer 2147483647), (0, .methodref 54 55), (0, .class_ 56), (0, .nameAndType 57 58), (0, u "com/example/arbora/arbora/sql/ValueTypeEqualExactlyWhenTextsArePinLaw"), (0, u "pick"), (0, u "(I)Lcom/example/arbora/arbora/sql/ValueType;"), (0, .methodref 8 60), (0, .nameAndType 61 62), (0, u "equalExactlyWhenTextsAre"), (0, u "()Z"), (0, .methodref 8 64), (0, .nameAndType 65 62), (0, u "sortEqualOnlyWhenTextsAre"), (0, .methodref 8 67), (0, .nameAndType 68 62), (0, u "textMayBeEmpty"), (3, u "law"), (0, u "(I)Z")] 2

def k1m0 : Method := { name := "<init>", desc := "()V", sig := { parameters := [], returnType := none }, accessFlags := 1, code := none }
def k1c1 : Code := { maxStack := 2, maxLocals := 1, code := method_2_code, exceptionTable := #[], attributes := #[] }
def k1m1 : Method := { name := "pick", desc := "(I)Lcom/example/arbora/arbora/sql/ValueType;", sig := { parameters := [.int], returnType := some (.object "com/example/arbora/arbora/sql/ValueType") }, accessFlags := 10, code := some k1c1 }
def k1c2 : Code := { maxStack := 2, maxLocals := 5, code := code, exceptionTable := #[], attributes := #[] }
def k1m2 : Method := { name := "law", desc := "(I)Z", sig := { parameters := [.int], returnType := some .boolean }, accessFlags := 9, code := some k1c2 }
/-- com/example/arbora/arbora/sql/ValueTypeEqualExactlyWhenTextsArePinLaw -/
def k1 : Class := { plain "com/example/arbora/arbora/sql/ValueTypeEqualExactlyWhenTextsArePinLaw" (some 0) with
  accessFlags := 49
  interfaces := #[]
  cf := some (fileOf pool1 54 #[] #[{ accessFlags := 1, nameIndex := 5, descriptorIndex := 6, attributes := #[] }, { accessFlags := 10, nameIndex := 57, descriptorIndex := 58, attributes := #[] }, { accessFlags := 9, nameIndex := 72, descriptorIndex := 73, attributes := #[] }] 49 2 #[] #[])
  fields := #[]
  methods := #[k1m0, k1m1, k1m2]
  instanceTypes := #[]
  staticTypes := #[]
  resolved := Array.replicate 76 none
  statics := none }

def pool2 : Array CpInfo := pool [(1, .class_ 2), (0, u "java/lang/constant/Constable"), (0, .class_ 4), (0, u "java/lang/Object")] 6

/-- java/lang/constant/Constable -/
def k2 : Class := { plain "java/lang/constant/Constable" (some 0) with
  accessFlags := 1537
  interfaces := #[]
  cf := some (fileOf pool2 1 #[] #[] 1537 3 #[] #[])
  fields := #[]
  methods := #[]
  instanceTypes := #[]
  staticTypes := #[]
  resolved := Array.replicate 11 none
  statics := none }

def pool3 : Array CpInfo := pool [(1, .class_ 2), (0, u "java/lang/Comparable"), (0, .class_ 4), (0, u "java/lang/Object")] 7

/-- java/lang/Comparable -/
def k3 : Class := { plain "java/lang/Comparable" (some 0) with
  accessFlags := 1537
  interfaces := #[]
  cf := some (fileOf pool3 1 #[] #[] 1537 3 #[] #[])
  fields := #[]
  methods := #[]
  instanceTypes := #[]
  staticTypes := #[]
  resolved := Array.replicate 12 none
  statics := none }

def pool4 : Array CpInfo := pool [(1, .class_ 2), (0, u "java/io/Serializable"), (0, .class_ 4), (0, u "java/lang/Object")] 2

/-- java/io/Serializable -/
def k4 : Class := { plain "java/io/Serializable" (some 0) with
  accessFlags := 1537
  interfaces := #[]
  cf := some (fileOf pool4 1 #[] #[] 1537 3 #[] #[])
  fields := #[]
  methods := #[]
  instanceTypes := #[]
  staticTypes := #[]
  resolved := Array.replicate 7 none
  statics := none }

def pool5 : Array CpInfo := pool [(2, .class_ 4), (1, u "java/lang/Enum"), (0, u "name"), (0, u "Ljava/lang/String;"), (2, u "ordinal"), (0, u "I"), (1, .class_ 14), (1, u "java/lang/Object"), (4, u "hash"), (86, .class_ 108), (1, u "java/lang/Enum$EnumDesc"), (2, .class_ 112), (0, u "java/lang/constant/Constable"), (0, .class_ 114), (0, u "java/lang/Comparable"), (0, .class_ 116), (0, u "java/io/Serializable")] 87

/-- java/lang/Enum -/
def k5 : Class := { plain "java/lang/Enum" (some 0) with
  accessFlags := 1057
  interfaces := #[2, 3, 4]
  cf := some (fileOf pool5 2 #[.nestMembers #[106]] #[] 1057 12 #[111, 113, 115] #[{ accessFlags := 18, nameIndex := 5, descriptorIndex := 6, attributes := #[] }, { accessFlags := 18, nameIndex := 9, descriptorIndex := 10, attributes := #[] }, { accessFlags := 2, nameIndex := 19, descriptorIndex := 10, attributes := #[] }])
  fields := #[{ name := "name", type := (.object "java/lang/String"), accessFlags := 18, slot := 0, constantValue := 0 }, { name := "ordinal", type := .int, accessFlags := 18, slot := 1, constantValue := 0 }, { name := "hash", type := .int, accessFlags := 2, slot := 2, constantValue := 0 }]
  methods := #[]
  instanceTypes := #[(.object "java/lang/String"), .int, .int]
  staticTypes := #[]
  resolved := Array.replicate 204 none
  statics := none }

def pool6 : Array CpInfo := pool [(1, .class_ 2), (0, u "com/example/arbora/arbora/sql/ValueType"), (0, .fieldref 1 4), (0, .nameAndType 5 6), (0, u "STRING"), (0, u "Lcom/example/arbora/arbora/sql/ValueType;"), (0, .fieldref 1 8), (0, .nameAndType 9 6), (0, u "FIXED_STRING"), (0, .fieldref 1 11), (0, .nameAndType 12 6), (0, u "LABEL"), (0, .fieldref 1 14), (0, .nameAndType 15 6), (0, u "INTEGER"), (0, .fieldref 1 17), (0, .nameAndType 18 6), (0, u "DECIMAL"), (0, .fieldref 1 20), (0, .nameAndType 21 6), (0, u "FLOATING_POINT"), (2, u "BOOLEAN"), (0, .fieldref 1 26), (0, .nameAndType 27 6), (0, u "DATE"), (2, u "TIMESTAMP"), (2, u "TIMESTAMP_WITH_TIME_ZONE"), (0, .fieldref 1 35), (0, .nameAndType 36 6), (0, u "BINARY"), (0, .fieldref 1 38), (0, .nameAndType 39 6), (0, u "UUID"), (2, u "TIME"), (2, u "UNSUPPORTED"), (2, u "$VALUES"), (0, u "[Lcom/example/arbora/arbora/sql/ValueType;"), (6, .class_ 58), (1, u "java/lang/Enum"), (33, u "()Z"), (1, u "equalExactlyWhenTextsAre"), (0, u "sortEqualOnlyWhenTextsAre"), (0, u "textMayBeEmpty")] 4

def k6c0 : Code := { maxStack := 2, maxLocals := 1, code := prog_119_method_5_code, exceptionTable := #[], attributes := #[] }
def k6m0 : Method := { name := "equalExactlyWhenTextsAre", desc := "()Z", sig := { parameters := [], returnType := some .boolean }, accessFlags := 1, code := some k6c0 }
def k6c1 : Code := { maxStack := 2, maxLocals := 1, code := prog_119_method_6_code, exceptionTable := #[], attributes := #[] }
def k6m1 : Method := { name := "sortEqualOnlyWhenTextsAre", desc := "()Z", sig := { parameters := [], returnType := some .boolean }, accessFlags := 1, code := some k6c1 }
def k6c2 : Code := { maxStack := 2, maxLocals := 1, code := prog_119_method_7_code, exceptionTable := #[], attributes := #[] }
def k6m2 : Method := { name := "textMayBeEmpty", desc := "()Z", sig := { parameters := [], returnType := some .boolean }, accessFlags := 1, code := some k6c2 }
/-- com/example/arbora/arbora/sql/ValueType -/
def k6 : Class := { plain "com/example/arbora/arbora/sql/ValueType" (some 5) with
  accessFlags := 16433
  interfaces := #[]
  cf := some (fileOf pool6 1 #[] #[{ accessFlags := 1, nameIndex := 94, descriptorIndex := 92, attributes := #[] }, { accessFlags := 1, nameIndex := 95, descriptorIndex := 92, attributes := #[] }, { accessFlags := 1, nameIndex := 96, descriptorIndex := 92, attributes := #[] }] 16433 56 #[] #[{ accessFlags := 16409, nameIndex := 5, descriptorIndex := 6, attributes := #[] }, { accessFlags := 16409, nameIndex := 9, descriptorIndex := 6, attributes := #[] }, { accessFlags := 16409, nameIndex := 12, descriptorIndex := 6, attributes := #[] }, { accessFlags := 16409, nameIndex := 15, descriptorIndex := 6, attributes := #[] }, { accessFlags := 16409, nameIndex := 18, descriptorIndex := 6, attributes := #[] }, { accessFlags := 16409, nameIndex := 21, descriptorIndex := 6, attributes := #[] }, { accessFlags := 16409, nameIndex := 24, descriptorIndex := 6, attributes := #[] }, { accessFlags := 16409, nameIndex := 27, descriptorIndex := 6, attributes := #[] }, { accessFlags := 16409, nameIndex := 30, descriptorIndex := 6, attributes := #[] }, { accessFlags := 16409, nameIndex := 33, descriptorIndex := 6, attributes := #[] }, { accessFlags := 16409, nameIndex := 36, descriptorIndex := 6, attributes := #[] }, { accessFlags := 16409, nameIndex := 39, descriptorIndex := 6, attributes := #[] }, { accessFlags := 16409, nameIndex := 42, descriptorIndex := 6, attributes := #[] }, { accessFlags := 16409, nameIndex := 45, descriptorIndex := 6, attributes := #[] }, { accessFlags := 4122, nameIndex := 48, descriptorIndex := 49, attributes := #[] }])
  fields := #[{ name := "STRING", type := (.object "com/example/arbora/arbora/sql/ValueType"), accessFlags := 16409, slot := 0, constantValue := 0 }, { name := "FIXED_STRING", type := (.object "com/example/arbora/arbora/sql/ValueType"), accessFlags := 16409, slot := 1, constantValue := 0 }, { name := "LABEL", type := (.object "com/example/arbora/arbora/sql/ValueType"), accessFlags := 16409, slot := 2, constantValue := 0 }, { name := "INTEGER", type := (.object "com/example/arbora/arbora/sql/ValueType"), accessFlags := 16409, slot := 3, constantValue := 0 }, { name := "DECIMAL", type := (.object "com/example/arbora/arbora/sql/ValueType"), accessFlags := 16409, slot := 4, constantValue := 0 }, { name := "FLOATING_POINT", type := (.object "com/example/arbora/arbora/sql/ValueType"), accessFlags := 16409, slot := 5, constantValue := 0 }, { name := "BOOLEAN", type := (.object "com/example/arbora/arbora/sql/ValueType"), accessFlags := 16409, slot := 6, constantValue := 0 }, { name := "DATE", type := (.object "com/example/arbora/arbora/sql/ValueType"), accessFlags := 16409, slot := 7, constantValue := 0 }, { name := "TIMESTAMP", type := (.object "com/example/arbora/arbora/sql/ValueType"), accessFlags := 16409, slot := 8, constantValue := 0 }, { name := "TIMESTAMP_WITH_TIME_ZONE", type := (.object "com/example/arbora/arbora/sql/ValueType"), accessFlags := 16409, slot := 9, constantValue := 0 }, { name := "BINARY", type := (.object "com/example/arbora/arbora/sql/ValueType"), accessFlags := 16409, slot := 10, constantValue := 0 }, { name := "UUID", type := (.object "com/example/arbora/arbora/sql/ValueType"), accessFlags := 16409, slot := 11, constantValue := 0 }, { name := "TIME", type := (.object "com/example/arbora/arbora/sql/ValueType"), accessFlags := 16409, slot := 12, constantValue := 0 }, { name := "UNSUPPORTED", type := (.object "com/example/arbora/arbora/sql/ValueType"), accessFlags := 16409, slot := 13, constantValue := 0 }, { name := "$VALUES", type := (.array (.object "com/example/arbora/arbora/sql/ValueType")), accessFlags := 4122, slot := 14, constantValue := 0 }]
  methods := #[k6m0, k6m1, k6m2]
  instanceTypes := #[(.object "java/lang/String"), .int, .int]
  staticTypes := #[(.object "com/example/arbora/arbora/sql/ValueType"), (.object "com/example/arbora/arbora/sql/ValueType"), (.object "com/example/arbora/arbora/sql/ValueType"), (.object "com/example/arbora/arbora/sql/ValueType"), (.object "com/example/arbora/arbora/sql/ValueType"), (.object "com/example/arbora/arbora/sql/ValueType"), (.object "com/example/arbora/arbora/sql/ValueType"), (.object "com/example/arbora/arbora/sql/ValueType"), (.object "com/example/arbora/arbora/sql/ValueType"), (.object "com/example/arbora/arbora/sql/ValueType"), (.object "com/example/arbora/arbora/sql/ValueType"), (.object "com/example/arbora/arbora/sql/ValueType"), (.object "com/example/arbora/arbora/sql/ValueType"), (.object "com/example/arbora/arbora/sql/ValueType"), (.array (.object "com/example/arbora/arbora/sql/ValueType"))]
  resolved := Array.replicate 101 none
  statics := some 0 }

def pool7 : Array CpInfo := pool [(1, u "java/lang/Cloneable"), (0, .class_ 1), (0, u "java/lang/Object"), (0, .class_ 3)] 3

/-- java/lang/Cloneable -/
def k7 : Class := { plain "java/lang/Cloneable" (some 0) with
  accessFlags := 1537
  interfaces := #[]
  cf := some (fileOf pool7 2 #[] #[] 1537 4 #[] #[])
  fields := #[]
  methods := #[]
  instanceTypes := #[]
  staticTypes := #[]
  resolved := Array.replicate 8 none
  statics := none }

/-- the primitive byte -/
def k8 : Class := { plain "byte" none with kind := .primitive 'B', accessFlags := 0x411 }
/-- [B -/
def k9 : Class := { plain "[B" (some 0) with kind := .array 8 .byte, interfaces := #[7, 4], accessFlags := 1041 }

/-- the primitive int -/
def k10 : Class := { plain "int" none with kind := .primitive 'I', accessFlags := 0x411 }
/-- [I -/
def k11 : Class := { plain "[I" (some 0) with kind := .array 10 .int, interfaces := #[7, 4], accessFlags := 1041 }

def heap : Heap := #[{ cls := 6, slots := #[.ref 1, .ref 2, .ref 3, .ref 4, .ref 5, .ref 6, .ref 7, .ref 8, .ref 9, .ref 10, .ref 11, .ref 12, .ref 13, .ref 14, .null], vm := .statics 6 },
  { cls := 6, slots := #[.null, .int 0, .int 0], vm := .none },
  { cls := 6, slots := #[.null, .int 1, .int 0], vm := .none },
  { cls := 6, slots := #[.null, .int 2, .int 0], vm := .none },
  { cls := 6, slots := #[.null, .int 3, .int 0], vm := .none },
  { cls := 6, slots := #[.null, .int 4, .int 0], vm := .none },
  { cls := 6, slots := #[.null, .int 5, .int 0], vm := .none },
  { cls := 6, slots := #[.null, .int 6, .int 0], vm := .none },
  { cls := 6, slots := #[.null, .int 7, .int 0], vm := .none },
  { cls := 6, slots := #[.null, .int 8, .int 0], vm := .none },
  { cls := 6, slots := #[.null, .int 9, .int 0], vm := .none },
  { cls := 6, slots := #[.null, .int 10, .int 0], vm := .none },
  { cls := 6, slots := #[.null, .int 11, .int 0], vm := .none },
  { cls := 6, slots := #[.null, .int 12, .int 0], vm := .none },
  { cls := 6, slots := #[.null, .int 13, .int 0], vm := .none }]
def classes : Array Class := #[k0, k1, k2, k3, k4, k5, k6, k7, k8, k9, k10, k11]
def interned : List (Array UInt16 × Addr) := []
def slotsUsed : Nat := 57
def theMethod : MethodId := ⟨1, 2⟩
def args0 : Array Value := #[.int 5]
def aboutOver (below : List Frame) : State where
  vm := { classes := classes, interned := interned.toArray }
  heap := heap
  slotsUsed := slotsUsed
  threads := #[{ frames := .invoking theMethod args0 :: below }]
def below0 : List Frame := [.native { method := ⟨0, 0⟩, args := #[] }]
def about1 : State := aboutOver below0
def p0 : Program := .bare "" "" ""
def e0 : Env := launch0.env 0 0 0
theorem w_frames : about1.frames = Frame.invoking theMethod args0 :: below0 := rfl
set_option maxRecDepth 65536 in
theorem w_args : argsFit about1.vm theMethod args0 = true := by decide +kernel
set_option maxRecDepth 65536 in
theorem w_heap : heapFits about1 = true := by decide +kernel
set_option maxRecDepth 65536 in
theorem w_runnable : about1.curStatus? = some .runnable := by decide +kernel
set_option maxRecDepth 65536 in
theorem w_alone : about1.alone = true := by decide +kernel
set_option maxRecDepth 65536 in
theorem w_named : about1.methodNamed? x = some theMethod := by decide +kernel
set_option maxRecDepth 65536 in
theorem w_hears : about1.hears theMethod below0 = true := by decide +kernel
set_option maxRecDepth 65536 in
theorem w_ripe : about1.ripe theMethod args0 below0 = true := by decide +kernel
theorem w_running : about1.status = .running := rfl
set_option maxRecDepth 65536 in
theorem w_room : about1.hasRoom e0.platform room_1 = true :=
  launch0.hasRoom_least _ room_1 (by decide +kernel) (by decide +kernel) (by decide +kernel) (by decide +kernel) (by decide +kernel) (by decide +kernel)
theorem allAtoms_all (ts : List Jvm.Cond) (a : Array Jvm.Value) (st : Jvm.State) : (allAtoms ts).before a st = ts.all (fun c => c.before a st) := by
  induction ts with
  | nil => rfl
  | cons c t ih =>
    show (Jvm.Cond.and c (allAtoms t)).before a st = _
    rw [Jvm.Cond.before_and, ih, List.all_cons]
def words1 : List Jvm.Cond := Jvm.Cond.code x code maxLocals ret :: tables_1
/-- a 'code' word, met by the world's own term for the bytes: nothing is compared byte by byte -/
theorem code_word {y : MethodName} {bytes : ByteArray} {mx : Nat} {rt : Option FieldType} {a : Array Value} {s : State} {m : MethodId} {meth : Method} {c : Code} (h1 : s.methodNamed? y = some m) (h2 : s.vm.method? m = some meth) (h3 : meth.code = some c) (h4 : c.code = bytes)
    (h5 : (c.maxLocals == mx && c.exceptionTable.isEmpty && decide (c.maxStack ≤ mostOperands) && decide (meth.sig.returnType = rt) && !meth.locks && decide (parseMethodDescriptor y.desc = some meth.sig)) = true) : (Jvm.Cond.code y bytes mx rt).before a s = true := by
  simp only [Bool.and_eq_true, beq_iff_eq, Bool.not_eq_true', decide_eq_true_eq] at h5
  obtain ⟨⟨⟨⟨⟨g1, g2⟩, g3⟩, g4⟩, g5⟩, g6⟩ := h5
  simp [Cond.before, Cond.holds, Cond.value, h1, h2, h3, h4, g1, g2, g3, g4, g5, g6]
def isCode : Jvm.Cond → Bool
  | .code _ _ _ _ => true
  | _ => false
theorem all_split {L : List Jvm.Cond} {P : Jvm.Cond → Bool} (h1 : L.all (fun c => isCode c || P c) = true) (h2 : ∀ c ∈ L.filter isCode, P c = true) : L.all P = true := by
  refine List.all_eq_true.mpr fun c hc => ?_
  have h := List.all_eq_true.mp h1 c hc
  rcases Bool.eq_false_or_eq_true (isCode c) with hi | hi
  · exact h2 c (List.mem_filter.mpr ⟨hc, hi⟩)
  · simpa [hi] using h
set_option maxRecDepth 65536 in
theorem w_c0 : (Jvm.Cond.code x code maxLocals ret).before args0 about1 = true := code_word (m := ⟨1, 2⟩) (meth := k1m2) (c := k1c2) (by decide +kernel) rfl rfl rfl (by decide +kernel)
set_option maxRecDepth 65536 in
theorem w_c1 : (Jvm.Cond.code ({ cls := "com/example/arbora/arbora/sql/ValueTypeEqualExactlyWhenTextsArePinLaw", name := "pick", desc := "(I)Lcom/example/arbora/arbora/sql/ValueType;" } : Jvm.MethodName) method_2_code (1 : Nat) (Option.some (Jvm.ClassFile.FieldType.object "com/example/arbora/arbora/sql/ValueType"))).before args0 about1 = true := code_word (m := ⟨1, 1⟩) (meth := k1m1) (c := k1c1) (by decide +kernel) rfl rfl rfl (by decide +kernel)
set_option maxRecDepth 65536 in
theorem w_c2 : (Jvm.Cond.code ({ cls := "com/example/arbora/arbora/sql/ValueType", name := "equalExactlyWhenTextsAre", desc := "()Z" } : Jvm.MethodName) prog_119_method_5_code (1 : Nat) (Option.some Jvm.ClassFile.FieldType.boolean)).before args0 about1 = true := code_word (m := ⟨6, 0⟩) (meth := k6m0) (c := k6c0) (by decide +kernel) rfl rfl rfl (by decide +kernel)
set_option maxRecDepth 65536 in
theorem w_c3 : (Jvm.Cond.code ({ cls := "com/example/arbora/arbora/sql/ValueType", name := "sortEqualOnlyWhenTextsAre", desc := "()Z" } : Jvm.MethodName) prog_119_method_6_code (1 : Nat) (Option.some Jvm.ClassFile.FieldType.boolean)).before args0 about1 = true := code_word (m := ⟨6, 1⟩) (meth := k6m1) (c := k6c1) (by decide +kernel) rfl rfl rfl (by decide +kernel)
set_option maxRecDepth 65536 in
theorem w_c4 : (Jvm.Cond.code ({ cls := "com/example/arbora/arbora/sql/ValueType", name := "textMayBeEmpty", desc := "()Z" } : Jvm.MethodName) prog_119_method_7_code (1 : Nat) (Option.some Jvm.ClassFile.FieldType.boolean)).before args0 about1 = true := code_word (m := ⟨6, 2⟩) (meth := k6m2) (c := k6c2) (by decide +kernel) rfl rfl rfl (by decide +kernel)
def codes1 : List Jvm.Cond := [Jvm.Cond.code x code maxLocals ret, Jvm.Cond.code ({ cls := "com/example/arbora/arbora/sql/ValueTypeEqualExactlyWhenTextsArePinLaw", name := "pick", desc := "(I)Lcom/example/arbora/arbora/sql/ValueType;" } : Jvm.MethodName) method_2_code (1 : Nat) (Option.some (Jvm.ClassFile.FieldType.object "com/example/arbora/arbora/sql/ValueType")), Jvm.Cond.code ({ cls := "com/example/arbora/arbora/sql/ValueType", name := "equalExactlyWhenTextsAre", desc := "()Z" } : Jvm.MethodName) prog_119_method_5_code (1 : Nat) (Option.some Jvm.ClassFile.FieldType.boolean), Jvm.Cond.code ({ cls := "com/example/arbora/arbora/sql/ValueType", name := "sortEqualOnlyWhenTextsAre", desc := "()Z" } : Jvm.MethodName) prog_119_method_6_code (1 : Nat) (Option.some Jvm.ClassFile.FieldType.boolean), Jvm.Cond.code ({ cls := "com/example/arbora/arbora/sql/ValueType", name := "textMayBeEmpty", desc := "()Z" } : Jvm.MethodName) prog_119_method_7_code (1 : Nat) (Option.some Jvm.ClassFile.FieldType.boolean)]
set_option maxRecDepth 65536 in
theorem codes_eq : words1.filter isCode = codes1 := rfl
theorem w_codes : ∀ c ∈ words1.filter isCode, c.before args0 about1 = true := by
  rw [codes_eq]
  intro c hc
  simp only [codes1, List.mem_cons, List.not_mem_nil, or_false] at hc
  rcases hc with rfl | rfl | rfl | rfl | rfl
  · exact w_c0
  · exact w_c1
  · exact w_c2
  · exact w_c3
  · exact w_c4
set_option maxRecDepth 65536 in
theorem w_t1 : (words1.take 24).all (fun c => isCode c || c.before args0 about1) = true := by decide +kernel
set_option maxRecDepth 65536 in
theorem w_t2 : ((words1.drop 24).take 24).all (fun c => isCode c || c.before args0 about1) = true := by decide +kernel
set_option maxRecDepth 65536 in
theorem w_t3 : ((words1.drop 24).drop 24).all (fun c => isCode c || c.before args0 about1) = true := by decide +kernel
theorem w_tables : (allAtoms (Jvm.Cond.code x code maxLocals ret :: tables_1)).before args0 about1 = true := by
  rw [allAtoms_all]
  show words1.all (fun c => c.before args0 about1) = true
  refine all_split ?_ w_codes
  rw [← List.take_append_drop 24 words1, List.all_append, w_t1, ← List.take_append_drop 24 (words1.drop 24), List.all_append, w_t2, w_t3]
  rfl
set_option maxRecDepth 65536 in
theorem w_case : (Jvm.Cond.and given_1 narrow_1).before args0 about1 = true := by decide +kernel
theorem w_applies : (headSpec (Jvm.Cond.code x code maxLocals ret :: tables_1) room_1).applies x e0.platform about1 = true :=
  (Spec.applies_iff w_frames).mpr ⟨w_running, w_runnable, w_alone, w_named, w_hears, w_ripe, w_room, w_tables⟩
theorem atStart : AtStart classFile x code maxLocals ret World_1 tables_1 room_1 Calls_1 rest_1 Pre_1 launch0 p0 e0 about1 theMethod args0 below0 :=
  ⟨lists_1, trivial, launch0.admits_env _ _ _, launch0.least_env, fairChoices_fair.cas, fairChoices_fair.clock, w_frames, w_args, w_heap, w_applies, trivial, trivial, w_case⟩
end start1
theorem witness_1 : WitnessClaimed_1 := ⟨start1.p0, start1.e0, start1.about1, start1.theMethod, start1.args0, start1.below0, start1.atStart⟩
end Jvm.Pilot.@@N@@
