import JvmDerived
import JvmDerived.Pilot.@@N@@Statement
import JvmDerived.Pilot.@@N@@Code
set_option linter.unusedVariables false
set_option linter.unusedSimpArgs false
namespace Jvm.RoadKit
open Sem ClassFile Op Lib Jvm.Stand Jvm.Free Jvm.LawKit
section New
variable {p : Program} {l : Launch} {e : Env} {R : Room} {s : State} {m : MethodId} {args : Array Value} {below : List Frame} {meth : Method} {c : Code} {T : State} {locs : List Loc} {cells slots : Nat}
theorem retI (X : Stand p l e R s m args below meth c T locs cells slots) (hx : p.tables.exec = Jvm.exec) {pc : Nat} {Ls : Array Slot} {z : Int32} {rest : List Value} (hret : meth.sig.returnType = some .int) (hd : decode c.code pc = .ok (.ireturn, 1)) {fs : List Frame}
    (hl : ∀ (f : JFrame) (acts : List Action), f.method = m → f.locked = none → f.entered = [] → (doReturn e (T.setTop f) acts (some (.int z))).1 = T.setFrames fs) : Steps p.tables e below (T.setTop (mkF m pc Ls (.int z :: rest))) (T.setFrames fs) := by
  have hm' : T.vm.method? m = some meth := X.method'
  have hn : narrow .int (.int z) = .int z := rfl
  show Steps p.tables e below (T.setTop { method := m, pc := pc, locals := Ls, stack := _ :: rest, locked := none }) _
  jvm_step X.here [X.here.top, hx, hd, hm', hret, hn]
  first | (intro acts; rw [hl _ acts rfl rfl rfl]) | rw [hl _ _ rfl rfl rfl]
  exact Steps.refl _
end New
end Jvm.RoadKit
namespace Jvm.Pilot.@@N@@
open Jvm Jvm.ClassFile Sem Op Lib Jvm.Free Jvm.Stand Jvm.LawKit Jvm.RoadKit Bundle Jvm.Pilot.@@N@@.Jvm.D
/-! own small kit: a walk forward, state by state -/
section OwnKit
variable {p : Program} {l : Launch} {e : Env} {R : Room} {s : State} {m : MethodId} {args : Array Value} {below : List Frame} {meth : Method} {c : Code} {T : State} {locs : List Loc} {cells slots : Nat} {rc rs : Nat} {Q : Option Value → Heap → List Loc → Prop} {Z : State} {h h' : Heap} {a b : Addr} {S S' : State}
/-- from S the run comes to its return, and Q holds there -/
def Go (p : Program) (e : Env) (below : List Frame) (s : State) (rc rs : Nat) (Q : Option Value → Heap → List Loc → Prop) (S : State) : Prop :=
  ∃ s₂ o, Steps p.tables e below S s₂ ∧ s₂.status = .running ∧ Ended s₂ below o ∧ ∃ v L, o = .returned v ∧ Q v s₂.heap L ∧ FrameEnd s o s₂ L rc rs
theorem Go.st (k : ∀ t, Steps p.tables e below S' t → Steps p.tables e below S t) (g : Go p e below s rc rs Q S') : Go p e below s rc rs Q S := by
  obtain ⟨x, y, z, r⟩ := g
  exact ⟨x, y, k x z, r⟩
theorem Go.tr (k : Steps p.tables e below S S') (g : Go p e below s rc rs Q S') : Go p e below s rc rs Q S := by
  obtain ⟨x, y, z, r⟩ := g
  exact ⟨x, y, k.trans z, r⟩
theorem Go.ret (X : Stand p l e R s m args below meth c T locs cells slots) (hlk : meth.locks = false) (v : Option Value) (hv : meth.sig.returnType = none → v = none) {g : JFrame} (hQ : Q v T.heap locs) (hc : cells ≤ rc) (hs : slots ≤ rs)
    (k : ∀ fs, (∀ (f : JFrame) (acts : List Action), f.method = m → f.locked = none → f.entered = [] → (doReturn e (T.setTop f) acts v).1 = T.setFrames fs) → Steps p.tables e below (T.setTop g) (T.setFrames fs)) : Go p e below s rc rs Q (T.setTop g) := by
  obtain ⟨fs, hr, hrun, hended, hW, hsame⟩ := X.leave (v := v) hv hlk
  exact ⟨_, _, k fs hr, hrun, hended, _, _, rfl, hQ, ⟨_, rfl⟩, hW, hsame.mono hc hs⟩
theorem own_w {a0 : Array Value} (hw : ∀ d ∈ tables_1, d.before a0 Z = true) (k : Nat) {d : Jvm.Cond} (q : tables_1[k]? = some d) : d.before a0 Z = true := hw _ (List.mem_of_getElem? q)
theorem own_idx {n j : Int32} {cl : Cell} (S : cl.slots.size = n.toNatClampNeg) (q1 : ¬ j < 0) (q2 : j < n) : ¬ (j < 0 ∨ cl.slots.size ≤ j.toNatClampNeg) := inb_of S ⟨q1, q2⟩
theorem own_iaload (X : Stand p l e R s m args below meth c T locs cells slots) (hx : p.tables.exec = Jvm.exec) (hZ : Z.Warmed39 s.vm) (eT : T.heap = h) {k : ClassId} {n : Int32} {vs : List Value} {d : Value} (V : Arv Z h a k .int n vs d) {j : Int32} (q1 : ¬ j < 0) (q2 : j < n) {v : Value} (hv : vs.getD j.toNatClampNeg d = v) {g : JFrame} (hg : g.method = m) {rest : List Value} (hs : g.stack = .int j :: .ref a :: rest) (hd : decode c.code g.pc = .ok (.iaload, 1)) (t : State) (kk : Steps p.tables e below (T.setTop { g with pc := g.pc + 1, stack := v :: rest }) t) : Steps p.tables e below (T.setTop g) t := by
  obtain ⟨cl, A, -, S, -, H, -⟩ := V
  have hin := own_idx S q1 q2
  exact X.iaload hx (j := j) (v := v) (by rw [eT]; exact A.1) (State.isArrayOf_alike hZ.alike A.2.1) A.2.2 hin (H.at hin hv) (g := g) hg hs hd _ kk
theorem own_laload (X : Stand p l e R s m args below meth c T locs cells slots) (hx : p.tables.exec = Jvm.exec) (hZ : Z.Warmed39 s.vm) (eT : T.heap = h) {k : ClassId} {n : Int32} {vs : List Value} {d : Value} (V : Arv Z h a k .long n vs d) {j : Int32} (q1 : ¬ j < 0) (q2 : j < n) {v : Value} (hv : vs.getD j.toNatClampNeg d = v) {g : JFrame} (hg : g.method = m) {rest : List Value} (hs : g.stack = .int j :: .ref a :: rest) (hd : decode c.code g.pc = .ok (.laload, 1)) (t : State) (kk : Steps p.tables e below (T.setTop { g with pc := g.pc + 1, stack := v :: rest }) t) : Steps p.tables e below (T.setTop g) t := by
  obtain ⟨cl, A, -, S, -, H, -⟩ := V
  have hin := own_idx S q1 q2
  exact X.laload hx (j := j) (v := v) (by rw [eT]; exact A.1) (State.isArrayOf_alike hZ.alike A.2.1) A.2.2 hin (H.at hin hv) (g := g) hg hs hd _ kk
theorem own_caload (X : Stand p l e R s m args below meth c T locs cells slots) (hx : p.tables.exec = Jvm.exec) (hZ : Z.Warmed39 s.vm) (eT : T.heap = h) {k : ClassId} {n : Int32} {vs : List Value} {d : Value} (V : Arv Z h a k .char n vs d) {j : Int32} (q1 : ¬ j < 0) (q2 : j < n) {v : Value} (hv : vs.getD j.toNatClampNeg d = v) {g : JFrame} (hg : g.method = m) {rest : List Value} (hs : g.stack = .int j :: .ref a :: rest) (hd : decode c.code g.pc = .ok (.caload, 1)) (t : State) (kk : Steps p.tables e below (T.setTop { g with pc := g.pc + 1, stack := v :: rest }) t) : Steps p.tables e below (T.setTop g) t := by
  obtain ⟨cl, A, -, S, -, H, -⟩ := V
  have hin := own_idx S q1 q2
  exact X.caload hx (j := j) (v := v) (by rw [eT]; exact A.1) (State.isArrayOf_alike hZ.alike A.2.1) A.2.2 hin (H.at hin hv) (g := g) hg hs hd _ kk
theorem own_baloadB (X : Stand p l e R s m args below meth c T locs cells slots) (hx : p.tables.exec = Jvm.exec) (hZ : Z.Warmed39 s.vm) (eT : T.heap = h) {k : ClassId} {n : Int32} {vs : List Value} {d : Value} (V : Arv Z h a k .byte n vs d) {j : Int32} (q1 : ¬ j < 0) (q2 : j < n) {v : Value} (hv : vs.getD j.toNatClampNeg d = v) {g : JFrame} (hg : g.method = m) {rest : List Value} (hs : g.stack = .int j :: .ref a :: rest) (hd : decode c.code g.pc = .ok (.baload, 1)) (t : State) (kk : Steps p.tables e below (T.setTop { g with pc := g.pc + 1, stack := v :: rest }) t) : Steps p.tables e below (T.setTop g) t := by
  obtain ⟨cl, A, -, S, -, H, -⟩ := V
  have hin := own_idx S q1 q2
  exact X.baloadBytes hx (j := j) (v := v) (by rw [eT]; exact A.1) (State.isArrayOf_alike hZ.alike A.2.1) A.2.2 hin (H.at hin hv) (g := g) hg hs hd _ kk
theorem own_baloadZ (X : Stand p l e R s m args below meth c T locs cells slots) (hx : p.tables.exec = Jvm.exec) (hZ : Z.Warmed39 s.vm) (eT : T.heap = h) {k : ClassId} {n : Int32} {vs : List Value} {d : Value} (V : Arv Z h a k .boolean n vs d) {j : Int32} (q1 : ¬ j < 0) (q2 : j < n) {v : Value} (hv : vs.getD j.toNatClampNeg d = v) {g : JFrame} (hg : g.method = m) {rest : List Value} (hs : g.stack = .int j :: .ref a :: rest) (hd : decode c.code g.pc = .ok (.baload, 1)) (t : State) (kk : Steps p.tables e below (T.setTop { g with pc := g.pc + 1, stack := v :: rest }) t) : Steps p.tables e below (T.setTop g) t := by
  obtain ⟨cl, A, -, S, -, H, -⟩ := V
  have hin := own_idx S q1 q2
  exact X.baloadBooleans hx (j := j) (v := v) (by rw [eT]; exact A.1) (State.isArrayOf_alike hZ.alike A.2.1) A.2.2 hin (H.at hin hv) (g := g) hg hs hd _ kk
theorem own_aaload (X : Stand p l e R s m args below meth c T locs cells slots) (hx : p.tables.exec = Jvm.exec) (hZ : Z.Warmed39 s.vm) (eT : T.heap = h) {k : ClassId} {n : Int32} {vs : List Value} {d : Value} {ty : FieldType} (V : Arv Z h a k ty n vs d) (hty : ty.isReference = true) {j : Int32} (q1 : ¬ j < 0) (q2 : j < n) {v : Value} (hv : vs.getD j.toNatClampNeg d = v) {g : JFrame} (hg : g.method = m) {rest : List Value} (hs : g.stack = .int j :: .ref a :: rest) (hd : decode c.code g.pc = .ok (.aaload, 1)) (t : State) (kk : Steps p.tables e below (T.setTop { g with pc := g.pc + 1, stack := v :: rest }) t) : Steps p.tables e below (T.setTop g) t := by
  obtain ⟨cl, A, -, S, -, H, -⟩ := V
  have hin := own_idx S q1 q2
  exact X.aaload hx (j := j) (v := v) (by rw [eT]; exact A.1) (State.isArrayOf_alike hZ.alike A.2.1) hty A.2.2 hin (H.at hin hv) (g := g) hg hs hd _ kk
theorem own_len (X : Stand p l e R s m args below meth c T locs cells slots) (hx : p.tables.exec = Jvm.exec) (hZ : Z.Warmed39 s.vm) (eT : T.heap = h) {k : ClassId} {n : Int32} {vs : List Value} {d : Value} {ty : FieldType} (V : Arv Z h a k ty n vs d) {g : JFrame} (hg : g.method = m) {rest : List Value} (hs : g.stack = .ref a :: rest) (hd : decode c.code g.pc = .ok (.arraylength, 1)) (t : State) (kk : Steps p.tables e below (T.setTop { g with pc := g.pc + 1, stack := .int n :: rest }) t) : Steps p.tables e below (T.setTop g) t := by
  obtain ⟨cl, A, -, S, N, -, -⟩ := V
  refine X.arraylength hx (by rw [eT]; exact A.1) (State.isArrayOf_alike hZ.alike A.2.1) (g := g) hg hs hd _ ?_
  rw [len_of S N]
  exact kk
theorem own_stI (X : Stand p l e R s m args below meth c T locs cells slots) (hx : p.tables.exec = Jvm.exec) (hZ : Z.Warmed39 s.vm) (eT : T.heap = h) {k : ClassId} {n : Int32} {vs : List Value} {d : Value} (V : Arv Z h a k .int n vs d) {j x : Int32} (q1 : ¬ j < 0) (q2 : j < n) (i : Nat) (hi : j.toNatClampNeg = i) (hl : i < vs.length) {g : JFrame} (hg : g.method = m) {rest : List Value} (hs : g.stack = .int x :: .int j :: .ref a :: rest) (hd : decode c.code g.pc = .ok (.iastore, 1)) :
    ∃ T' h', Stand p l e R s m args below meth c T' (locs ++ [⟨a, j.toNatClampNeg⟩]) cells slots ∧ T'.heap = h' ∧ Wr h h' a j.toNatClampNeg (.int x) ∧ Arv Z h' a k .int n (vs.set i (.int x)) d ∧ ∀ t, Steps p.tables e below (T'.setTop { g with pc := g.pc + 1, stack := rest }) t → Steps p.tables e below (T.setTop g) t := by
  obtain ⟨cl, A, q, S, N, H, G⟩ := V
  obtain ⟨T', h', X', e', W', st⟩ := stI X hx hZ eT A (own_idx S q1 q2) (g := g) hg hs hd
  exact ⟨T', h', X', e', W', Arv.set A q S N H G rfl W' i hi hl, st⟩
theorem own_stJ (X : Stand p l e R s m args below meth c T locs cells slots) (hx : p.tables.exec = Jvm.exec) (hZ : Z.Warmed39 s.vm) (eT : T.heap = h) {k : ClassId} {n : Int32} {vs : List Value} {d : Value} (V : Arv Z h a k .long n vs d) {j : Int32} {x : Int64} (q1 : ¬ j < 0) (q2 : j < n) (i : Nat) (hi : j.toNatClampNeg = i) (hl : i < vs.length) {g : JFrame} (hg : g.method = m) {rest : List Value} (hs : g.stack = .long x :: .int j :: .ref a :: rest) (hd : decode c.code g.pc = .ok (.lastore, 1)) :
    ∃ T' h', Stand p l e R s m args below meth c T' (locs ++ [⟨a, j.toNatClampNeg⟩]) cells slots ∧ T'.heap = h' ∧ Wr h h' a j.toNatClampNeg (.long x) ∧ Arv Z h' a k .long n (vs.set i (.long x)) d ∧ ∀ t, Steps p.tables e below (T'.setTop { g with pc := g.pc + 1, stack := rest }) t → Steps p.tables e below (T.setTop g) t := by
  obtain ⟨cl, A, q, S, N, H, G⟩ := V
  obtain ⟨T', h', X', e', W', st⟩ := stJ X hx hZ eT A (own_idx S q1 q2) (g := g) hg hs hd
  exact ⟨T', h', X', e', W', Arv.set A q S N H G rfl W' i hi hl, st⟩
theorem own_stC (X : Stand p l e R s m args below meth c T locs cells slots) (hx : p.tables.exec = Jvm.exec) (hZ : Z.Warmed39 s.vm) (eT : T.heap = h) {k : ClassId} {n : Int32} {vs : List Value} {d : Value} (V : Arv Z h a k .char n vs d) {j x : Int32} (q1 : ¬ j < 0) (q2 : j < n) (i : Nat) (hi : j.toNatClampNeg = i) (hl : i < vs.length) {g : JFrame} (hg : g.method = m) {rest : List Value} (hs : g.stack = .int x :: .int j :: .ref a :: rest) (hd : decode c.code g.pc = .ok (.castore, 1)) :
    ∃ T' h', Stand p l e R s m args below meth c T' (locs ++ [⟨a, j.toNatClampNeg⟩]) cells slots ∧ T'.heap = h' ∧ Wr h h' a j.toNatClampNeg (.int (nar .char x)) ∧ Arv Z h' a k .char n (vs.set i (.int (nar .char x))) d ∧ ∀ t, Steps p.tables e below (T'.setTop { g with pc := g.pc + 1, stack := rest }) t → Steps p.tables e below (T.setTop g) t := by
  obtain ⟨cl, A, q, S, N, H, G⟩ := V
  obtain ⟨T', h', X', e', W', st⟩ := stC X hx hZ eT A (own_idx S q1 q2) (g := g) hg hs hd
  exact ⟨T', h', X', e', W', Arv.set A q S N H G (fits_nar_char _) W' i hi hl, st⟩
theorem own_stB (X : Stand p l e R s m args below meth c T locs cells slots) (hx : p.tables.exec = Jvm.exec) (hZ : Z.Warmed39 s.vm) (eT : T.heap = h) {k : ClassId} {n : Int32} {vs : List Value} {d : Value} (V : Arv Z h a k .byte n vs d) {j x : Int32} (q1 : ¬ j < 0) (q2 : j < n) (i : Nat) (hi : j.toNatClampNeg = i) (hl : i < vs.length) {g : JFrame} (hg : g.method = m) {rest : List Value} (hs : g.stack = .int x :: .int j :: .ref a :: rest) (hd : decode c.code g.pc = .ok (.bastore, 1)) :
    ∃ T' h', Stand p l e R s m args below meth c T' (locs ++ [⟨a, j.toNatClampNeg⟩]) cells slots ∧ T'.heap = h' ∧ Wr h h' a j.toNatClampNeg (.int (nar .byte x)) ∧ Arv Z h' a k .byte n (vs.set i (.int (nar .byte x))) d ∧ ∀ t, Steps p.tables e below (T'.setTop { g with pc := g.pc + 1, stack := rest }) t → Steps p.tables e below (T.setTop g) t := by
  obtain ⟨cl, A, q, S, N, H, G⟩ := V
  obtain ⟨T', h', X', e', W', st⟩ := stB X hx hZ eT A (own_idx S q1 q2) (g := g) hg hs hd
  exact ⟨T', h', X', e', W', Arv.set A q S N H G (fits_nar_byte _) W' i hi hl, st⟩
theorem own_stZ (X : Stand p l e R s m args below meth c T locs cells slots) (hx : p.tables.exec = Jvm.exec) (hZ : Z.Warmed39 s.vm) (eT : T.heap = h) {k : ClassId} {n : Int32} {vs : List Value} {d : Value} (V : Arv Z h a k .boolean n vs d) {j x : Int32} (q1 : ¬ j < 0) (q2 : j < n) (i : Nat) (hi : j.toNatClampNeg = i) (hl : i < vs.length) {g : JFrame} (hg : g.method = m) {rest : List Value} (hs : g.stack = .int x :: .int j :: .ref a :: rest) (hd : decode c.code g.pc = .ok (.bastore, 1)) :
    ∃ T' h', Stand p l e R s m args below meth c T' (locs ++ [⟨a, j.toNatClampNeg⟩]) cells slots ∧ T'.heap = h' ∧ Wr h h' a j.toNatClampNeg (.int (nar .boolean x)) ∧ Arv Z h' a k .boolean n (vs.set i (.int (nar .boolean x))) d ∧ ∀ t, Steps p.tables e below (T'.setTop { g with pc := g.pc + 1, stack := rest }) t → Steps p.tables e below (T.setTop g) t := by
  obtain ⟨cl, A, q, S, N, H, G⟩ := V
  obtain ⟨T', h', X', e', W', st⟩ := stZ X hx hZ eT A (own_idx S q1 q2) (g := g) hg hs hd
  exact ⟨T', h', X', e', W', Arv.set A q S N H G (fits_nar_bool _) W' i hi hl, st⟩
theorem own_old {n0 : Nat} (O : Old Z n0 h) : n0 ≤ h.size := O.1 ▸ O.2.1
theorem own_res {z z' y : Int32} (hq : y = z') (hz : z = z') : some (Value.int z) = some (Value.int y) := by rw [hq, hz]
theorem own_resJ {z z' y : Int64} (hq : y = z') (hz : z = z') : some (Value.long z) = some (Value.long y) := by rw [hq, hz]
theorem own_narR {v : Value} {t : FieldType} (q : v.isRef = true) (r : t.isReference = true := by rfl) : narrow t v = v := by
  rcases ref_cases q with rfl | ⟨_, rfl⟩ <;> cases t <;> first | rfl | (simp [FieldType.isReference] at r)
theorem own_fitR {v : Value} {t : FieldType} (q : v.isRef = true) (r : t.isReference = true := by rfl) : fits t v = true := by
  rcases ref_cases q with rfl | ⟨_, rfl⟩ <;> cases t <;> first | rfl | (simp [FieldType.isReference] at r)
theorem own_fld {ar : Array Value} {t : Term} {x : Addr} {C n d : String} {k : Int32} (ht : t.eval ar s none [] s = some (.ref x)) (q : (Jvm.Cond.eq (.field t C n d) (.int k)).value ar s none s [] = some true) : Fld s s.heap x C n d (.int k) := by
  obtain ⟨u, w, e1, e2, -, k2⟩ := cmp_v (Or.inl q)
  have e3 : (Term.int k).eval ar s none [] s = some (.int k) := Term.int_eval k
  rw [e3] at e2
  obtain rfl := Option.some.inj e2
  obtain ⟨z, rfl⟩ := k2
  have e4 : z = k := gotT (Cond.eq_ints e1 e3) q
  subst e4
  rw [fld_at ht] at e1
  exact Fld.start e1
theorem own_neI {u w : Int32} (q : u ≠ w) : Value.int u ≠ Value.int w := fun z => q (Value.int.inj z)
theorem own_stR (X : Stand p l e R s m args below meth c T locs cells slots) (hx : p.tables.exec = Jvm.exec) (hZ : Z.Warmed39 s.vm) (eT : T.heap = h) {k : ClassId} {n : Int32} {vs : List Value} {d : Value} {ty : FieldType} {C : String} (V : Arv Z h a k ty n vs d) (hty : ty.isReference = true) (O : Ovr Z k C) {y : Addr} (I : Ins Z h y C true) {j : Int32} (q1 : ¬ j < 0) (q2 : j < n) (i : Nat) (hi : j.toNatClampNeg = i) (hl : i < vs.length) {g : JFrame} (hg : g.method = m) {rest : List Value} (hs : g.stack = .ref y :: .int j :: .ref a :: rest) (hd : decode c.code g.pc = .ok (.aastore, 1)) :
    ∃ T' h', Stand p l e R s m args below meth c T' (locs ++ [⟨a, j.toNatClampNeg⟩]) cells slots ∧ T'.heap = h' ∧ Wr h h' a j.toNatClampNeg (.ref y) ∧ Arv Z h' a k ty n (vs.set i (.ref y)) d ∧ ∀ t, Steps p.tables e below (T'.setTop { g with pc := g.pc + 1, stack := rest }) t → Steps p.tables e below (T.setTop g) t := by
  obtain ⟨cl, A, q, S, N, H, G⟩ := V
  obtain ⟨T', h', X', e', W', st⟩ := stR X hx hZ eT A (own_idx S q1 q2) hty (Sto.ofV A q O I) (g := g) hg hs hd
  exact ⟨T', h', X', e', W', Arv.set A q S N H G (own_fitR rfl hty) W' i hi hl, st⟩
theorem own_dupx2 (X : Stand p l e R s m args below meth c T locs cells slots) (hx : p.tables.exec = Jvm.exec) {g : JFrame} (hg : g.method = m) {x y z : Value} {rest : List Value} (hd : decode c.code g.pc = .ok (.dup_x2, 1)) (hs : g.stack = x :: y :: z :: rest) (hc : x.category = 1) (hc' : y.category = 1) (hc'' : z.category = 1) (t : State) (kk : Steps p.tables e below (T.setTop { g with pc := g.pc + 1, stack := x :: y :: z :: x :: rest }) t) : Steps p.tables e below (T.setTop g) t := by
  subst hg
  jvm_step X.here [X.here.top, hx, hd, dup_x2.wp_sem, hs, hc, hc', hc'']
  exact kk
end OwnKit
theorem own_lt (x y : Int32) : (x < y) = (x.toInt < y.toInt) := propext Int32.lt_iff_toInt_lt
theorem own_eq (x y : Int32) : (x = y) = (x.toInt = y.toInt) := propext Int32.toInt_inj.symm
theorem own_getI (xs : List Int32) (d : Int32) (i : Nat) : (xs.map Value.int).getD i (.int d) = .int (xs.getD i d) := by
  induction xs generalizing i with
  | nil => rfl
  | cons a t ih =>
    cases i with
    | zero => rfl
    | succ n => exact ih n
theorem own_rep {n : Nat} : ∀ i, ((List.replicate n (0 : Int32)).map Value.int).getD i (.int 0) = ([] : List Value).getD i (.int 0) := by
  intro i
  rw [own_getI]
  have : (List.replicate n (0 : Int32)).getD i 0 = 0 := by
    rw [List.getD_eq_getElem?_getD, List.getElem?_replicate]
    split <;> rfl
  rw [this]
  rfl
section OwnL
variable {p : Program} {l : Launch} {e : Env} {R : Room} {s : State} {m : MethodId} {args : Array Value} {below : List Frame} {meth : Method} {c : Code} {T : State} {locs : List Loc} {cells slots : Nat} {Z : State} {h : Heap} {a : Addr}
theorem own_stIL (X : Stand p l e R s m args below meth c T locs cells slots) (hx : p.tables.exec = Jvm.exec) (hZ : Z.Warmed39 s.vm) (eT : T.heap = h) {k : ClassId} {n : Int32} {S : List Int32} {d : Value} (V : Arv Z h a k .int n (S.map Value.int) d) (hlen : S.length = n.toNatClampNeg) {j x : Int32} (q1 : ¬ j < 0) (q2 : j < n) {g : JFrame} (hg : g.method = m) {rest : List Value} (hs : g.stack = .int x :: .int j :: .ref a :: rest) (hd : decode c.code g.pc = .ok (.iastore, 1)) :
    ∃ T' h', Stand p l e R s m args below meth c T' (locs ++ [⟨a, j.toNatClampNeg⟩]) cells slots ∧ T'.heap = h' ∧ Wr h h' a j.toNatClampNeg (.int x) ∧ Arv Z h' a k .int n ((S.set j.toNatClampNeg x).map Value.int) d ∧ ∀ t, Steps p.tables e below (T'.setTop { g with pc := g.pc + 1, stack := rest }) t → Steps p.tables e below (T.setTop g) t := by
  have hl : j.toNatClampNeg < (S.map Value.int).length := by
    rw [List.length_map, hlen]
    obtain ⟨cl, -, -, S0, -, -, -⟩ := V
    exact Nat.lt_of_not_le fun q => own_idx S0 q1 q2 (Or.inr (S0 ▸ q))
  obtain ⟨T', h', X', e', W', V', st⟩ := own_stI X hx hZ eT V q1 q2 j.toNatClampNeg rfl hl hg hs hd
  exact ⟨T', h', X', e', W', by rw [List.map_set]; exact V', st⟩
end OwnL
def oInc (S : List Int32) (i : Int32) : List Int32 := List.set S i.toNatClampNeg (List.getD S i.toNatClampNeg 0 + 1)
def oS1 (w : Int32) (S : List Int32) : List Int32 := if w = -1 then S else oInc S (w + 1)
def oA0 (w0 w1 w2 w3 : Int32) : List Int32 := [0, 0, 0, 0]
def oA1 (w0 w1 w2 w3 : Int32) : List Int32 := oS1 w0 (oA0 w0 w1 w2 w3)
def oA2 (w0 w1 w2 w3 : Int32) : List Int32 := oS1 w1 (oA1 w0 w1 w2 w3)
def oA3 (w0 w1 w2 w3 : Int32) : List Int32 := oS1 w2 (oA2 w0 w1 w2 w3)
def oA4 (w0 w1 w2 w3 : Int32) : List Int32 := oS1 w3 (oA3 w0 w1 w2 w3)
def oPre (S : List Int32) (g : Nat) : List Int32 := List.set S g (List.getD S g 0 + List.getD S (g - 1) 0)
def oP (w0 w1 w2 w3 : Int32) : List Int32 := oPre (oPre (oPre (oA4 w0 w1 w2 w3) 1) 2) 3
def oN (w0 w1 w2 w3 : Int32) : Int32 := List.getD (oP w0 w1 w2 w3) 3 0
def oX0 (w0 w1 w2 w3 : Int32) : List Int32 := oP w0 w1 w2 w3
def oG0 (w0 w1 w2 w3 : Int32) : List Int32 := List.replicate (oN w0 w1 w2 w3).toNatClampNeg 0
def oX1 (w0 w1 w2 w3 : Int32) : List Int32 := if w0 = -1 then oX0 w0 w1 w2 w3 else oInc (oX0 w0 w1 w2 w3) w0
def oG1 (w0 w1 w2 w3 : Int32) : List Int32 := if w0 = -1 then oG0 w0 w1 w2 w3 else List.set (oG0 w0 w1 w2 w3) (List.getD (oX0 w0 w1 w2 w3) w0.toNatClampNeg 0).toNatClampNeg 0
def oX2 (w0 w1 w2 w3 : Int32) : List Int32 := if w1 = -1 then oX1 w0 w1 w2 w3 else oInc (oX1 w0 w1 w2 w3) w1
def oG2 (w0 w1 w2 w3 : Int32) : List Int32 := if w1 = -1 then oG1 w0 w1 w2 w3 else List.set (oG1 w0 w1 w2 w3) (List.getD (oX1 w0 w1 w2 w3) w1.toNatClampNeg 0).toNatClampNeg 1
def oX3 (w0 w1 w2 w3 : Int32) : List Int32 := if w2 = -1 then oX2 w0 w1 w2 w3 else oInc (oX2 w0 w1 w2 w3) w2
def oG3 (w0 w1 w2 w3 : Int32) : List Int32 := if w2 = -1 then oG2 w0 w1 w2 w3 else List.set (oG2 w0 w1 w2 w3) (List.getD (oX2 w0 w1 w2 w3) w2.toNatClampNeg 0).toNatClampNeg 2
def oX4 (w0 w1 w2 w3 : Int32) : List Int32 := if w3 = -1 then oX3 w0 w1 w2 w3 else oInc (oX3 w0 w1 w2 w3) w3
def oG4 (w0 w1 w2 w3 : Int32) : List Int32 := if w3 = -1 then oG3 w0 w1 w2 w3 else List.set (oG3 w0 w1 w2 w3) (List.getD (oX3 w0 w1 w2 w3) w3.toNatClampNeg 0).toNatClampNeg 3
theorem len_inc (S : List Int32) (i : Int32) : (oInc S i).length = S.length := by unfold oInc; exact List.length_set
theorem len_s1 (w : Int32) (S : List Int32) : (oS1 w S).length = S.length := by unfold oS1; split; exact rfl; exact len_inc _ _
theorem len_pre (S : List Int32) (g : Nat) : (oPre S g).length = S.length := by unfold oPre; exact List.length_set
theorem len_A0 (w0 w1 w2 w3 : Int32) : (oA0 w0 w1 w2 w3).length = (4 : Int32).toNatClampNeg := rfl
theorem len_A1 (w0 w1 w2 w3 : Int32) : (oA1 w0 w1 w2 w3).length = (4 : Int32).toNatClampNeg := (len_s1 _ _).trans (len_A0 ..)
theorem len_A2 (w0 w1 w2 w3 : Int32) : (oA2 w0 w1 w2 w3).length = (4 : Int32).toNatClampNeg := (len_s1 _ _).trans (len_A1 ..)
theorem len_A3 (w0 w1 w2 w3 : Int32) : (oA3 w0 w1 w2 w3).length = (4 : Int32).toNatClampNeg := (len_s1 _ _).trans (len_A2 ..)
theorem len_A4 (w0 w1 w2 w3 : Int32) : (oA4 w0 w1 w2 w3).length = (4 : Int32).toNatClampNeg := (len_s1 _ _).trans (len_A3 ..)
theorem len_P (w0 w1 w2 w3 : Int32) : (oP w0 w1 w2 w3).length = (4 : Int32).toNatClampNeg := (len_pre _ _).trans ((len_pre _ _).trans ((len_pre _ _).trans (len_A4 ..)))
theorem len_X0 (w0 w1 w2 w3 : Int32) : (oX0 w0 w1 w2 w3).length = (4 : Int32).toNatClampNeg := len_P ..
theorem len_G0 (w0 w1 w2 w3 : Int32) : (oG0 w0 w1 w2 w3).length = (oN w0 w1 w2 w3).toNatClampNeg := List.length_replicate ..
theorem len_X1 (w0 w1 w2 w3 : Int32) : (oX1 w0 w1 w2 w3).length = (4 : Int32).toNatClampNeg := by unfold oX1; split; exact len_X0 ..; exact (len_inc _ _).trans (len_X0 ..)
theorem len_G1 (w0 w1 w2 w3 : Int32) : (oG1 w0 w1 w2 w3).length = (oN w0 w1 w2 w3).toNatClampNeg := by unfold oG1; split; exact len_G0 ..; exact List.length_set.trans (len_G0 ..)
theorem len_X2 (w0 w1 w2 w3 : Int32) : (oX2 w0 w1 w2 w3).length = (4 : Int32).toNatClampNeg := by unfold oX2; split; exact len_X1 ..; exact (len_inc _ _).trans (len_X1 ..)
theorem len_G2 (w0 w1 w2 w3 : Int32) : (oG2 w0 w1 w2 w3).length = (oN w0 w1 w2 w3).toNatClampNeg := by unfold oG2; split; exact len_G1 ..; exact List.length_set.trans (len_G1 ..)
theorem len_X3 (w0 w1 w2 w3 : Int32) : (oX3 w0 w1 w2 w3).length = (4 : Int32).toNatClampNeg := by unfold oX3; split; exact len_X2 ..; exact (len_inc _ _).trans (len_X2 ..)
theorem len_G3 (w0 w1 w2 w3 : Int32) : (oG3 w0 w1 w2 w3).length = (oN w0 w1 w2 w3).toNatClampNeg := by unfold oG3; split; exact len_G2 ..; exact List.length_set.trans (len_G2 ..)
theorem len_X4 (w0 w1 w2 w3 : Int32) : (oX4 w0 w1 w2 w3).length = (4 : Int32).toNatClampNeg := by unfold oX4; split; exact len_X3 ..; exact (len_inc _ _).trans (len_X3 ..)
theorem len_G4 (w0 w1 w2 w3 : Int32) : (oG4 w0 w1 w2 w3).length = (oN w0 w1 w2 w3).toNatClampNeg := by unfold oG4; split; exact len_G3 ..; exact List.length_set.trans (len_G3 ..)
def oD : List Int32 := [-1, 0, 1, 2]
theorem own_all (P : Int32 → Int32 → Int32 → Int32 → Bool) (h : (oD.all fun a => oD.all fun b => oD.all fun c => oD.all fun d => P a b c d) = true) {w0 w1 w2 w3 : Int32} (m0 : w0 ∈ oD) (m1 : w1 ∈ oD) (m2 : w2 ∈ oD) (m3 : w3 ∈ oD) : P w0 w1 w2 w3 = true :=
  List.all_eq_true.mp (List.all_eq_true.mp (List.all_eq_true.mp (List.all_eq_true.mp h w0 m0) w1 m1) w2 m2) w3 m3
theorem own_one (P : Int32 → Bool) (h : (oD.all P) = true) {w : Int32} (m : w ∈ oD) : P w = true := List.all_eq_true.mp h w m
theorem own_wb {w : Int32} (m : w ∈ oD) (h : ¬ w = -1) : (¬ w < 0 ∧ w < 4) ∧ (¬ w + 1 < 0 ∧ w + 1 < 4) := by
  have := own_one (fun w => decide (w = -1 ∨ ((¬ w < 0 ∧ w < 4) ∧ (¬ w + 1 < 0 ∧ w + 1 < 4)))) (by decide +kernel) m
  exact (of_decide_eq_true this).resolve_left h
theorem own_nb {w0 w1 w2 w3 : Int32} (m0 : w0 ∈ oD) (m1 : w1 ∈ oD) (m2 : w2 ∈ oD) (m3 : w3 ∈ oD) : ¬ oN w0 w1 w2 w3 < 0 ∧ (oN w0 w1 w2 w3).toNatClampNeg ≤ 4 := 
  of_decide_eq_true (own_all (fun w0 w1 w2 w3 => decide (¬ oN w0 w1 w2 w3 < 0 ∧ (oN w0 w1 w2 w3).toNatClampNeg ≤ 4)) (by decide +kernel) m0 m1 m2 m3)
theorem own_vb0 {w0 w1 w2 w3 : Int32} (m0 : w0 ∈ oD) (m1 : w1 ∈ oD) (m2 : w2 ∈ oD) (m3 : w3 ∈ oD) (h : ¬ w0 = -1) : ¬ List.getD (oX0 w0 w1 w2 w3) w0.toNatClampNeg 0 < 0 ∧ List.getD (oX0 w0 w1 w2 w3) w0.toNatClampNeg 0 < oN w0 w1 w2 w3 := 
  (of_decide_eq_true (own_all (fun w0 w1 w2 w3 => decide (w0 = -1 ∨ (¬ List.getD (oX0 w0 w1 w2 w3) w0.toNatClampNeg 0 < 0 ∧ List.getD (oX0 w0 w1 w2 w3) w0.toNatClampNeg 0 < oN w0 w1 w2 w3))) (by decide +kernel) m0 m1 m2 m3)).resolve_left h
theorem own_vb1 {w0 w1 w2 w3 : Int32} (m0 : w0 ∈ oD) (m1 : w1 ∈ oD) (m2 : w2 ∈ oD) (m3 : w3 ∈ oD) (h : ¬ w1 = -1) : ¬ List.getD (oX1 w0 w1 w2 w3) w1.toNatClampNeg 0 < 0 ∧ List.getD (oX1 w0 w1 w2 w3) w1.toNatClampNeg 0 < oN w0 w1 w2 w3 := 
  (of_decide_eq_true (own_all (fun w0 w1 w2 w3 => decide (w1 = -1 ∨ (¬ List.getD (oX1 w0 w1 w2 w3) w1.toNatClampNeg 0 < 0 ∧ List.getD (oX1 w0 w1 w2 w3) w1.toNatClampNeg 0 < oN w0 w1 w2 w3))) (by decide +kernel) m0 m1 m2 m3)).resolve_left h
theorem own_vb2 {w0 w1 w2 w3 : Int32} (m0 : w0 ∈ oD) (m1 : w1 ∈ oD) (m2 : w2 ∈ oD) (m3 : w3 ∈ oD) (h : ¬ w2 = -1) : ¬ List.getD (oX2 w0 w1 w2 w3) w2.toNatClampNeg 0 < 0 ∧ List.getD (oX2 w0 w1 w2 w3) w2.toNatClampNeg 0 < oN w0 w1 w2 w3 := 
  (of_decide_eq_true (own_all (fun w0 w1 w2 w3 => decide (w2 = -1 ∨ (¬ List.getD (oX2 w0 w1 w2 w3) w2.toNatClampNeg 0 < 0 ∧ List.getD (oX2 w0 w1 w2 w3) w2.toNatClampNeg 0 < oN w0 w1 w2 w3))) (by decide +kernel) m0 m1 m2 m3)).resolve_left h
theorem own_vb3 {w0 w1 w2 w3 : Int32} (m0 : w0 ∈ oD) (m1 : w1 ∈ oD) (m2 : w2 ∈ oD) (m3 : w3 ∈ oD) (h : ¬ w3 = -1) : ¬ List.getD (oX3 w0 w1 w2 w3) w3.toNatClampNeg 0 < 0 ∧ List.getD (oX3 w0 w1 w2 w3) w3.toNatClampNeg 0 < oN w0 w1 w2 w3 := 
  (of_decide_eq_true (own_all (fun w0 w1 w2 w3 => decide (w3 = -1 ∨ (¬ List.getD (oX3 w0 w1 w2 w3) w3.toNatClampNeg 0 < 0 ∧ List.getD (oX3 w0 w1 w2 w3) w3.toNatClampNeg 0 < oN w0 w1 w2 w3))) (by decide +kernel) m0 m1 m2 m3)).resolve_left h
theorem dg_0 : decode prog_5_method_4_code 0 = .ok (.aload_n 0, 1) := by decide +kernel
theorem dg_1 : decode prog_5_method_4_code 1 = .ok (.astore_n 2, 1) := by decide +kernel
theorem dg_2 : decode prog_5_method_4_code 2 = .ok (.aload_n 2, 1) := by decide +kernel
theorem dg_3 : decode prog_5_method_4_code 3 = .ok (.arraylength, 1) := by decide +kernel
theorem dg_4 : decode prog_5_method_4_code 4 = .ok (.istore_n 3, 1) := by decide +kernel
theorem dg_5 : decode prog_5_method_4_code 5 = .ok (.iconst 0, 1) := by decide +kernel
theorem dg_6 : decode prog_5_method_4_code 6 = .ok (.istore 4, 2) := by decide +kernel
theorem dg_8 : decode prog_5_method_4_code 8 = .ok (.iload 4, 2) := by decide +kernel
theorem dg_10 : decode prog_5_method_4_code 10 = .ok (.iload_n 3, 1) := by decide +kernel
theorem dg_11 : decode prog_5_method_4_code 11 = .ok (.if_icmp .ge 31, 3) := by decide +kernel
theorem dg_14 : decode prog_5_method_4_code 14 = .ok (.aload_n 2, 1) := by decide +kernel
theorem dg_15 : decode prog_5_method_4_code 15 = .ok (.iload 4, 2) := by decide +kernel
theorem dg_17 : decode prog_5_method_4_code 17 = .ok (.iaload, 1) := by decide +kernel
theorem dg_18 : decode prog_5_method_4_code 18 = .ok (.istore 5, 2) := by decide +kernel
theorem dg_20 : decode prog_5_method_4_code 20 = .ok (.iload 5, 2) := by decide +kernel
theorem dg_22 : decode prog_5_method_4_code 22 = .ok (.iconst (-1), 1) := by decide +kernel
theorem dg_23 : decode prog_5_method_4_code 23 = .ok (.if_icmp .eq 13, 3) := by decide +kernel
theorem dg_26 : decode prog_5_method_4_code 26 = .ok (.aload_n 1, 1) := by decide +kernel
theorem dg_27 : decode prog_5_method_4_code 27 = .ok (.iload 5, 2) := by decide +kernel
theorem dg_29 : decode prog_5_method_4_code 29 = .ok (.iconst 1, 1) := by decide +kernel
theorem dg_30 : decode prog_5_method_4_code 30 = .ok (.iadd, 1) := by decide +kernel
theorem dg_31 : decode prog_5_method_4_code 31 = .ok (.dup2, 1) := by decide +kernel
theorem dg_32 : decode prog_5_method_4_code 32 = .ok (.iaload, 1) := by decide +kernel
theorem dg_33 : decode prog_5_method_4_code 33 = .ok (.iconst 1, 1) := by decide +kernel
theorem dg_34 : decode prog_5_method_4_code 34 = .ok (.iadd, 1) := by decide +kernel
theorem dg_35 : decode prog_5_method_4_code 35 = .ok (.iastore, 1) := by decide +kernel
theorem dg_36 : decode prog_5_method_4_code 36 = .ok (.iinc 4 1, 3) := by decide +kernel
theorem dg_39 : decode prog_5_method_4_code 39 = .ok (.goto (-31), 3) := by decide +kernel
theorem dg_42 : decode prog_5_method_4_code 42 = .ok (.iconst 1, 1) := by decide +kernel
theorem dg_43 : decode prog_5_method_4_code 43 = .ok (.istore_n 2, 1) := by decide +kernel
theorem dg_44 : decode prog_5_method_4_code 44 = .ok (.iload_n 2, 1) := by decide +kernel
theorem dg_45 : decode prog_5_method_4_code 45 = .ok (.aload_n 1, 1) := by decide +kernel
theorem dg_46 : decode prog_5_method_4_code 46 = .ok (.arraylength, 1) := by decide +kernel
theorem dg_47 : decode prog_5_method_4_code 47 = .ok (.if_icmp .ge 20, 3) := by decide +kernel
theorem dg_50 : decode prog_5_method_4_code 50 = .ok (.aload_n 1, 1) := by decide +kernel
theorem dg_51 : decode prog_5_method_4_code 51 = .ok (.iload_n 2, 1) := by decide +kernel
theorem dg_52 : decode prog_5_method_4_code 52 = .ok (.dup2, 1) := by decide +kernel
theorem dg_53 : decode prog_5_method_4_code 53 = .ok (.iaload, 1) := by decide +kernel
theorem dg_54 : decode prog_5_method_4_code 54 = .ok (.aload_n 1, 1) := by decide +kernel
theorem dg_55 : decode prog_5_method_4_code 55 = .ok (.iload_n 2, 1) := by decide +kernel
theorem dg_56 : decode prog_5_method_4_code 56 = .ok (.iconst 1, 1) := by decide +kernel
theorem dg_57 : decode prog_5_method_4_code 57 = .ok (.isub, 1) := by decide +kernel
theorem dg_58 : decode prog_5_method_4_code 58 = .ok (.iaload, 1) := by decide +kernel
theorem dg_59 : decode prog_5_method_4_code 59 = .ok (.iadd, 1) := by decide +kernel
theorem dg_60 : decode prog_5_method_4_code 60 = .ok (.iastore, 1) := by decide +kernel
theorem dg_61 : decode prog_5_method_4_code 61 = .ok (.iinc 2 1, 3) := by decide +kernel
theorem dg_64 : decode prog_5_method_4_code 64 = .ok (.goto (-20), 3) := by decide +kernel
theorem dg_67 : decode prog_5_method_4_code 67 = .ok (.aload_n 1, 1) := by decide +kernel
theorem dg_68 : decode prog_5_method_4_code 68 = .ok (.aload_n 1, 1) := by decide +kernel
theorem dg_69 : decode prog_5_method_4_code 69 = .ok (.arraylength, 1) := by decide +kernel
theorem dg_70 : decode prog_5_method_4_code 70 = .ok (.iconst 1, 1) := by decide +kernel
theorem dg_71 : decode prog_5_method_4_code 71 = .ok (.isub, 1) := by decide +kernel
theorem dg_72 : decode prog_5_method_4_code 72 = .ok (.iaload, 1) := by decide +kernel
theorem dg_73 : decode prog_5_method_4_code 73 = .ok (.newarray .int, 2) := by decide +kernel
theorem dg_75 : decode prog_5_method_4_code 75 = .ok (.astore_n 2, 1) := by decide +kernel
theorem dg_76 : decode prog_5_method_4_code 76 = .ok (.aload_n 1, 1) := by decide +kernel
theorem dg_77 : decode prog_5_method_4_code 77 = .ok (.invokevirtual 172, 3) := by decide +kernel
theorem dg_80 : decode prog_5_method_4_code 80 = .ok (.checkcast 173, 3) := by decide +kernel
theorem dg_83 : decode prog_5_method_4_code 83 = .ok (.astore_n 3, 1) := by decide +kernel
theorem dg_84 : decode prog_5_method_4_code 84 = .ok (.iconst 0, 1) := by decide +kernel
theorem dg_85 : decode prog_5_method_4_code 85 = .ok (.istore 4, 2) := by decide +kernel
theorem dg_87 : decode prog_5_method_4_code 87 = .ok (.iload 4, 2) := by decide +kernel
theorem dg_89 : decode prog_5_method_4_code 89 = .ok (.aload_n 0, 1) := by decide +kernel
theorem dg_90 : decode prog_5_method_4_code 90 = .ok (.arraylength, 1) := by decide +kernel
theorem dg_91 : decode prog_5_method_4_code 91 = .ok (.if_icmp .ge 32, 3) := by decide +kernel
theorem dg_94 : decode prog_5_method_4_code 94 = .ok (.aload_n 0, 1) := by decide +kernel
theorem dg_95 : decode prog_5_method_4_code 95 = .ok (.iload 4, 2) := by decide +kernel
theorem dg_97 : decode prog_5_method_4_code 97 = .ok (.iaload, 1) := by decide +kernel
theorem dg_98 : decode prog_5_method_4_code 98 = .ok (.iconst (-1), 1) := by decide +kernel
theorem dg_99 : decode prog_5_method_4_code 99 = .ok (.if_icmp .eq 18, 3) := by decide +kernel
theorem dg_102 : decode prog_5_method_4_code 102 = .ok (.aload_n 2, 1) := by decide +kernel
theorem dg_103 : decode prog_5_method_4_code 103 = .ok (.aload_n 3, 1) := by decide +kernel
theorem dg_104 : decode prog_5_method_4_code 104 = .ok (.aload_n 0, 1) := by decide +kernel
theorem dg_105 : decode prog_5_method_4_code 105 = .ok (.iload 4, 2) := by decide +kernel
theorem dg_107 : decode prog_5_method_4_code 107 = .ok (.iaload, 1) := by decide +kernel
theorem dg_108 : decode prog_5_method_4_code 108 = .ok (.dup2, 1) := by decide +kernel
theorem dg_109 : decode prog_5_method_4_code 109 = .ok (.iaload, 1) := by decide +kernel
theorem dg_110 : decode prog_5_method_4_code 110 = .ok (.dup_x2, 1) := by decide +kernel
theorem dg_111 : decode prog_5_method_4_code 111 = .ok (.iconst 1, 1) := by decide +kernel
theorem dg_112 : decode prog_5_method_4_code 112 = .ok (.iadd, 1) := by decide +kernel
theorem dg_113 : decode prog_5_method_4_code 113 = .ok (.iastore, 1) := by decide +kernel
theorem dg_114 : decode prog_5_method_4_code 114 = .ok (.iload 4, 2) := by decide +kernel
theorem dg_116 : decode prog_5_method_4_code 116 = .ok (.iastore, 1) := by decide +kernel
theorem dg_117 : decode prog_5_method_4_code 117 = .ok (.iinc 4 1, 3) := by decide +kernel
theorem dg_120 : decode prog_5_method_4_code 120 = .ok (.goto (-33), 3) := by decide +kernel
theorem dg_123 : decode prog_5_method_4_code 123 = .ok (.aload_n 2, 1) := by decide +kernel
theorem dg_124 : decode prog_5_method_4_code 124 = .ok (.areturn, 1) := by decide +kernel
theorem png : plainName "com/example/rootward/rootward/model/Instance" = true := by first | (simp [plainName, overriddenIn]; done) | decide +kernel
theorem efg (m : MethodId) (x0 : Addr) (x1 : Addr) : entryFrame m #[(.ref x0), (.ref x1)] 6 = mkF m 0 #[.val (.ref x0), .val (.ref x1), .unset, .unset, .unset, .unset] [] := by first | (simp [entryFrame, mkF, argsToLocals, Value.category, maxLocals]; done) | rfl
def Qg (Z : State) (a : Addr) (ka : ClassId) (b : Addr) (kb : ClassId) (w0 : Int32) (w1 : Int32) (w2 : Int32) (w3 : Int32) (h0 : Heap) (n0 : Nat) (v : Option Value) (h : Heap) (L : List Loc) : Prop := ∃ (g : Addr) (kg : ClassId), v = some (.ref g) ∧ Fr n0 L ∧ Keep h0 h [b] ∧ n0 ≤ g ∧ h0.size ≤ g ∧ Arv Z h b kb .int (4 : Int32) ((oP w0 w1 w2 w3).map Value.int) (.int (0 : Int32)) ∧ Arv Z h g kg .int (oN w0 w1 w2 w3) ((oG4 w0 w1 w2 w3).map Value.int) (.int (0 : Int32))
set_option maxRecDepth 65536 in
set_option maxHeartbeats 40000000 in
theorem rmg (l : Launch) (Z : State) (a0 : Array Value) (hw : ∀ d ∈ tables_1, d.before a0 Z = true) (ws : List Jvm.Cond) (a : Addr) (ka : ClassId) (b : Addr) (kb : ClassId) (w0 : Int32) (w1 : Int32) (w2 : Int32) (w3 : Int32) (h0 : Heap) (n0 : Nat) (O0 : Old Z n0 h0) (V_a : Arv Z h0 a ka .int (4 : Int32) [(.int w0), (.int w1), (.int w2), (.int w3)] (.int (0 : Int32))) (V_b : Arv Z h0 b kb .int (4 : Int32) ((oA0 w0 w1 w2 w3).map Value.int) (.int (0 : Int32))) (E_b : Exa Z h0 b "[I") (gb : n0 ≤ b) (nab : a ≠ b) (m0 : w0 ∈ oD) (m1 : w1 ∈ oD) (m2 : w2 ∈ oD) (m3 : w3 ∈ oD) :
    MetFree l (⟨"com/example/rootward/rootward/model/Instance", "group", "([I[I)[I"⟩ : MethodName) (head1 (Jvm.Cond.code (⟨"com/example/rootward/rootward/model/Instance", "group", "([I[I)[I"⟩ : MethodName) prog_5_method_4_code 6 (some (.array .int)) :: ws) ({ frames := 1, cells := 2, slots := 8, locals := 14 } : Room)) (fun A_ U_ => A_ = #[(.ref a), (.ref b)] ∧ Z.Warmed39 U_.vm ∧ U_.heap = h0) (fun _ _ _ _ _ => True) (fun _ U o U' => ∃ v L, o = .returned v ∧ Qg Z a ka b kb w0 w1 w2 w3 h0 n0 v U'.heap L ∧ FrameEnd U o U' L ({ frames := 1, cells := 2, slots := 8, locals := 14 } : Room).cells ({ frames := 1, cells := 2, slots := 8, locals := 14 } : Room).slots) := by
  refine MetFree.of_bodySF (plainFor_of_name png) hisR ?_
  intro p e s m args below meth cd s₁ Bd hml0 hP hK
  obtain ⟨rfl, hZ, hh⟩ := hP
  have hx := Bd.exec
  have hby := Bd.bytes
  have hlk : meth.locks = false := BodyLoose.notSynchronized Bd
  have hml : cd.maxLocals = 6 := hml0
  have hown : s.vm.findClass "com/example/rootward/rootward/model/Instance" = some m.cls := findClass_of_methodNamed Bd.named
  have hnm := (name_of_methodNamed Bd.named Bd.method).1
  have X0 : Stand p l e ({ frames := 1, cells := 2, slots := 8, locals := 14 } : Room) s m #[(.ref a), (.ref b)] below meth cd s₁ [] 0 0 := Stand.of_body Bd
  have e0 : s₁.heap = h0 := by rw [← hh, Bd.state]; rfl
  have N0 := Fr.nil n0
  have K0 : Keep h0 h0 [b] := Keep.refl _ _
  have G : Go p e below s 2 8 (Qg Z a ka b kb w0 w1 w2 w3 h0 n0) (s₁.setTop (mkF m 0 #[.val (.ref a), .val (.ref b), .unset, .unset, .unset, .unset] [])) := by
    show Go p e below s _ _ _ (s₁.setTop (mkF m 0 #[.val (.ref a), .val (.ref b), .unset, .unset, .unset, .unset] []))
    refine Go.st (fun _ kq_ => XS.aloadN X0.here hx rfl (hb hby dg_0) rfl rfl kq_) ?_
    show Go p e below s _ _ _ (s₁.setTop (mkF m 1 #[.val (.ref a), .val (.ref b), .unset, .unset, .unset, .unset] [(.ref a)]))
    refine Go.st (fun _ kq_ => XS.astoreN X0.here hx rfl (hb hby dg_1) rfl rfl (l' := #[.val (.ref a), .val (.ref b), .val (.ref a), .unset, .unset, .unset]) rfl kq_) ?_
    show Go p e below s _ _ _ (s₁.setTop (mkF m 2 #[.val (.ref a), .val (.ref b), .val (.ref a), .unset, .unset, .unset] []))
    refine Go.st (fun _ kq_ => XS.aloadN X0.here hx rfl (hb hby dg_2) rfl rfl kq_) ?_
    show Go p e below s _ _ _ (s₁.setTop (mkF m 3 #[.val (.ref a), .val (.ref b), .val (.ref a), .unset, .unset, .unset] [(.ref a)]))
    refine Go.st (fun _ kq_ => own_len X0 hx hZ e0 V_a (g := (mkF m 3 #[.val (.ref a), .val (.ref b), .val (.ref a), .unset, .unset, .unset] [(.ref a)])) rfl rfl (hb hby dg_3) _ kq_) ?_
    show Go p e below s _ _ _ (s₁.setTop (mkF m 4 #[.val (.ref a), .val (.ref b), .val (.ref a), .unset, .unset, .unset] [(.int (4 : Int32))]))
    refine Go.st (fun _ kq_ => XS.istoreN X0.here hx rfl (hb hby dg_4) rfl (l' := #[.val (.ref a), .val (.ref b), .val (.ref a), .val (.int (4 : Int32)), .unset, .unset]) rfl kq_) ?_
    show Go p e below s _ _ _ (s₁.setTop (mkF m 5 #[.val (.ref a), .val (.ref b), .val (.ref a), .val (.int (4 : Int32)), .unset, .unset] []))
    refine Go.st (fun _ kq_ => XS.iconst X0.here hx rfl (hb hby dg_5) kq_) ?_
    show Go p e below s _ _ _ (s₁.setTop (mkF m 6 #[.val (.ref a), .val (.ref b), .val (.ref a), .val (.int (4 : Int32)), .unset, .unset] [(.int (0 : Int32))]))
    refine Go.st (fun _ kq_ => XS.istore X0.here hx rfl (hb hby dg_6) rfl (l' := #[.val (.ref a), .val (.ref b), .val (.ref a), .val (.int (4 : Int32)), .val (.int (0 : Int32)), .unset]) rfl kq_) ?_
    show Go p e below s _ _ _ (s₁.setTop (mkF m 8 #[.val (.ref a), .val (.ref b), .val (.ref a), .val (.int (4 : Int32)), .val (.int (0 : Int32)), .unset] []))
    refine Go.st (fun _ kq_ => XS.iload X0.here hx rfl (hb hby dg_8) rfl kq_) ?_
    show Go p e below s _ _ _ (s₁.setTop (mkF m 10 #[.val (.ref a), .val (.ref b), .val (.ref a), .val (.int (4 : Int32)), .val (.int (0 : Int32)), .unset] [(.int (0 : Int32))]))
    refine Go.st (fun _ kq_ => XS.iloadN X0.here hx rfl (hb hby dg_10) rfl kq_) ?_
    show Go p e below s _ _ _ (s₁.setTop (mkF m 11 #[.val (.ref a), .val (.ref b), .val (.ref a), .val (.int (4 : Int32)), .val (.int (0 : Int32)), .unset] [(.int (4 : Int32)), (.int (0 : Int32))]))
    refine Go.st (fun _ kq_ => XS.icmpNo X0.here hx rfl (hb hby dg_11) rfl (by decide) kq_) ?_
    show Go p e below s _ _ _ (s₁.setTop (mkF m 14 #[.val (.ref a), .val (.ref b), .val (.ref a), .val (.int (4 : Int32)), .val (.int (0 : Int32)), .unset] []))
    refine Go.st (fun _ kq_ => XS.aloadN X0.here hx rfl (hb hby dg_14) rfl rfl kq_) ?_
    show Go p e below s _ _ _ (s₁.setTop (mkF m 15 #[.val (.ref a), .val (.ref b), .val (.ref a), .val (.int (4 : Int32)), .val (.int (0 : Int32)), .unset] [(.ref a)]))
    refine Go.st (fun _ kq_ => XS.iload X0.here hx rfl (hb hby dg_15) rfl kq_) ?_
    show Go p e below s _ _ _ (s₁.setTop (mkF m 17 #[.val (.ref a), .val (.ref b), .val (.ref a), .val (.int (4 : Int32)), .val (.int (0 : Int32)), .unset] [(.int (0 : Int32)), (.ref a)]))
    refine Go.st (fun _ kq_ => own_iaload X0 hx hZ e0 V_a (by decide) (by decide) (v := (.int w0)) rfl (g := (mkF m 17 #[.val (.ref a), .val (.ref b), .val (.ref a), .val (.int (4 : Int32)), .val (.int (0 : Int32)), .unset] [(.int (0 : Int32)), (.ref a)])) rfl rfl (hb hby dg_17) _ kq_) ?_
    show Go p e below s _ _ _ (s₁.setTop (mkF m 18 #[.val (.ref a), .val (.ref b), .val (.ref a), .val (.int (4 : Int32)), .val (.int (0 : Int32)), .unset] [(.int w0)]))
    refine Go.st (fun _ kq_ => XS.istore X0.here hx rfl (hb hby dg_18) rfl (l' := #[.val (.ref a), .val (.ref b), .val (.ref a), .val (.int (4 : Int32)), .val (.int (0 : Int32)), .val (.int w0)]) rfl kq_) ?_
    show Go p e below s _ _ _ (s₁.setTop (mkF m 20 #[.val (.ref a), .val (.ref b), .val (.ref a), .val (.int (4 : Int32)), .val (.int (0 : Int32)), .val (.int w0)] []))
    have J0 : ∀ (T1 : State) (h1 : Heap) (lc1 : List Loc) (X1 : Stand p l e ({ frames := 1, cells := 2, slots := 8, locals := 14 } : Room) s m #[(.ref a), (.ref b)] below meth cd T1 lc1 0 0) (e1 : T1.heap = h1) (N1 : Fr n0 lc1) (O1 : Old Z n0 h1) (K1 : Keep h0 h1 [b]) (V_a : Arv Z h1 a ka .int (4 : Int32) [(.int w0), (.int w1), (.int w2), (.int w3)] (.int (0 : Int32))) (V_b : Arv Z h1 b kb .int (4 : Int32) ((oA1 w0 w1 w2 w3).map Value.int) (.int (0 : Int32))) (E_b : Exa Z h1 b "[I"), Go p e below s 2 8 (Qg Z a ka b kb w0 w1 w2 w3 h0 n0) (T1.setTop (mkF m 36 #[.val (.ref a), .val (.ref b), .val (.ref a), .val (.int (4 : Int32)), .val (.int (0 : Int32)), .val (.int w0)] [])) := by
      intro T1 h1 lc1 X1 e1 N1 O1 K1 V_a V_b E_b
      refine Go.st (fun _ kq_ => XT.iincV X1.here hx rfl (1 : Int32) (hb hby dg_36) rfl rfl (l' := #[.val (.ref a), .val (.ref b), .val (.ref a), .val (.int (4 : Int32)), .val (.int (1 : Int32)), .val (.int w0)]) rfl kq_) ?_
      show Go p e below s _ _ _ (T1.setTop (mkF m 39 #[.val (.ref a), .val (.ref b), .val (.ref a), .val (.int (4 : Int32)), .val (.int (1 : Int32)), .val (.int w0)] []))
      refine Go.st (fun _ kq_ => XS.goto X1.here hx rfl (pc0 := 39) (pc' := 8) rfl (hb hby dg_39) (by decide) (by decide) kq_) ?_
      show Go p e below s _ _ _ (T1.setTop (mkF m 8 #[.val (.ref a), .val (.ref b), .val (.ref a), .val (.int (4 : Int32)), .val (.int (1 : Int32)), .val (.int w0)] []))
      refine Go.st (fun _ kq_ => XS.iload X1.here hx rfl (hb hby dg_8) rfl kq_) ?_
      show Go p e below s _ _ _ (T1.setTop (mkF m 10 #[.val (.ref a), .val (.ref b), .val (.ref a), .val (.int (4 : Int32)), .val (.int (1 : Int32)), .val (.int w0)] [(.int (1 : Int32))]))
      refine Go.st (fun _ kq_ => XS.iloadN X1.here hx rfl (hb hby dg_10) rfl kq_) ?_
      show Go p e below s _ _ _ (T1.setTop (mkF m 11 #[.val (.ref a), .val (.ref b), .val (.ref a), .val (.int (4 : Int32)), .val (.int (1 : Int32)), .val (.int w0)] [(.int (4 : Int32)), (.int (1 : Int32))]))
      refine Go.st (fun _ kq_ => XS.icmpNo X1.here hx rfl (hb hby dg_11) rfl (by decide) kq_) ?_
      show Go p e below s _ _ _ (T1.setTop (mkF m 14 #[.val (.ref a), .val (.ref b), .val (.ref a), .val (.int (4 : Int32)), .val (.int (1 : Int32)), .val (.int w0)] []))
      refine Go.st (fun _ kq_ => XS.aloadN X1.here hx rfl (hb hby dg_14) rfl rfl kq_) ?_
      show Go p e below s _ _ _ (T1.setTop (mkF m 15 #[.val (.ref a), .val (.ref b), .val (.ref a), .val (.int (4 : Int32)), .val (.int (1 : Int32)), .val (.int w0)] [(.ref a)]))
      refine Go.st (fun _ kq_ => XS.iload X1.here hx rfl (hb hby dg_15) rfl kq_) ?_
      show Go p e below s _ _ _ (T1.setTop (mkF m 17 #[.val (.ref a), .val (.ref b), .val (.ref a), .val (.int (4 : Int32)), .val (.int (1 : Int32)), .val (.int w0)] [(.int (1 : Int32)), (.ref a)]))
      refine Go.st (fun _ kq_ => own_iaload X1 hx hZ e1 V_a (by decide) (by decide) (v := (.int w1)) rfl (g := (mkF m 17 #[.val (.ref a), .val (.ref b), .val (.ref a), .val (.int (4 : Int32)), .val (.int (1 : Int32)), .val (.int w0)] [(.int (1 : Int32)), (.ref a)])) rfl rfl (hb hby dg_17) _ kq_) ?_
      show Go p e below s _ _ _ (T1.setTop (mkF m 18 #[.val (.ref a), .val (.ref b), .val (.ref a), .val (.int (4 : Int32)), .val (.int (1 : Int32)), .val (.int w0)] [(.int w1)]))
      refine Go.st (fun _ kq_ => XS.istore X1.here hx rfl (hb hby dg_18) rfl (l' := #[.val (.ref a), .val (.ref b), .val (.ref a), .val (.int (4 : Int32)), .val (.int (1 : Int32)), .val (.int w1)]) rfl kq_) ?_
      show Go p e below s _ _ _ (T1.setTop (mkF m 20 #[.val (.ref a), .val (.ref b), .val (.ref a), .val (.int (4 : Int32)), .val (.int (1 : Int32)), .val (.int w1)] []))
      have J1 : ∀ (T2 : State) (h2 : Heap) (lc2 : List Loc) (X2 : Stand p l e ({ frames := 1, cells := 2, slots := 8, locals := 14 } : Room) s m #[(.ref a), (.ref b)] below meth cd T2 lc2 0 0) (e2 : T2.heap = h2) (N2 : Fr n0 lc2) (O2 : Old Z n0 h2) (K2 : Keep h0 h2 [b]) (V_a : Arv Z h2 a ka .int (4 : Int32) [(.int w0), (.int w1), (.int w2), (.int w3)] (.int (0 : Int32))) (V_b : Arv Z h2 b kb .int (4 : Int32) ((oA2 w0 w1 w2 w3).map Value.int) (.int (0 : Int32))) (E_b : Exa Z h2 b "[I"), Go p e below s 2 8 (Qg Z a ka b kb w0 w1 w2 w3 h0 n0) (T2.setTop (mkF m 36 #[.val (.ref a), .val (.ref b), .val (.ref a), .val (.int (4 : Int32)), .val (.int (1 : Int32)), .val (.int w1)] [])) := by
        intro T2 h2 lc2 X2 e2 N2 O2 K2 V_a V_b E_b
        refine Go.st (fun _ kq_ => XT.iincV X2.here hx rfl (1 : Int32) (hb hby dg_36) rfl rfl (l' := #[.val (.ref a), .val (.ref b), .val (.ref a), .val (.int (4 : Int32)), .val (.int (2 : Int32)), .val (.int w1)]) rfl kq_) ?_
        show Go p e below s _ _ _ (T2.setTop (mkF m 39 #[.val (.ref a), .val (.ref b), .val (.ref a), .val (.int (4 : Int32)), .val (.int (2 : Int32)), .val (.int w1)] []))
        refine Go.st (fun _ kq_ => XS.goto X2.here hx rfl (pc0 := 39) (pc' := 8) rfl (hb hby dg_39) (by decide) (by decide) kq_) ?_
        show Go p e below s _ _ _ (T2.setTop (mkF m 8 #[.val (.ref a), .val (.ref b), .val (.ref a), .val (.int (4 : Int32)), .val (.int (2 : Int32)), .val (.int w1)] []))
        refine Go.st (fun _ kq_ => XS.iload X2.here hx rfl (hb hby dg_8) rfl kq_) ?_
        show Go p e below s _ _ _ (T2.setTop (mkF m 10 #[.val (.ref a), .val (.ref b), .val (.ref a), .val (.int (4 : Int32)), .val (.int (2 : Int32)), .val (.int w1)] [(.int (2 : Int32))]))
        refine Go.st (fun _ kq_ => XS.iloadN X2.here hx rfl (hb hby dg_10) rfl kq_) ?_
        show Go p e below s _ _ _ (T2.setTop (mkF m 11 #[.val (.ref a), .val (.ref b), .val (.ref a), .val (.int (4 : Int32)), .val (.int (2 : Int32)), .val (.int w1)] [(.int (4 : Int32)), (.int (2 : Int32))]))
        refine Go.st (fun _ kq_ => XS.icmpNo X2.here hx rfl (hb hby dg_11) rfl (by decide) kq_) ?_
        show Go p e below s _ _ _ (T2.setTop (mkF m 14 #[.val (.ref a), .val (.ref b), .val (.ref a), .val (.int (4 : Int32)), .val (.int (2 : Int32)), .val (.int w1)] []))
        refine Go.st (fun _ kq_ => XS.aloadN X2.here hx rfl (hb hby dg_14) rfl rfl kq_) ?_
        show Go p e below s _ _ _ (T2.setTop (mkF m 15 #[.val (.ref a), .val (.ref b), .val (.ref a), .val (.int (4 : Int32)), .val (.int (2 : Int32)), .val (.int w1)] [(.ref a)]))
        refine Go.st (fun _ kq_ => XS.iload X2.here hx rfl (hb hby dg_15) rfl kq_) ?_
        show Go p e below s _ _ _ (T2.setTop (mkF m 17 #[.val (.ref a), .val (.ref b), .val (.ref a), .val (.int (4 : Int32)), .val (.int (2 : Int32)), .val (.int w1)] [(.int (2 : Int32)), (.ref a)]))
        refine Go.st (fun _ kq_ => own_iaload X2 hx hZ e2 V_a (by decide) (by decide) (v := (.int w2)) rfl (g := (mkF m 17 #[.val (.ref a), .val (.ref b), .val (.ref a), .val (.int (4 : Int32)), .val (.int (2 : Int32)), .val (.int w1)] [(.int (2 : Int32)), (.ref a)])) rfl rfl (hb hby dg_17) _ kq_) ?_
        show Go p e below s _ _ _ (T2.setTop (mkF m 18 #[.val (.ref a), .val (.ref b), .val (.ref a), .val (.int (4 : Int32)), .val (.int (2 : Int32)), .val (.int w1)] [(.int w2)]))
        refine Go.st (fun _ kq_ => XS.istore X2.here hx rfl (hb hby dg_18) rfl (l' := #[.val (.ref a), .val (.ref b), .val (.ref a), .val (.int (4 : Int32)), .val (.int (2 : Int32)), .val (.int w2)]) rfl kq_) ?_
        show Go p e below s _ _ _ (T2.setTop (mkF m 20 #[.val (.ref a), .val (.ref b), .val (.ref a), .val (.int (4 : Int32)), .val (.int (2 : Int32)), .val (.int w2)] []))
        have J2 : ∀ (T3 : State) (h3 : Heap) (lc3 : List Loc) (X3 : Stand p l e ({ frames := 1, cells := 2, slots := 8, locals := 14 } : Room) s m #[(.ref a), (.ref b)] below meth cd T3 lc3 0 0) (e3 : T3.heap = h3) (N3 : Fr n0 lc3) (O3 : Old Z n0 h3) (K3 : Keep h0 h3 [b]) (V_a : Arv Z h3 a ka .int (4 : Int32) [(.int w0), (.int w1), (.int w2), (.int w3)] (.int (0 : Int32))) (V_b : Arv Z h3 b kb .int (4 : Int32) ((oA3 w0 w1 w2 w3).map Value.int) (.int (0 : Int32))) (E_b : Exa Z h3 b "[I"), Go p e below s 2 8 (Qg Z a ka b kb w0 w1 w2 w3 h0 n0) (T3.setTop (mkF m 36 #[.val (.ref a), .val (.ref b), .val (.ref a), .val (.int (4 : Int32)), .val (.int (2 : Int32)), .val (.int w2)] [])) := by
          intro T3 h3 lc3 X3 e3 N3 O3 K3 V_a V_b E_b
          refine Go.st (fun _ kq_ => XT.iincV X3.here hx rfl (1 : Int32) (hb hby dg_36) rfl rfl (l' := #[.val (.ref a), .val (.ref b), .val (.ref a), .val (.int (4 : Int32)), .val (.int (3 : Int32)), .val (.int w2)]) rfl kq_) ?_
          show Go p e below s _ _ _ (T3.setTop (mkF m 39 #[.val (.ref a), .val (.ref b), .val (.ref a), .val (.int (4 : Int32)), .val (.int (3 : Int32)), .val (.int w2)] []))
          refine Go.st (fun _ kq_ => XS.goto X3.here hx rfl (pc0 := 39) (pc' := 8) rfl (hb hby dg_39) (by decide) (by decide) kq_) ?_
          show Go p e below s _ _ _ (T3.setTop (mkF m 8 #[.val (.ref a), .val (.ref b), .val (.ref a), .val (.int (4 : Int32)), .val (.int (3 : Int32)), .val (.int w2)] []))
          refine Go.st (fun _ kq_ => XS.iload X3.here hx rfl (hb hby dg_8) rfl kq_) ?_
          show Go p e below s _ _ _ (T3.setTop (mkF m 10 #[.val (.ref a), .val (.ref b), .val (.ref a), .val (.int (4 : Int32)), .val (.int (3 : Int32)), .val (.int w2)] [(.int (3 : Int32))]))
          refine Go.st (fun _ kq_ => XS.iloadN X3.here hx rfl (hb hby dg_10) rfl kq_) ?_
          show Go p e below s _ _ _ (T3.setTop (mkF m 11 #[.val (.ref a), .val (.ref b), .val (.ref a), .val (.int (4 : Int32)), .val (.int (3 : Int32)), .val (.int w2)] [(.int (4 : Int32)), (.int (3 : Int32))]))
          refine Go.st (fun _ kq_ => XS.icmpNo X3.here hx rfl (hb hby dg_11) rfl (by decide) kq_) ?_
          show Go p e below s _ _ _ (T3.setTop (mkF m 14 #[.val (.ref a), .val (.ref b), .val (.ref a), .val (.int (4 : Int32)), .val (.int (3 : Int32)), .val (.int w2)] []))
          refine Go.st (fun _ kq_ => XS.aloadN X3.here hx rfl (hb hby dg_14) rfl rfl kq_) ?_
          show Go p e below s _ _ _ (T3.setTop (mkF m 15 #[.val (.ref a), .val (.ref b), .val (.ref a), .val (.int (4 : Int32)), .val (.int (3 : Int32)), .val (.int w2)] [(.ref a)]))
          refine Go.st (fun _ kq_ => XS.iload X3.here hx rfl (hb hby dg_15) rfl kq_) ?_
          show Go p e below s _ _ _ (T3.setTop (mkF m 17 #[.val (.ref a), .val (.ref b), .val (.ref a), .val (.int (4 : Int32)), .val (.int (3 : Int32)), .val (.int w2)] [(.int (3 : Int32)), (.ref a)]))
          refine Go.st (fun _ kq_ => own_iaload X3 hx hZ e3 V_a (by decide) (by decide) (v := (.int w3)) rfl (g := (mkF m 17 #[.val (.ref a), .val (.ref b), .val (.ref a), .val (.int (4 : Int32)), .val (.int (3 : Int32)), .val (.int w2)] [(.int (3 : Int32)), (.ref a)])) rfl rfl (hb hby dg_17) _ kq_) ?_
          show Go p e below s _ _ _ (T3.setTop (mkF m 18 #[.val (.ref a), .val (.ref b), .val (.ref a), .val (.int (4 : Int32)), .val (.int (3 : Int32)), .val (.int w2)] [(.int w3)]))
          refine Go.st (fun _ kq_ => XS.istore X3.here hx rfl (hb hby dg_18) rfl (l' := #[.val (.ref a), .val (.ref b), .val (.ref a), .val (.int (4 : Int32)), .val (.int (3 : Int32)), .val (.int w3)]) rfl kq_) ?_
          show Go p e below s _ _ _ (T3.setTop (mkF m 20 #[.val (.ref a), .val (.ref b), .val (.ref a), .val (.int (4 : Int32)), .val (.int (3 : Int32)), .val (.int w3)] []))
          have J3 : ∀ (T4 : State) (h4 : Heap) (lc4 : List Loc) (X4 : Stand p l e ({ frames := 1, cells := 2, slots := 8, locals := 14 } : Room) s m #[(.ref a), (.ref b)] below meth cd T4 lc4 0 0) (e4 : T4.heap = h4) (N4 : Fr n0 lc4) (O4 : Old Z n0 h4) (K4 : Keep h0 h4 [b]) (V_a : Arv Z h4 a ka .int (4 : Int32) [(.int w0), (.int w1), (.int w2), (.int w3)] (.int (0 : Int32))) (V_b : Arv Z h4 b kb .int (4 : Int32) ((oA4 w0 w1 w2 w3).map Value.int) (.int (0 : Int32))) (E_b : Exa Z h4 b "[I"), Go p e below s 2 8 (Qg Z a ka b kb w0 w1 w2 w3 h0 n0) (T4.setTop (mkF m 36 #[.val (.ref a), .val (.ref b), .val (.ref a), .val (.int (4 : Int32)), .val (.int (3 : Int32)), .val (.int w3)] [])) := by
            intro T4 h4 lc4 X4 e4 N4 O4 K4 V_a V_b E_b
            refine Go.st (fun _ kq_ => XT.iincV X4.here hx rfl (1 : Int32) (hb hby dg_36) rfl rfl (l' := #[.val (.ref a), .val (.ref b), .val (.ref a), .val (.int (4 : Int32)), .val (.int (4 : Int32)), .val (.int w3)]) rfl kq_) ?_
            show Go p e below s _ _ _ (T4.setTop (mkF m 39 #[.val (.ref a), .val (.ref b), .val (.ref a), .val (.int (4 : Int32)), .val (.int (4 : Int32)), .val (.int w3)] []))
            refine Go.st (fun _ kq_ => XS.goto X4.here hx rfl (pc0 := 39) (pc' := 8) rfl (hb hby dg_39) (by decide) (by decide) kq_) ?_
            show Go p e below s _ _ _ (T4.setTop (mkF m 8 #[.val (.ref a), .val (.ref b), .val (.ref a), .val (.int (4 : Int32)), .val (.int (4 : Int32)), .val (.int w3)] []))
            refine Go.st (fun _ kq_ => XS.iload X4.here hx rfl (hb hby dg_8) rfl kq_) ?_
            show Go p e below s _ _ _ (T4.setTop (mkF m 10 #[.val (.ref a), .val (.ref b), .val (.ref a), .val (.int (4 : Int32)), .val (.int (4 : Int32)), .val (.int w3)] [(.int (4 : Int32))]))
            refine Go.st (fun _ kq_ => XS.iloadN X4.here hx rfl (hb hby dg_10) rfl kq_) ?_
            show Go p e below s _ _ _ (T4.setTop (mkF m 11 #[.val (.ref a), .val (.ref b), .val (.ref a), .val (.int (4 : Int32)), .val (.int (4 : Int32)), .val (.int w3)] [(.int (4 : Int32)), (.int (4 : Int32))]))
            refine Go.st (fun _ kq_ => XS.icmpYes X4.here hx rfl (pc0 := 11) (pc' := 42) rfl (hb hby dg_11) rfl (by decide) (by decide) (by decide) kq_) ?_
            show Go p e below s _ _ _ (T4.setTop (mkF m 42 #[.val (.ref a), .val (.ref b), .val (.ref a), .val (.int (4 : Int32)), .val (.int (4 : Int32)), .val (.int w3)] []))
            refine Go.st (fun _ kq_ => XS.iconst X4.here hx rfl (hb hby dg_42) kq_) ?_
            show Go p e below s _ _ _ (T4.setTop (mkF m 43 #[.val (.ref a), .val (.ref b), .val (.ref a), .val (.int (4 : Int32)), .val (.int (4 : Int32)), .val (.int w3)] [(.int (1 : Int32))]))
            refine Go.st (fun _ kq_ => XS.istoreN X4.here hx rfl (hb hby dg_43) rfl (l' := #[.val (.ref a), .val (.ref b), .val (.int (1 : Int32)), .val (.int (4 : Int32)), .val (.int (4 : Int32)), .val (.int w3)]) rfl kq_) ?_
            show Go p e below s _ _ _ (T4.setTop (mkF m 44 #[.val (.ref a), .val (.ref b), .val (.int (1 : Int32)), .val (.int (4 : Int32)), .val (.int (4 : Int32)), .val (.int w3)] []))
            refine Go.st (fun _ kq_ => XS.iloadN X4.here hx rfl (hb hby dg_44) rfl kq_) ?_
            show Go p e below s _ _ _ (T4.setTop (mkF m 45 #[.val (.ref a), .val (.ref b), .val (.int (1 : Int32)), .val (.int (4 : Int32)), .val (.int (4 : Int32)), .val (.int w3)] [(.int (1 : Int32))]))
            refine Go.st (fun _ kq_ => XS.aloadN X4.here hx rfl (hb hby dg_45) rfl rfl kq_) ?_
            show Go p e below s _ _ _ (T4.setTop (mkF m 46 #[.val (.ref a), .val (.ref b), .val (.int (1 : Int32)), .val (.int (4 : Int32)), .val (.int (4 : Int32)), .val (.int w3)] [(.ref b), (.int (1 : Int32))]))
            refine Go.st (fun _ kq_ => own_len X4 hx hZ e4 V_b (g := (mkF m 46 #[.val (.ref a), .val (.ref b), .val (.int (1 : Int32)), .val (.int (4 : Int32)), .val (.int (4 : Int32)), .val (.int w3)] [(.ref b), (.int (1 : Int32))])) rfl rfl (hb hby dg_46) _ kq_) ?_
            show Go p e below s _ _ _ (T4.setTop (mkF m 47 #[.val (.ref a), .val (.ref b), .val (.int (1 : Int32)), .val (.int (4 : Int32)), .val (.int (4 : Int32)), .val (.int w3)] [(.int (4 : Int32)), (.int (1 : Int32))]))
            refine Go.st (fun _ kq_ => XS.icmpNo X4.here hx rfl (hb hby dg_47) rfl (by decide) kq_) ?_
            show Go p e below s _ _ _ (T4.setTop (mkF m 50 #[.val (.ref a), .val (.ref b), .val (.int (1 : Int32)), .val (.int (4 : Int32)), .val (.int (4 : Int32)), .val (.int w3)] []))
            refine Go.st (fun _ kq_ => XS.aloadN X4.here hx rfl (hb hby dg_50) rfl rfl kq_) ?_
            show Go p e below s _ _ _ (T4.setTop (mkF m 51 #[.val (.ref a), .val (.ref b), .val (.int (1 : Int32)), .val (.int (4 : Int32)), .val (.int (4 : Int32)), .val (.int w3)] [(.ref b)]))
            refine Go.st (fun _ kq_ => XS.iloadN X4.here hx rfl (hb hby dg_51) rfl kq_) ?_
            show Go p e below s _ _ _ (T4.setTop (mkF m 52 #[.val (.ref a), .val (.ref b), .val (.int (1 : Int32)), .val (.int (4 : Int32)), .val (.int (4 : Int32)), .val (.int w3)] [(.int (1 : Int32)), (.ref b)]))
            refine Go.st (fun _ kq_ => XT.dup2 X4.here hx rfl (hb hby dg_52) rfl rfl rfl kq_) ?_
            show Go p e below s _ _ _ (T4.setTop (mkF m 53 #[.val (.ref a), .val (.ref b), .val (.int (1 : Int32)), .val (.int (4 : Int32)), .val (.int (4 : Int32)), .val (.int w3)] [(.int (1 : Int32)), (.ref b), (.int (1 : Int32)), (.ref b)]))
            refine Go.st (fun _ kq_ => own_iaload X4 hx hZ e4 V_b (by decide) (by decide) (v := .int (List.getD (oA4 w0 w1 w2 w3) 1 0)) (own_getI (oA4 w0 w1 w2 w3) 0 _) (g := (mkF m 53 #[.val (.ref a), .val (.ref b), .val (.int (1 : Int32)), .val (.int (4 : Int32)), .val (.int (4 : Int32)), .val (.int w3)] [(.int (1 : Int32)), (.ref b), (.int (1 : Int32)), (.ref b)])) rfl rfl (hb hby dg_53) _ kq_) ?_
            show Go p e below s _ _ _ (T4.setTop (mkF m 54 #[.val (.ref a), .val (.ref b), .val (.int (1 : Int32)), .val (.int (4 : Int32)), .val (.int (4 : Int32)), .val (.int w3)] [(.int (List.getD (oA4 w0 w1 w2 w3) 1 0)), (.int (1 : Int32)), (.ref b)]))
            refine Go.st (fun _ kq_ => XS.aloadN X4.here hx rfl (hb hby dg_54) rfl rfl kq_) ?_
            show Go p e below s _ _ _ (T4.setTop (mkF m 55 #[.val (.ref a), .val (.ref b), .val (.int (1 : Int32)), .val (.int (4 : Int32)), .val (.int (4 : Int32)), .val (.int w3)] [(.ref b), (.int (List.getD (oA4 w0 w1 w2 w3) 1 0)), (.int (1 : Int32)), (.ref b)]))
            refine Go.st (fun _ kq_ => XS.iloadN X4.here hx rfl (hb hby dg_55) rfl kq_) ?_
            show Go p e below s _ _ _ (T4.setTop (mkF m 56 #[.val (.ref a), .val (.ref b), .val (.int (1 : Int32)), .val (.int (4 : Int32)), .val (.int (4 : Int32)), .val (.int w3)] [(.int (1 : Int32)), (.ref b), (.int (List.getD (oA4 w0 w1 w2 w3) 1 0)), (.int (1 : Int32)), (.ref b)]))
            refine Go.st (fun _ kq_ => XS.iconst X4.here hx rfl (hb hby dg_56) kq_) ?_
            show Go p e below s _ _ _ (T4.setTop (mkF m 57 #[.val (.ref a), .val (.ref b), .val (.int (1 : Int32)), .val (.int (4 : Int32)), .val (.int (4 : Int32)), .val (.int w3)] [(.int (1 : Int32)), (.int (1 : Int32)), (.ref b), (.int (List.getD (oA4 w0 w1 w2 w3) 1 0)), (.int (1 : Int32)), (.ref b)]))
            refine Go.st (fun _ kq_ => XS.isub X4.here hx rfl (hb hby dg_57) rfl kq_) ?_
            show Go p e below s _ _ _ (T4.setTop (mkF m 58 #[.val (.ref a), .val (.ref b), .val (.int (1 : Int32)), .val (.int (4 : Int32)), .val (.int (4 : Int32)), .val (.int w3)] [(.int (0 : Int32)), (.ref b), (.int (List.getD (oA4 w0 w1 w2 w3) 1 0)), (.int (1 : Int32)), (.ref b)]))
            refine Go.st (fun _ kq_ => own_iaload X4 hx hZ e4 V_b (by decide) (by decide) (v := .int (List.getD (oA4 w0 w1 w2 w3) 0 0)) (own_getI (oA4 w0 w1 w2 w3) 0 _) (g := (mkF m 58 #[.val (.ref a), .val (.ref b), .val (.int (1 : Int32)), .val (.int (4 : Int32)), .val (.int (4 : Int32)), .val (.int w3)] [(.int (0 : Int32)), (.ref b), (.int (List.getD (oA4 w0 w1 w2 w3) 1 0)), (.int (1 : Int32)), (.ref b)])) rfl rfl (hb hby dg_58) _ kq_) ?_
            show Go p e below s _ _ _ (T4.setTop (mkF m 59 #[.val (.ref a), .val (.ref b), .val (.int (1 : Int32)), .val (.int (4 : Int32)), .val (.int (4 : Int32)), .val (.int w3)] [(.int (List.getD (oA4 w0 w1 w2 w3) 0 0)), (.int (List.getD (oA4 w0 w1 w2 w3) 1 0)), (.int (1 : Int32)), (.ref b)]))
            refine Go.st (fun _ kq_ => XS.iadd X4.here hx rfl (hb hby dg_59) rfl kq_) ?_
            show Go p e below s _ _ _ (T4.setTop (mkF m 60 #[.val (.ref a), .val (.ref b), .val (.int (1 : Int32)), .val (.int (4 : Int32)), .val (.int (4 : Int32)), .val (.int w3)] [(.int ((List.getD (oA4 w0 w1 w2 w3) 1 0) + (List.getD (oA4 w0 w1 w2 w3) 0 0))), (.int (1 : Int32)), (.ref b)]))
            obtain ⟨T5, h5, X5, e5, W5, V5, st5⟩ := own_stIL X4 hx hZ e4 V_b (len_A4 ..) (j := (1 : Int32)) (by decide) (by decide) (g := (mkF m 60 #[.val (.ref a), .val (.ref b), .val (.int (1 : Int32)), .val (.int (4 : Int32)), .val (.int (4 : Int32)), .val (.int w3)] [(.int ((List.getD (oA4 w0 w1 w2 w3) 1 0) + (List.getD (oA4 w0 w1 w2 w3) 0 0))), (.int (1 : Int32)), (.ref b)])) rfl rfl (hb hby dg_60)
            have N5 := Fr.snoc X5 N4 gb
            have O5 := O4.wr W5 gb
            have K5 := K4.wr W5 (Or.inl (List.mem_of_getElem? (i := 0) rfl))
            have V_a := V_a.other W5 nab
            have E_b := E_b.wr W5
            have V_b : Arv Z h5 b kb .int (4 : Int32) ((List.set (oA4 w0 w1 w2 w3) ((1 : Int32)).toNatClampNeg ((List.getD (oA4 w0 w1 w2 w3) 1 0) + (List.getD (oA4 w0 w1 w2 w3) 0 0))).map Value.int) (.int (0 : Int32)) := V5
            refine Go.st st5 ?_
            show Go p e below s _ _ _ (T5.setTop (mkF m 61 #[.val (.ref a), .val (.ref b), .val (.int (1 : Int32)), .val (.int (4 : Int32)), .val (.int (4 : Int32)), .val (.int w3)] []))
            refine Go.st (fun _ kq_ => XT.iincV X5.here hx rfl (1 : Int32) (hb hby dg_61) rfl rfl (l' := #[.val (.ref a), .val (.ref b), .val (.int (2 : Int32)), .val (.int (4 : Int32)), .val (.int (4 : Int32)), .val (.int w3)]) rfl kq_) ?_
            show Go p e below s _ _ _ (T5.setTop (mkF m 64 #[.val (.ref a), .val (.ref b), .val (.int (2 : Int32)), .val (.int (4 : Int32)), .val (.int (4 : Int32)), .val (.int w3)] []))
            refine Go.st (fun _ kq_ => XS.goto X5.here hx rfl (pc0 := 64) (pc' := 44) rfl (hb hby dg_64) (by decide) (by decide) kq_) ?_
            show Go p e below s _ _ _ (T5.setTop (mkF m 44 #[.val (.ref a), .val (.ref b), .val (.int (2 : Int32)), .val (.int (4 : Int32)), .val (.int (4 : Int32)), .val (.int w3)] []))
            refine Go.st (fun _ kq_ => XS.iloadN X5.here hx rfl (hb hby dg_44) rfl kq_) ?_
            show Go p e below s _ _ _ (T5.setTop (mkF m 45 #[.val (.ref a), .val (.ref b), .val (.int (2 : Int32)), .val (.int (4 : Int32)), .val (.int (4 : Int32)), .val (.int w3)] [(.int (2 : Int32))]))
            refine Go.st (fun _ kq_ => XS.aloadN X5.here hx rfl (hb hby dg_45) rfl rfl kq_) ?_
            show Go p e below s _ _ _ (T5.setTop (mkF m 46 #[.val (.ref a), .val (.ref b), .val (.int (2 : Int32)), .val (.int (4 : Int32)), .val (.int (4 : Int32)), .val (.int w3)] [(.ref b), (.int (2 : Int32))]))
            refine Go.st (fun _ kq_ => own_len X5 hx hZ e5 V_b (g := (mkF m 46 #[.val (.ref a), .val (.ref b), .val (.int (2 : Int32)), .val (.int (4 : Int32)), .val (.int (4 : Int32)), .val (.int w3)] [(.ref b), (.int (2 : Int32))])) rfl rfl (hb hby dg_46) _ kq_) ?_
            show Go p e below s _ _ _ (T5.setTop (mkF m 47 #[.val (.ref a), .val (.ref b), .val (.int (2 : Int32)), .val (.int (4 : Int32)), .val (.int (4 : Int32)), .val (.int w3)] [(.int (4 : Int32)), (.int (2 : Int32))]))
            refine Go.st (fun _ kq_ => XS.icmpNo X5.here hx rfl (hb hby dg_47) rfl (by decide) kq_) ?_
            show Go p e below s _ _ _ (T5.setTop (mkF m 50 #[.val (.ref a), .val (.ref b), .val (.int (2 : Int32)), .val (.int (4 : Int32)), .val (.int (4 : Int32)), .val (.int w3)] []))
            refine Go.st (fun _ kq_ => XS.aloadN X5.here hx rfl (hb hby dg_50) rfl rfl kq_) ?_
            show Go p e below s _ _ _ (T5.setTop (mkF m 51 #[.val (.ref a), .val (.ref b), .val (.int (2 : Int32)), .val (.int (4 : Int32)), .val (.int (4 : Int32)), .val (.int w3)] [(.ref b)]))
            refine Go.st (fun _ kq_ => XS.iloadN X5.here hx rfl (hb hby dg_51) rfl kq_) ?_
            show Go p e below s _ _ _ (T5.setTop (mkF m 52 #[.val (.ref a), .val (.ref b), .val (.int (2 : Int32)), .val (.int (4 : Int32)), .val (.int (4 : Int32)), .val (.int w3)] [(.int (2 : Int32)), (.ref b)]))
            refine Go.st (fun _ kq_ => XT.dup2 X5.here hx rfl (hb hby dg_52) rfl rfl rfl kq_) ?_
            show Go p e below s _ _ _ (T5.setTop (mkF m 53 #[.val (.ref a), .val (.ref b), .val (.int (2 : Int32)), .val (.int (4 : Int32)), .val (.int (4 : Int32)), .val (.int w3)] [(.int (2 : Int32)), (.ref b), (.int (2 : Int32)), (.ref b)]))
            refine Go.st (fun _ kq_ => own_iaload X5 hx hZ e5 V_b (by decide) (by decide) (v := .int (List.getD (List.set (oA4 w0 w1 w2 w3) ((1 : Int32)).toNatClampNeg ((List.getD (oA4 w0 w1 w2 w3) 1 0) + (List.getD (oA4 w0 w1 w2 w3) 0 0))) 2 0)) (own_getI (List.set (oA4 w0 w1 w2 w3) ((1 : Int32)).toNatClampNeg ((List.getD (oA4 w0 w1 w2 w3) 1 0) + (List.getD (oA4 w0 w1 w2 w3) 0 0))) 0 _) (g := (mkF m 53 #[.val (.ref a), .val (.ref b), .val (.int (2 : Int32)), .val (.int (4 : Int32)), .val (.int (4 : Int32)), .val (.int w3)] [(.int (2 : Int32)), (.ref b), (.int (2 : Int32)), (.ref b)])) rfl rfl (hb hby dg_53) _ kq_) ?_
            show Go p e below s _ _ _ (T5.setTop (mkF m 54 #[.val (.ref a), .val (.ref b), .val (.int (2 : Int32)), .val (.int (4 : Int32)), .val (.int (4 : Int32)), .val (.int w3)] [(.int (List.getD (List.set (oA4 w0 w1 w2 w3) ((1 : Int32)).toNatClampNeg ((List.getD (oA4 w0 w1 w2 w3) 1 0) + (List.getD (oA4 w0 w1 w2 w3) 0 0))) 2 0)), (.int (2 : Int32)), (.ref b)]))
            refine Go.st (fun _ kq_ => XS.aloadN X5.here hx rfl (hb hby dg_54) rfl rfl kq_) ?_
            show Go p e below s _ _ _ (T5.setTop (mkF m 55 #[.val (.ref a), .val (.ref b), .val (.int (2 : Int32)), .val (.int (4 : Int32)), .val (.int (4 : Int32)), .val (.int w3)] [(.ref b), (.int (List.getD (List.set (oA4 w0 w1 w2 w3) ((1 : Int32)).toNatClampNeg ((List.getD (oA4 w0 w1 w2 w3) 1 0) + (List.getD (oA4 w0 w1 w2 w3) 0 0))) 2 0)), (.int (2 : Int32)), (.ref b)]))
            refine Go.st (fun _ kq_ => XS.iloadN X5.here hx rfl (hb hby dg_55) rfl kq_) ?_
            show Go p e below s _ _ _ (T5.setTop (mkF m 56 #[.val (.ref a), .val (.ref b), .val (.int (2 : Int32)), .val (.int (4 : Int32)), .val (.int (4 : Int32)), .val (.int w3)] [(.int (2 : Int32)), (.ref b), (.int (List.getD (List.set (oA4 w0 w1 w2 w3) ((1 : Int32)).toNatClampNeg ((List.getD (oA4 w0 w1 w2 w3) 1 0) + (List.getD (oA4 w0 w1 w2 w3) 0 0))) 2 0)), (.int (2 : Int32)), (.ref b)]))
            refine Go.st (fun _ kq_ => XS.iconst X5.here hx rfl (hb hby dg_56) kq_) ?_
            show Go p e below s _ _ _ (T5.setTop (mkF m 57 #[.val (.ref a), .val (.ref b), .val (.int (2 : Int32)), .val (.int (4 : Int32)), .val (.int (4 : Int32)), .val (.int w3)] [(.int (1 : Int32)), (.int (2 : Int32)), (.ref b), (.int (List.getD (List.set (oA4 w0 w1 w2 w3) ((1 : Int32)).toNatClampNeg ((List.getD (oA4 w0 w1 w2 w3) 1 0) + (List.getD (oA4 w0 w1 w2 w3) 0 0))) 2 0)), (.int (2 : Int32)), (.ref b)]))
            refine Go.st (fun _ kq_ => XS.isub X5.here hx rfl (hb hby dg_57) rfl kq_) ?_
            show Go p e below s _ _ _ (T5.setTop (mkF m 58 #[.val (.ref a), .val (.ref b), .val (.int (2 : Int32)), .val (.int (4 : Int32)), .val (.int (4 : Int32)), .val (.int w3)] [(.int (1 : Int32)), (.ref b), (.int (List.getD (List.set (oA4 w0 w1 w2 w3) ((1 : Int32)).toNatClampNeg ((List.getD (oA4 w0 w1 w2 w3) 1 0) + (List.getD (oA4 w0 w1 w2 w3) 0 0))) 2 0)), (.int (2 : Int32)), (.ref b)]))
            refine Go.st (fun _ kq_ => own_iaload X5 hx hZ e5 V_b (by decide) (by decide) (v := .int (List.getD (List.set (oA4 w0 w1 w2 w3) ((1 : Int32)).toNatClampNeg ((List.getD (oA4 w0 w1 w2 w3) 1 0) + (List.getD (oA4 w0 w1 w2 w3) 0 0))) 1 0)) (own_getI (List.set (oA4 w0 w1 w2 w3) ((1 : Int32)).toNatClampNeg ((List.getD (oA4 w0 w1 w2 w3) 1 0) + (List.getD (oA4 w0 w1 w2 w3) 0 0))) 0 _) (g := (mkF m 58 #[.val (.ref a), .val (.ref b), .val (.int (2 : Int32)), .val (.int (4 : Int32)), .val (.int (4 : Int32)), .val (.int w3)] [(.int (1 : Int32)), (.ref b), (.int (List.getD (List.set (oA4 w0 w1 w2 w3) ((1 : Int32)).toNatClampNeg ((List.getD (oA4 w0 w1 w2 w3) 1 0) + (List.getD (oA4 w0 w1 w2 w3) 0 0))) 2 0)), (.int (2 : Int32)), (.ref b)])) rfl rfl (hb hby dg_58) _ kq_) ?_
            show Go p e below s _ _ _ (T5.setTop (mkF m 59 #[.val (.ref a), .val (.ref b), .val (.int (2 : Int32)), .val (.int (4 : Int32)), .val (.int (4 : Int32)), .val (.int w3)] [(.int (List.getD (List.set (oA4 w0 w1 w2 w3) ((1 : Int32)).toNatClampNeg ((List.getD (oA4 w0 w1 w2 w3) 1 0) + (List.getD (oA4 w0 w1 w2 w3) 0 0))) 1 0)), (.int (List.getD (List.set (oA4 w0 w1 w2 w3) ((1 : Int32)).toNatClampNeg ((List.getD (oA4 w0 w1 w2 w3) 1 0) + (List.getD (oA4 w0 w1 w2 w3) 0 0))) 2 0)), (.int (2 : Int32)), (.ref b)]))
            refine Go.st (fun _ kq_ => XS.iadd X5.here hx rfl (hb hby dg_59) rfl kq_) ?_
            show Go p e below s _ _ _ (T5.setTop (mkF m 60 #[.val (.ref a), .val (.ref b), .val (.int (2 : Int32)), .val (.int (4 : Int32)), .val (.int (4 : Int32)), .val (.int w3)] [(.int ((List.getD (List.set (oA4 w0 w1 w2 w3) ((1 : Int32)).toNatClampNeg ((List.getD (oA4 w0 w1 w2 w3) 1 0) + (List.getD (oA4 w0 w1 w2 w3) 0 0))) 2 0) + (List.getD (List.set (oA4 w0 w1 w2 w3) ((1 : Int32)).toNatClampNeg ((List.getD (oA4 w0 w1 w2 w3) 1 0) + (List.getD (oA4 w0 w1 w2 w3) 0 0))) 1 0))), (.int (2 : Int32)), (.ref b)]))
            obtain ⟨T6, h6, X6, e6, W6, V6, st6⟩ := own_stIL X5 hx hZ e5 V_b (List.length_set.trans (len_A4 ..)) (j := (2 : Int32)) (by decide) (by decide) (g := (mkF m 60 #[.val (.ref a), .val (.ref b), .val (.int (2 : Int32)), .val (.int (4 : Int32)), .val (.int (4 : Int32)), .val (.int w3)] [(.int ((List.getD (List.set (oA4 w0 w1 w2 w3) ((1 : Int32)).toNatClampNeg ((List.getD (oA4 w0 w1 w2 w3) 1 0) + (List.getD (oA4 w0 w1 w2 w3) 0 0))) 2 0) + (List.getD (List.set (oA4 w0 w1 w2 w3) ((1 : Int32)).toNatClampNeg ((List.getD (oA4 w0 w1 w2 w3) 1 0) + (List.getD (oA4 w0 w1 w2 w3) 0 0))) 1 0))), (.int (2 : Int32)), (.ref b)])) rfl rfl (hb hby dg_60)
            have N6 := Fr.snoc X6 N5 gb
            have O6 := O5.wr W6 gb
            have K6 := K5.wr W6 (Or.inl (List.mem_of_getElem? (i := 0) rfl))
            have V_a := V_a.other W6 nab
            have E_b := E_b.wr W6
            have V_b : Arv Z h6 b kb .int (4 : Int32) ((List.set (List.set (oA4 w0 w1 w2 w3) ((1 : Int32)).toNatClampNeg ((List.getD (oA4 w0 w1 w2 w3) 1 0) + (List.getD (oA4 w0 w1 w2 w3) 0 0))) ((2 : Int32)).toNatClampNeg ((List.getD (List.set (oA4 w0 w1 w2 w3) ((1 : Int32)).toNatClampNeg ((List.getD (oA4 w0 w1 w2 w3) 1 0) + (List.getD (oA4 w0 w1 w2 w3) 0 0))) 2 0) + (List.getD (List.set (oA4 w0 w1 w2 w3) ((1 : Int32)).toNatClampNeg ((List.getD (oA4 w0 w1 w2 w3) 1 0) + (List.getD (oA4 w0 w1 w2 w3) 0 0))) 1 0))).map Value.int) (.int (0 : Int32)) := V6
            refine Go.st st6 ?_
            show Go p e below s _ _ _ (T6.setTop (mkF m 61 #[.val (.ref a), .val (.ref b), .val (.int (2 : Int32)), .val (.int (4 : Int32)), .val (.int (4 : Int32)), .val (.int w3)] []))
            refine Go.st (fun _ kq_ => XT.iincV X6.here hx rfl (1 : Int32) (hb hby dg_61) rfl rfl (l' := #[.val (.ref a), .val (.ref b), .val (.int (3 : Int32)), .val (.int (4 : Int32)), .val (.int (4 : Int32)), .val (.int w3)]) rfl kq_) ?_
            show Go p e below s _ _ _ (T6.setTop (mkF m 64 #[.val (.ref a), .val (.ref b), .val (.int (3 : Int32)), .val (.int (4 : Int32)), .val (.int (4 : Int32)), .val (.int w3)] []))
            refine Go.st (fun _ kq_ => XS.goto X6.here hx rfl (pc0 := 64) (pc' := 44) rfl (hb hby dg_64) (by decide) (by decide) kq_) ?_
            show Go p e below s _ _ _ (T6.setTop (mkF m 44 #[.val (.ref a), .val (.ref b), .val (.int (3 : Int32)), .val (.int (4 : Int32)), .val (.int (4 : Int32)), .val (.int w3)] []))
            refine Go.st (fun _ kq_ => XS.iloadN X6.here hx rfl (hb hby dg_44) rfl kq_) ?_
            show Go p e below s _ _ _ (T6.setTop (mkF m 45 #[.val (.ref a), .val (.ref b), .val (.int (3 : Int32)), .val (.int (4 : Int32)), .val (.int (4 : Int32)), .val (.int w3)] [(.int (3 : Int32))]))
            refine Go.st (fun _ kq_ => XS.aloadN X6.here hx rfl (hb hby dg_45) rfl rfl kq_) ?_
            show Go p e below s _ _ _ (T6.setTop (mkF m 46 #[.val (.ref a), .val (.ref b), .val (.int (3 : Int32)), .val (.int (4 : Int32)), .val (.int (4 : Int32)), .val (.int w3)] [(.ref b), (.int (3 : Int32))]))
            refine Go.st (fun _ kq_ => own_len X6 hx hZ e6 V_b (g := (mkF m 46 #[.val (.ref a), .val (.ref b), .val (.int (3 : Int32)), .val (.int (4 : Int32)), .val (.int (4 : Int32)), .val (.int w3)] [(.ref b), (.int (3 : Int32))])) rfl rfl (hb hby dg_46) _ kq_) ?_
            show Go p e below s _ _ _ (T6.setTop (mkF m 47 #[.val (.ref a), .val (.ref b), .val (.int (3 : Int32)), .val (.int (4 : Int32)), .val (.int (4 : Int32)), .val (.int w3)] [(.int (4 : Int32)), (.int (3 : Int32))]))
            refine Go.st (fun _ kq_ => XS.icmpNo X6.here hx rfl (hb hby dg_47) rfl (by decide) kq_) ?_
            show Go p e below s _ _ _ (T6.setTop (mkF m 50 #[.val (.ref a), .val (.ref b), .val (.int (3 : Int32)), .val (.int (4 : Int32)), .val (.int (4 : Int32)), .val (.int w3)] []))
            refine Go.st (fun _ kq_ => XS.aloadN X6.here hx rfl (hb hby dg_50) rfl rfl kq_) ?_
            show Go p e below s _ _ _ (T6.setTop (mkF m 51 #[.val (.ref a), .val (.ref b), .val (.int (3 : Int32)), .val (.int (4 : Int32)), .val (.int (4 : Int32)), .val (.int w3)] [(.ref b)]))
            refine Go.st (fun _ kq_ => XS.iloadN X6.here hx rfl (hb hby dg_51) rfl kq_) ?_
            show Go p e below s _ _ _ (T6.setTop (mkF m 52 #[.val (.ref a), .val (.ref b), .val (.int (3 : Int32)), .val (.int (4 : Int32)), .val (.int (4 : Int32)), .val (.int w3)] [(.int (3 : Int32)), (.ref b)]))
            refine Go.st (fun _ kq_ => XT.dup2 X6.here hx rfl (hb hby dg_52) rfl rfl rfl kq_) ?_
            show Go p e below s _ _ _ (T6.setTop (mkF m 53 #[.val (.ref a), .val (.ref b), .val (.int (3 : Int32)), .val (.int (4 : Int32)), .val (.int (4 : Int32)), .val (.int w3)] [(.int (3 : Int32)), (.ref b), (.int (3 : Int32)), (.ref b)]))
            refine Go.st (fun _ kq_ => own_iaload X6 hx hZ e6 V_b (by decide) (by decide) (v := .int (List.getD (List.set (List.set (oA4 w0 w1 w2 w3) ((1 : Int32)).toNatClampNeg ((List.getD (oA4 w0 w1 w2 w3) 1 0) + (List.getD (oA4 w0 w1 w2 w3) 0 0))) ((2 : Int32)).toNatClampNeg ((List.getD (List.set (oA4 w0 w1 w2 w3) ((1 : Int32)).toNatClampNeg ((List.getD (oA4 w0 w1 w2 w3) 1 0) + (List.getD (oA4 w0 w1 w2 w3) 0 0))) 2 0) + (List.getD (List.set (oA4 w0 w1 w2 w3) ((1 : Int32)).toNatClampNeg ((List.getD (oA4 w0 w1 w2 w3) 1 0) + (List.getD (oA4 w0 w1 w2 w3) 0 0))) 1 0))) 3 0)) (own_getI (List.set (List.set (oA4 w0 w1 w2 w3) ((1 : Int32)).toNatClampNeg ((List.getD (oA4 w0 w1 w2 w3) 1 0) + (List.getD (oA4 w0 w1 w2 w3) 0 0))) ((2 : Int32)).toNatClampNeg ((List.getD (List.set (oA4 w0 w1 w2 w3) ((1 : Int32)).toNatClampNeg ((List.getD (oA4 w0 w1 w2 w3) 1 0) + (List.getD (oA4 w0 w1 w2 w3) 0 0))) 2 0) + (List.getD (List.set (oA4 w0 w1 w2 w3) ((1 : Int32)).toNatClampNeg ((List.getD (oA4 w0 w1 w2 w3) 1 0) + (List.getD (oA4 w0 w1 w2 w3) 0 0))) 1 0))) 0 _) (g := (mkF m 53 #[.val (.ref a), .val (.ref b), .val (.int (3 : Int32)), .val (.int (4 : Int32)), .val (.int (4 : Int32)), .val (.int w3)] [(.int (3 : Int32)), (.ref b), (.int (3 : Int32)), (.ref b)])) rfl rfl (hb hby dg_53) _ kq_) ?_
            show Go p e below s _ _ _ (T6.setTop (mkF m 54 #[.val (.ref a), .val (.ref b), .val (.int (3 : Int32)), .val (.int (4 : Int32)), .val (.int (4 : Int32)), .val (.int w3)] [(.int (List.getD (List.set (List.set (oA4 w0 w1 w2 w3) ((1 : Int32)).toNatClampNeg ((List.getD (oA4 w0 w1 w2 w3) 1 0) + (List.getD (oA4 w0 w1 w2 w3) 0 0))) ((2 : Int32)).toNatClampNeg ((List.getD (List.set (oA4 w0 w1 w2 w3) ((1 : Int32)).toNatClampNeg ((List.getD (oA4 w0 w1 w2 w3) 1 0) + (List.getD (oA4 w0 w1 w2 w3) 0 0))) 2 0) + (List.getD (List.set (oA4 w0 w1 w2 w3) ((1 : Int32)).toNatClampNeg ((List.getD (oA4 w0 w1 w2 w3) 1 0) + (List.getD (oA4 w0 w1 w2 w3) 0 0))) 1 0))) 3 0)), (.int (3 : Int32)), (.ref b)]))
            refine Go.st (fun _ kq_ => XS.aloadN X6.here hx rfl (hb hby dg_54) rfl rfl kq_) ?_
            show Go p e below s _ _ _ (T6.setTop (mkF m 55 #[.val (.ref a), .val (.ref b), .val (.int (3 : Int32)), .val (.int (4 : Int32)), .val (.int (4 : Int32)), .val (.int w3)] [(.ref b), (.int (List.getD (List.set (List.set (oA4 w0 w1 w2 w3) ((1 : Int32)).toNatClampNeg ((List.getD (oA4 w0 w1 w2 w3) 1 0) + (List.getD (oA4 w0 w1 w2 w3) 0 0))) ((2 : Int32)).toNatClampNeg ((List.getD (List.set (oA4 w0 w1 w2 w3) ((1 : Int32)).toNatClampNeg ((List.getD (oA4 w0 w1 w2 w3) 1 0) + (List.getD (oA4 w0 w1 w2 w3) 0 0))) 2 0) + (List.getD (List.set (oA4 w0 w1 w2 w3) ((1 : Int32)).toNatClampNeg ((List.getD (oA4 w0 w1 w2 w3) 1 0) + (List.getD (oA4 w0 w1 w2 w3) 0 0))) 1 0))) 3 0)), (.int (3 : Int32)), (.ref b)]))
            refine Go.st (fun _ kq_ => XS.iloadN X6.here hx rfl (hb hby dg_55) rfl kq_) ?_
            show Go p e below s _ _ _ (T6.setTop (mkF m 56 #[.val (.ref a), .val (.ref b), .val (.int (3 : Int32)), .val (.int (4 : Int32)), .val (.int (4 : Int32)), .val (.int w3)] [(.int (3 : Int32)), (.ref b), (.int (List.getD (List.set (List.set (oA4 w0 w1 w2 w3) ((1 : Int32)).toNatClampNeg ((List.getD (oA4 w0 w1 w2 w3) 1 0) + (List.getD (oA4 w0 w1 w2 w3) 0 0))) ((2 : Int32)).toNatClampNeg ((List.getD (List.set (oA4 w0 w1 w2 w3) ((1 : Int32)).toNatClampNeg ((List.getD (oA4 w0 w1 w2 w3) 1 0) + (List.getD (oA4 w0 w1 w2 w3) 0 0))) 2 0) + (List.getD (List.set (oA4 w0 w1 w2 w3) ((1 : Int32)).toNatClampNeg ((List.getD (oA4 w0 w1 w2 w3) 1 0) + (List.getD (oA4 w0 w1 w2 w3) 0 0))) 1 0))) 3 0)), (.int (3 : Int32)), (.ref b)]))
            refine Go.st (fun _ kq_ => XS.iconst X6.here hx rfl (hb hby dg_56) kq_) ?_
            show Go p e below s _ _ _ (T6.setTop (mkF m 57 #[.val (.ref a), .val (.ref b), .val (.int (3 : Int32)), .val (.int (4 : Int32)), .val (.int (4 : Int32)), .val (.int w3)] [(.int (1 : Int32)), (.int (3 : Int32)), (.ref b), (.int (List.getD (List.set (List.set (oA4 w0 w1 w2 w3) ((1 : Int32)).toNatClampNeg ((List.getD (oA4 w0 w1 w2 w3) 1 0) + (List.getD (oA4 w0 w1 w2 w3) 0 0))) ((2 : Int32)).toNatClampNeg ((List.getD (List.set (oA4 w0 w1 w2 w3) ((1 : Int32)).toNatClampNeg ((List.getD (oA4 w0 w1 w2 w3) 1 0) + (List.getD (oA4 w0 w1 w2 w3) 0 0))) 2 0) + (List.getD (List.set (oA4 w0 w1 w2 w3) ((1 : Int32)).toNatClampNeg ((List.getD (oA4 w0 w1 w2 w3) 1 0) + (List.getD (oA4 w0 w1 w2 w3) 0 0))) 1 0))) 3 0)), (.int (3 : Int32)), (.ref b)]))
            refine Go.st (fun _ kq_ => XS.isub X6.here hx rfl (hb hby dg_57) rfl kq_) ?_
            show Go p e below s _ _ _ (T6.setTop (mkF m 58 #[.val (.ref a), .val (.ref b), .val (.int (3 : Int32)), .val (.int (4 : Int32)), .val (.int (4 : Int32)), .val (.int w3)] [(.int (2 : Int32)), (.ref b), (.int (List.getD (List.set (List.set (oA4 w0 w1 w2 w3) ((1 : Int32)).toNatClampNeg ((List.getD (oA4 w0 w1 w2 w3) 1 0) + (List.getD (oA4 w0 w1 w2 w3) 0 0))) ((2 : Int32)).toNatClampNeg ((List.getD (List.set (oA4 w0 w1 w2 w3) ((1 : Int32)).toNatClampNeg ((List.getD (oA4 w0 w1 w2 w3) 1 0) + (List.getD (oA4 w0 w1 w2 w3) 0 0))) 2 0) + (List.getD (List.set (oA4 w0 w1 w2 w3) ((1 : Int32)).toNatClampNeg ((List.getD (oA4 w0 w1 w2 w3) 1 0) + (List.getD (oA4 w0 w1 w2 w3) 0 0))) 1 0))) 3 0)), (.int (3 : Int32)), (.ref b)]))
            refine Go.st (fun _ kq_ => own_iaload X6 hx hZ e6 V_b (by decide) (by decide) (v := .int (List.getD (List.set (List.set (oA4 w0 w1 w2 w3) ((1 : Int32)).toNatClampNeg ((List.getD (oA4 w0 w1 w2 w3) 1 0) + (List.getD (oA4 w0 w1 w2 w3) 0 0))) ((2 : Int32)).toNatClampNeg ((List.getD (List.set (oA4 w0 w1 w2 w3) ((1 : Int32)).toNatClampNeg ((List.getD (oA4 w0 w1 w2 w3) 1 0) + (List.getD (oA4 w0 w1 w2 w3) 0 0))) 2 0) + (List.getD (List.set (oA4 w0 w1 w2 w3) ((1 : Int32)).toNatClampNeg ((List.getD (oA4 w0 w1 w2 w3) 1 0) + (List.getD (oA4 w0 w1 w2 w3) 0 0))) 1 0))) 2 0)) (own_getI (List.set (List.set (oA4 w0 w1 w2 w3) ((1 : Int32)).toNatClampNeg ((List.getD (oA4 w0 w1 w2 w3) 1 0) + (List.getD (oA4 w0 w1 w2 w3) 0 0))) ((2 : Int32)).toNatClampNeg ((List.getD (List.set (oA4 w0 w1 w2 w3) ((1 : Int32)).toNatClampNeg ((List.getD (oA4 w0 w1 w2 w3) 1 0) + (List.getD (oA4 w0 w1 w2 w3) 0 0))) 2 0) + (List.getD (List.set (oA4 w0 w1 w2 w3) ((1 : Int32)).toNatClampNeg ((List.getD (oA4 w0 w1 w2 w3) 1 0) + (List.getD (oA4 w0 w1 w2 w3) 0 0))) 1 0))) 0 _) (g := (mkF m 58 #[.val (.ref a), .val (.ref b), .val (.int (3 : Int32)), .val (.int (4 : Int32)), .val (.int (4 : Int32)), .val (.int w3)] [(.int (2 : Int32)), (.ref b), (.int (List.getD (List.set (List.set (oA4 w0 w1 w2 w3) ((1 : Int32)).toNatClampNeg ((List.getD (oA4 w0 w1 w2 w3) 1 0) + (List.getD (oA4 w0 w1 w2 w3) 0 0))) ((2 : Int32)).toNatClampNeg ((List.getD (List.set (oA4 w0 w1 w2 w3) ((1 : Int32)).toNatClampNeg ((List.getD (oA4 w0 w1 w2 w3) 1 0) + (List.getD (oA4 w0 w1 w2 w3) 0 0))) 2 0) + (List.getD (List.set (oA4 w0 w1 w2 w3) ((1 : Int32)).toNatClampNeg ((List.getD (oA4 w0 w1 w2 w3) 1 0) + (List.getD (oA4 w0 w1 w2 w3) 0 0))) 1 0))) 3 0)), (.int (3 : Int32)), (.ref b)])) rfl rfl (hb hby dg_58) _ kq_) ?_
            show Go p e below s _ _ _ (T6.setTop (mkF m 59 #[.val (.ref a), .val (.ref b), .val (.int (3 : Int32)), .val (.int (4 : Int32)), .val (.int (4 : Int32)), .val (.int w3)] [(.int (List.getD (List.set (List.set (oA4 w0 w1 w2 w3) ((1 : Int32)).toNatClampNeg ((List.getD (oA4 w0 w1 w2 w3) 1 0) + (List.getD (oA4 w0 w1 w2 w3) 0 0))) ((2 : Int32)).toNatClampNeg ((List.getD (List.set (oA4 w0 w1 w2 w3) ((1 : Int32)).toNatClampNeg ((List.getD (oA4 w0 w1 w2 w3) 1 0) + (List.getD (oA4 w0 w1 w2 w3) 0 0))) 2 0) + (List.getD (List.set (oA4 w0 w1 w2 w3) ((1 : Int32)).toNatClampNeg ((List.getD (oA4 w0 w1 w2 w3) 1 0) + (List.getD (oA4 w0 w1 w2 w3) 0 0))) 1 0))) 2 0)), (.int (List.getD (List.set (List.set (oA4 w0 w1 w2 w3) ((1 : Int32)).toNatClampNeg ((List.getD (oA4 w0 w1 w2 w3) 1 0) + (List.getD (oA4 w0 w1 w2 w3) 0 0))) ((2 : Int32)).toNatClampNeg ((List.getD (List.set (oA4 w0 w1 w2 w3) ((1 : Int32)).toNatClampNeg ((List.getD (oA4 w0 w1 w2 w3) 1 0) + (List.getD (oA4 w0 w1 w2 w3) 0 0))) 2 0) + (List.getD (List.set (oA4 w0 w1 w2 w3) ((1 : Int32)).toNatClampNeg ((List.getD (oA4 w0 w1 w2 w3) 1 0) + (List.getD (oA4 w0 w1 w2 w3) 0 0))) 1 0))) 3 0)), (.int (3 : Int32)), (.ref b)]))
            refine Go.st (fun _ kq_ => XS.iadd X6.here hx rfl (hb hby dg_59) rfl kq_) ?_
            show Go p e below s _ _ _ (T6.setTop (mkF m 60 #[.val (.ref a), .val (.ref b), .val (.int (3 : Int32)), .val (.int (4 : Int32)), .val (.int (4 : Int32)), .val (.int w3)] [(.int ((List.getD (List.set (List.set (oA4 w0 w1 w2 w3) ((1 : Int32)).toNatClampNeg ((List.getD (oA4 w0 w1 w2 w3) 1 0) + (List.getD (oA4 w0 w1 w2 w3) 0 0))) ((2 : Int32)).toNatClampNeg ((List.getD (List.set (oA4 w0 w1 w2 w3) ((1 : Int32)).toNatClampNeg ((List.getD (oA4 w0 w1 w2 w3) 1 0) + (List.getD (oA4 w0 w1 w2 w3) 0 0))) 2 0) + (List.getD (List.set (oA4 w0 w1 w2 w3) ((1 : Int32)).toNatClampNeg ((List.getD (oA4 w0 w1 w2 w3) 1 0) + (List.getD (oA4 w0 w1 w2 w3) 0 0))) 1 0))) 3 0) + (List.getD (List.set (List.set (oA4 w0 w1 w2 w3) ((1 : Int32)).toNatClampNeg ((List.getD (oA4 w0 w1 w2 w3) 1 0) + (List.getD (oA4 w0 w1 w2 w3) 0 0))) ((2 : Int32)).toNatClampNeg ((List.getD (List.set (oA4 w0 w1 w2 w3) ((1 : Int32)).toNatClampNeg ((List.getD (oA4 w0 w1 w2 w3) 1 0) + (List.getD (oA4 w0 w1 w2 w3) 0 0))) 2 0) + (List.getD (List.set (oA4 w0 w1 w2 w3) ((1 : Int32)).toNatClampNeg ((List.getD (oA4 w0 w1 w2 w3) 1 0) + (List.getD (oA4 w0 w1 w2 w3) 0 0))) 1 0))) 2 0))), (.int (3 : Int32)), (.ref b)]))
            obtain ⟨T7, h7, X7, e7, W7, V7, st7⟩ := own_stIL X6 hx hZ e6 V_b (List.length_set.trans (List.length_set.trans (len_A4 ..))) (j := (3 : Int32)) (by decide) (by decide) (g := (mkF m 60 #[.val (.ref a), .val (.ref b), .val (.int (3 : Int32)), .val (.int (4 : Int32)), .val (.int (4 : Int32)), .val (.int w3)] [(.int ((List.getD (List.set (List.set (oA4 w0 w1 w2 w3) ((1 : Int32)).toNatClampNeg ((List.getD (oA4 w0 w1 w2 w3) 1 0) + (List.getD (oA4 w0 w1 w2 w3) 0 0))) ((2 : Int32)).toNatClampNeg ((List.getD (List.set (oA4 w0 w1 w2 w3) ((1 : Int32)).toNatClampNeg ((List.getD (oA4 w0 w1 w2 w3) 1 0) + (List.getD (oA4 w0 w1 w2 w3) 0 0))) 2 0) + (List.getD (List.set (oA4 w0 w1 w2 w3) ((1 : Int32)).toNatClampNeg ((List.getD (oA4 w0 w1 w2 w3) 1 0) + (List.getD (oA4 w0 w1 w2 w3) 0 0))) 1 0))) 3 0) + (List.getD (List.set (List.set (oA4 w0 w1 w2 w3) ((1 : Int32)).toNatClampNeg ((List.getD (oA4 w0 w1 w2 w3) 1 0) + (List.getD (oA4 w0 w1 w2 w3) 0 0))) ((2 : Int32)).toNatClampNeg ((List.getD (List.set (oA4 w0 w1 w2 w3) ((1 : Int32)).toNatClampNeg ((List.getD (oA4 w0 w1 w2 w3) 1 0) + (List.getD (oA4 w0 w1 w2 w3) 0 0))) 2 0) + (List.getD (List.set (oA4 w0 w1 w2 w3) ((1 : Int32)).toNatClampNeg ((List.getD (oA4 w0 w1 w2 w3) 1 0) + (List.getD (oA4 w0 w1 w2 w3) 0 0))) 1 0))) 2 0))), (.int (3 : Int32)), (.ref b)])) rfl rfl (hb hby dg_60)
            have N7 := Fr.snoc X7 N6 gb
            have O7 := O6.wr W7 gb
            have K7 := K6.wr W7 (Or.inl (List.mem_of_getElem? (i := 0) rfl))
            have V_a := V_a.other W7 nab
            have E_b := E_b.wr W7
            have V_b : Arv Z h7 b kb .int (4 : Int32) ((List.set (List.set (List.set (oA4 w0 w1 w2 w3) ((1 : Int32)).toNatClampNeg ((List.getD (oA4 w0 w1 w2 w3) 1 0) + (List.getD (oA4 w0 w1 w2 w3) 0 0))) ((2 : Int32)).toNatClampNeg ((List.getD (List.set (oA4 w0 w1 w2 w3) ((1 : Int32)).toNatClampNeg ((List.getD (oA4 w0 w1 w2 w3) 1 0) + (List.getD (oA4 w0 w1 w2 w3) 0 0))) 2 0) + (List.getD (List.set (oA4 w0 w1 w2 w3) ((1 : Int32)).toNatClampNeg ((List.getD (oA4 w0 w1 w2 w3) 1 0) + (List.getD (oA4 w0 w1 w2 w3) 0 0))) 1 0))) ((3 : Int32)).toNatClampNeg ((List.getD (List.set (List.set (oA4 w0 w1 w2 w3) ((1 : Int32)).toNatClampNeg ((List.getD (oA4 w0 w1 w2 w3) 1 0) + (List.getD (oA4 w0 w1 w2 w3) 0 0))) ((2 : Int32)).toNatClampNeg ((List.getD (List.set (oA4 w0 w1 w2 w3) ((1 : Int32)).toNatClampNeg ((List.getD (oA4 w0 w1 w2 w3) 1 0) + (List.getD (oA4 w0 w1 w2 w3) 0 0))) 2 0) + (List.getD (List.set (oA4 w0 w1 w2 w3) ((1 : Int32)).toNatClampNeg ((List.getD (oA4 w0 w1 w2 w3) 1 0) + (List.getD (oA4 w0 w1 w2 w3) 0 0))) 1 0))) 3 0) + (List.getD (List.set (List.set (oA4 w0 w1 w2 w3) ((1 : Int32)).toNatClampNeg ((List.getD (oA4 w0 w1 w2 w3) 1 0) + (List.getD (oA4 w0 w1 w2 w3) 0 0))) ((2 : Int32)).toNatClampNeg ((List.getD (List.set (oA4 w0 w1 w2 w3) ((1 : Int32)).toNatClampNeg ((List.getD (oA4 w0 w1 w2 w3) 1 0) + (List.getD (oA4 w0 w1 w2 w3) 0 0))) 2 0) + (List.getD (List.set (oA4 w0 w1 w2 w3) ((1 : Int32)).toNatClampNeg ((List.getD (oA4 w0 w1 w2 w3) 1 0) + (List.getD (oA4 w0 w1 w2 w3) 0 0))) 1 0))) 2 0))).map Value.int) (.int (0 : Int32)) := V7
            refine Go.st st7 ?_
            show Go p e below s _ _ _ (T7.setTop (mkF m 61 #[.val (.ref a), .val (.ref b), .val (.int (3 : Int32)), .val (.int (4 : Int32)), .val (.int (4 : Int32)), .val (.int w3)] []))
            refine Go.st (fun _ kq_ => XT.iincV X7.here hx rfl (1 : Int32) (hb hby dg_61) rfl rfl (l' := #[.val (.ref a), .val (.ref b), .val (.int (4 : Int32)), .val (.int (4 : Int32)), .val (.int (4 : Int32)), .val (.int w3)]) rfl kq_) ?_
            show Go p e below s _ _ _ (T7.setTop (mkF m 64 #[.val (.ref a), .val (.ref b), .val (.int (4 : Int32)), .val (.int (4 : Int32)), .val (.int (4 : Int32)), .val (.int w3)] []))
            refine Go.st (fun _ kq_ => XS.goto X7.here hx rfl (pc0 := 64) (pc' := 44) rfl (hb hby dg_64) (by decide) (by decide) kq_) ?_
            show Go p e below s _ _ _ (T7.setTop (mkF m 44 #[.val (.ref a), .val (.ref b), .val (.int (4 : Int32)), .val (.int (4 : Int32)), .val (.int (4 : Int32)), .val (.int w3)] []))
            refine Go.st (fun _ kq_ => XS.iloadN X7.here hx rfl (hb hby dg_44) rfl kq_) ?_
            show Go p e below s _ _ _ (T7.setTop (mkF m 45 #[.val (.ref a), .val (.ref b), .val (.int (4 : Int32)), .val (.int (4 : Int32)), .val (.int (4 : Int32)), .val (.int w3)] [(.int (4 : Int32))]))
            refine Go.st (fun _ kq_ => XS.aloadN X7.here hx rfl (hb hby dg_45) rfl rfl kq_) ?_
            show Go p e below s _ _ _ (T7.setTop (mkF m 46 #[.val (.ref a), .val (.ref b), .val (.int (4 : Int32)), .val (.int (4 : Int32)), .val (.int (4 : Int32)), .val (.int w3)] [(.ref b), (.int (4 : Int32))]))
            refine Go.st (fun _ kq_ => own_len X7 hx hZ e7 V_b (g := (mkF m 46 #[.val (.ref a), .val (.ref b), .val (.int (4 : Int32)), .val (.int (4 : Int32)), .val (.int (4 : Int32)), .val (.int w3)] [(.ref b), (.int (4 : Int32))])) rfl rfl (hb hby dg_46) _ kq_) ?_
            show Go p e below s _ _ _ (T7.setTop (mkF m 47 #[.val (.ref a), .val (.ref b), .val (.int (4 : Int32)), .val (.int (4 : Int32)), .val (.int (4 : Int32)), .val (.int w3)] [(.int (4 : Int32)), (.int (4 : Int32))]))
            refine Go.st (fun _ kq_ => XS.icmpYes X7.here hx rfl (pc0 := 47) (pc' := 67) rfl (hb hby dg_47) rfl (by decide) (by decide) (by decide) kq_) ?_
            show Go p e below s _ _ _ (T7.setTop (mkF m 67 #[.val (.ref a), .val (.ref b), .val (.int (4 : Int32)), .val (.int (4 : Int32)), .val (.int (4 : Int32)), .val (.int w3)] []))
            have V_b : Arv Z h7 b kb .int (4 : Int32) ((oP w0 w1 w2 w3).map Value.int) (.int (0 : Int32)) := by rw [(show oP w0 w1 w2 w3 = (List.set (List.set (List.set (oA4 w0 w1 w2 w3) ((1 : Int32)).toNatClampNeg ((List.getD (oA4 w0 w1 w2 w3) 1 0) + (List.getD (oA4 w0 w1 w2 w3) 0 0))) ((2 : Int32)).toNatClampNeg ((List.getD (List.set (oA4 w0 w1 w2 w3) ((1 : Int32)).toNatClampNeg ((List.getD (oA4 w0 w1 w2 w3) 1 0) + (List.getD (oA4 w0 w1 w2 w3) 0 0))) 2 0) + (List.getD (List.set (oA4 w0 w1 w2 w3) ((1 : Int32)).toNatClampNeg ((List.getD (oA4 w0 w1 w2 w3) 1 0) + (List.getD (oA4 w0 w1 w2 w3) 0 0))) 1 0))) ((3 : Int32)).toNatClampNeg ((List.getD (List.set (List.set (oA4 w0 w1 w2 w3) ((1 : Int32)).toNatClampNeg ((List.getD (oA4 w0 w1 w2 w3) 1 0) + (List.getD (oA4 w0 w1 w2 w3) 0 0))) ((2 : Int32)).toNatClampNeg ((List.getD (List.set (oA4 w0 w1 w2 w3) ((1 : Int32)).toNatClampNeg ((List.getD (oA4 w0 w1 w2 w3) 1 0) + (List.getD (oA4 w0 w1 w2 w3) 0 0))) 2 0) + (List.getD (List.set (oA4 w0 w1 w2 w3) ((1 : Int32)).toNatClampNeg ((List.getD (oA4 w0 w1 w2 w3) 1 0) + (List.getD (oA4 w0 w1 w2 w3) 0 0))) 1 0))) 3 0) + (List.getD (List.set (List.set (oA4 w0 w1 w2 w3) ((1 : Int32)).toNatClampNeg ((List.getD (oA4 w0 w1 w2 w3) 1 0) + (List.getD (oA4 w0 w1 w2 w3) 0 0))) ((2 : Int32)).toNatClampNeg ((List.getD (List.set (oA4 w0 w1 w2 w3) ((1 : Int32)).toNatClampNeg ((List.getD (oA4 w0 w1 w2 w3) 1 0) + (List.getD (oA4 w0 w1 w2 w3) 0 0))) 2 0) + (List.getD (List.set (oA4 w0 w1 w2 w3) ((1 : Int32)).toNatClampNeg ((List.getD (oA4 w0 w1 w2 w3) 1 0) + (List.getD (oA4 w0 w1 w2 w3) 0 0))) 1 0))) 2 0))) from rfl)]; exact V_b
            refine Go.st (fun _ kq_ => XS.aloadN X7.here hx rfl (hb hby dg_67) rfl rfl kq_) ?_
            show Go p e below s _ _ _ (T7.setTop (mkF m 68 #[.val (.ref a), .val (.ref b), .val (.int (4 : Int32)), .val (.int (4 : Int32)), .val (.int (4 : Int32)), .val (.int w3)] [(.ref b)]))
            refine Go.st (fun _ kq_ => XS.aloadN X7.here hx rfl (hb hby dg_68) rfl rfl kq_) ?_
            show Go p e below s _ _ _ (T7.setTop (mkF m 69 #[.val (.ref a), .val (.ref b), .val (.int (4 : Int32)), .val (.int (4 : Int32)), .val (.int (4 : Int32)), .val (.int w3)] [(.ref b), (.ref b)]))
            refine Go.st (fun _ kq_ => own_len X7 hx hZ e7 V_b (g := (mkF m 69 #[.val (.ref a), .val (.ref b), .val (.int (4 : Int32)), .val (.int (4 : Int32)), .val (.int (4 : Int32)), .val (.int w3)] [(.ref b), (.ref b)])) rfl rfl (hb hby dg_69) _ kq_) ?_
            show Go p e below s _ _ _ (T7.setTop (mkF m 70 #[.val (.ref a), .val (.ref b), .val (.int (4 : Int32)), .val (.int (4 : Int32)), .val (.int (4 : Int32)), .val (.int w3)] [(.int (4 : Int32)), (.ref b)]))
            refine Go.st (fun _ kq_ => XS.iconst X7.here hx rfl (hb hby dg_70) kq_) ?_
            show Go p e below s _ _ _ (T7.setTop (mkF m 71 #[.val (.ref a), .val (.ref b), .val (.int (4 : Int32)), .val (.int (4 : Int32)), .val (.int (4 : Int32)), .val (.int w3)] [(.int (1 : Int32)), (.int (4 : Int32)), (.ref b)]))
            refine Go.st (fun _ kq_ => XS.isub X7.here hx rfl (hb hby dg_71) rfl kq_) ?_
            show Go p e below s _ _ _ (T7.setTop (mkF m 72 #[.val (.ref a), .val (.ref b), .val (.int (4 : Int32)), .val (.int (4 : Int32)), .val (.int (4 : Int32)), .val (.int w3)] [(.int (3 : Int32)), (.ref b)]))
            refine Go.st (fun _ kq_ => own_iaload X7 hx hZ e7 V_b (by decide) (by decide) (v := .int (List.getD (oP w0 w1 w2 w3) 3 0)) (own_getI (oP w0 w1 w2 w3) 0 _) (g := (mkF m 72 #[.val (.ref a), .val (.ref b), .val (.int (4 : Int32)), .val (.int (4 : Int32)), .val (.int (4 : Int32)), .val (.int w3)] [(.int (3 : Int32)), (.ref b)])) rfl rfl (hb hby dg_72) _ kq_) ?_
            show Go p e below s _ _ _ (T7.setTop (mkF m 73 #[.val (.ref a), .val (.ref b), .val (.int (4 : Int32)), .val (.int (4 : Int32)), .val (.int (4 : Int32)), .val (.int w3)] [(.int (List.getD (oP w0 w1 w2 w3) 3 0))]))
            show Go p e below s _ _ _ (T7.setTop (mkF m 73 #[.val (.ref a), .val (.ref b), .val (.int (4 : Int32)), .val (.int (4 : Int32)), .val (.int (4 : Int32)), .val (.int w3)] [(.int (oN w0 w1 w2 w3))]))
            obtain ⟨T8, h8, k8, X8, e8, E8, A8, st8⟩ := newP X7 hx hZ (own_w hw 0 rfl) e7 (g := (mkF m 73 #[.val (.ref a), .val (.ref b), .val (.int (4 : Int32)), .val (.int (4 : Int32)), .val (.int (4 : Int32)), .val (.int w3)] [(.int (oN w0 w1 w2 w3))])) rfl (hb hby dg_73) rfl (own_nb m0 m1 m2 m3).1 (cap := 4) (own_nb m0 m1 m2 m3).2 (by decide) (by decide) (by decide)
            obtain ⟨b8, g8⟩ : ∃ z, z = h7.size := ⟨_, rfl⟩
            rw [← g8] at A8 st8
            have g_b8 : n0 ≤ b8 := Nat.le_trans (own_old O7) (Nat.le_of_eq g8.symm)
            have sz_b8 : h0.size ≤ b8 := Nat.le_trans K7.1 (Nat.le_of_eq g8.symm)
            have ne_a_b8 : a ≠ b8 := by rw [g8]; exact Nat.ne_of_lt V_a.lt
            have ne_b_b8 : b ≠ b8 := by rw [g8]; exact Nat.ne_of_lt V_b.lt
            have V_a := V_a.ext E8
            have V_b := V_b.ext E8
            have E_b := E_b.ext E8
            have O8 := O7.ext E8
            have K8 := K7.ext E8
            have V_b8 : Arv Z h8 b8 k8 .int (oN w0 w1 w2 w3) ((List.replicate ((oN w0 w1 w2 w3)).toNatClampNeg (0 : Int32)).map Value.int) (.int (0 : Int32)) := (Arv.new A8 (own_nb m0 m1 m2 m3).1).pad own_rep
            refine Go.st st8 ?_
            show Go p e below s _ _ _ (T8.setTop (mkF m 75 #[.val (.ref a), .val (.ref b), .val (.int (4 : Int32)), .val (.int (4 : Int32)), .val (.int (4 : Int32)), .val (.int w3)] [(.ref b8)]))
            refine Go.st (fun _ kq_ => XS.astoreN X8.here hx rfl (hb hby dg_75) rfl rfl (l' := #[.val (.ref a), .val (.ref b), .val (.ref b8), .val (.int (4 : Int32)), .val (.int (4 : Int32)), .val (.int w3)]) rfl kq_) ?_
            show Go p e below s _ _ _ (T8.setTop (mkF m 76 #[.val (.ref a), .val (.ref b), .val (.ref b8), .val (.int (4 : Int32)), .val (.int (4 : Int32)), .val (.int w3)] []))
            refine Go.st (fun _ kq_ => XS.aloadN X8.here hx rfl (hb hby dg_76) rfl rfl kq_) ?_
            show Go p e below s _ _ _ (T8.setTop (mkF m 77 #[.val (.ref a), .val (.ref b), .val (.ref b8), .val (.int (4 : Int32)), .val (.int (4 : Int32)), .val (.int w3)] [(.ref b)]))
            obtain ⟨T9, h9, X9, e9, E9, A9, Ex9, st9⟩ := cloneH X8 hx hZ hown (own_w hw 5 rfl) (own_w hw 6 rfl) (own_w hw 10 rfl) (own_w hw 8 rfl) (own_w hw 9 rfl) (own_w hw 11 rfl) e8 (Arv.arh V_b) E_b (g := (mkF m 77 #[.val (.ref a), .val (.ref b), .val (.ref b8), .val (.int (4 : Int32)), .val (.int (4 : Int32)), .val (.int w3)] [(.ref b)])) rfl (by rw [hml]; rfl) rfl (hb hby dg_77) (by decide) (W := 0) (cap := 4) (by show 2 * 0 + _ ≤ _; exact Nat.le_of_eq rfl) (by decide) (by decide) (by decide) (by decide)
            obtain ⟨q9, g9⟩ : ∃ z, z = h8.size := ⟨_, rfl⟩
            rw [← g9] at A9 Ex9 st9
            have g_q9 : n0 ≤ q9 := Nat.le_trans (own_old O8) (Nat.le_of_eq g9.symm)
            have sz_q9 : h0.size ≤ q9 := Nat.le_trans K8.1 (Nat.le_of_eq g9.symm)
            have ne_a_q9 : a ≠ q9 := by rw [g9]; exact Nat.ne_of_lt V_a.lt
            have ne_b_q9 : b ≠ q9 := by rw [g9]; exact Nat.ne_of_lt V_b.lt
            have ne_b8_q9 : b8 ≠ q9 := by rw [g9]; exact Nat.ne_of_lt V_b8.lt
            have V_a := V_a.ext E9
            have V_b := V_b.ext E9
            have E_b := E_b.ext E9
            have V_b8 := V_b8.ext E9
            have O9 := O8.ext E9
            have K9 := K8.ext E9
            have E_q9 : Exa Z h9 q9 "[I" := Ex9
            have V_q9 : Arv Z h9 q9 kb .int (4 : Int32) ((oP w0 w1 w2 w3).map Value.int) (.int (0 : Int32)) := A9
            refine Go.st st9 ?_
            show Go p e below s _ _ _ (T9.setTop (mkF m 80 #[.val (.ref a), .val (.ref b), .val (.ref b8), .val (.int (4 : Int32)), .val (.int (4 : Int32)), .val (.int w3)] [(.ref q9)]))
            obtain ⟨T10, X10, e10, st10⟩ := castY X9 hx hZ hown (own_w hw 12 rfl) e9 (Ins.self E_q9) (g := (mkF m 80 #[.val (.ref a), .val (.ref b), .val (.ref b8), .val (.int (4 : Int32)), .val (.int (4 : Int32)), .val (.int w3)] [(.ref q9)])) rfl rfl (hb hby dg_80)
            refine Go.st st10 ?_
            show Go p e below s _ _ _ (T10.setTop (mkF m 83 #[.val (.ref a), .val (.ref b), .val (.ref b8), .val (.int (4 : Int32)), .val (.int (4 : Int32)), .val (.int w3)] [(.ref q9)]))
            refine Go.st (fun _ kq_ => XS.astoreN X10.here hx rfl (hb hby dg_83) rfl rfl (l' := #[.val (.ref a), .val (.ref b), .val (.ref b8), .val (.ref q9), .val (.int (4 : Int32)), .val (.int w3)]) rfl kq_) ?_
            show Go p e below s _ _ _ (T10.setTop (mkF m 84 #[.val (.ref a), .val (.ref b), .val (.ref b8), .val (.ref q9), .val (.int (4 : Int32)), .val (.int w3)] []))
            have V_b8 : Arv Z h9 b8 k8 .int (oN w0 w1 w2 w3) ((oG0 w0 w1 w2 w3).map Value.int) (.int (0 : Int32)) := by rw [(show oG0 w0 w1 w2 w3 = (List.replicate ((oN w0 w1 w2 w3)).toNatClampNeg (0 : Int32)) from rfl)]; exact V_b8
            have V_q9 : Arv Z h9 q9 kb .int (4 : Int32) ((oX0 w0 w1 w2 w3).map Value.int) (.int (0 : Int32)) := by rw [(show oX0 w0 w1 w2 w3 = (oP w0 w1 w2 w3) from rfl)]; exact V_q9
            refine Go.st (fun _ kq_ => XS.iconst X10.here hx rfl (hb hby dg_84) kq_) ?_
            show Go p e below s _ _ _ (T10.setTop (mkF m 85 #[.val (.ref a), .val (.ref b), .val (.ref b8), .val (.ref q9), .val (.int (4 : Int32)), .val (.int w3)] [(.int (0 : Int32))]))
            refine Go.st (fun _ kq_ => XS.istore X10.here hx rfl (hb hby dg_85) rfl (l' := #[.val (.ref a), .val (.ref b), .val (.ref b8), .val (.ref q9), .val (.int (0 : Int32)), .val (.int w3)]) rfl kq_) ?_
            show Go p e below s _ _ _ (T10.setTop (mkF m 87 #[.val (.ref a), .val (.ref b), .val (.ref b8), .val (.ref q9), .val (.int (0 : Int32)), .val (.int w3)] []))
            refine Go.st (fun _ kq_ => XS.iload X10.here hx rfl (hb hby dg_87) rfl kq_) ?_
            show Go p e below s _ _ _ (T10.setTop (mkF m 89 #[.val (.ref a), .val (.ref b), .val (.ref b8), .val (.ref q9), .val (.int (0 : Int32)), .val (.int w3)] [(.int (0 : Int32))]))
            refine Go.st (fun _ kq_ => XS.aloadN X10.here hx rfl (hb hby dg_89) rfl rfl kq_) ?_
            show Go p e below s _ _ _ (T10.setTop (mkF m 90 #[.val (.ref a), .val (.ref b), .val (.ref b8), .val (.ref q9), .val (.int (0 : Int32)), .val (.int w3)] [(.ref a), (.int (0 : Int32))]))
            refine Go.st (fun _ kq_ => own_len X10 hx hZ e10 V_a (g := (mkF m 90 #[.val (.ref a), .val (.ref b), .val (.ref b8), .val (.ref q9), .val (.int (0 : Int32)), .val (.int w3)] [(.ref a), (.int (0 : Int32))])) rfl rfl (hb hby dg_90) _ kq_) ?_
            show Go p e below s _ _ _ (T10.setTop (mkF m 91 #[.val (.ref a), .val (.ref b), .val (.ref b8), .val (.ref q9), .val (.int (0 : Int32)), .val (.int w3)] [(.int (4 : Int32)), (.int (0 : Int32))]))
            refine Go.st (fun _ kq_ => XS.icmpNo X10.here hx rfl (hb hby dg_91) rfl (by decide) kq_) ?_
            show Go p e below s _ _ _ (T10.setTop (mkF m 94 #[.val (.ref a), .val (.ref b), .val (.ref b8), .val (.ref q9), .val (.int (0 : Int32)), .val (.int w3)] []))
            have K3_0 : ∀ (T11 : State) (h11 : Heap) (lc11 : List Loc) (X11 : Stand p l e ({ frames := 1, cells := 2, slots := 8, locals := 14 } : Room) s m #[(.ref a), (.ref b)] below meth cd T11 lc11 2 8) (e11 : T11.heap = h11) (N11 : Fr n0 lc11) (O11 : Old Z n0 h11) (K11 : Keep h0 h11 [b]) (V_a : Arv Z h11 a ka .int (4 : Int32) [(.int w0), (.int w1), (.int w2), (.int w3)] (.int (0 : Int32))) (V_b : Arv Z h11 b kb .int (4 : Int32) ((oP w0 w1 w2 w3).map Value.int) (.int (0 : Int32))) (E_b : Exa Z h11 b "[I") (V_b8 : Arv Z h11 b8 k8 .int (oN w0 w1 w2 w3) ((oG1 w0 w1 w2 w3).map Value.int) (.int (0 : Int32))) (E_q9 : Exa Z h11 q9 "[I") (V_q9 : Arv Z h11 q9 kb .int (4 : Int32) ((oX1 w0 w1 w2 w3).map Value.int) (.int (0 : Int32))), Go p e below s 2 8 (Qg Z a ka b kb w0 w1 w2 w3 h0 n0) (T11.setTop (mkF m 117 #[.val (.ref a), .val (.ref b), .val (.ref b8), .val (.ref q9), .val (.int (0 : Int32)), .val (.int w3)] [])) := by
              intro T11 h11 lc11 X11 e11 N11 O11 K11 V_a V_b E_b V_b8 E_q9 V_q9
              refine Go.st (fun _ kq_ => XT.iincV X11.here hx rfl (1 : Int32) (hb hby dg_117) rfl rfl (l' := #[.val (.ref a), .val (.ref b), .val (.ref b8), .val (.ref q9), .val (.int (1 : Int32)), .val (.int w3)]) rfl kq_) ?_
              show Go p e below s _ _ _ (T11.setTop (mkF m 120 #[.val (.ref a), .val (.ref b), .val (.ref b8), .val (.ref q9), .val (.int (1 : Int32)), .val (.int w3)] []))
              refine Go.st (fun _ kq_ => XS.goto X11.here hx rfl (pc0 := 120) (pc' := 87) rfl (hb hby dg_120) (by decide) (by decide) kq_) ?_
              show Go p e below s _ _ _ (T11.setTop (mkF m 87 #[.val (.ref a), .val (.ref b), .val (.ref b8), .val (.ref q9), .val (.int (1 : Int32)), .val (.int w3)] []))
              refine Go.st (fun _ kq_ => XS.iload X11.here hx rfl (hb hby dg_87) rfl kq_) ?_
              show Go p e below s _ _ _ (T11.setTop (mkF m 89 #[.val (.ref a), .val (.ref b), .val (.ref b8), .val (.ref q9), .val (.int (1 : Int32)), .val (.int w3)] [(.int (1 : Int32))]))
              refine Go.st (fun _ kq_ => XS.aloadN X11.here hx rfl (hb hby dg_89) rfl rfl kq_) ?_
              show Go p e below s _ _ _ (T11.setTop (mkF m 90 #[.val (.ref a), .val (.ref b), .val (.ref b8), .val (.ref q9), .val (.int (1 : Int32)), .val (.int w3)] [(.ref a), (.int (1 : Int32))]))
              refine Go.st (fun _ kq_ => own_len X11 hx hZ e11 V_a (g := (mkF m 90 #[.val (.ref a), .val (.ref b), .val (.ref b8), .val (.ref q9), .val (.int (1 : Int32)), .val (.int w3)] [(.ref a), (.int (1 : Int32))])) rfl rfl (hb hby dg_90) _ kq_) ?_
              show Go p e below s _ _ _ (T11.setTop (mkF m 91 #[.val (.ref a), .val (.ref b), .val (.ref b8), .val (.ref q9), .val (.int (1 : Int32)), .val (.int w3)] [(.int (4 : Int32)), (.int (1 : Int32))]))
              refine Go.st (fun _ kq_ => XS.icmpNo X11.here hx rfl (hb hby dg_91) rfl (by decide) kq_) ?_
              show Go p e below s _ _ _ (T11.setTop (mkF m 94 #[.val (.ref a), .val (.ref b), .val (.ref b8), .val (.ref q9), .val (.int (1 : Int32)), .val (.int w3)] []))
              have K3_1 : ∀ (T12 : State) (h12 : Heap) (lc12 : List Loc) (X12 : Stand p l e ({ frames := 1, cells := 2, slots := 8, locals := 14 } : Room) s m #[(.ref a), (.ref b)] below meth cd T12 lc12 2 8) (e12 : T12.heap = h12) (N12 : Fr n0 lc12) (O12 : Old Z n0 h12) (K12 : Keep h0 h12 [b]) (V_a : Arv Z h12 a ka .int (4 : Int32) [(.int w0), (.int w1), (.int w2), (.int w3)] (.int (0 : Int32))) (V_b : Arv Z h12 b kb .int (4 : Int32) ((oP w0 w1 w2 w3).map Value.int) (.int (0 : Int32))) (E_b : Exa Z h12 b "[I") (V_b8 : Arv Z h12 b8 k8 .int (oN w0 w1 w2 w3) ((oG2 w0 w1 w2 w3).map Value.int) (.int (0 : Int32))) (E_q9 : Exa Z h12 q9 "[I") (V_q9 : Arv Z h12 q9 kb .int (4 : Int32) ((oX2 w0 w1 w2 w3).map Value.int) (.int (0 : Int32))), Go p e below s 2 8 (Qg Z a ka b kb w0 w1 w2 w3 h0 n0) (T12.setTop (mkF m 117 #[.val (.ref a), .val (.ref b), .val (.ref b8), .val (.ref q9), .val (.int (1 : Int32)), .val (.int w3)] [])) := by
                intro T12 h12 lc12 X12 e12 N12 O12 K12 V_a V_b E_b V_b8 E_q9 V_q9
                refine Go.st (fun _ kq_ => XT.iincV X12.here hx rfl (1 : Int32) (hb hby dg_117) rfl rfl (l' := #[.val (.ref a), .val (.ref b), .val (.ref b8), .val (.ref q9), .val (.int (2 : Int32)), .val (.int w3)]) rfl kq_) ?_
                show Go p e below s _ _ _ (T12.setTop (mkF m 120 #[.val (.ref a), .val (.ref b), .val (.ref b8), .val (.ref q9), .val (.int (2 : Int32)), .val (.int w3)] []))
                refine Go.st (fun _ kq_ => XS.goto X12.here hx rfl (pc0 := 120) (pc' := 87) rfl (hb hby dg_120) (by decide) (by decide) kq_) ?_
                show Go p e below s _ _ _ (T12.setTop (mkF m 87 #[.val (.ref a), .val (.ref b), .val (.ref b8), .val (.ref q9), .val (.int (2 : Int32)), .val (.int w3)] []))
                refine Go.st (fun _ kq_ => XS.iload X12.here hx rfl (hb hby dg_87) rfl kq_) ?_
                show Go p e below s _ _ _ (T12.setTop (mkF m 89 #[.val (.ref a), .val (.ref b), .val (.ref b8), .val (.ref q9), .val (.int (2 : Int32)), .val (.int w3)] [(.int (2 : Int32))]))
                refine Go.st (fun _ kq_ => XS.aloadN X12.here hx rfl (hb hby dg_89) rfl rfl kq_) ?_
                show Go p e below s _ _ _ (T12.setTop (mkF m 90 #[.val (.ref a), .val (.ref b), .val (.ref b8), .val (.ref q9), .val (.int (2 : Int32)), .val (.int w3)] [(.ref a), (.int (2 : Int32))]))
                refine Go.st (fun _ kq_ => own_len X12 hx hZ e12 V_a (g := (mkF m 90 #[.val (.ref a), .val (.ref b), .val (.ref b8), .val (.ref q9), .val (.int (2 : Int32)), .val (.int w3)] [(.ref a), (.int (2 : Int32))])) rfl rfl (hb hby dg_90) _ kq_) ?_
                show Go p e below s _ _ _ (T12.setTop (mkF m 91 #[.val (.ref a), .val (.ref b), .val (.ref b8), .val (.ref q9), .val (.int (2 : Int32)), .val (.int w3)] [(.int (4 : Int32)), (.int (2 : Int32))]))
                refine Go.st (fun _ kq_ => XS.icmpNo X12.here hx rfl (hb hby dg_91) rfl (by decide) kq_) ?_
                show Go p e below s _ _ _ (T12.setTop (mkF m 94 #[.val (.ref a), .val (.ref b), .val (.ref b8), .val (.ref q9), .val (.int (2 : Int32)), .val (.int w3)] []))
                have K3_2 : ∀ (T13 : State) (h13 : Heap) (lc13 : List Loc) (X13 : Stand p l e ({ frames := 1, cells := 2, slots := 8, locals := 14 } : Room) s m #[(.ref a), (.ref b)] below meth cd T13 lc13 2 8) (e13 : T13.heap = h13) (N13 : Fr n0 lc13) (O13 : Old Z n0 h13) (K13 : Keep h0 h13 [b]) (V_a : Arv Z h13 a ka .int (4 : Int32) [(.int w0), (.int w1), (.int w2), (.int w3)] (.int (0 : Int32))) (V_b : Arv Z h13 b kb .int (4 : Int32) ((oP w0 w1 w2 w3).map Value.int) (.int (0 : Int32))) (E_b : Exa Z h13 b "[I") (V_b8 : Arv Z h13 b8 k8 .int (oN w0 w1 w2 w3) ((oG3 w0 w1 w2 w3).map Value.int) (.int (0 : Int32))) (E_q9 : Exa Z h13 q9 "[I") (V_q9 : Arv Z h13 q9 kb .int (4 : Int32) ((oX3 w0 w1 w2 w3).map Value.int) (.int (0 : Int32))), Go p e below s 2 8 (Qg Z a ka b kb w0 w1 w2 w3 h0 n0) (T13.setTop (mkF m 117 #[.val (.ref a), .val (.ref b), .val (.ref b8), .val (.ref q9), .val (.int (2 : Int32)), .val (.int w3)] [])) := by
                  intro T13 h13 lc13 X13 e13 N13 O13 K13 V_a V_b E_b V_b8 E_q9 V_q9
                  refine Go.st (fun _ kq_ => XT.iincV X13.here hx rfl (1 : Int32) (hb hby dg_117) rfl rfl (l' := #[.val (.ref a), .val (.ref b), .val (.ref b8), .val (.ref q9), .val (.int (3 : Int32)), .val (.int w3)]) rfl kq_) ?_
                  show Go p e below s _ _ _ (T13.setTop (mkF m 120 #[.val (.ref a), .val (.ref b), .val (.ref b8), .val (.ref q9), .val (.int (3 : Int32)), .val (.int w3)] []))
                  refine Go.st (fun _ kq_ => XS.goto X13.here hx rfl (pc0 := 120) (pc' := 87) rfl (hb hby dg_120) (by decide) (by decide) kq_) ?_
                  show Go p e below s _ _ _ (T13.setTop (mkF m 87 #[.val (.ref a), .val (.ref b), .val (.ref b8), .val (.ref q9), .val (.int (3 : Int32)), .val (.int w3)] []))
                  refine Go.st (fun _ kq_ => XS.iload X13.here hx rfl (hb hby dg_87) rfl kq_) ?_
                  show Go p e below s _ _ _ (T13.setTop (mkF m 89 #[.val (.ref a), .val (.ref b), .val (.ref b8), .val (.ref q9), .val (.int (3 : Int32)), .val (.int w3)] [(.int (3 : Int32))]))
                  refine Go.st (fun _ kq_ => XS.aloadN X13.here hx rfl (hb hby dg_89) rfl rfl kq_) ?_
                  show Go p e below s _ _ _ (T13.setTop (mkF m 90 #[.val (.ref a), .val (.ref b), .val (.ref b8), .val (.ref q9), .val (.int (3 : Int32)), .val (.int w3)] [(.ref a), (.int (3 : Int32))]))
                  refine Go.st (fun _ kq_ => own_len X13 hx hZ e13 V_a (g := (mkF m 90 #[.val (.ref a), .val (.ref b), .val (.ref b8), .val (.ref q9), .val (.int (3 : Int32)), .val (.int w3)] [(.ref a), (.int (3 : Int32))])) rfl rfl (hb hby dg_90) _ kq_) ?_
                  show Go p e below s _ _ _ (T13.setTop (mkF m 91 #[.val (.ref a), .val (.ref b), .val (.ref b8), .val (.ref q9), .val (.int (3 : Int32)), .val (.int w3)] [(.int (4 : Int32)), (.int (3 : Int32))]))
                  refine Go.st (fun _ kq_ => XS.icmpNo X13.here hx rfl (hb hby dg_91) rfl (by decide) kq_) ?_
                  show Go p e below s _ _ _ (T13.setTop (mkF m 94 #[.val (.ref a), .val (.ref b), .val (.ref b8), .val (.ref q9), .val (.int (3 : Int32)), .val (.int w3)] []))
                  have K3_3 : ∀ (T14 : State) (h14 : Heap) (lc14 : List Loc) (X14 : Stand p l e ({ frames := 1, cells := 2, slots := 8, locals := 14 } : Room) s m #[(.ref a), (.ref b)] below meth cd T14 lc14 2 8) (e14 : T14.heap = h14) (N14 : Fr n0 lc14) (O14 : Old Z n0 h14) (K14 : Keep h0 h14 [b]) (V_a : Arv Z h14 a ka .int (4 : Int32) [(.int w0), (.int w1), (.int w2), (.int w3)] (.int (0 : Int32))) (V_b : Arv Z h14 b kb .int (4 : Int32) ((oP w0 w1 w2 w3).map Value.int) (.int (0 : Int32))) (E_b : Exa Z h14 b "[I") (V_b8 : Arv Z h14 b8 k8 .int (oN w0 w1 w2 w3) ((oG4 w0 w1 w2 w3).map Value.int) (.int (0 : Int32))) (E_q9 : Exa Z h14 q9 "[I") (V_q9 : Arv Z h14 q9 kb .int (4 : Int32) ((oX4 w0 w1 w2 w3).map Value.int) (.int (0 : Int32))), Go p e below s 2 8 (Qg Z a ka b kb w0 w1 w2 w3 h0 n0) (T14.setTop (mkF m 117 #[.val (.ref a), .val (.ref b), .val (.ref b8), .val (.ref q9), .val (.int (3 : Int32)), .val (.int w3)] [])) := by
                    intro T14 h14 lc14 X14 e14 N14 O14 K14 V_a V_b E_b V_b8 E_q9 V_q9
                    refine Go.st (fun _ kq_ => XT.iincV X14.here hx rfl (1 : Int32) (hb hby dg_117) rfl rfl (l' := #[.val (.ref a), .val (.ref b), .val (.ref b8), .val (.ref q9), .val (.int (4 : Int32)), .val (.int w3)]) rfl kq_) ?_
                    show Go p e below s _ _ _ (T14.setTop (mkF m 120 #[.val (.ref a), .val (.ref b), .val (.ref b8), .val (.ref q9), .val (.int (4 : Int32)), .val (.int w3)] []))
                    refine Go.st (fun _ kq_ => XS.goto X14.here hx rfl (pc0 := 120) (pc' := 87) rfl (hb hby dg_120) (by decide) (by decide) kq_) ?_
                    show Go p e below s _ _ _ (T14.setTop (mkF m 87 #[.val (.ref a), .val (.ref b), .val (.ref b8), .val (.ref q9), .val (.int (4 : Int32)), .val (.int w3)] []))
                    refine Go.st (fun _ kq_ => XS.iload X14.here hx rfl (hb hby dg_87) rfl kq_) ?_
                    show Go p e below s _ _ _ (T14.setTop (mkF m 89 #[.val (.ref a), .val (.ref b), .val (.ref b8), .val (.ref q9), .val (.int (4 : Int32)), .val (.int w3)] [(.int (4 : Int32))]))
                    refine Go.st (fun _ kq_ => XS.aloadN X14.here hx rfl (hb hby dg_89) rfl rfl kq_) ?_
                    show Go p e below s _ _ _ (T14.setTop (mkF m 90 #[.val (.ref a), .val (.ref b), .val (.ref b8), .val (.ref q9), .val (.int (4 : Int32)), .val (.int w3)] [(.ref a), (.int (4 : Int32))]))
                    refine Go.st (fun _ kq_ => own_len X14 hx hZ e14 V_a (g := (mkF m 90 #[.val (.ref a), .val (.ref b), .val (.ref b8), .val (.ref q9), .val (.int (4 : Int32)), .val (.int w3)] [(.ref a), (.int (4 : Int32))])) rfl rfl (hb hby dg_90) _ kq_) ?_
                    show Go p e below s _ _ _ (T14.setTop (mkF m 91 #[.val (.ref a), .val (.ref b), .val (.ref b8), .val (.ref q9), .val (.int (4 : Int32)), .val (.int w3)] [(.int (4 : Int32)), (.int (4 : Int32))]))
                    refine Go.st (fun _ kq_ => XS.icmpYes X14.here hx rfl (pc0 := 91) (pc' := 123) rfl (hb hby dg_91) rfl (by decide) (by decide) (by decide) kq_) ?_
                    show Go p e below s _ _ _ (T14.setTop (mkF m 123 #[.val (.ref a), .val (.ref b), .val (.ref b8), .val (.ref q9), .val (.int (4 : Int32)), .val (.int w3)] []))
                    refine Go.st (fun _ kq_ => XS.aloadN X14.here hx rfl (hb hby dg_123) rfl rfl kq_) ?_
                    show Go p e below s _ _ _ (T14.setTop (mkF m 124 #[.val (.ref a), .val (.ref b), .val (.ref b8), .val (.ref q9), .val (.int (4 : Int32)), .val (.int w3)] [(.ref b8)]))
                    exact Go.ret X14 hlk (some (.ref b8)) (fun h => by rw [Bd.returns] at h; cases h) (by rw [e14]; exact ⟨b8, _, rfl, N14, K14, g_b8, sz_b8, V_b, V_b8⟩) (by decide) (by decide) (fun fs hr => retOut X14 hx Bd.returns rfl (Or.inr (Or.inr (Or.inr (Or.inr ⟨rfl, rfl, rfl⟩)))) (hb hby dg_124) hr)
                  show Go p e below s 2 8 (Qg Z a ka b kb w0 w1 w2 w3 h0 n0) (T13.setTop (mkF m 94 #[.val (.ref a), .val (.ref b), .val (.ref b8), .val (.ref q9), .val (.int (3 : Int32)), .val (.int w3)] []))
                  refine Go.st (fun _ kq_ => XS.aloadN X13.here hx rfl (hb hby dg_94) rfl rfl kq_) ?_
                  show Go p e below s _ _ _ (T13.setTop (mkF m 95 #[.val (.ref a), .val (.ref b), .val (.ref b8), .val (.ref q9), .val (.int (3 : Int32)), .val (.int w3)] [(.ref a)]))
                  refine Go.st (fun _ kq_ => XS.iload X13.here hx rfl (hb hby dg_95) rfl kq_) ?_
                  show Go p e below s _ _ _ (T13.setTop (mkF m 97 #[.val (.ref a), .val (.ref b), .val (.ref b8), .val (.ref q9), .val (.int (3 : Int32)), .val (.int w3)] [(.int (3 : Int32)), (.ref a)]))
                  refine Go.st (fun _ kq_ => own_iaload X13 hx hZ e13 V_a (by decide) (by decide) (v := (.int w3)) rfl (g := (mkF m 97 #[.val (.ref a), .val (.ref b), .val (.ref b8), .val (.ref q9), .val (.int (3 : Int32)), .val (.int w3)] [(.int (3 : Int32)), (.ref a)])) rfl rfl (hb hby dg_97) _ kq_) ?_
                  show Go p e below s _ _ _ (T13.setTop (mkF m 98 #[.val (.ref a), .val (.ref b), .val (.ref b8), .val (.ref q9), .val (.int (3 : Int32)), .val (.int w3)] [(.int w3)]))
                  refine Go.st (fun _ kq_ => XS.iconst X13.here hx rfl (hb hby dg_98) kq_) ?_
                  show Go p e below s _ _ _ (T13.setTop (mkF m 99 #[.val (.ref a), .val (.ref b), .val (.ref b8), .val (.ref q9), .val (.int (3 : Int32)), .val (.int w3)] [(.int (-1 : Int32)), (.int w3)]))
                  by_cases c99_15 : w3 = (-1 : Int32)
                  · refine Go.st (fun _ kq_ => XS.icmpYes X13.here hx rfl (pc0 := 99) (pc' := 117) rfl (hb hby dg_99) rfl (XT.ii_eq_t c99_15) (by decide) (by decide) kq_) ?_
                    show Go p e below s _ _ _ (T13.setTop (mkF m 117 #[.val (.ref a), .val (.ref b), .val (.ref b8), .val (.ref q9), .val (.int (3 : Int32)), .val (.int w3)] []))
                    have V_b8 : Arv Z h13 b8 k8 .int (oN w0 w1 w2 w3) ((oG4 w0 w1 w2 w3).map Value.int) (.int (0 : Int32)) := by rw [(show oG4 w0 w1 w2 w3 = (oG3 w0 w1 w2 w3) from if_pos c99_15)]; exact V_b8
                    have V_q9 : Arv Z h13 q9 kb .int (4 : Int32) ((oX4 w0 w1 w2 w3).map Value.int) (.int (0 : Int32)) := by rw [(show oX4 w0 w1 w2 w3 = (oX3 w0 w1 w2 w3) from if_pos c99_15)]; exact V_q9
                    exact K3_3  _ _ _ X13 e13 N13 O13 K13 V_a V_b E_b V_b8 E_q9 V_q9 
                  · refine Go.st (fun _ kq_ => XS.icmpNo X13.here hx rfl (hb hby dg_99) rfl (XT.ii_eq_f c99_15) kq_) ?_
                    show Go p e below s _ _ _ (T13.setTop (mkF m 102 #[.val (.ref a), .val (.ref b), .val (.ref b8), .val (.ref q9), .val (.int (3 : Int32)), .val (.int w3)] []))
                    refine Go.st (fun _ kq_ => XS.aloadN X13.here hx rfl (hb hby dg_102) rfl rfl kq_) ?_
                    show Go p e below s _ _ _ (T13.setTop (mkF m 103 #[.val (.ref a), .val (.ref b), .val (.ref b8), .val (.ref q9), .val (.int (3 : Int32)), .val (.int w3)] [(.ref b8)]))
                    refine Go.st (fun _ kq_ => XS.aloadN X13.here hx rfl (hb hby dg_103) rfl rfl kq_) ?_
                    show Go p e below s _ _ _ (T13.setTop (mkF m 104 #[.val (.ref a), .val (.ref b), .val (.ref b8), .val (.ref q9), .val (.int (3 : Int32)), .val (.int w3)] [(.ref q9), (.ref b8)]))
                    refine Go.st (fun _ kq_ => XS.aloadN X13.here hx rfl (hb hby dg_104) rfl rfl kq_) ?_
                    show Go p e below s _ _ _ (T13.setTop (mkF m 105 #[.val (.ref a), .val (.ref b), .val (.ref b8), .val (.ref q9), .val (.int (3 : Int32)), .val (.int w3)] [(.ref a), (.ref q9), (.ref b8)]))
                    refine Go.st (fun _ kq_ => XS.iload X13.here hx rfl (hb hby dg_105) rfl kq_) ?_
                    show Go p e below s _ _ _ (T13.setTop (mkF m 107 #[.val (.ref a), .val (.ref b), .val (.ref b8), .val (.ref q9), .val (.int (3 : Int32)), .val (.int w3)] [(.int (3 : Int32)), (.ref a), (.ref q9), (.ref b8)]))
                    refine Go.st (fun _ kq_ => own_iaload X13 hx hZ e13 V_a (by decide) (by decide) (v := (.int w3)) rfl (g := (mkF m 107 #[.val (.ref a), .val (.ref b), .val (.ref b8), .val (.ref q9), .val (.int (3 : Int32)), .val (.int w3)] [(.int (3 : Int32)), (.ref a), (.ref q9), (.ref b8)])) rfl rfl (hb hby dg_107) _ kq_) ?_
                    show Go p e below s _ _ _ (T13.setTop (mkF m 108 #[.val (.ref a), .val (.ref b), .val (.ref b8), .val (.ref q9), .val (.int (3 : Int32)), .val (.int w3)] [(.int w3), (.ref q9), (.ref b8)]))
                    refine Go.st (fun _ kq_ => XT.dup2 X13.here hx rfl (hb hby dg_108) rfl rfl rfl kq_) ?_
                    show Go p e below s _ _ _ (T13.setTop (mkF m 109 #[.val (.ref a), .val (.ref b), .val (.ref b8), .val (.ref q9), .val (.int (3 : Int32)), .val (.int w3)] [(.int w3), (.ref q9), (.int w3), (.ref q9), (.ref b8)]))
                    refine Go.st (fun _ kq_ => own_iaload X13 hx hZ e13 V_q9 (own_wb m3 c99_15).1.1 (own_wb m3 c99_15).1.2 (v := .int (List.getD (oX3 w0 w1 w2 w3) (w3).toNatClampNeg 0)) (own_getI (oX3 w0 w1 w2 w3) 0 _) (g := (mkF m 109 #[.val (.ref a), .val (.ref b), .val (.ref b8), .val (.ref q9), .val (.int (3 : Int32)), .val (.int w3)] [(.int w3), (.ref q9), (.int w3), (.ref q9), (.ref b8)])) rfl rfl (hb hby dg_109) _ kq_) ?_
                    show Go p e below s _ _ _ (T13.setTop (mkF m 110 #[.val (.ref a), .val (.ref b), .val (.ref b8), .val (.ref q9), .val (.int (3 : Int32)), .val (.int w3)] [(.int (List.getD (oX3 w0 w1 w2 w3) (w3).toNatClampNeg 0)), (.int w3), (.ref q9), (.ref b8)]))
                    refine Go.st (fun _ kq_ => own_dupx2 X13 hx (g := (mkF m 110 #[.val (.ref a), .val (.ref b), .val (.ref b8), .val (.ref q9), .val (.int (3 : Int32)), .val (.int w3)] [(.int (List.getD (oX3 w0 w1 w2 w3) (w3).toNatClampNeg 0)), (.int w3), (.ref q9), (.ref b8)])) rfl (hb hby dg_110) rfl rfl rfl rfl _ kq_) ?_
                    show Go p e below s _ _ _ (T13.setTop (mkF m 111 #[.val (.ref a), .val (.ref b), .val (.ref b8), .val (.ref q9), .val (.int (3 : Int32)), .val (.int w3)] [(.int (List.getD (oX3 w0 w1 w2 w3) (w3).toNatClampNeg 0)), (.int w3), (.ref q9), (.int (List.getD (oX3 w0 w1 w2 w3) (w3).toNatClampNeg 0)), (.ref b8)]))
                    refine Go.st (fun _ kq_ => XS.iconst X13.here hx rfl (hb hby dg_111) kq_) ?_
                    show Go p e below s _ _ _ (T13.setTop (mkF m 112 #[.val (.ref a), .val (.ref b), .val (.ref b8), .val (.ref q9), .val (.int (3 : Int32)), .val (.int w3)] [(.int (1 : Int32)), (.int (List.getD (oX3 w0 w1 w2 w3) (w3).toNatClampNeg 0)), (.int w3), (.ref q9), (.int (List.getD (oX3 w0 w1 w2 w3) (w3).toNatClampNeg 0)), (.ref b8)]))
                    refine Go.st (fun _ kq_ => XS.iadd X13.here hx rfl (hb hby dg_112) rfl kq_) ?_
                    show Go p e below s _ _ _ (T13.setTop (mkF m 113 #[.val (.ref a), .val (.ref b), .val (.ref b8), .val (.ref q9), .val (.int (3 : Int32)), .val (.int w3)] [(.int ((List.getD (oX3 w0 w1 w2 w3) (w3).toNatClampNeg 0) + (1 : Int32))), (.int w3), (.ref q9), (.int (List.getD (oX3 w0 w1 w2 w3) (w3).toNatClampNeg 0)), (.ref b8)]))
                    obtain ⟨T16, h16, X16, e16, W16, V16, st16⟩ := own_stIL X13 hx hZ e13 V_q9 (len_X3 ..) (j := w3) (own_wb m3 c99_15).1.1 (own_wb m3 c99_15).1.2 (g := (mkF m 113 #[.val (.ref a), .val (.ref b), .val (.ref b8), .val (.ref q9), .val (.int (3 : Int32)), .val (.int w3)] [(.int ((List.getD (oX3 w0 w1 w2 w3) (w3).toNatClampNeg 0) + (1 : Int32))), (.int w3), (.ref q9), (.int (List.getD (oX3 w0 w1 w2 w3) (w3).toNatClampNeg 0)), (.ref b8)])) rfl rfl (hb hby dg_113)
                    have N16 := Fr.snoc X16 N13 g_q9
                    have O16 := O13.wr W16 g_q9
                    have K16 := K13.wr W16 (Or.inr sz_q9)
                    have V_a := V_a.other W16 ne_a_q9
                    have V_b := V_b.other W16 ne_b_q9
                    have E_b := E_b.wr W16
                    have V_b8 := V_b8.other W16 ne_b8_q9
                    have E_q9 := E_q9.wr W16
                    have V_q9 : Arv Z h16 q9 kb .int (4 : Int32) ((List.set (oX3 w0 w1 w2 w3) (w3).toNatClampNeg ((List.getD (oX3 w0 w1 w2 w3) (w3).toNatClampNeg 0) + (1 : Int32))).map Value.int) (.int (0 : Int32)) := V16
                    refine Go.st st16 ?_
                    show Go p e below s _ _ _ (T16.setTop (mkF m 114 #[.val (.ref a), .val (.ref b), .val (.ref b8), .val (.ref q9), .val (.int (3 : Int32)), .val (.int w3)] [(.int (List.getD (oX3 w0 w1 w2 w3) (w3).toNatClampNeg 0)), (.ref b8)]))
                    refine Go.st (fun _ kq_ => XS.iload X16.here hx rfl (hb hby dg_114) rfl kq_) ?_
                    show Go p e below s _ _ _ (T16.setTop (mkF m 116 #[.val (.ref a), .val (.ref b), .val (.ref b8), .val (.ref q9), .val (.int (3 : Int32)), .val (.int w3)] [(.int (3 : Int32)), (.int (List.getD (oX3 w0 w1 w2 w3) (w3).toNatClampNeg 0)), (.ref b8)]))
                    obtain ⟨T17, h17, X17, e17, W17, V17, st17⟩ := own_stIL X16 hx hZ e16 V_b8 (len_G3 ..) (j := (List.getD (oX3 w0 w1 w2 w3) (w3).toNatClampNeg 0)) (own_vb3 m0 m1 m2 m3 c99_15).1 (own_vb3 m0 m1 m2 m3 c99_15).2 (g := (mkF m 116 #[.val (.ref a), .val (.ref b), .val (.ref b8), .val (.ref q9), .val (.int (3 : Int32)), .val (.int w3)] [(.int (3 : Int32)), (.int (List.getD (oX3 w0 w1 w2 w3) (w3).toNatClampNeg 0)), (.ref b8)])) rfl rfl (hb hby dg_116)
                    have N17 := Fr.snoc X17 N16 g_b8
                    have O17 := O16.wr W17 g_b8
                    have K17 := K16.wr W17 (Or.inr sz_b8)
                    have V_a := V_a.other W17 ne_a_b8
                    have V_b := V_b.other W17 ne_b_b8
                    have E_b := E_b.wr W17
                    have E_q9 := E_q9.wr W17
                    have V_q9 := V_q9.other W17 (Ne.symm ne_b8_q9)
                    have V_b8 : Arv Z h17 b8 k8 .int (oN w0 w1 w2 w3) ((List.set (oG3 w0 w1 w2 w3) ((List.getD (oX3 w0 w1 w2 w3) (w3).toNatClampNeg 0)).toNatClampNeg (3 : Int32)).map Value.int) (.int (0 : Int32)) := V17
                    refine Go.st st17 ?_
                    show Go p e below s _ _ _ (T17.setTop (mkF m 117 #[.val (.ref a), .val (.ref b), .val (.ref b8), .val (.ref q9), .val (.int (3 : Int32)), .val (.int w3)] []))
                    have V_b8 : Arv Z h17 b8 k8 .int (oN w0 w1 w2 w3) ((oG4 w0 w1 w2 w3).map Value.int) (.int (0 : Int32)) := by rw [(show oG4 w0 w1 w2 w3 = (List.set (oG3 w0 w1 w2 w3) ((List.getD (oX3 w0 w1 w2 w3) (w3).toNatClampNeg 0)).toNatClampNeg (3 : Int32)) from if_neg c99_15)]; exact V_b8
                    have V_q9 : Arv Z h17 q9 kb .int (4 : Int32) ((oX4 w0 w1 w2 w3).map Value.int) (.int (0 : Int32)) := by rw [(show oX4 w0 w1 w2 w3 = (List.set (oX3 w0 w1 w2 w3) (w3).toNatClampNeg ((List.getD (oX3 w0 w1 w2 w3) (w3).toNatClampNeg 0) + (1 : Int32))) from if_neg c99_15)]; exact V_q9
                    exact K3_3  _ _ _ X17 e17 N17 O17 K17 V_a V_b E_b V_b8 E_q9 V_q9 
                show Go p e below s 2 8 (Qg Z a ka b kb w0 w1 w2 w3 h0 n0) (T12.setTop (mkF m 94 #[.val (.ref a), .val (.ref b), .val (.ref b8), .val (.ref q9), .val (.int (2 : Int32)), .val (.int w3)] []))
                refine Go.st (fun _ kq_ => XS.aloadN X12.here hx rfl (hb hby dg_94) rfl rfl kq_) ?_
                show Go p e below s _ _ _ (T12.setTop (mkF m 95 #[.val (.ref a), .val (.ref b), .val (.ref b8), .val (.ref q9), .val (.int (2 : Int32)), .val (.int w3)] [(.ref a)]))
                refine Go.st (fun _ kq_ => XS.iload X12.here hx rfl (hb hby dg_95) rfl kq_) ?_
                show Go p e below s _ _ _ (T12.setTop (mkF m 97 #[.val (.ref a), .val (.ref b), .val (.ref b8), .val (.ref q9), .val (.int (2 : Int32)), .val (.int w3)] [(.int (2 : Int32)), (.ref a)]))
                refine Go.st (fun _ kq_ => own_iaload X12 hx hZ e12 V_a (by decide) (by decide) (v := (.int w2)) rfl (g := (mkF m 97 #[.val (.ref a), .val (.ref b), .val (.ref b8), .val (.ref q9), .val (.int (2 : Int32)), .val (.int w3)] [(.int (2 : Int32)), (.ref a)])) rfl rfl (hb hby dg_97) _ kq_) ?_
                show Go p e below s _ _ _ (T12.setTop (mkF m 98 #[.val (.ref a), .val (.ref b), .val (.ref b8), .val (.ref q9), .val (.int (2 : Int32)), .val (.int w3)] [(.int w2)]))
                refine Go.st (fun _ kq_ => XS.iconst X12.here hx rfl (hb hby dg_98) kq_) ?_
                show Go p e below s _ _ _ (T12.setTop (mkF m 99 #[.val (.ref a), .val (.ref b), .val (.ref b8), .val (.ref q9), .val (.int (2 : Int32)), .val (.int w3)] [(.int (-1 : Int32)), (.int w2)]))
                by_cases c99_18 : w2 = (-1 : Int32)
                · refine Go.st (fun _ kq_ => XS.icmpYes X12.here hx rfl (pc0 := 99) (pc' := 117) rfl (hb hby dg_99) rfl (XT.ii_eq_t c99_18) (by decide) (by decide) kq_) ?_
                  show Go p e below s _ _ _ (T12.setTop (mkF m 117 #[.val (.ref a), .val (.ref b), .val (.ref b8), .val (.ref q9), .val (.int (2 : Int32)), .val (.int w3)] []))
                  have V_b8 : Arv Z h12 b8 k8 .int (oN w0 w1 w2 w3) ((oG3 w0 w1 w2 w3).map Value.int) (.int (0 : Int32)) := by rw [(show oG3 w0 w1 w2 w3 = (oG2 w0 w1 w2 w3) from if_pos c99_18)]; exact V_b8
                  have V_q9 : Arv Z h12 q9 kb .int (4 : Int32) ((oX3 w0 w1 w2 w3).map Value.int) (.int (0 : Int32)) := by rw [(show oX3 w0 w1 w2 w3 = (oX2 w0 w1 w2 w3) from if_pos c99_18)]; exact V_q9
                  exact K3_2  _ _ _ X12 e12 N12 O12 K12 V_a V_b E_b V_b8 E_q9 V_q9 
                · refine Go.st (fun _ kq_ => XS.icmpNo X12.here hx rfl (hb hby dg_99) rfl (XT.ii_eq_f c99_18) kq_) ?_
                  show Go p e below s _ _ _ (T12.setTop (mkF m 102 #[.val (.ref a), .val (.ref b), .val (.ref b8), .val (.ref q9), .val (.int (2 : Int32)), .val (.int w3)] []))
                  refine Go.st (fun _ kq_ => XS.aloadN X12.here hx rfl (hb hby dg_102) rfl rfl kq_) ?_
                  show Go p e below s _ _ _ (T12.setTop (mkF m 103 #[.val (.ref a), .val (.ref b), .val (.ref b8), .val (.ref q9), .val (.int (2 : Int32)), .val (.int w3)] [(.ref b8)]))
                  refine Go.st (fun _ kq_ => XS.aloadN X12.here hx rfl (hb hby dg_103) rfl rfl kq_) ?_
                  show Go p e below s _ _ _ (T12.setTop (mkF m 104 #[.val (.ref a), .val (.ref b), .val (.ref b8), .val (.ref q9), .val (.int (2 : Int32)), .val (.int w3)] [(.ref q9), (.ref b8)]))
                  refine Go.st (fun _ kq_ => XS.aloadN X12.here hx rfl (hb hby dg_104) rfl rfl kq_) ?_
                  show Go p e below s _ _ _ (T12.setTop (mkF m 105 #[.val (.ref a), .val (.ref b), .val (.ref b8), .val (.ref q9), .val (.int (2 : Int32)), .val (.int w3)] [(.ref a), (.ref q9), (.ref b8)]))
                  refine Go.st (fun _ kq_ => XS.iload X12.here hx rfl (hb hby dg_105) rfl kq_) ?_
                  show Go p e below s _ _ _ (T12.setTop (mkF m 107 #[.val (.ref a), .val (.ref b), .val (.ref b8), .val (.ref q9), .val (.int (2 : Int32)), .val (.int w3)] [(.int (2 : Int32)), (.ref a), (.ref q9), (.ref b8)]))
                  refine Go.st (fun _ kq_ => own_iaload X12 hx hZ e12 V_a (by decide) (by decide) (v := (.int w2)) rfl (g := (mkF m 107 #[.val (.ref a), .val (.ref b), .val (.ref b8), .val (.ref q9), .val (.int (2 : Int32)), .val (.int w3)] [(.int (2 : Int32)), (.ref a), (.ref q9), (.ref b8)])) rfl rfl (hb hby dg_107) _ kq_) ?_
                  show Go p e below s _ _ _ (T12.setTop (mkF m 108 #[.val (.ref a), .val (.ref b), .val (.ref b8), .val (.ref q9), .val (.int (2 : Int32)), .val (.int w3)] [(.int w2), (.ref q9), (.ref b8)]))
                  refine Go.st (fun _ kq_ => XT.dup2 X12.here hx rfl (hb hby dg_108) rfl rfl rfl kq_) ?_
                  show Go p e below s _ _ _ (T12.setTop (mkF m 109 #[.val (.ref a), .val (.ref b), .val (.ref b8), .val (.ref q9), .val (.int (2 : Int32)), .val (.int w3)] [(.int w2), (.ref q9), (.int w2), (.ref q9), (.ref b8)]))
                  refine Go.st (fun _ kq_ => own_iaload X12 hx hZ e12 V_q9 (own_wb m2 c99_18).1.1 (own_wb m2 c99_18).1.2 (v := .int (List.getD (oX2 w0 w1 w2 w3) (w2).toNatClampNeg 0)) (own_getI (oX2 w0 w1 w2 w3) 0 _) (g := (mkF m 109 #[.val (.ref a), .val (.ref b), .val (.ref b8), .val (.ref q9), .val (.int (2 : Int32)), .val (.int w3)] [(.int w2), (.ref q9), (.int w2), (.ref q9), (.ref b8)])) rfl rfl (hb hby dg_109) _ kq_) ?_
                  show Go p e below s _ _ _ (T12.setTop (mkF m 110 #[.val (.ref a), .val (.ref b), .val (.ref b8), .val (.ref q9), .val (.int (2 : Int32)), .val (.int w3)] [(.int (List.getD (oX2 w0 w1 w2 w3) (w2).toNatClampNeg 0)), (.int w2), (.ref q9), (.ref b8)]))
                  refine Go.st (fun _ kq_ => own_dupx2 X12 hx (g := (mkF m 110 #[.val (.ref a), .val (.ref b), .val (.ref b8), .val (.ref q9), .val (.int (2 : Int32)), .val (.int w3)] [(.int (List.getD (oX2 w0 w1 w2 w3) (w2).toNatClampNeg 0)), (.int w2), (.ref q9), (.ref b8)])) rfl (hb hby dg_110) rfl rfl rfl rfl _ kq_) ?_
                  show Go p e below s _ _ _ (T12.setTop (mkF m 111 #[.val (.ref a), .val (.ref b), .val (.ref b8), .val (.ref q9), .val (.int (2 : Int32)), .val (.int w3)] [(.int (List.getD (oX2 w0 w1 w2 w3) (w2).toNatClampNeg 0)), (.int w2), (.ref q9), (.int (List.getD (oX2 w0 w1 w2 w3) (w2).toNatClampNeg 0)), (.ref b8)]))
                  refine Go.st (fun _ kq_ => XS.iconst X12.here hx rfl (hb hby dg_111) kq_) ?_
                  show Go p e below s _ _ _ (T12.setTop (mkF m 112 #[.val (.ref a), .val (.ref b), .val (.ref b8), .val (.ref q9), .val (.int (2 : Int32)), .val (.int w3)] [(.int (1 : Int32)), (.int (List.getD (oX2 w0 w1 w2 w3) (w2).toNatClampNeg 0)), (.int w2), (.ref q9), (.int (List.getD (oX2 w0 w1 w2 w3) (w2).toNatClampNeg 0)), (.ref b8)]))
                  refine Go.st (fun _ kq_ => XS.iadd X12.here hx rfl (hb hby dg_112) rfl kq_) ?_
                  show Go p e below s _ _ _ (T12.setTop (mkF m 113 #[.val (.ref a), .val (.ref b), .val (.ref b8), .val (.ref q9), .val (.int (2 : Int32)), .val (.int w3)] [(.int ((List.getD (oX2 w0 w1 w2 w3) (w2).toNatClampNeg 0) + (1 : Int32))), (.int w2), (.ref q9), (.int (List.getD (oX2 w0 w1 w2 w3) (w2).toNatClampNeg 0)), (.ref b8)]))
                  obtain ⟨T19, h19, X19, e19, W19, V19, st19⟩ := own_stIL X12 hx hZ e12 V_q9 (len_X2 ..) (j := w2) (own_wb m2 c99_18).1.1 (own_wb m2 c99_18).1.2 (g := (mkF m 113 #[.val (.ref a), .val (.ref b), .val (.ref b8), .val (.ref q9), .val (.int (2 : Int32)), .val (.int w3)] [(.int ((List.getD (oX2 w0 w1 w2 w3) (w2).toNatClampNeg 0) + (1 : Int32))), (.int w2), (.ref q9), (.int (List.getD (oX2 w0 w1 w2 w3) (w2).toNatClampNeg 0)), (.ref b8)])) rfl rfl (hb hby dg_113)
                  have N19 := Fr.snoc X19 N12 g_q9
                  have O19 := O12.wr W19 g_q9
                  have K19 := K12.wr W19 (Or.inr sz_q9)
                  have V_a := V_a.other W19 ne_a_q9
                  have V_b := V_b.other W19 ne_b_q9
                  have E_b := E_b.wr W19
                  have V_b8 := V_b8.other W19 ne_b8_q9
                  have E_q9 := E_q9.wr W19
                  have V_q9 : Arv Z h19 q9 kb .int (4 : Int32) ((List.set (oX2 w0 w1 w2 w3) (w2).toNatClampNeg ((List.getD (oX2 w0 w1 w2 w3) (w2).toNatClampNeg 0) + (1 : Int32))).map Value.int) (.int (0 : Int32)) := V19
                  refine Go.st st19 ?_
                  show Go p e below s _ _ _ (T19.setTop (mkF m 114 #[.val (.ref a), .val (.ref b), .val (.ref b8), .val (.ref q9), .val (.int (2 : Int32)), .val (.int w3)] [(.int (List.getD (oX2 w0 w1 w2 w3) (w2).toNatClampNeg 0)), (.ref b8)]))
                  refine Go.st (fun _ kq_ => XS.iload X19.here hx rfl (hb hby dg_114) rfl kq_) ?_
                  show Go p e below s _ _ _ (T19.setTop (mkF m 116 #[.val (.ref a), .val (.ref b), .val (.ref b8), .val (.ref q9), .val (.int (2 : Int32)), .val (.int w3)] [(.int (2 : Int32)), (.int (List.getD (oX2 w0 w1 w2 w3) (w2).toNatClampNeg 0)), (.ref b8)]))
                  obtain ⟨T20, h20, X20, e20, W20, V20, st20⟩ := own_stIL X19 hx hZ e19 V_b8 (len_G2 ..) (j := (List.getD (oX2 w0 w1 w2 w3) (w2).toNatClampNeg 0)) (own_vb2 m0 m1 m2 m3 c99_18).1 (own_vb2 m0 m1 m2 m3 c99_18).2 (g := (mkF m 116 #[.val (.ref a), .val (.ref b), .val (.ref b8), .val (.ref q9), .val (.int (2 : Int32)), .val (.int w3)] [(.int (2 : Int32)), (.int (List.getD (oX2 w0 w1 w2 w3) (w2).toNatClampNeg 0)), (.ref b8)])) rfl rfl (hb hby dg_116)
                  have N20 := Fr.snoc X20 N19 g_b8
                  have O20 := O19.wr W20 g_b8
                  have K20 := K19.wr W20 (Or.inr sz_b8)
                  have V_a := V_a.other W20 ne_a_b8
                  have V_b := V_b.other W20 ne_b_b8
                  have E_b := E_b.wr W20
                  have E_q9 := E_q9.wr W20
                  have V_q9 := V_q9.other W20 (Ne.symm ne_b8_q9)
                  have V_b8 : Arv Z h20 b8 k8 .int (oN w0 w1 w2 w3) ((List.set (oG2 w0 w1 w2 w3) ((List.getD (oX2 w0 w1 w2 w3) (w2).toNatClampNeg 0)).toNatClampNeg (2 : Int32)).map Value.int) (.int (0 : Int32)) := V20
                  refine Go.st st20 ?_
                  show Go p e below s _ _ _ (T20.setTop (mkF m 117 #[.val (.ref a), .val (.ref b), .val (.ref b8), .val (.ref q9), .val (.int (2 : Int32)), .val (.int w3)] []))
                  have V_b8 : Arv Z h20 b8 k8 .int (oN w0 w1 w2 w3) ((oG3 w0 w1 w2 w3).map Value.int) (.int (0 : Int32)) := by rw [(show oG3 w0 w1 w2 w3 = (List.set (oG2 w0 w1 w2 w3) ((List.getD (oX2 w0 w1 w2 w3) (w2).toNatClampNeg 0)).toNatClampNeg (2 : Int32)) from if_neg c99_18)]; exact V_b8
                  have V_q9 : Arv Z h20 q9 kb .int (4 : Int32) ((oX3 w0 w1 w2 w3).map Value.int) (.int (0 : Int32)) := by rw [(show oX3 w0 w1 w2 w3 = (List.set (oX2 w0 w1 w2 w3) (w2).toNatClampNeg ((List.getD (oX2 w0 w1 w2 w3) (w2).toNatClampNeg 0) + (1 : Int32))) from if_neg c99_18)]; exact V_q9
                  exact K3_2  _ _ _ X20 e20 N20 O20 K20 V_a V_b E_b V_b8 E_q9 V_q9 
              show Go p e below s 2 8 (Qg Z a ka b kb w0 w1 w2 w3 h0 n0) (T11.setTop (mkF m 94 #[.val (.ref a), .val (.ref b), .val (.ref b8), .val (.ref q9), .val (.int (1 : Int32)), .val (.int w3)] []))
              refine Go.st (fun _ kq_ => XS.aloadN X11.here hx rfl (hb hby dg_94) rfl rfl kq_) ?_
              show Go p e below s _ _ _ (T11.setTop (mkF m 95 #[.val (.ref a), .val (.ref b), .val (.ref b8), .val (.ref q9), .val (.int (1 : Int32)), .val (.int w3)] [(.ref a)]))
              refine Go.st (fun _ kq_ => XS.iload X11.here hx rfl (hb hby dg_95) rfl kq_) ?_
              show Go p e below s _ _ _ (T11.setTop (mkF m 97 #[.val (.ref a), .val (.ref b), .val (.ref b8), .val (.ref q9), .val (.int (1 : Int32)), .val (.int w3)] [(.int (1 : Int32)), (.ref a)]))
              refine Go.st (fun _ kq_ => own_iaload X11 hx hZ e11 V_a (by decide) (by decide) (v := (.int w1)) rfl (g := (mkF m 97 #[.val (.ref a), .val (.ref b), .val (.ref b8), .val (.ref q9), .val (.int (1 : Int32)), .val (.int w3)] [(.int (1 : Int32)), (.ref a)])) rfl rfl (hb hby dg_97) _ kq_) ?_
              show Go p e below s _ _ _ (T11.setTop (mkF m 98 #[.val (.ref a), .val (.ref b), .val (.ref b8), .val (.ref q9), .val (.int (1 : Int32)), .val (.int w3)] [(.int w1)]))
              refine Go.st (fun _ kq_ => XS.iconst X11.here hx rfl (hb hby dg_98) kq_) ?_
              show Go p e below s _ _ _ (T11.setTop (mkF m 99 #[.val (.ref a), .val (.ref b), .val (.ref b8), .val (.ref q9), .val (.int (1 : Int32)), .val (.int w3)] [(.int (-1 : Int32)), (.int w1)]))
              by_cases c99_21 : w1 = (-1 : Int32)
              · refine Go.st (fun _ kq_ => XS.icmpYes X11.here hx rfl (pc0 := 99) (pc' := 117) rfl (hb hby dg_99) rfl (XT.ii_eq_t c99_21) (by decide) (by decide) kq_) ?_
                show Go p e below s _ _ _ (T11.setTop (mkF m 117 #[.val (.ref a), .val (.ref b), .val (.ref b8), .val (.ref q9), .val (.int (1 : Int32)), .val (.int w3)] []))
                have V_b8 : Arv Z h11 b8 k8 .int (oN w0 w1 w2 w3) ((oG2 w0 w1 w2 w3).map Value.int) (.int (0 : Int32)) := by rw [(show oG2 w0 w1 w2 w3 = (oG1 w0 w1 w2 w3) from if_pos c99_21)]; exact V_b8
                have V_q9 : Arv Z h11 q9 kb .int (4 : Int32) ((oX2 w0 w1 w2 w3).map Value.int) (.int (0 : Int32)) := by rw [(show oX2 w0 w1 w2 w3 = (oX1 w0 w1 w2 w3) from if_pos c99_21)]; exact V_q9
                exact K3_1  _ _ _ X11 e11 N11 O11 K11 V_a V_b E_b V_b8 E_q9 V_q9 
              · refine Go.st (fun _ kq_ => XS.icmpNo X11.here hx rfl (hb hby dg_99) rfl (XT.ii_eq_f c99_21) kq_) ?_
                show Go p e below s _ _ _ (T11.setTop (mkF m 102 #[.val (.ref a), .val (.ref b), .val (.ref b8), .val (.ref q9), .val (.int (1 : Int32)), .val (.int w3)] []))
                refine Go.st (fun _ kq_ => XS.aloadN X11.here hx rfl (hb hby dg_102) rfl rfl kq_) ?_
                show Go p e below s _ _ _ (T11.setTop (mkF m 103 #[.val (.ref a), .val (.ref b), .val (.ref b8), .val (.ref q9), .val (.int (1 : Int32)), .val (.int w3)] [(.ref b8)]))
                refine Go.st (fun _ kq_ => XS.aloadN X11.here hx rfl (hb hby dg_103) rfl rfl kq_) ?_
                show Go p e below s _ _ _ (T11.setTop (mkF m 104 #[.val (.ref a), .val (.ref b), .val (.ref b8), .val (.ref q9), .val (.int (1 : Int32)), .val (.int w3)] [(.ref q9), (.ref b8)]))
                refine Go.st (fun _ kq_ => XS.aloadN X11.here hx rfl (hb hby dg_104) rfl rfl kq_) ?_
                show Go p e below s _ _ _ (T11.setTop (mkF m 105 #[.val (.ref a), .val (.ref b), .val (.ref b8), .val (.ref q9), .val (.int (1 : Int32)), .val (.int w3)] [(.ref a), (.ref q9), (.ref b8)]))
                refine Go.st (fun _ kq_ => XS.iload X11.here hx rfl (hb hby dg_105) rfl kq_) ?_
                show Go p e below s _ _ _ (T11.setTop (mkF m 107 #[.val (.ref a), .val (.ref b), .val (.ref b8), .val (.ref q9), .val (.int (1 : Int32)), .val (.int w3)] [(.int (1 : Int32)), (.ref a), (.ref q9), (.ref b8)]))
                refine Go.st (fun _ kq_ => own_iaload X11 hx hZ e11 V_a (by decide) (by decide) (v := (.int w1)) rfl (g := (mkF m 107 #[.val (.ref a), .val (.ref b), .val (.ref b8), .val (.ref q9), .val (.int (1 : Int32)), .val (.int w3)] [(.int (1 : Int32)), (.ref a), (.ref q9), (.ref b8)])) rfl rfl (hb hby dg_107) _ kq_) ?_
                show Go p e below s _ _ _ (T11.setTop (mkF m 108 #[.val (.ref a), .val (.ref b), .val (.ref b8), .val (.ref q9), .val (.int (1 : Int32)), .val (.int w3)] [(.int w1), (.ref q9), (.ref b8)]))
                refine Go.st (fun _ kq_ => XT.dup2 X11.here hx rfl (hb hby dg_108) rfl rfl rfl kq_) ?_
                show Go p e below s _ _ _ (T11.setTop (mkF m 109 #[.val (.ref a), .val (.ref b), .val (.ref b8), .val (.ref q9), .val (.int (1 : Int32)), .val (.int w3)] [(.int w1), (.ref q9), (.int w1), (.ref q9), (.ref b8)]))
                refine Go.st (fun _ kq_ => own_iaload X11 hx hZ e11 V_q9 (own_wb m1 c99_21).1.1 (own_wb m1 c99_21).1.2 (v := .int (List.getD (oX1 w0 w1 w2 w3) (w1).toNatClampNeg 0)) (own_getI (oX1 w0 w1 w2 w3) 0 _) (g := (mkF m 109 #[.val (.ref a), .val (.ref b), .val (.ref b8), .val (.ref q9), .val (.int (1 : Int32)), .val (.int w3)] [(.int w1), (.ref q9), (.int w1), (.ref q9), (.ref b8)])) rfl rfl (hb hby dg_109) _ kq_) ?_
                show Go p e below s _ _ _ (T11.setTop (mkF m 110 #[.val (.ref a), .val (.ref b), .val (.ref b8), .val (.ref q9), .val (.int (1 : Int32)), .val (.int w3)] [(.int (List.getD (oX1 w0 w1 w2 w3) (w1).toNatClampNeg 0)), (.int w1), (.ref q9), (.ref b8)]))
                refine Go.st (fun _ kq_ => own_dupx2 X11 hx (g := (mkF m 110 #[.val (.ref a), .val (.ref b), .val (.ref b8), .val (.ref q9), .val (.int (1 : Int32)), .val (.int w3)] [(.int (List.getD (oX1 w0 w1 w2 w3) (w1).toNatClampNeg 0)), (.int w1), (.ref q9), (.ref b8)])) rfl (hb hby dg_110) rfl rfl rfl rfl _ kq_) ?_
                show Go p e below s _ _ _ (T11.setTop (mkF m 111 #[.val (.ref a), .val (.ref b), .val (.ref b8), .val (.ref q9), .val (.int (1 : Int32)), .val (.int w3)] [(.int (List.getD (oX1 w0 w1 w2 w3) (w1).toNatClampNeg 0)), (.int w1), (.ref q9), (.int (List.getD (oX1 w0 w1 w2 w3) (w1).toNatClampNeg 0)), (.ref b8)]))
                refine Go.st (fun _ kq_ => XS.iconst X11.here hx rfl (hb hby dg_111) kq_) ?_
                show Go p e below s _ _ _ (T11.setTop (mkF m 112 #[.val (.ref a), .val (.ref b), .val (.ref b8), .val (.ref q9), .val (.int (1 : Int32)), .val (.int w3)] [(.int (1 : Int32)), (.int (List.getD (oX1 w0 w1 w2 w3) (w1).toNatClampNeg 0)), (.int w1), (.ref q9), (.int (List.getD (oX1 w0 w1 w2 w3) (w1).toNatClampNeg 0)), (.ref b8)]))
                refine Go.st (fun _ kq_ => XS.iadd X11.here hx rfl (hb hby dg_112) rfl kq_) ?_
                show Go p e below s _ _ _ (T11.setTop (mkF m 113 #[.val (.ref a), .val (.ref b), .val (.ref b8), .val (.ref q9), .val (.int (1 : Int32)), .val (.int w3)] [(.int ((List.getD (oX1 w0 w1 w2 w3) (w1).toNatClampNeg 0) + (1 : Int32))), (.int w1), (.ref q9), (.int (List.getD (oX1 w0 w1 w2 w3) (w1).toNatClampNeg 0)), (.ref b8)]))
                obtain ⟨T22, h22, X22, e22, W22, V22, st22⟩ := own_stIL X11 hx hZ e11 V_q9 (len_X1 ..) (j := w1) (own_wb m1 c99_21).1.1 (own_wb m1 c99_21).1.2 (g := (mkF m 113 #[.val (.ref a), .val (.ref b), .val (.ref b8), .val (.ref q9), .val (.int (1 : Int32)), .val (.int w3)] [(.int ((List.getD (oX1 w0 w1 w2 w3) (w1).toNatClampNeg 0) + (1 : Int32))), (.int w1), (.ref q9), (.int (List.getD (oX1 w0 w1 w2 w3) (w1).toNatClampNeg 0)), (.ref b8)])) rfl rfl (hb hby dg_113)
                have N22 := Fr.snoc X22 N11 g_q9
                have O22 := O11.wr W22 g_q9
                have K22 := K11.wr W22 (Or.inr sz_q9)
                have V_a := V_a.other W22 ne_a_q9
                have V_b := V_b.other W22 ne_b_q9
                have E_b := E_b.wr W22
                have V_b8 := V_b8.other W22 ne_b8_q9
                have E_q9 := E_q9.wr W22
                have V_q9 : Arv Z h22 q9 kb .int (4 : Int32) ((List.set (oX1 w0 w1 w2 w3) (w1).toNatClampNeg ((List.getD (oX1 w0 w1 w2 w3) (w1).toNatClampNeg 0) + (1 : Int32))).map Value.int) (.int (0 : Int32)) := V22
                refine Go.st st22 ?_
                show Go p e below s _ _ _ (T22.setTop (mkF m 114 #[.val (.ref a), .val (.ref b), .val (.ref b8), .val (.ref q9), .val (.int (1 : Int32)), .val (.int w3)] [(.int (List.getD (oX1 w0 w1 w2 w3) (w1).toNatClampNeg 0)), (.ref b8)]))
                refine Go.st (fun _ kq_ => XS.iload X22.here hx rfl (hb hby dg_114) rfl kq_) ?_
                show Go p e below s _ _ _ (T22.setTop (mkF m 116 #[.val (.ref a), .val (.ref b), .val (.ref b8), .val (.ref q9), .val (.int (1 : Int32)), .val (.int w3)] [(.int (1 : Int32)), (.int (List.getD (oX1 w0 w1 w2 w3) (w1).toNatClampNeg 0)), (.ref b8)]))
                obtain ⟨T23, h23, X23, e23, W23, V23, st23⟩ := own_stIL X22 hx hZ e22 V_b8 (len_G1 ..) (j := (List.getD (oX1 w0 w1 w2 w3) (w1).toNatClampNeg 0)) (own_vb1 m0 m1 m2 m3 c99_21).1 (own_vb1 m0 m1 m2 m3 c99_21).2 (g := (mkF m 116 #[.val (.ref a), .val (.ref b), .val (.ref b8), .val (.ref q9), .val (.int (1 : Int32)), .val (.int w3)] [(.int (1 : Int32)), (.int (List.getD (oX1 w0 w1 w2 w3) (w1).toNatClampNeg 0)), (.ref b8)])) rfl rfl (hb hby dg_116)
                have N23 := Fr.snoc X23 N22 g_b8
                have O23 := O22.wr W23 g_b8
                have K23 := K22.wr W23 (Or.inr sz_b8)
                have V_a := V_a.other W23 ne_a_b8
                have V_b := V_b.other W23 ne_b_b8
                have E_b := E_b.wr W23
                have E_q9 := E_q9.wr W23
                have V_q9 := V_q9.other W23 (Ne.symm ne_b8_q9)
                have V_b8 : Arv Z h23 b8 k8 .int (oN w0 w1 w2 w3) ((List.set (oG1 w0 w1 w2 w3) ((List.getD (oX1 w0 w1 w2 w3) (w1).toNatClampNeg 0)).toNatClampNeg (1 : Int32)).map Value.int) (.int (0 : Int32)) := V23
                refine Go.st st23 ?_
                show Go p e below s _ _ _ (T23.setTop (mkF m 117 #[.val (.ref a), .val (.ref b), .val (.ref b8), .val (.ref q9), .val (.int (1 : Int32)), .val (.int w3)] []))
                have V_b8 : Arv Z h23 b8 k8 .int (oN w0 w1 w2 w3) ((oG2 w0 w1 w2 w3).map Value.int) (.int (0 : Int32)) := by rw [(show oG2 w0 w1 w2 w3 = (List.set (oG1 w0 w1 w2 w3) ((List.getD (oX1 w0 w1 w2 w3) (w1).toNatClampNeg 0)).toNatClampNeg (1 : Int32)) from if_neg c99_21)]; exact V_b8
                have V_q9 : Arv Z h23 q9 kb .int (4 : Int32) ((oX2 w0 w1 w2 w3).map Value.int) (.int (0 : Int32)) := by rw [(show oX2 w0 w1 w2 w3 = (List.set (oX1 w0 w1 w2 w3) (w1).toNatClampNeg ((List.getD (oX1 w0 w1 w2 w3) (w1).toNatClampNeg 0) + (1 : Int32))) from if_neg c99_21)]; exact V_q9
                exact K3_1  _ _ _ X23 e23 N23 O23 K23 V_a V_b E_b V_b8 E_q9 V_q9 
            show Go p e below s 2 8 (Qg Z a ka b kb w0 w1 w2 w3 h0 n0) (T10.setTop (mkF m 94 #[.val (.ref a), .val (.ref b), .val (.ref b8), .val (.ref q9), .val (.int (0 : Int32)), .val (.int w3)] []))
            refine Go.st (fun _ kq_ => XS.aloadN X10.here hx rfl (hb hby dg_94) rfl rfl kq_) ?_
            show Go p e below s _ _ _ (T10.setTop (mkF m 95 #[.val (.ref a), .val (.ref b), .val (.ref b8), .val (.ref q9), .val (.int (0 : Int32)), .val (.int w3)] [(.ref a)]))
            refine Go.st (fun _ kq_ => XS.iload X10.here hx rfl (hb hby dg_95) rfl kq_) ?_
            show Go p e below s _ _ _ (T10.setTop (mkF m 97 #[.val (.ref a), .val (.ref b), .val (.ref b8), .val (.ref q9), .val (.int (0 : Int32)), .val (.int w3)] [(.int (0 : Int32)), (.ref a)]))
            refine Go.st (fun _ kq_ => own_iaload X10 hx hZ e10 V_a (by decide) (by decide) (v := (.int w0)) rfl (g := (mkF m 97 #[.val (.ref a), .val (.ref b), .val (.ref b8), .val (.ref q9), .val (.int (0 : Int32)), .val (.int w3)] [(.int (0 : Int32)), (.ref a)])) rfl rfl (hb hby dg_97) _ kq_) ?_
            show Go p e below s _ _ _ (T10.setTop (mkF m 98 #[.val (.ref a), .val (.ref b), .val (.ref b8), .val (.ref q9), .val (.int (0 : Int32)), .val (.int w3)] [(.int w0)]))
            refine Go.st (fun _ kq_ => XS.iconst X10.here hx rfl (hb hby dg_98) kq_) ?_
            show Go p e below s _ _ _ (T10.setTop (mkF m 99 #[.val (.ref a), .val (.ref b), .val (.ref b8), .val (.ref q9), .val (.int (0 : Int32)), .val (.int w3)] [(.int (-1 : Int32)), (.int w0)]))
            by_cases c99_24 : w0 = (-1 : Int32)
            · refine Go.st (fun _ kq_ => XS.icmpYes X10.here hx rfl (pc0 := 99) (pc' := 117) rfl (hb hby dg_99) rfl (XT.ii_eq_t c99_24) (by decide) (by decide) kq_) ?_
              show Go p e below s _ _ _ (T10.setTop (mkF m 117 #[.val (.ref a), .val (.ref b), .val (.ref b8), .val (.ref q9), .val (.int (0 : Int32)), .val (.int w3)] []))
              have V_b8 : Arv Z h9 b8 k8 .int (oN w0 w1 w2 w3) ((oG1 w0 w1 w2 w3).map Value.int) (.int (0 : Int32)) := by rw [(show oG1 w0 w1 w2 w3 = (oG0 w0 w1 w2 w3) from if_pos c99_24)]; exact V_b8
              have V_q9 : Arv Z h9 q9 kb .int (4 : Int32) ((oX1 w0 w1 w2 w3).map Value.int) (.int (0 : Int32)) := by rw [(show oX1 w0 w1 w2 w3 = (oX0 w0 w1 w2 w3) from if_pos c99_24)]; exact V_q9
              exact K3_0  _ _ _ X10 e10 N7 O9 K9 V_a V_b E_b V_b8 E_q9 V_q9 
            · refine Go.st (fun _ kq_ => XS.icmpNo X10.here hx rfl (hb hby dg_99) rfl (XT.ii_eq_f c99_24) kq_) ?_
              show Go p e below s _ _ _ (T10.setTop (mkF m 102 #[.val (.ref a), .val (.ref b), .val (.ref b8), .val (.ref q9), .val (.int (0 : Int32)), .val (.int w3)] []))
              refine Go.st (fun _ kq_ => XS.aloadN X10.here hx rfl (hb hby dg_102) rfl rfl kq_) ?_
              show Go p e below s _ _ _ (T10.setTop (mkF m 103 #[.val (.ref a), .val (.ref b), .val (.ref b8), .val (.ref q9), .val (.int (0 : Int32)), .val (.int w3)] [(.ref b8)]))
              refine Go.st (fun _ kq_ => XS.aloadN X10.here hx rfl (hb hby dg_103) rfl rfl kq_) ?_
              show Go p e below s _ _ _ (T10.setTop (mkF m 104 #[.val (.ref a), .val (.ref b), .val (.ref b8), .val (.ref q9), .val (.int (0 : Int32)), .val (.int w3)] [(.ref q9), (.ref b8)]))
              refine Go.st (fun _ kq_ => XS.aloadN X10.here hx rfl (hb hby dg_104) rfl rfl kq_) ?_
              show Go p e below s _ _ _ (T10.setTop (mkF m 105 #[.val (.ref a), .val (.ref b), .val (.ref b8), .val (.ref q9), .val (.int (0 : Int32)), .val (.int w3)] [(.ref a), (.ref q9), (.ref b8)]))
              refine Go.st (fun _ kq_ => XS.iload X10.here hx rfl (hb hby dg_105) rfl kq_) ?_
              show Go p e below s _ _ _ (T10.setTop (mkF m 107 #[.val (.ref a), .val (.ref b), .val (.ref b8), .val (.ref q9), .val (.int (0 : Int32)), .val (.int w3)] [(.int (0 : Int32)), (.ref a), (.ref q9), (.ref b8)]))
              refine Go.st (fun _ kq_ => own_iaload X10 hx hZ e10 V_a (by decide) (by decide) (v := (.int w0)) rfl (g := (mkF m 107 #[.val (.ref a), .val (.ref b), .val (.ref b8), .val (.ref q9), .val (.int (0 : Int32)), .val (.int w3)] [(.int (0 : Int32)), (.ref a), (.ref q9), (.ref b8)])) rfl rfl (hb hby dg_107) _ kq_) ?_
              show Go p e below s _ _ _ (T10.setTop (mkF m 108 #[.val (.ref a), .val (.ref b), .val (.ref b8), .val (.ref q9), .val (.int (0 : Int32)), .val (.int w3)] [(.int w0), (.ref q9), (.ref b8)]))
              refine Go.st (fun _ kq_ => XT.dup2 X10.here hx rfl (hb hby dg_108) rfl rfl rfl kq_) ?_
              show Go p e below s _ _ _ (T10.setTop (mkF m 109 #[.val (.ref a), .val (.ref b), .val (.ref b8), .val (.ref q9), .val (.int (0 : Int32)), .val (.int w3)] [(.int w0), (.ref q9), (.int w0), (.ref q9), (.ref b8)]))
              refine Go.st (fun _ kq_ => own_iaload X10 hx hZ e10 V_q9 (own_wb m0 c99_24).1.1 (own_wb m0 c99_24).1.2 (v := .int (List.getD (oX0 w0 w1 w2 w3) (w0).toNatClampNeg 0)) (own_getI (oX0 w0 w1 w2 w3) 0 _) (g := (mkF m 109 #[.val (.ref a), .val (.ref b), .val (.ref b8), .val (.ref q9), .val (.int (0 : Int32)), .val (.int w3)] [(.int w0), (.ref q9), (.int w0), (.ref q9), (.ref b8)])) rfl rfl (hb hby dg_109) _ kq_) ?_
              show Go p e below s _ _ _ (T10.setTop (mkF m 110 #[.val (.ref a), .val (.ref b), .val (.ref b8), .val (.ref q9), .val (.int (0 : Int32)), .val (.int w3)] [(.int (List.getD (oX0 w0 w1 w2 w3) (w0).toNatClampNeg 0)), (.int w0), (.ref q9), (.ref b8)]))
              refine Go.st (fun _ kq_ => own_dupx2 X10 hx (g := (mkF m 110 #[.val (.ref a), .val (.ref b), .val (.ref b8), .val (.ref q9), .val (.int (0 : Int32)), .val (.int w3)] [(.int (List.getD (oX0 w0 w1 w2 w3) (w0).toNatClampNeg 0)), (.int w0), (.ref q9), (.ref b8)])) rfl (hb hby dg_110) rfl rfl rfl rfl _ kq_) ?_
              show Go p e below s _ _ _ (T10.setTop (mkF m 111 #[.val (.ref a), .val (.ref b), .val (.ref b8), .val (.ref q9), .val (.int (0 : Int32)), .val (.int w3)] [(.int (List.getD (oX0 w0 w1 w2 w3) (w0).toNatClampNeg 0)), (.int w0), (.ref q9), (.int (List.getD (oX0 w0 w1 w2 w3) (w0).toNatClampNeg 0)), (.ref b8)]))
              refine Go.st (fun _ kq_ => XS.iconst X10.here hx rfl (hb hby dg_111) kq_) ?_
              show Go p e below s _ _ _ (T10.setTop (mkF m 112 #[.val (.ref a), .val (.ref b), .val (.ref b8), .val (.ref q9), .val (.int (0 : Int32)), .val (.int w3)] [(.int (1 : Int32)), (.int (List.getD (oX0 w0 w1 w2 w3) (w0).toNatClampNeg 0)), (.int w0), (.ref q9), (.int (List.getD (oX0 w0 w1 w2 w3) (w0).toNatClampNeg 0)), (.ref b8)]))
              refine Go.st (fun _ kq_ => XS.iadd X10.here hx rfl (hb hby dg_112) rfl kq_) ?_
              show Go p e below s _ _ _ (T10.setTop (mkF m 113 #[.val (.ref a), .val (.ref b), .val (.ref b8), .val (.ref q9), .val (.int (0 : Int32)), .val (.int w3)] [(.int ((List.getD (oX0 w0 w1 w2 w3) (w0).toNatClampNeg 0) + (1 : Int32))), (.int w0), (.ref q9), (.int (List.getD (oX0 w0 w1 w2 w3) (w0).toNatClampNeg 0)), (.ref b8)]))
              obtain ⟨T25, h25, X25, e25, W25, V25, st25⟩ := own_stIL X10 hx hZ e10 V_q9 (len_X0 ..) (j := w0) (own_wb m0 c99_24).1.1 (own_wb m0 c99_24).1.2 (g := (mkF m 113 #[.val (.ref a), .val (.ref b), .val (.ref b8), .val (.ref q9), .val (.int (0 : Int32)), .val (.int w3)] [(.int ((List.getD (oX0 w0 w1 w2 w3) (w0).toNatClampNeg 0) + (1 : Int32))), (.int w0), (.ref q9), (.int (List.getD (oX0 w0 w1 w2 w3) (w0).toNatClampNeg 0)), (.ref b8)])) rfl rfl (hb hby dg_113)
              have N25 := Fr.snoc X25 N7 g_q9
              have O25 := O9.wr W25 g_q9
              have K25 := K9.wr W25 (Or.inr sz_q9)
              have V_a := V_a.other W25 ne_a_q9
              have V_b := V_b.other W25 ne_b_q9
              have E_b := E_b.wr W25
              have V_b8 := V_b8.other W25 ne_b8_q9
              have E_q9 := E_q9.wr W25
              have V_q9 : Arv Z h25 q9 kb .int (4 : Int32) ((List.set (oX0 w0 w1 w2 w3) (w0).toNatClampNeg ((List.getD (oX0 w0 w1 w2 w3) (w0).toNatClampNeg 0) + (1 : Int32))).map Value.int) (.int (0 : Int32)) := V25
              refine Go.st st25 ?_
              show Go p e below s _ _ _ (T25.setTop (mkF m 114 #[.val (.ref a), .val (.ref b), .val (.ref b8), .val (.ref q9), .val (.int (0 : Int32)), .val (.int w3)] [(.int (List.getD (oX0 w0 w1 w2 w3) (w0).toNatClampNeg 0)), (.ref b8)]))
              refine Go.st (fun _ kq_ => XS.iload X25.here hx rfl (hb hby dg_114) rfl kq_) ?_
              show Go p e below s _ _ _ (T25.setTop (mkF m 116 #[.val (.ref a), .val (.ref b), .val (.ref b8), .val (.ref q9), .val (.int (0 : Int32)), .val (.int w3)] [(.int (0 : Int32)), (.int (List.getD (oX0 w0 w1 w2 w3) (w0).toNatClampNeg 0)), (.ref b8)]))
              obtain ⟨T26, h26, X26, e26, W26, V26, st26⟩ := own_stIL X25 hx hZ e25 V_b8 (len_G0 ..) (j := (List.getD (oX0 w0 w1 w2 w3) (w0).toNatClampNeg 0)) (own_vb0 m0 m1 m2 m3 c99_24).1 (own_vb0 m0 m1 m2 m3 c99_24).2 (g := (mkF m 116 #[.val (.ref a), .val (.ref b), .val (.ref b8), .val (.ref q9), .val (.int (0 : Int32)), .val (.int w3)] [(.int (0 : Int32)), (.int (List.getD (oX0 w0 w1 w2 w3) (w0).toNatClampNeg 0)), (.ref b8)])) rfl rfl (hb hby dg_116)
              have N26 := Fr.snoc X26 N25 g_b8
              have O26 := O25.wr W26 g_b8
              have K26 := K25.wr W26 (Or.inr sz_b8)
              have V_a := V_a.other W26 ne_a_b8
              have V_b := V_b.other W26 ne_b_b8
              have E_b := E_b.wr W26
              have E_q9 := E_q9.wr W26
              have V_q9 := V_q9.other W26 (Ne.symm ne_b8_q9)
              have V_b8 : Arv Z h26 b8 k8 .int (oN w0 w1 w2 w3) ((List.set (oG0 w0 w1 w2 w3) ((List.getD (oX0 w0 w1 w2 w3) (w0).toNatClampNeg 0)).toNatClampNeg (0 : Int32)).map Value.int) (.int (0 : Int32)) := V26
              refine Go.st st26 ?_
              show Go p e below s _ _ _ (T26.setTop (mkF m 117 #[.val (.ref a), .val (.ref b), .val (.ref b8), .val (.ref q9), .val (.int (0 : Int32)), .val (.int w3)] []))
              have V_b8 : Arv Z h26 b8 k8 .int (oN w0 w1 w2 w3) ((oG1 w0 w1 w2 w3).map Value.int) (.int (0 : Int32)) := by rw [(show oG1 w0 w1 w2 w3 = (List.set (oG0 w0 w1 w2 w3) ((List.getD (oX0 w0 w1 w2 w3) (w0).toNatClampNeg 0)).toNatClampNeg (0 : Int32)) from if_neg c99_24)]; exact V_b8
              have V_q9 : Arv Z h26 q9 kb .int (4 : Int32) ((oX1 w0 w1 w2 w3).map Value.int) (.int (0 : Int32)) := by rw [(show oX1 w0 w1 w2 w3 = (List.set (oX0 w0 w1 w2 w3) (w0).toNatClampNeg ((List.getD (oX0 w0 w1 w2 w3) (w0).toNatClampNeg 0) + (1 : Int32))) from if_neg c99_24)]; exact V_q9
              exact K3_0  _ _ _ X26 e26 N26 O26 K26 V_a V_b E_b V_b8 E_q9 V_q9 
          show Go p e below s 2 8 (Qg Z a ka b kb w0 w1 w2 w3 h0 n0) (T3.setTop (mkF m 20 #[.val (.ref a), .val (.ref b), .val (.ref a), .val (.int (4 : Int32)), .val (.int (3 : Int32)), .val (.int w3)] []))
          refine Go.st (fun _ kq_ => XS.iload X3.here hx rfl (hb hby dg_20) rfl kq_) ?_
          show Go p e below s _ _ _ (T3.setTop (mkF m 22 #[.val (.ref a), .val (.ref b), .val (.ref a), .val (.int (4 : Int32)), .val (.int (3 : Int32)), .val (.int w3)] [(.int w3)]))
          refine Go.st (fun _ kq_ => XS.iconst X3.here hx rfl (hb hby dg_22) kq_) ?_
          show Go p e below s _ _ _ (T3.setTop (mkF m 23 #[.val (.ref a), .val (.ref b), .val (.ref a), .val (.int (4 : Int32)), .val (.int (3 : Int32)), .val (.int w3)] [(.int (-1 : Int32)), (.int w3)]))
          by_cases c23_27 : w3 = (-1 : Int32)
          · refine Go.st (fun _ kq_ => XS.icmpYes X3.here hx rfl (pc0 := 23) (pc' := 36) rfl (hb hby dg_23) rfl (XT.ii_eq_t c23_27) (by decide) (by decide) kq_) ?_
            show Go p e below s _ _ _ (T3.setTop (mkF m 36 #[.val (.ref a), .val (.ref b), .val (.ref a), .val (.int (4 : Int32)), .val (.int (3 : Int32)), .val (.int w3)] []))
            have V_b : Arv Z h3 b kb .int (4 : Int32) ((oA4 w0 w1 w2 w3).map Value.int) (.int (0 : Int32)) := by rw [(show oA4 w0 w1 w2 w3 = (oA3 w0 w1 w2 w3) from if_pos c23_27)]; exact V_b
            exact J3  _ _ _ X3 e3 N3 O3 K3 V_a V_b E_b 
          · refine Go.st (fun _ kq_ => XS.icmpNo X3.here hx rfl (hb hby dg_23) rfl (XT.ii_eq_f c23_27) kq_) ?_
            show Go p e below s _ _ _ (T3.setTop (mkF m 26 #[.val (.ref a), .val (.ref b), .val (.ref a), .val (.int (4 : Int32)), .val (.int (3 : Int32)), .val (.int w3)] []))
            refine Go.st (fun _ kq_ => XS.aloadN X3.here hx rfl (hb hby dg_26) rfl rfl kq_) ?_
            show Go p e below s _ _ _ (T3.setTop (mkF m 27 #[.val (.ref a), .val (.ref b), .val (.ref a), .val (.int (4 : Int32)), .val (.int (3 : Int32)), .val (.int w3)] [(.ref b)]))
            refine Go.st (fun _ kq_ => XS.iload X3.here hx rfl (hb hby dg_27) rfl kq_) ?_
            show Go p e below s _ _ _ (T3.setTop (mkF m 29 #[.val (.ref a), .val (.ref b), .val (.ref a), .val (.int (4 : Int32)), .val (.int (3 : Int32)), .val (.int w3)] [(.int w3), (.ref b)]))
            refine Go.st (fun _ kq_ => XS.iconst X3.here hx rfl (hb hby dg_29) kq_) ?_
            show Go p e below s _ _ _ (T3.setTop (mkF m 30 #[.val (.ref a), .val (.ref b), .val (.ref a), .val (.int (4 : Int32)), .val (.int (3 : Int32)), .val (.int w3)] [(.int (1 : Int32)), (.int w3), (.ref b)]))
            refine Go.st (fun _ kq_ => XS.iadd X3.here hx rfl (hb hby dg_30) rfl kq_) ?_
            show Go p e below s _ _ _ (T3.setTop (mkF m 31 #[.val (.ref a), .val (.ref b), .val (.ref a), .val (.int (4 : Int32)), .val (.int (3 : Int32)), .val (.int w3)] [(.int (w3 + (1 : Int32))), (.ref b)]))
            refine Go.st (fun _ kq_ => XT.dup2 X3.here hx rfl (hb hby dg_31) rfl rfl rfl kq_) ?_
            show Go p e below s _ _ _ (T3.setTop (mkF m 32 #[.val (.ref a), .val (.ref b), .val (.ref a), .val (.int (4 : Int32)), .val (.int (3 : Int32)), .val (.int w3)] [(.int (w3 + (1 : Int32))), (.ref b), (.int (w3 + (1 : Int32))), (.ref b)]))
            refine Go.st (fun _ kq_ => own_iaload X3 hx hZ e3 V_b (own_wb m3 c23_27).2.1 (own_wb m3 c23_27).2.2 (v := .int (List.getD (oA3 w0 w1 w2 w3) ((w3 + (1 : Int32))).toNatClampNeg 0)) (own_getI (oA3 w0 w1 w2 w3) 0 _) (g := (mkF m 32 #[.val (.ref a), .val (.ref b), .val (.ref a), .val (.int (4 : Int32)), .val (.int (3 : Int32)), .val (.int w3)] [(.int (w3 + (1 : Int32))), (.ref b), (.int (w3 + (1 : Int32))), (.ref b)])) rfl rfl (hb hby dg_32) _ kq_) ?_
            show Go p e below s _ _ _ (T3.setTop (mkF m 33 #[.val (.ref a), .val (.ref b), .val (.ref a), .val (.int (4 : Int32)), .val (.int (3 : Int32)), .val (.int w3)] [(.int (List.getD (oA3 w0 w1 w2 w3) ((w3 + (1 : Int32))).toNatClampNeg 0)), (.int (w3 + (1 : Int32))), (.ref b)]))
            refine Go.st (fun _ kq_ => XS.iconst X3.here hx rfl (hb hby dg_33) kq_) ?_
            show Go p e below s _ _ _ (T3.setTop (mkF m 34 #[.val (.ref a), .val (.ref b), .val (.ref a), .val (.int (4 : Int32)), .val (.int (3 : Int32)), .val (.int w3)] [(.int (1 : Int32)), (.int (List.getD (oA3 w0 w1 w2 w3) ((w3 + (1 : Int32))).toNatClampNeg 0)), (.int (w3 + (1 : Int32))), (.ref b)]))
            refine Go.st (fun _ kq_ => XS.iadd X3.here hx rfl (hb hby dg_34) rfl kq_) ?_
            show Go p e below s _ _ _ (T3.setTop (mkF m 35 #[.val (.ref a), .val (.ref b), .val (.ref a), .val (.int (4 : Int32)), .val (.int (3 : Int32)), .val (.int w3)] [(.int ((List.getD (oA3 w0 w1 w2 w3) ((w3 + (1 : Int32))).toNatClampNeg 0) + (1 : Int32))), (.int (w3 + (1 : Int32))), (.ref b)]))
            obtain ⟨T28, h28, X28, e28, W28, V28, st28⟩ := own_stIL X3 hx hZ e3 V_b (len_A3 ..) (j := (w3 + (1 : Int32))) (own_wb m3 c23_27).2.1 (own_wb m3 c23_27).2.2 (g := (mkF m 35 #[.val (.ref a), .val (.ref b), .val (.ref a), .val (.int (4 : Int32)), .val (.int (3 : Int32)), .val (.int w3)] [(.int ((List.getD (oA3 w0 w1 w2 w3) ((w3 + (1 : Int32))).toNatClampNeg 0) + (1 : Int32))), (.int (w3 + (1 : Int32))), (.ref b)])) rfl rfl (hb hby dg_35)
            have N28 := Fr.snoc X28 N3 gb
            have O28 := O3.wr W28 gb
            have K28 := K3.wr W28 (Or.inl (List.mem_of_getElem? (i := 0) rfl))
            have V_a := V_a.other W28 nab
            have E_b := E_b.wr W28
            have V_b : Arv Z h28 b kb .int (4 : Int32) ((List.set (oA3 w0 w1 w2 w3) ((w3 + (1 : Int32))).toNatClampNeg ((List.getD (oA3 w0 w1 w2 w3) ((w3 + (1 : Int32))).toNatClampNeg 0) + (1 : Int32))).map Value.int) (.int (0 : Int32)) := V28
            refine Go.st st28 ?_
            show Go p e below s _ _ _ (T28.setTop (mkF m 36 #[.val (.ref a), .val (.ref b), .val (.ref a), .val (.int (4 : Int32)), .val (.int (3 : Int32)), .val (.int w3)] []))
            have V_b : Arv Z h28 b kb .int (4 : Int32) ((oA4 w0 w1 w2 w3).map Value.int) (.int (0 : Int32)) := by rw [(show oA4 w0 w1 w2 w3 = (List.set (oA3 w0 w1 w2 w3) ((w3 + (1 : Int32))).toNatClampNeg ((List.getD (oA3 w0 w1 w2 w3) ((w3 + (1 : Int32))).toNatClampNeg 0) + (1 : Int32))) from if_neg c23_27)]; exact V_b
            exact J3  _ _ _ X28 e28 N28 O28 K28 V_a V_b E_b 
        show Go p e below s 2 8 (Qg Z a ka b kb w0 w1 w2 w3 h0 n0) (T2.setTop (mkF m 20 #[.val (.ref a), .val (.ref b), .val (.ref a), .val (.int (4 : Int32)), .val (.int (2 : Int32)), .val (.int w2)] []))
        refine Go.st (fun _ kq_ => XS.iload X2.here hx rfl (hb hby dg_20) rfl kq_) ?_
        show Go p e below s _ _ _ (T2.setTop (mkF m 22 #[.val (.ref a), .val (.ref b), .val (.ref a), .val (.int (4 : Int32)), .val (.int (2 : Int32)), .val (.int w2)] [(.int w2)]))
        refine Go.st (fun _ kq_ => XS.iconst X2.here hx rfl (hb hby dg_22) kq_) ?_
        show Go p e below s _ _ _ (T2.setTop (mkF m 23 #[.val (.ref a), .val (.ref b), .val (.ref a), .val (.int (4 : Int32)), .val (.int (2 : Int32)), .val (.int w2)] [(.int (-1 : Int32)), (.int w2)]))
        by_cases c23_29 : w2 = (-1 : Int32)
        · refine Go.st (fun _ kq_ => XS.icmpYes X2.here hx rfl (pc0 := 23) (pc' := 36) rfl (hb hby dg_23) rfl (XT.ii_eq_t c23_29) (by decide) (by decide) kq_) ?_
          show Go p e below s _ _ _ (T2.setTop (mkF m 36 #[.val (.ref a), .val (.ref b), .val (.ref a), .val (.int (4 : Int32)), .val (.int (2 : Int32)), .val (.int w2)] []))
          have V_b : Arv Z h2 b kb .int (4 : Int32) ((oA3 w0 w1 w2 w3).map Value.int) (.int (0 : Int32)) := by rw [(show oA3 w0 w1 w2 w3 = (oA2 w0 w1 w2 w3) from if_pos c23_29)]; exact V_b
          exact J2  _ _ _ X2 e2 N2 O2 K2 V_a V_b E_b 
        · refine Go.st (fun _ kq_ => XS.icmpNo X2.here hx rfl (hb hby dg_23) rfl (XT.ii_eq_f c23_29) kq_) ?_
          show Go p e below s _ _ _ (T2.setTop (mkF m 26 #[.val (.ref a), .val (.ref b), .val (.ref a), .val (.int (4 : Int32)), .val (.int (2 : Int32)), .val (.int w2)] []))
          refine Go.st (fun _ kq_ => XS.aloadN X2.here hx rfl (hb hby dg_26) rfl rfl kq_) ?_
          show Go p e below s _ _ _ (T2.setTop (mkF m 27 #[.val (.ref a), .val (.ref b), .val (.ref a), .val (.int (4 : Int32)), .val (.int (2 : Int32)), .val (.int w2)] [(.ref b)]))
          refine Go.st (fun _ kq_ => XS.iload X2.here hx rfl (hb hby dg_27) rfl kq_) ?_
          show Go p e below s _ _ _ (T2.setTop (mkF m 29 #[.val (.ref a), .val (.ref b), .val (.ref a), .val (.int (4 : Int32)), .val (.int (2 : Int32)), .val (.int w2)] [(.int w2), (.ref b)]))
          refine Go.st (fun _ kq_ => XS.iconst X2.here hx rfl (hb hby dg_29) kq_) ?_
          show Go p e below s _ _ _ (T2.setTop (mkF m 30 #[.val (.ref a), .val (.ref b), .val (.ref a), .val (.int (4 : Int32)), .val (.int (2 : Int32)), .val (.int w2)] [(.int (1 : Int32)), (.int w2), (.ref b)]))
          refine Go.st (fun _ kq_ => XS.iadd X2.here hx rfl (hb hby dg_30) rfl kq_) ?_
          show Go p e below s _ _ _ (T2.setTop (mkF m 31 #[.val (.ref a), .val (.ref b), .val (.ref a), .val (.int (4 : Int32)), .val (.int (2 : Int32)), .val (.int w2)] [(.int (w2 + (1 : Int32))), (.ref b)]))
          refine Go.st (fun _ kq_ => XT.dup2 X2.here hx rfl (hb hby dg_31) rfl rfl rfl kq_) ?_
          show Go p e below s _ _ _ (T2.setTop (mkF m 32 #[.val (.ref a), .val (.ref b), .val (.ref a), .val (.int (4 : Int32)), .val (.int (2 : Int32)), .val (.int w2)] [(.int (w2 + (1 : Int32))), (.ref b), (.int (w2 + (1 : Int32))), (.ref b)]))
          refine Go.st (fun _ kq_ => own_iaload X2 hx hZ e2 V_b (own_wb m2 c23_29).2.1 (own_wb m2 c23_29).2.2 (v := .int (List.getD (oA2 w0 w1 w2 w3) ((w2 + (1 : Int32))).toNatClampNeg 0)) (own_getI (oA2 w0 w1 w2 w3) 0 _) (g := (mkF m 32 #[.val (.ref a), .val (.ref b), .val (.ref a), .val (.int (4 : Int32)), .val (.int (2 : Int32)), .val (.int w2)] [(.int (w2 + (1 : Int32))), (.ref b), (.int (w2 + (1 : Int32))), (.ref b)])) rfl rfl (hb hby dg_32) _ kq_) ?_
          show Go p e below s _ _ _ (T2.setTop (mkF m 33 #[.val (.ref a), .val (.ref b), .val (.ref a), .val (.int (4 : Int32)), .val (.int (2 : Int32)), .val (.int w2)] [(.int (List.getD (oA2 w0 w1 w2 w3) ((w2 + (1 : Int32))).toNatClampNeg 0)), (.int (w2 + (1 : Int32))), (.ref b)]))
          refine Go.st (fun _ kq_ => XS.iconst X2.here hx rfl (hb hby dg_33) kq_) ?_
          show Go p e below s _ _ _ (T2.setTop (mkF m 34 #[.val (.ref a), .val (.ref b), .val (.ref a), .val (.int (4 : Int32)), .val (.int (2 : Int32)), .val (.int w2)] [(.int (1 : Int32)), (.int (List.getD (oA2 w0 w1 w2 w3) ((w2 + (1 : Int32))).toNatClampNeg 0)), (.int (w2 + (1 : Int32))), (.ref b)]))
          refine Go.st (fun _ kq_ => XS.iadd X2.here hx rfl (hb hby dg_34) rfl kq_) ?_
          show Go p e below s _ _ _ (T2.setTop (mkF m 35 #[.val (.ref a), .val (.ref b), .val (.ref a), .val (.int (4 : Int32)), .val (.int (2 : Int32)), .val (.int w2)] [(.int ((List.getD (oA2 w0 w1 w2 w3) ((w2 + (1 : Int32))).toNatClampNeg 0) + (1 : Int32))), (.int (w2 + (1 : Int32))), (.ref b)]))
          obtain ⟨T30, h30, X30, e30, W30, V30, st30⟩ := own_stIL X2 hx hZ e2 V_b (len_A2 ..) (j := (w2 + (1 : Int32))) (own_wb m2 c23_29).2.1 (own_wb m2 c23_29).2.2 (g := (mkF m 35 #[.val (.ref a), .val (.ref b), .val (.ref a), .val (.int (4 : Int32)), .val (.int (2 : Int32)), .val (.int w2)] [(.int ((List.getD (oA2 w0 w1 w2 w3) ((w2 + (1 : Int32))).toNatClampNeg 0) + (1 : Int32))), (.int (w2 + (1 : Int32))), (.ref b)])) rfl rfl (hb hby dg_35)
          have N30 := Fr.snoc X30 N2 gb
          have O30 := O2.wr W30 gb
          have K30 := K2.wr W30 (Or.inl (List.mem_of_getElem? (i := 0) rfl))
          have V_a := V_a.other W30 nab
          have E_b := E_b.wr W30
          have V_b : Arv Z h30 b kb .int (4 : Int32) ((List.set (oA2 w0 w1 w2 w3) ((w2 + (1 : Int32))).toNatClampNeg ((List.getD (oA2 w0 w1 w2 w3) ((w2 + (1 : Int32))).toNatClampNeg 0) + (1 : Int32))).map Value.int) (.int (0 : Int32)) := V30
          refine Go.st st30 ?_
          show Go p e below s _ _ _ (T30.setTop (mkF m 36 #[.val (.ref a), .val (.ref b), .val (.ref a), .val (.int (4 : Int32)), .val (.int (2 : Int32)), .val (.int w2)] []))
          have V_b : Arv Z h30 b kb .int (4 : Int32) ((oA3 w0 w1 w2 w3).map Value.int) (.int (0 : Int32)) := by rw [(show oA3 w0 w1 w2 w3 = (List.set (oA2 w0 w1 w2 w3) ((w2 + (1 : Int32))).toNatClampNeg ((List.getD (oA2 w0 w1 w2 w3) ((w2 + (1 : Int32))).toNatClampNeg 0) + (1 : Int32))) from if_neg c23_29)]; exact V_b
          exact J2  _ _ _ X30 e30 N30 O30 K30 V_a V_b E_b 
      show Go p e below s 2 8 (Qg Z a ka b kb w0 w1 w2 w3 h0 n0) (T1.setTop (mkF m 20 #[.val (.ref a), .val (.ref b), .val (.ref a), .val (.int (4 : Int32)), .val (.int (1 : Int32)), .val (.int w1)] []))
      refine Go.st (fun _ kq_ => XS.iload X1.here hx rfl (hb hby dg_20) rfl kq_) ?_
      show Go p e below s _ _ _ (T1.setTop (mkF m 22 #[.val (.ref a), .val (.ref b), .val (.ref a), .val (.int (4 : Int32)), .val (.int (1 : Int32)), .val (.int w1)] [(.int w1)]))
      refine Go.st (fun _ kq_ => XS.iconst X1.here hx rfl (hb hby dg_22) kq_) ?_
      show Go p e below s _ _ _ (T1.setTop (mkF m 23 #[.val (.ref a), .val (.ref b), .val (.ref a), .val (.int (4 : Int32)), .val (.int (1 : Int32)), .val (.int w1)] [(.int (-1 : Int32)), (.int w1)]))
      by_cases c23_31 : w1 = (-1 : Int32)
      · refine Go.st (fun _ kq_ => XS.icmpYes X1.here hx rfl (pc0 := 23) (pc' := 36) rfl (hb hby dg_23) rfl (XT.ii_eq_t c23_31) (by decide) (by decide) kq_) ?_
        show Go p e below s _ _ _ (T1.setTop (mkF m 36 #[.val (.ref a), .val (.ref b), .val (.ref a), .val (.int (4 : Int32)), .val (.int (1 : Int32)), .val (.int w1)] []))
        have V_b : Arv Z h1 b kb .int (4 : Int32) ((oA2 w0 w1 w2 w3).map Value.int) (.int (0 : Int32)) := by rw [(show oA2 w0 w1 w2 w3 = (oA1 w0 w1 w2 w3) from if_pos c23_31)]; exact V_b
        exact J1  _ _ _ X1 e1 N1 O1 K1 V_a V_b E_b 
      · refine Go.st (fun _ kq_ => XS.icmpNo X1.here hx rfl (hb hby dg_23) rfl (XT.ii_eq_f c23_31) kq_) ?_
        show Go p e below s _ _ _ (T1.setTop (mkF m 26 #[.val (.ref a), .val (.ref b), .val (.ref a), .val (.int (4 : Int32)), .val (.int (1 : Int32)), .val (.int w1)] []))
        refine Go.st (fun _ kq_ => XS.aloadN X1.here hx rfl (hb hby dg_26) rfl rfl kq_) ?_
        show Go p e below s _ _ _ (T1.setTop (mkF m 27 #[.val (.ref a), .val (.ref b), .val (.ref a), .val (.int (4 : Int32)), .val (.int (1 : Int32)), .val (.int w1)] [(.ref b)]))
        refine Go.st (fun _ kq_ => XS.iload X1.here hx rfl (hb hby dg_27) rfl kq_) ?_
        show Go p e below s _ _ _ (T1.setTop (mkF m 29 #[.val (.ref a), .val (.ref b), .val (.ref a), .val (.int (4 : Int32)), .val (.int (1 : Int32)), .val (.int w1)] [(.int w1), (.ref b)]))
        refine Go.st (fun _ kq_ => XS.iconst X1.here hx rfl (hb hby dg_29) kq_) ?_
        show Go p e below s _ _ _ (T1.setTop (mkF m 30 #[.val (.ref a), .val (.ref b), .val (.ref a), .val (.int (4 : Int32)), .val (.int (1 : Int32)), .val (.int w1)] [(.int (1 : Int32)), (.int w1), (.ref b)]))
        refine Go.st (fun _ kq_ => XS.iadd X1.here hx rfl (hb hby dg_30) rfl kq_) ?_
        show Go p e below s _ _ _ (T1.setTop (mkF m 31 #[.val (.ref a), .val (.ref b), .val (.ref a), .val (.int (4 : Int32)), .val (.int (1 : Int32)), .val (.int w1)] [(.int (w1 + (1 : Int32))), (.ref b)]))
        refine Go.st (fun _ kq_ => XT.dup2 X1.here hx rfl (hb hby dg_31) rfl rfl rfl kq_) ?_
        show Go p e below s _ _ _ (T1.setTop (mkF m 32 #[.val (.ref a), .val (.ref b), .val (.ref a), .val (.int (4 : Int32)), .val (.int (1 : Int32)), .val (.int w1)] [(.int (w1 + (1 : Int32))), (.ref b), (.int (w1 + (1 : Int32))), (.ref b)]))
        refine Go.st (fun _ kq_ => own_iaload X1 hx hZ e1 V_b (own_wb m1 c23_31).2.1 (own_wb m1 c23_31).2.2 (v := .int (List.getD (oA1 w0 w1 w2 w3) ((w1 + (1 : Int32))).toNatClampNeg 0)) (own_getI (oA1 w0 w1 w2 w3) 0 _) (g := (mkF m 32 #[.val (.ref a), .val (.ref b), .val (.ref a), .val (.int (4 : Int32)), .val (.int (1 : Int32)), .val (.int w1)] [(.int (w1 + (1 : Int32))), (.ref b), (.int (w1 + (1 : Int32))), (.ref b)])) rfl rfl (hb hby dg_32) _ kq_) ?_
        show Go p e below s _ _ _ (T1.setTop (mkF m 33 #[.val (.ref a), .val (.ref b), .val (.ref a), .val (.int (4 : Int32)), .val (.int (1 : Int32)), .val (.int w1)] [(.int (List.getD (oA1 w0 w1 w2 w3) ((w1 + (1 : Int32))).toNatClampNeg 0)), (.int (w1 + (1 : Int32))), (.ref b)]))
        refine Go.st (fun _ kq_ => XS.iconst X1.here hx rfl (hb hby dg_33) kq_) ?_
        show Go p e below s _ _ _ (T1.setTop (mkF m 34 #[.val (.ref a), .val (.ref b), .val (.ref a), .val (.int (4 : Int32)), .val (.int (1 : Int32)), .val (.int w1)] [(.int (1 : Int32)), (.int (List.getD (oA1 w0 w1 w2 w3) ((w1 + (1 : Int32))).toNatClampNeg 0)), (.int (w1 + (1 : Int32))), (.ref b)]))
        refine Go.st (fun _ kq_ => XS.iadd X1.here hx rfl (hb hby dg_34) rfl kq_) ?_
        show Go p e below s _ _ _ (T1.setTop (mkF m 35 #[.val (.ref a), .val (.ref b), .val (.ref a), .val (.int (4 : Int32)), .val (.int (1 : Int32)), .val (.int w1)] [(.int ((List.getD (oA1 w0 w1 w2 w3) ((w1 + (1 : Int32))).toNatClampNeg 0) + (1 : Int32))), (.int (w1 + (1 : Int32))), (.ref b)]))
        obtain ⟨T32, h32, X32, e32, W32, V32, st32⟩ := own_stIL X1 hx hZ e1 V_b (len_A1 ..) (j := (w1 + (1 : Int32))) (own_wb m1 c23_31).2.1 (own_wb m1 c23_31).2.2 (g := (mkF m 35 #[.val (.ref a), .val (.ref b), .val (.ref a), .val (.int (4 : Int32)), .val (.int (1 : Int32)), .val (.int w1)] [(.int ((List.getD (oA1 w0 w1 w2 w3) ((w1 + (1 : Int32))).toNatClampNeg 0) + (1 : Int32))), (.int (w1 + (1 : Int32))), (.ref b)])) rfl rfl (hb hby dg_35)
        have N32 := Fr.snoc X32 N1 gb
        have O32 := O1.wr W32 gb
        have K32 := K1.wr W32 (Or.inl (List.mem_of_getElem? (i := 0) rfl))
        have V_a := V_a.other W32 nab
        have E_b := E_b.wr W32
        have V_b : Arv Z h32 b kb .int (4 : Int32) ((List.set (oA1 w0 w1 w2 w3) ((w1 + (1 : Int32))).toNatClampNeg ((List.getD (oA1 w0 w1 w2 w3) ((w1 + (1 : Int32))).toNatClampNeg 0) + (1 : Int32))).map Value.int) (.int (0 : Int32)) := V32
        refine Go.st st32 ?_
        show Go p e below s _ _ _ (T32.setTop (mkF m 36 #[.val (.ref a), .val (.ref b), .val (.ref a), .val (.int (4 : Int32)), .val (.int (1 : Int32)), .val (.int w1)] []))
        have V_b : Arv Z h32 b kb .int (4 : Int32) ((oA2 w0 w1 w2 w3).map Value.int) (.int (0 : Int32)) := by rw [(show oA2 w0 w1 w2 w3 = (List.set (oA1 w0 w1 w2 w3) ((w1 + (1 : Int32))).toNatClampNeg ((List.getD (oA1 w0 w1 w2 w3) ((w1 + (1 : Int32))).toNatClampNeg 0) + (1 : Int32))) from if_neg c23_31)]; exact V_b
        exact J1  _ _ _ X32 e32 N32 O32 K32 V_a V_b E_b 
    show Go p e below s 2 8 (Qg Z a ka b kb w0 w1 w2 w3 h0 n0) (s₁.setTop (mkF m 20 #[.val (.ref a), .val (.ref b), .val (.ref a), .val (.int (4 : Int32)), .val (.int (0 : Int32)), .val (.int w0)] []))
    refine Go.st (fun _ kq_ => XS.iload X0.here hx rfl (hb hby dg_20) rfl kq_) ?_
    show Go p e below s _ _ _ (s₁.setTop (mkF m 22 #[.val (.ref a), .val (.ref b), .val (.ref a), .val (.int (4 : Int32)), .val (.int (0 : Int32)), .val (.int w0)] [(.int w0)]))
    refine Go.st (fun _ kq_ => XS.iconst X0.here hx rfl (hb hby dg_22) kq_) ?_
    show Go p e below s _ _ _ (s₁.setTop (mkF m 23 #[.val (.ref a), .val (.ref b), .val (.ref a), .val (.int (4 : Int32)), .val (.int (0 : Int32)), .val (.int w0)] [(.int (-1 : Int32)), (.int w0)]))
    by_cases c23_33 : w0 = (-1 : Int32)
    · refine Go.st (fun _ kq_ => XS.icmpYes X0.here hx rfl (pc0 := 23) (pc' := 36) rfl (hb hby dg_23) rfl (XT.ii_eq_t c23_33) (by decide) (by decide) kq_) ?_
      show Go p e below s _ _ _ (s₁.setTop (mkF m 36 #[.val (.ref a), .val (.ref b), .val (.ref a), .val (.int (4 : Int32)), .val (.int (0 : Int32)), .val (.int w0)] []))
      have V_b : Arv Z h0 b kb .int (4 : Int32) ((oA1 w0 w1 w2 w3).map Value.int) (.int (0 : Int32)) := by rw [(show oA1 w0 w1 w2 w3 = (oA0 w0 w1 w2 w3) from if_pos c23_33)]; exact V_b
      exact J0  _ _ _ X0 e0 N0 O0 K0 V_a V_b E_b 
    · refine Go.st (fun _ kq_ => XS.icmpNo X0.here hx rfl (hb hby dg_23) rfl (XT.ii_eq_f c23_33) kq_) ?_
      show Go p e below s _ _ _ (s₁.setTop (mkF m 26 #[.val (.ref a), .val (.ref b), .val (.ref a), .val (.int (4 : Int32)), .val (.int (0 : Int32)), .val (.int w0)] []))
      refine Go.st (fun _ kq_ => XS.aloadN X0.here hx rfl (hb hby dg_26) rfl rfl kq_) ?_
      show Go p e below s _ _ _ (s₁.setTop (mkF m 27 #[.val (.ref a), .val (.ref b), .val (.ref a), .val (.int (4 : Int32)), .val (.int (0 : Int32)), .val (.int w0)] [(.ref b)]))
      refine Go.st (fun _ kq_ => XS.iload X0.here hx rfl (hb hby dg_27) rfl kq_) ?_
      show Go p e below s _ _ _ (s₁.setTop (mkF m 29 #[.val (.ref a), .val (.ref b), .val (.ref a), .val (.int (4 : Int32)), .val (.int (0 : Int32)), .val (.int w0)] [(.int w0), (.ref b)]))
      refine Go.st (fun _ kq_ => XS.iconst X0.here hx rfl (hb hby dg_29) kq_) ?_
      show Go p e below s _ _ _ (s₁.setTop (mkF m 30 #[.val (.ref a), .val (.ref b), .val (.ref a), .val (.int (4 : Int32)), .val (.int (0 : Int32)), .val (.int w0)] [(.int (1 : Int32)), (.int w0), (.ref b)]))
      refine Go.st (fun _ kq_ => XS.iadd X0.here hx rfl (hb hby dg_30) rfl kq_) ?_
      show Go p e below s _ _ _ (s₁.setTop (mkF m 31 #[.val (.ref a), .val (.ref b), .val (.ref a), .val (.int (4 : Int32)), .val (.int (0 : Int32)), .val (.int w0)] [(.int (w0 + (1 : Int32))), (.ref b)]))
      refine Go.st (fun _ kq_ => XT.dup2 X0.here hx rfl (hb hby dg_31) rfl rfl rfl kq_) ?_
      show Go p e below s _ _ _ (s₁.setTop (mkF m 32 #[.val (.ref a), .val (.ref b), .val (.ref a), .val (.int (4 : Int32)), .val (.int (0 : Int32)), .val (.int w0)] [(.int (w0 + (1 : Int32))), (.ref b), (.int (w0 + (1 : Int32))), (.ref b)]))
      refine Go.st (fun _ kq_ => own_iaload X0 hx hZ e0 V_b (own_wb m0 c23_33).2.1 (own_wb m0 c23_33).2.2 (v := .int (List.getD (oA0 w0 w1 w2 w3) ((w0 + (1 : Int32))).toNatClampNeg 0)) (own_getI (oA0 w0 w1 w2 w3) 0 _) (g := (mkF m 32 #[.val (.ref a), .val (.ref b), .val (.ref a), .val (.int (4 : Int32)), .val (.int (0 : Int32)), .val (.int w0)] [(.int (w0 + (1 : Int32))), (.ref b), (.int (w0 + (1 : Int32))), (.ref b)])) rfl rfl (hb hby dg_32) _ kq_) ?_
      show Go p e below s _ _ _ (s₁.setTop (mkF m 33 #[.val (.ref a), .val (.ref b), .val (.ref a), .val (.int (4 : Int32)), .val (.int (0 : Int32)), .val (.int w0)] [(.int (List.getD (oA0 w0 w1 w2 w3) ((w0 + (1 : Int32))).toNatClampNeg 0)), (.int (w0 + (1 : Int32))), (.ref b)]))
      refine Go.st (fun _ kq_ => XS.iconst X0.here hx rfl (hb hby dg_33) kq_) ?_
      show Go p e below s _ _ _ (s₁.setTop (mkF m 34 #[.val (.ref a), .val (.ref b), .val (.ref a), .val (.int (4 : Int32)), .val (.int (0 : Int32)), .val (.int w0)] [(.int (1 : Int32)), (.int (List.getD (oA0 w0 w1 w2 w3) ((w0 + (1 : Int32))).toNatClampNeg 0)), (.int (w0 + (1 : Int32))), (.ref b)]))
      refine Go.st (fun _ kq_ => XS.iadd X0.here hx rfl (hb hby dg_34) rfl kq_) ?_
      show Go p e below s _ _ _ (s₁.setTop (mkF m 35 #[.val (.ref a), .val (.ref b), .val (.ref a), .val (.int (4 : Int32)), .val (.int (0 : Int32)), .val (.int w0)] [(.int ((List.getD (oA0 w0 w1 w2 w3) ((w0 + (1 : Int32))).toNatClampNeg 0) + (1 : Int32))), (.int (w0 + (1 : Int32))), (.ref b)]))
      obtain ⟨T34, h34, X34, e34, W34, V34, st34⟩ := own_stIL X0 hx hZ e0 V_b (len_A0 ..) (j := (w0 + (1 : Int32))) (own_wb m0 c23_33).2.1 (own_wb m0 c23_33).2.2 (g := (mkF m 35 #[.val (.ref a), .val (.ref b), .val (.ref a), .val (.int (4 : Int32)), .val (.int (0 : Int32)), .val (.int w0)] [(.int ((List.getD (oA0 w0 w1 w2 w3) ((w0 + (1 : Int32))).toNatClampNeg 0) + (1 : Int32))), (.int (w0 + (1 : Int32))), (.ref b)])) rfl rfl (hb hby dg_35)
      have N34 := Fr.snoc X34 N0 gb
      have O34 := O0.wr W34 gb
      have K34 := K0.wr W34 (Or.inl (List.mem_of_getElem? (i := 0) rfl))
      have V_a := V_a.other W34 nab
      have E_b := E_b.wr W34
      have V_b : Arv Z h34 b kb .int (4 : Int32) ((List.set (oA0 w0 w1 w2 w3) ((w0 + (1 : Int32))).toNatClampNeg ((List.getD (oA0 w0 w1 w2 w3) ((w0 + (1 : Int32))).toNatClampNeg 0) + (1 : Int32))).map Value.int) (.int (0 : Int32)) := V34
      refine Go.st st34 ?_
      show Go p e below s _ _ _ (T34.setTop (mkF m 36 #[.val (.ref a), .val (.ref b), .val (.ref a), .val (.int (4 : Int32)), .val (.int (0 : Int32)), .val (.int w0)] []))
      have V_b : Arv Z h34 b kb .int (4 : Int32) ((oA1 w0 w1 w2 w3).map Value.int) (.int (0 : Int32)) := by rw [(show oA1 w0 w1 w2 w3 = (List.set (oA0 w0 w1 w2 w3) ((w0 + (1 : Int32))).toNatClampNeg ((List.getD (oA0 w0 w1 w2 w3) ((w0 + (1 : Int32))).toNatClampNeg 0) + (1 : Int32))) from if_neg c23_33)]; exact V_b
      exact J0  _ _ _ X34 e34 N34 O34 K34 V_a V_b E_b 
  obtain ⟨s2, o2, st2, r2⟩ := G
  exact ⟨s2, o2, castTop (efg m a b) st2, r2⟩
theorem dm0_0 : decode method_3_code 0 = .ok (.aload_n 0, 1) := by decide +kernel
theorem dm0_1 : decode method_3_code 1 = .ok (.iload_n 1, 1) := by decide +kernel
theorem dm0_2 : decode method_3_code 2 = .ok (.iaload, 1) := by decide +kernel
theorem dm0_3 : decode method_3_code 3 = .ok (.iconst (-1), 1) := by decide +kernel
theorem dm0_4 : decode method_3_code 4 = .ok (.if_icmp .eq 7, 3) := by decide +kernel
theorem dm0_7 : decode method_3_code 7 = .ok (.iconst 1, 1) := by decide +kernel
theorem dm0_8 : decode method_3_code 8 = .ok (.goto 4, 3) := by decide +kernel
theorem dm0_11 : decode method_3_code 11 = .ok (.iconst 0, 1) := by decide +kernel
theorem dm0_12 : decode method_3_code 12 = .ok (.ireturn, 1) := by decide +kernel
theorem pnm0 : plainName "com/example/rootward/rootward/model/InstanceGroupPinLaw" = true := by first | (simp [plainName, overriddenIn]; done) | decide +kernel
theorem efm0 (m : MethodId) (x0 : Addr) (x1 : Int32) : entryFrame m #[(.ref x0), (.int x1)] 2 = mkF m 0 #[.val (.ref x0), .val (.int x1)] [] := by first | (simp [entryFrame, mkF, argsToLocals, Value.category, maxLocals]; done) | rfl
def fM0 (w0 : Int32) (w1 : Int32) (w2 : Int32) (w3 : Int32) : Int32 := (if w0 = (-1 : Int32) then (0 : Int32) else (1 : Int32))
def Qm0 (Z : State) (a : Addr) (ka : ClassId) (w0 : Int32) (w1 : Int32) (w2 : Int32) (w3 : Int32) (h0 : Heap) (n0 : Nat) (v : Option Value) (h : Heap) (L : List Loc) : Prop := v = some (.int (fM0 w0 w1 w2 w3)) ∧ Fr n0 L ∧ h = h0
set_option maxRecDepth 65536 in
set_option maxHeartbeats 40000000 in
theorem rmm0 (l : Launch) (Z : State) (a0 : Array Value) (hw : ∀ d ∈ tables_1, d.before a0 Z = true) (ws : List Jvm.Cond) (a : Addr) (ka : ClassId) (w0 : Int32) (w1 : Int32) (w2 : Int32) (w3 : Int32) (h0 : Heap) (n0 : Nat) (O0 : Old Z n0 h0) (V_a : Arv Z h0 a ka .int (4 : Int32) [(.int w0), (.int w1), (.int w2), (.int w3)] (.int (0 : Int32))) :
    MetFree l (⟨"com/example/rootward/rootward/model/InstanceGroupPinLaw", "member", "([II)I"⟩ : MethodName) (head1 (Jvm.Cond.code (⟨"com/example/rootward/rootward/model/InstanceGroupPinLaw", "member", "([II)I"⟩ : MethodName) method_3_code 2 (some .int) :: ws) ({ frames := 0, cells := 0, slots := 0, locals := 0 } : Room)) (fun A_ U_ => A_ = #[(.ref a), (.int (0 : Int32))] ∧ Z.Warmed39 U_.vm ∧ U_.heap = h0) (fun _ _ _ _ _ => True) (fun _ U o U' => ∃ v L, o = .returned v ∧ Qm0 Z a ka w0 w1 w2 w3 h0 n0 v U'.heap L ∧ FrameEnd U o U' L ({ frames := 0, cells := 0, slots := 0, locals := 0 } : Room).cells ({ frames := 0, cells := 0, slots := 0, locals := 0 } : Room).slots) := by
  refine MetFree.of_bodySF (plainFor_of_name pnm0) hisR ?_
  intro p e s m args below meth cd s₁ Bd hml0 hP hK
  obtain ⟨rfl, hZ, hh⟩ := hP
  have hx := Bd.exec
  have hby := Bd.bytes
  have hlk : meth.locks = false := BodyLoose.notSynchronized Bd
  have hml : cd.maxLocals = 2 := hml0
  have hown : s.vm.findClass "com/example/rootward/rootward/model/InstanceGroupPinLaw" = some m.cls := findClass_of_methodNamed Bd.named
  have hnm := (name_of_methodNamed Bd.named Bd.method).1
  have X0 : Stand p l e ({ frames := 0, cells := 0, slots := 0, locals := 0 } : Room) s m #[(.ref a), (.int (0 : Int32))] below meth cd s₁ [] 0 0 := Stand.of_body Bd
  have e0 : s₁.heap = h0 := by rw [← hh, Bd.state]; rfl
  have N0 := Fr.nil n0
  have G : Go p e below s 0 0 (Qm0 Z a ka w0 w1 w2 w3 h0 n0) (s₁.setTop (mkF m 0 #[.val (.ref a), .val (.int (0 : Int32))] [])) := by
    show Go p e below s _ _ _ (s₁.setTop (mkF m 0 #[.val (.ref a), .val (.int (0 : Int32))] []))
    refine Go.st (fun _ kq_ => XS.aloadN X0.here hx rfl (hb hby dm0_0) rfl rfl kq_) ?_
    show Go p e below s _ _ _ (s₁.setTop (mkF m 1 #[.val (.ref a), .val (.int (0 : Int32))] [(.ref a)]))
    refine Go.st (fun _ kq_ => XS.iloadN X0.here hx rfl (hb hby dm0_1) rfl kq_) ?_
    show Go p e below s _ _ _ (s₁.setTop (mkF m 2 #[.val (.ref a), .val (.int (0 : Int32))] [(.int (0 : Int32)), (.ref a)]))
    refine Go.st (fun _ kq_ => own_iaload X0 hx hZ e0 V_a (by decide) (by decide) (v := (.int w0)) rfl (g := (mkF m 2 #[.val (.ref a), .val (.int (0 : Int32))] [(.int (0 : Int32)), (.ref a)])) rfl rfl (hb hby dm0_2) _ kq_) ?_
    show Go p e below s _ _ _ (s₁.setTop (mkF m 3 #[.val (.ref a), .val (.int (0 : Int32))] [(.int w0)]))
    refine Go.st (fun _ kq_ => XS.iconst X0.here hx rfl (hb hby dm0_3) kq_) ?_
    show Go p e below s _ _ _ (s₁.setTop (mkF m 4 #[.val (.ref a), .val (.int (0 : Int32))] [(.int (-1 : Int32)), (.int w0)]))
    by_cases c4_1 : w0 = (-1 : Int32)
    · refine Go.st (fun _ kq_ => XS.icmpYes X0.here hx rfl (pc0 := 4) (pc' := 11) rfl (hb hby dm0_4) rfl (XT.ii_eq_t c4_1) (by decide) (by decide) kq_) ?_
      show Go p e below s _ _ _ (s₁.setTop (mkF m 11 #[.val (.ref a), .val (.int (0 : Int32))] []))
      refine Go.st (fun _ kq_ => XS.iconst X0.here hx rfl (hb hby dm0_11) kq_) ?_
      show Go p e below s _ _ _ (s₁.setTop (mkF m 12 #[.val (.ref a), .val (.int (0 : Int32))] [(.int (0 : Int32))]))
      exact Go.ret X0 hlk (some (.int (0 : Int32))) (fun h => by rw [Bd.returns] at h; cases h) (by rw [e0]; exact ⟨own_res (z' := (0 : Int32)) (by unfold fM0; rw [if_pos c4_1]) rfl, N0, rfl⟩) (by decide) (by decide) (fun fs hr => retI X0 hx Bd.returns (hb hby dm0_12) hr)
    · refine Go.st (fun _ kq_ => XS.icmpNo X0.here hx rfl (hb hby dm0_4) rfl (XT.ii_eq_f c4_1) kq_) ?_
      show Go p e below s _ _ _ (s₁.setTop (mkF m 7 #[.val (.ref a), .val (.int (0 : Int32))] []))
      refine Go.st (fun _ kq_ => XS.iconst X0.here hx rfl (hb hby dm0_7) kq_) ?_
      show Go p e below s _ _ _ (s₁.setTop (mkF m 8 #[.val (.ref a), .val (.int (0 : Int32))] [(.int (1 : Int32))]))
      refine Go.st (fun _ kq_ => XS.goto X0.here hx rfl (pc0 := 8) (pc' := 12) rfl (hb hby dm0_8) (by decide) (by decide) kq_) ?_
      show Go p e below s _ _ _ (s₁.setTop (mkF m 12 #[.val (.ref a), .val (.int (0 : Int32))] [(.int (1 : Int32))]))
      exact Go.ret X0 hlk (some (.int (1 : Int32))) (fun h => by rw [Bd.returns] at h; cases h) (by rw [e0]; exact ⟨own_res (z' := (1 : Int32)) (by unfold fM0; rw [if_neg c4_1]) rfl, N0, rfl⟩) (by decide) (by decide) (fun fs hr => retI X0 hx Bd.returns (hb hby dm0_12) hr)
  obtain ⟨s2, o2, st2, r2⟩ := G
  exact ⟨s2, o2, castTop (efm0 m a (0 : Int32)) st2, r2⟩
theorem dm1_0 : decode method_3_code 0 = .ok (.aload_n 0, 1) := by decide +kernel
theorem dm1_1 : decode method_3_code 1 = .ok (.iload_n 1, 1) := by decide +kernel
theorem dm1_2 : decode method_3_code 2 = .ok (.iaload, 1) := by decide +kernel
theorem dm1_3 : decode method_3_code 3 = .ok (.iconst (-1), 1) := by decide +kernel
theorem dm1_4 : decode method_3_code 4 = .ok (.if_icmp .eq 7, 3) := by decide +kernel
theorem dm1_7 : decode method_3_code 7 = .ok (.iconst 1, 1) := by decide +kernel
theorem dm1_8 : decode method_3_code 8 = .ok (.goto 4, 3) := by decide +kernel
theorem dm1_11 : decode method_3_code 11 = .ok (.iconst 0, 1) := by decide +kernel
theorem dm1_12 : decode method_3_code 12 = .ok (.ireturn, 1) := by decide +kernel
theorem pnm1 : plainName "com/example/rootward/rootward/model/InstanceGroupPinLaw" = true := by first | (simp [plainName, overriddenIn]; done) | decide +kernel
theorem efm1 (m : MethodId) (x0 : Addr) (x1 : Int32) : entryFrame m #[(.ref x0), (.int x1)] 2 = mkF m 0 #[.val (.ref x0), .val (.int x1)] [] := by first | (simp [entryFrame, mkF, argsToLocals, Value.category, maxLocals]; done) | rfl
def fM1 (w0 : Int32) (w1 : Int32) (w2 : Int32) (w3 : Int32) : Int32 := (if w1 = (-1 : Int32) then (0 : Int32) else (1 : Int32))
def Qm1 (Z : State) (a : Addr) (ka : ClassId) (w0 : Int32) (w1 : Int32) (w2 : Int32) (w3 : Int32) (h0 : Heap) (n0 : Nat) (v : Option Value) (h : Heap) (L : List Loc) : Prop := v = some (.int (fM1 w0 w1 w2 w3)) ∧ Fr n0 L ∧ h = h0
set_option maxRecDepth 65536 in
set_option maxHeartbeats 40000000 in
theorem rmm1 (l : Launch) (Z : State) (a0 : Array Value) (hw : ∀ d ∈ tables_1, d.before a0 Z = true) (ws : List Jvm.Cond) (a : Addr) (ka : ClassId) (w0 : Int32) (w1 : Int32) (w2 : Int32) (w3 : Int32) (h0 : Heap) (n0 : Nat) (O0 : Old Z n0 h0) (V_a : Arv Z h0 a ka .int (4 : Int32) [(.int w0), (.int w1), (.int w2), (.int w3)] (.int (0 : Int32))) :
    MetFree l (⟨"com/example/rootward/rootward/model/InstanceGroupPinLaw", "member", "([II)I"⟩ : MethodName) (head1 (Jvm.Cond.code (⟨"com/example/rootward/rootward/model/InstanceGroupPinLaw", "member", "([II)I"⟩ : MethodName) method_3_code 2 (some .int) :: ws) ({ frames := 0, cells := 0, slots := 0, locals := 0 } : Room)) (fun A_ U_ => A_ = #[(.ref a), (.int (1 : Int32))] ∧ Z.Warmed39 U_.vm ∧ U_.heap = h0) (fun _ _ _ _ _ => True) (fun _ U o U' => ∃ v L, o = .returned v ∧ Qm1 Z a ka w0 w1 w2 w3 h0 n0 v U'.heap L ∧ FrameEnd U o U' L ({ frames := 0, cells := 0, slots := 0, locals := 0 } : Room).cells ({ frames := 0, cells := 0, slots := 0, locals := 0 } : Room).slots) := by
  refine MetFree.of_bodySF (plainFor_of_name pnm1) hisR ?_
  intro p e s m args below meth cd s₁ Bd hml0 hP hK
  obtain ⟨rfl, hZ, hh⟩ := hP
  have hx := Bd.exec
  have hby := Bd.bytes
  have hlk : meth.locks = false := BodyLoose.notSynchronized Bd
  have hml : cd.maxLocals = 2 := hml0
  have hown : s.vm.findClass "com/example/rootward/rootward/model/InstanceGroupPinLaw" = some m.cls := findClass_of_methodNamed Bd.named
  have hnm := (name_of_methodNamed Bd.named Bd.method).1
  have X0 : Stand p l e ({ frames := 0, cells := 0, slots := 0, locals := 0 } : Room) s m #[(.ref a), (.int (1 : Int32))] below meth cd s₁ [] 0 0 := Stand.of_body Bd
  have e0 : s₁.heap = h0 := by rw [← hh, Bd.state]; rfl
  have N0 := Fr.nil n0
  have G : Go p e below s 0 0 (Qm1 Z a ka w0 w1 w2 w3 h0 n0) (s₁.setTop (mkF m 0 #[.val (.ref a), .val (.int (1 : Int32))] [])) := by
    show Go p e below s _ _ _ (s₁.setTop (mkF m 0 #[.val (.ref a), .val (.int (1 : Int32))] []))
    refine Go.st (fun _ kq_ => XS.aloadN X0.here hx rfl (hb hby dm1_0) rfl rfl kq_) ?_
    show Go p e below s _ _ _ (s₁.setTop (mkF m 1 #[.val (.ref a), .val (.int (1 : Int32))] [(.ref a)]))
    refine Go.st (fun _ kq_ => XS.iloadN X0.here hx rfl (hb hby dm1_1) rfl kq_) ?_
    show Go p e below s _ _ _ (s₁.setTop (mkF m 2 #[.val (.ref a), .val (.int (1 : Int32))] [(.int (1 : Int32)), (.ref a)]))
    refine Go.st (fun _ kq_ => own_iaload X0 hx hZ e0 V_a (by decide) (by decide) (v := (.int w1)) rfl (g := (mkF m 2 #[.val (.ref a), .val (.int (1 : Int32))] [(.int (1 : Int32)), (.ref a)])) rfl rfl (hb hby dm1_2) _ kq_) ?_
    show Go p e below s _ _ _ (s₁.setTop (mkF m 3 #[.val (.ref a), .val (.int (1 : Int32))] [(.int w1)]))
    refine Go.st (fun _ kq_ => XS.iconst X0.here hx rfl (hb hby dm1_3) kq_) ?_
    show Go p e below s _ _ _ (s₁.setTop (mkF m 4 #[.val (.ref a), .val (.int (1 : Int32))] [(.int (-1 : Int32)), (.int w1)]))
    by_cases c4_1 : w1 = (-1 : Int32)
    · refine Go.st (fun _ kq_ => XS.icmpYes X0.here hx rfl (pc0 := 4) (pc' := 11) rfl (hb hby dm1_4) rfl (XT.ii_eq_t c4_1) (by decide) (by decide) kq_) ?_
      show Go p e below s _ _ _ (s₁.setTop (mkF m 11 #[.val (.ref a), .val (.int (1 : Int32))] []))
      refine Go.st (fun _ kq_ => XS.iconst X0.here hx rfl (hb hby dm1_11) kq_) ?_
      show Go p e below s _ _ _ (s₁.setTop (mkF m 12 #[.val (.ref a), .val (.int (1 : Int32))] [(.int (0 : Int32))]))
      exact Go.ret X0 hlk (some (.int (0 : Int32))) (fun h => by rw [Bd.returns] at h; cases h) (by rw [e0]; exact ⟨own_res (z' := (0 : Int32)) (by unfold fM1; rw [if_pos c4_1]) rfl, N0, rfl⟩) (by decide) (by decide) (fun fs hr => retI X0 hx Bd.returns (hb hby dm1_12) hr)
    · refine Go.st (fun _ kq_ => XS.icmpNo X0.here hx rfl (hb hby dm1_4) rfl (XT.ii_eq_f c4_1) kq_) ?_
      show Go p e below s _ _ _ (s₁.setTop (mkF m 7 #[.val (.ref a), .val (.int (1 : Int32))] []))
      refine Go.st (fun _ kq_ => XS.iconst X0.here hx rfl (hb hby dm1_7) kq_) ?_
      show Go p e below s _ _ _ (s₁.setTop (mkF m 8 #[.val (.ref a), .val (.int (1 : Int32))] [(.int (1 : Int32))]))
      refine Go.st (fun _ kq_ => XS.goto X0.here hx rfl (pc0 := 8) (pc' := 12) rfl (hb hby dm1_8) (by decide) (by decide) kq_) ?_
      show Go p e below s _ _ _ (s₁.setTop (mkF m 12 #[.val (.ref a), .val (.int (1 : Int32))] [(.int (1 : Int32))]))
      exact Go.ret X0 hlk (some (.int (1 : Int32))) (fun h => by rw [Bd.returns] at h; cases h) (by rw [e0]; exact ⟨own_res (z' := (1 : Int32)) (by unfold fM1; rw [if_neg c4_1]) rfl, N0, rfl⟩) (by decide) (by decide) (fun fs hr => retI X0 hx Bd.returns (hb hby dm1_12) hr)
  obtain ⟨s2, o2, st2, r2⟩ := G
  exact ⟨s2, o2, castTop (efm1 m a (1 : Int32)) st2, r2⟩
theorem dm2_0 : decode method_3_code 0 = .ok (.aload_n 0, 1) := by decide +kernel
theorem dm2_1 : decode method_3_code 1 = .ok (.iload_n 1, 1) := by decide +kernel
theorem dm2_2 : decode method_3_code 2 = .ok (.iaload, 1) := by decide +kernel
theorem dm2_3 : decode method_3_code 3 = .ok (.iconst (-1), 1) := by decide +kernel
theorem dm2_4 : decode method_3_code 4 = .ok (.if_icmp .eq 7, 3) := by decide +kernel
theorem dm2_7 : decode method_3_code 7 = .ok (.iconst 1, 1) := by decide +kernel
theorem dm2_8 : decode method_3_code 8 = .ok (.goto 4, 3) := by decide +kernel
theorem dm2_11 : decode method_3_code 11 = .ok (.iconst 0, 1) := by decide +kernel
theorem dm2_12 : decode method_3_code 12 = .ok (.ireturn, 1) := by decide +kernel
theorem pnm2 : plainName "com/example/rootward/rootward/model/InstanceGroupPinLaw" = true := by first | (simp [plainName, overriddenIn]; done) | decide +kernel
theorem efm2 (m : MethodId) (x0 : Addr) (x1 : Int32) : entryFrame m #[(.ref x0), (.int x1)] 2 = mkF m 0 #[.val (.ref x0), .val (.int x1)] [] := by first | (simp [entryFrame, mkF, argsToLocals, Value.category, maxLocals]; done) | rfl
def fM2 (w0 : Int32) (w1 : Int32) (w2 : Int32) (w3 : Int32) : Int32 := (if w2 = (-1 : Int32) then (0 : Int32) else (1 : Int32))
def Qm2 (Z : State) (a : Addr) (ka : ClassId) (w0 : Int32) (w1 : Int32) (w2 : Int32) (w3 : Int32) (h0 : Heap) (n0 : Nat) (v : Option Value) (h : Heap) (L : List Loc) : Prop := v = some (.int (fM2 w0 w1 w2 w3)) ∧ Fr n0 L ∧ h = h0
set_option maxRecDepth 65536 in
set_option maxHeartbeats 40000000 in
theorem rmm2 (l : Launch) (Z : State) (a0 : Array Value) (hw : ∀ d ∈ tables_1, d.before a0 Z = true) (ws : List Jvm.Cond) (a : Addr) (ka : ClassId) (w0 : Int32) (w1 : Int32) (w2 : Int32) (w3 : Int32) (h0 : Heap) (n0 : Nat) (O0 : Old Z n0 h0) (V_a : Arv Z h0 a ka .int (4 : Int32) [(.int w0), (.int w1), (.int w2), (.int w3)] (.int (0 : Int32))) :
    MetFree l (⟨"com/example/rootward/rootward/model/InstanceGroupPinLaw", "member", "([II)I"⟩ : MethodName) (head1 (Jvm.Cond.code (⟨"com/example/rootward/rootward/model/InstanceGroupPinLaw", "member", "([II)I"⟩ : MethodName) method_3_code 2 (some .int) :: ws) ({ frames := 0, cells := 0, slots := 0, locals := 0 } : Room)) (fun A_ U_ => A_ = #[(.ref a), (.int (2 : Int32))] ∧ Z.Warmed39 U_.vm ∧ U_.heap = h0) (fun _ _ _ _ _ => True) (fun _ U o U' => ∃ v L, o = .returned v ∧ Qm2 Z a ka w0 w1 w2 w3 h0 n0 v U'.heap L ∧ FrameEnd U o U' L ({ frames := 0, cells := 0, slots := 0, locals := 0 } : Room).cells ({ frames := 0, cells := 0, slots := 0, locals := 0 } : Room).slots) := by
  refine MetFree.of_bodySF (plainFor_of_name pnm2) hisR ?_
  intro p e s m args below meth cd s₁ Bd hml0 hP hK
  obtain ⟨rfl, hZ, hh⟩ := hP
  have hx := Bd.exec
  have hby := Bd.bytes
  have hlk : meth.locks = false := BodyLoose.notSynchronized Bd
  have hml : cd.maxLocals = 2 := hml0
  have hown : s.vm.findClass "com/example/rootward/rootward/model/InstanceGroupPinLaw" = some m.cls := findClass_of_methodNamed Bd.named
  have hnm := (name_of_methodNamed Bd.named Bd.method).1
  have X0 : Stand p l e ({ frames := 0, cells := 0, slots := 0, locals := 0 } : Room) s m #[(.ref a), (.int (2 : Int32))] below meth cd s₁ [] 0 0 := Stand.of_body Bd
  have e0 : s₁.heap = h0 := by rw [← hh, Bd.state]; rfl
  have N0 := Fr.nil n0
  have G : Go p e below s 0 0 (Qm2 Z a ka w0 w1 w2 w3 h0 n0) (s₁.setTop (mkF m 0 #[.val (.ref a), .val (.int (2 : Int32))] [])) := by
    show Go p e below s _ _ _ (s₁.setTop (mkF m 0 #[.val (.ref a), .val (.int (2 : Int32))] []))
    refine Go.st (fun _ kq_ => XS.aloadN X0.here hx rfl (hb hby dm2_0) rfl rfl kq_) ?_
    show Go p e below s _ _ _ (s₁.setTop (mkF m 1 #[.val (.ref a), .val (.int (2 : Int32))] [(.ref a)]))
    refine Go.st (fun _ kq_ => XS.iloadN X0.here hx rfl (hb hby dm2_1) rfl kq_) ?_
    show Go p e below s _ _ _ (s₁.setTop (mkF m 2 #[.val (.ref a), .val (.int (2 : Int32))] [(.int (2 : Int32)), (.ref a)]))
    refine Go.st (fun _ kq_ => own_iaload X0 hx hZ e0 V_a (by decide) (by decide) (v := (.int w2)) rfl (g := (mkF m 2 #[.val (.ref a), .val (.int (2 : Int32))] [(.int (2 : Int32)), (.ref a)])) rfl rfl (hb hby dm2_2) _ kq_) ?_
    show Go p e below s _ _ _ (s₁.setTop (mkF m 3 #[.val (.ref a), .val (.int (2 : Int32))] [(.int w2)]))
    refine Go.st (fun _ kq_ => XS.iconst X0.here hx rfl (hb hby dm2_3) kq_) ?_
    show Go p e below s _ _ _ (s₁.setTop (mkF m 4 #[.val (.ref a), .val (.int (2 : Int32))] [(.int (-1 : Int32)), (.int w2)]))
    by_cases c4_1 : w2 = (-1 : Int32)
    · refine Go.st (fun _ kq_ => XS.icmpYes X0.here hx rfl (pc0 := 4) (pc' := 11) rfl (hb hby dm2_4) rfl (XT.ii_eq_t c4_1) (by decide) (by decide) kq_) ?_
      show Go p e below s _ _ _ (s₁.setTop (mkF m 11 #[.val (.ref a), .val (.int (2 : Int32))] []))
      refine Go.st (fun _ kq_ => XS.iconst X0.here hx rfl (hb hby dm2_11) kq_) ?_
      show Go p e below s _ _ _ (s₁.setTop (mkF m 12 #[.val (.ref a), .val (.int (2 : Int32))] [(.int (0 : Int32))]))
      exact Go.ret X0 hlk (some (.int (0 : Int32))) (fun h => by rw [Bd.returns] at h; cases h) (by rw [e0]; exact ⟨own_res (z' := (0 : Int32)) (by unfold fM2; rw [if_pos c4_1]) rfl, N0, rfl⟩) (by decide) (by decide) (fun fs hr => retI X0 hx Bd.returns (hb hby dm2_12) hr)
    · refine Go.st (fun _ kq_ => XS.icmpNo X0.here hx rfl (hb hby dm2_4) rfl (XT.ii_eq_f c4_1) kq_) ?_
      show Go p e below s _ _ _ (s₁.setTop (mkF m 7 #[.val (.ref a), .val (.int (2 : Int32))] []))
      refine Go.st (fun _ kq_ => XS.iconst X0.here hx rfl (hb hby dm2_7) kq_) ?_
      show Go p e below s _ _ _ (s₁.setTop (mkF m 8 #[.val (.ref a), .val (.int (2 : Int32))] [(.int (1 : Int32))]))
      refine Go.st (fun _ kq_ => XS.goto X0.here hx rfl (pc0 := 8) (pc' := 12) rfl (hb hby dm2_8) (by decide) (by decide) kq_) ?_
      show Go p e below s _ _ _ (s₁.setTop (mkF m 12 #[.val (.ref a), .val (.int (2 : Int32))] [(.int (1 : Int32))]))
      exact Go.ret X0 hlk (some (.int (1 : Int32))) (fun h => by rw [Bd.returns] at h; cases h) (by rw [e0]; exact ⟨own_res (z' := (1 : Int32)) (by unfold fM2; rw [if_neg c4_1]) rfl, N0, rfl⟩) (by decide) (by decide) (fun fs hr => retI X0 hx Bd.returns (hb hby dm2_12) hr)
  obtain ⟨s2, o2, st2, r2⟩ := G
  exact ⟨s2, o2, castTop (efm2 m a (2 : Int32)) st2, r2⟩
theorem dm3_0 : decode method_3_code 0 = .ok (.aload_n 0, 1) := by decide +kernel
theorem dm3_1 : decode method_3_code 1 = .ok (.iload_n 1, 1) := by decide +kernel
theorem dm3_2 : decode method_3_code 2 = .ok (.iaload, 1) := by decide +kernel
theorem dm3_3 : decode method_3_code 3 = .ok (.iconst (-1), 1) := by decide +kernel
theorem dm3_4 : decode method_3_code 4 = .ok (.if_icmp .eq 7, 3) := by decide +kernel
theorem dm3_7 : decode method_3_code 7 = .ok (.iconst 1, 1) := by decide +kernel
theorem dm3_8 : decode method_3_code 8 = .ok (.goto 4, 3) := by decide +kernel
theorem dm3_11 : decode method_3_code 11 = .ok (.iconst 0, 1) := by decide +kernel
theorem dm3_12 : decode method_3_code 12 = .ok (.ireturn, 1) := by decide +kernel
theorem pnm3 : plainName "com/example/rootward/rootward/model/InstanceGroupPinLaw" = true := by first | (simp [plainName, overriddenIn]; done) | decide +kernel
theorem efm3 (m : MethodId) (x0 : Addr) (x1 : Int32) : entryFrame m #[(.ref x0), (.int x1)] 2 = mkF m 0 #[.val (.ref x0), .val (.int x1)] [] := by first | (simp [entryFrame, mkF, argsToLocals, Value.category, maxLocals]; done) | rfl
def fM3 (w0 : Int32) (w1 : Int32) (w2 : Int32) (w3 : Int32) : Int32 := (if w3 = (-1 : Int32) then (0 : Int32) else (1 : Int32))
def Qm3 (Z : State) (a : Addr) (ka : ClassId) (w0 : Int32) (w1 : Int32) (w2 : Int32) (w3 : Int32) (h0 : Heap) (n0 : Nat) (v : Option Value) (h : Heap) (L : List Loc) : Prop := v = some (.int (fM3 w0 w1 w2 w3)) ∧ Fr n0 L ∧ h = h0
set_option maxRecDepth 65536 in
set_option maxHeartbeats 40000000 in
theorem rmm3 (l : Launch) (Z : State) (a0 : Array Value) (hw : ∀ d ∈ tables_1, d.before a0 Z = true) (ws : List Jvm.Cond) (a : Addr) (ka : ClassId) (w0 : Int32) (w1 : Int32) (w2 : Int32) (w3 : Int32) (h0 : Heap) (n0 : Nat) (O0 : Old Z n0 h0) (V_a : Arv Z h0 a ka .int (4 : Int32) [(.int w0), (.int w1), (.int w2), (.int w3)] (.int (0 : Int32))) :
    MetFree l (⟨"com/example/rootward/rootward/model/InstanceGroupPinLaw", "member", "([II)I"⟩ : MethodName) (head1 (Jvm.Cond.code (⟨"com/example/rootward/rootward/model/InstanceGroupPinLaw", "member", "([II)I"⟩ : MethodName) method_3_code 2 (some .int) :: ws) ({ frames := 0, cells := 0, slots := 0, locals := 0 } : Room)) (fun A_ U_ => A_ = #[(.ref a), (.int (3 : Int32))] ∧ Z.Warmed39 U_.vm ∧ U_.heap = h0) (fun _ _ _ _ _ => True) (fun _ U o U' => ∃ v L, o = .returned v ∧ Qm3 Z a ka w0 w1 w2 w3 h0 n0 v U'.heap L ∧ FrameEnd U o U' L ({ frames := 0, cells := 0, slots := 0, locals := 0 } : Room).cells ({ frames := 0, cells := 0, slots := 0, locals := 0 } : Room).slots) := by
  refine MetFree.of_bodySF (plainFor_of_name pnm3) hisR ?_
  intro p e s m args below meth cd s₁ Bd hml0 hP hK
  obtain ⟨rfl, hZ, hh⟩ := hP
  have hx := Bd.exec
  have hby := Bd.bytes
  have hlk : meth.locks = false := BodyLoose.notSynchronized Bd
  have hml : cd.maxLocals = 2 := hml0
  have hown : s.vm.findClass "com/example/rootward/rootward/model/InstanceGroupPinLaw" = some m.cls := findClass_of_methodNamed Bd.named
  have hnm := (name_of_methodNamed Bd.named Bd.method).1
  have X0 : Stand p l e ({ frames := 0, cells := 0, slots := 0, locals := 0 } : Room) s m #[(.ref a), (.int (3 : Int32))] below meth cd s₁ [] 0 0 := Stand.of_body Bd
  have e0 : s₁.heap = h0 := by rw [← hh, Bd.state]; rfl
  have N0 := Fr.nil n0
  have G : Go p e below s 0 0 (Qm3 Z a ka w0 w1 w2 w3 h0 n0) (s₁.setTop (mkF m 0 #[.val (.ref a), .val (.int (3 : Int32))] [])) := by
    show Go p e below s _ _ _ (s₁.setTop (mkF m 0 #[.val (.ref a), .val (.int (3 : Int32))] []))
    refine Go.st (fun _ kq_ => XS.aloadN X0.here hx rfl (hb hby dm3_0) rfl rfl kq_) ?_
    show Go p e below s _ _ _ (s₁.setTop (mkF m 1 #[.val (.ref a), .val (.int (3 : Int32))] [(.ref a)]))
    refine Go.st (fun _ kq_ => XS.iloadN X0.here hx rfl (hb hby dm3_1) rfl kq_) ?_
    show Go p e below s _ _ _ (s₁.setTop (mkF m 2 #[.val (.ref a), .val (.int (3 : Int32))] [(.int (3 : Int32)), (.ref a)]))
    refine Go.st (fun _ kq_ => own_iaload X0 hx hZ e0 V_a (by decide) (by decide) (v := (.int w3)) rfl (g := (mkF m 2 #[.val (.ref a), .val (.int (3 : Int32))] [(.int (3 : Int32)), (.ref a)])) rfl rfl (hb hby dm3_2) _ kq_) ?_
    show Go p e below s _ _ _ (s₁.setTop (mkF m 3 #[.val (.ref a), .val (.int (3 : Int32))] [(.int w3)]))
    refine Go.st (fun _ kq_ => XS.iconst X0.here hx rfl (hb hby dm3_3) kq_) ?_
    show Go p e below s _ _ _ (s₁.setTop (mkF m 4 #[.val (.ref a), .val (.int (3 : Int32))] [(.int (-1 : Int32)), (.int w3)]))
    by_cases c4_1 : w3 = (-1 : Int32)
    · refine Go.st (fun _ kq_ => XS.icmpYes X0.here hx rfl (pc0 := 4) (pc' := 11) rfl (hb hby dm3_4) rfl (XT.ii_eq_t c4_1) (by decide) (by decide) kq_) ?_
      show Go p e below s _ _ _ (s₁.setTop (mkF m 11 #[.val (.ref a), .val (.int (3 : Int32))] []))
      refine Go.st (fun _ kq_ => XS.iconst X0.here hx rfl (hb hby dm3_11) kq_) ?_
      show Go p e below s _ _ _ (s₁.setTop (mkF m 12 #[.val (.ref a), .val (.int (3 : Int32))] [(.int (0 : Int32))]))
      exact Go.ret X0 hlk (some (.int (0 : Int32))) (fun h => by rw [Bd.returns] at h; cases h) (by rw [e0]; exact ⟨own_res (z' := (0 : Int32)) (by unfold fM3; rw [if_pos c4_1]) rfl, N0, rfl⟩) (by decide) (by decide) (fun fs hr => retI X0 hx Bd.returns (hb hby dm3_12) hr)
    · refine Go.st (fun _ kq_ => XS.icmpNo X0.here hx rfl (hb hby dm3_4) rfl (XT.ii_eq_f c4_1) kq_) ?_
      show Go p e below s _ _ _ (s₁.setTop (mkF m 7 #[.val (.ref a), .val (.int (3 : Int32))] []))
      refine Go.st (fun _ kq_ => XS.iconst X0.here hx rfl (hb hby dm3_7) kq_) ?_
      show Go p e below s _ _ _ (s₁.setTop (mkF m 8 #[.val (.ref a), .val (.int (3 : Int32))] [(.int (1 : Int32))]))
      refine Go.st (fun _ kq_ => XS.goto X0.here hx rfl (pc0 := 8) (pc' := 12) rfl (hb hby dm3_8) (by decide) (by decide) kq_) ?_
      show Go p e below s _ _ _ (s₁.setTop (mkF m 12 #[.val (.ref a), .val (.int (3 : Int32))] [(.int (1 : Int32))]))
      exact Go.ret X0 hlk (some (.int (1 : Int32))) (fun h => by rw [Bd.returns] at h; cases h) (by rw [e0]; exact ⟨own_res (z' := (1 : Int32)) (by unfold fM3; rw [if_neg c4_1]) rfl, N0, rfl⟩) (by decide) (by decide) (fun fs hr => retI X0 hx Bd.returns (hb hby dm3_12) hr)
  obtain ⟨s2, o2, st2, r2⟩ := G
  exact ⟨s2, o2, castTop (efm3 m a (3 : Int32)) st2, r2⟩
theorem dl_0 : decode method_4_code 0 = .ok (.iload_n 0, 1) := by decide +kernel
theorem dl_1 : decode method_4_code 1 = .ok (.iconst (-1), 1) := by decide +kernel
theorem dl_2 : decode method_4_code 2 = .ok (.if_icmp .eq 12, 3) := by decide +kernel
theorem dl_5 : decode method_4_code 5 = .ok (.iload_n 0, 1) := by decide +kernel
theorem dl_6 : decode method_4_code 6 = .ok (.iload_n 1, 1) := by decide +kernel
theorem dl_7 : decode method_4_code 7 = .ok (.if_icmp .ge 7, 3) := by decide +kernel
theorem dl_10 : decode method_4_code 10 = .ok (.iconst 1, 1) := by decide +kernel
theorem dl_11 : decode method_4_code 11 = .ok (.goto 4, 3) := by decide +kernel
theorem dl_14 : decode method_4_code 14 = .ok (.iconst 0, 1) := by decide +kernel
theorem dl_15 : decode method_4_code 15 = .ok (.ireturn, 1) := by decide +kernel
theorem pnl : plainName "com/example/rootward/rootward/model/InstanceGroupPinLaw" = true := by first | (simp [plainName, overriddenIn]; done) | decide +kernel
theorem efl (m : MethodId) (x0 : Int32) (x1 : Int32) : entryFrame m #[(.int x0), (.int x1)] 2 = mkF m 0 #[.val (.int x0), .val (.int x1)] [] := by first | (simp [entryFrame, mkF, argsToLocals, Value.category, maxLocals]; done) | rfl
def fLt (p0 : Int32) (p1 : Int32) : Int32 := (if p0 = (-1 : Int32) then (0 : Int32) else (if p0 < p1 then (1 : Int32) else (0 : Int32)))
def Ql (Z : State) (p0 : Int32) (p1 : Int32) (h0 : Heap) (n0 : Nat) (v : Option Value) (h : Heap) (L : List Loc) : Prop := v = some (.int (fLt p0 p1)) ∧ Fr n0 L ∧ h = h0
set_option maxRecDepth 65536 in
set_option maxHeartbeats 40000000 in
theorem rml (l : Launch) (Z : State) (a0 : Array Value) (hw : ∀ d ∈ tables_1, d.before a0 Z = true) (ws : List Jvm.Cond) (p0 : Int32) (p1 : Int32) (h0 : Heap) (n0 : Nat) (O0 : Old Z n0 h0)  :
    MetFree l (⟨"com/example/rootward/rootward/model/InstanceGroupPinLaw", "lt", "(II)I"⟩ : MethodName) (head1 (Jvm.Cond.code (⟨"com/example/rootward/rootward/model/InstanceGroupPinLaw", "lt", "(II)I"⟩ : MethodName) method_4_code 2 (some .int) :: ws) ({ frames := 0, cells := 0, slots := 0, locals := 0 } : Room)) (fun A_ U_ => A_ = #[(.int p0), (.int p1)] ∧ Z.Warmed39 U_.vm ∧ U_.heap = h0) (fun _ _ _ _ _ => True) (fun _ U o U' => ∃ v L, o = .returned v ∧ Ql Z p0 p1 h0 n0 v U'.heap L ∧ FrameEnd U o U' L ({ frames := 0, cells := 0, slots := 0, locals := 0 } : Room).cells ({ frames := 0, cells := 0, slots := 0, locals := 0 } : Room).slots) := by
  refine MetFree.of_bodySF (plainFor_of_name pnl) hisR ?_
  intro p e s m args below meth cd s₁ Bd hml0 hP hK
  obtain ⟨rfl, hZ, hh⟩ := hP
  have hx := Bd.exec
  have hby := Bd.bytes
  have hlk : meth.locks = false := BodyLoose.notSynchronized Bd
  have hml : cd.maxLocals = 2 := hml0
  have hown : s.vm.findClass "com/example/rootward/rootward/model/InstanceGroupPinLaw" = some m.cls := findClass_of_methodNamed Bd.named
  have hnm := (name_of_methodNamed Bd.named Bd.method).1
  have X0 : Stand p l e ({ frames := 0, cells := 0, slots := 0, locals := 0 } : Room) s m #[(.int p0), (.int p1)] below meth cd s₁ [] 0 0 := Stand.of_body Bd
  have e0 : s₁.heap = h0 := by rw [← hh, Bd.state]; rfl
  have N0 := Fr.nil n0
  have G : Go p e below s 0 0 (Ql Z p0 p1 h0 n0) (s₁.setTop (mkF m 0 #[.val (.int p0), .val (.int p1)] [])) := by
    show Go p e below s _ _ _ (s₁.setTop (mkF m 0 #[.val (.int p0), .val (.int p1)] []))
    refine Go.st (fun _ kq_ => XS.iloadN X0.here hx rfl (hb hby dl_0) rfl kq_) ?_
    show Go p e below s _ _ _ (s₁.setTop (mkF m 1 #[.val (.int p0), .val (.int p1)] [(.int p0)]))
    refine Go.st (fun _ kq_ => XS.iconst X0.here hx rfl (hb hby dl_1) kq_) ?_
    show Go p e below s _ _ _ (s₁.setTop (mkF m 2 #[.val (.int p0), .val (.int p1)] [(.int (-1 : Int32)), (.int p0)]))
    by_cases c2_1 : p0 = (-1 : Int32)
    · refine Go.st (fun _ kq_ => XS.icmpYes X0.here hx rfl (pc0 := 2) (pc' := 14) rfl (hb hby dl_2) rfl (XT.ii_eq_t c2_1) (by decide) (by decide) kq_) ?_
      show Go p e below s _ _ _ (s₁.setTop (mkF m 14 #[.val (.int p0), .val (.int p1)] []))
      refine Go.st (fun _ kq_ => XS.iconst X0.here hx rfl (hb hby dl_14) kq_) ?_
      show Go p e below s _ _ _ (s₁.setTop (mkF m 15 #[.val (.int p0), .val (.int p1)] [(.int (0 : Int32))]))
      exact Go.ret X0 hlk (some (.int (0 : Int32))) (fun h => by rw [Bd.returns] at h; cases h) (by rw [e0]; exact ⟨own_res (z' := (0 : Int32)) (by unfold fLt; rw [if_pos c2_1]) rfl, N0, rfl⟩) (by decide) (by decide) (fun fs hr => retI X0 hx Bd.returns (hb hby dl_15) hr)
    · refine Go.st (fun _ kq_ => XS.icmpNo X0.here hx rfl (hb hby dl_2) rfl (XT.ii_eq_f c2_1) kq_) ?_
      show Go p e below s _ _ _ (s₁.setTop (mkF m 5 #[.val (.int p0), .val (.int p1)] []))
      refine Go.st (fun _ kq_ => XS.iloadN X0.here hx rfl (hb hby dl_5) rfl kq_) ?_
      show Go p e below s _ _ _ (s₁.setTop (mkF m 6 #[.val (.int p0), .val (.int p1)] [(.int p0)]))
      refine Go.st (fun _ kq_ => XS.iloadN X0.here hx rfl (hb hby dl_6) rfl kq_) ?_
      show Go p e below s _ _ _ (s₁.setTop (mkF m 7 #[.val (.int p0), .val (.int p1)] [(.int p1), (.int p0)]))
      by_cases c7_2 : p0 < p1
      · refine Go.st (fun _ kq_ => XS.icmpNo X0.here hx rfl (hb hby dl_7) rfl (XT.ii_ge_f c7_2) kq_) ?_
        show Go p e below s _ _ _ (s₁.setTop (mkF m 10 #[.val (.int p0), .val (.int p1)] []))
        refine Go.st (fun _ kq_ => XS.iconst X0.here hx rfl (hb hby dl_10) kq_) ?_
        show Go p e below s _ _ _ (s₁.setTop (mkF m 11 #[.val (.int p0), .val (.int p1)] [(.int (1 : Int32))]))
        refine Go.st (fun _ kq_ => XS.goto X0.here hx rfl (pc0 := 11) (pc' := 15) rfl (hb hby dl_11) (by decide) (by decide) kq_) ?_
        show Go p e below s _ _ _ (s₁.setTop (mkF m 15 #[.val (.int p0), .val (.int p1)] [(.int (1 : Int32))]))
        exact Go.ret X0 hlk (some (.int (1 : Int32))) (fun h => by rw [Bd.returns] at h; cases h) (by rw [e0]; exact ⟨own_res (z' := (1 : Int32)) (by unfold fLt; rw [if_neg c2_1, if_pos c7_2]) rfl, N0, rfl⟩) (by decide) (by decide) (fun fs hr => retI X0 hx Bd.returns (hb hby dl_15) hr)
      · refine Go.st (fun _ kq_ => XS.icmpYes X0.here hx rfl (pc0 := 7) (pc' := 14) rfl (hb hby dl_7) rfl (XT.ii_ge_t c7_2) (by decide) (by decide) kq_) ?_
        show Go p e below s _ _ _ (s₁.setTop (mkF m 14 #[.val (.int p0), .val (.int p1)] []))
        refine Go.st (fun _ kq_ => XS.iconst X0.here hx rfl (hb hby dl_14) kq_) ?_
        show Go p e below s _ _ _ (s₁.setTop (mkF m 15 #[.val (.int p0), .val (.int p1)] [(.int (0 : Int32))]))
        exact Go.ret X0 hlk (some (.int (0 : Int32))) (fun h => by rw [Bd.returns] at h; cases h) (by rw [e0]; exact ⟨own_res (z' := (0 : Int32)) (by unfold fLt; rw [if_neg c2_1, if_neg c7_2]) rfl, N0, rfl⟩) (by decide) (by decide) (fun fs hr => retI X0 hx Bd.returns (hb hby dl_15) hr)
  obtain ⟨s2, o2, st2, r2⟩ := G
  exact ⟨s2, o2, castTop (efl m p0 p1) st2, r2⟩
theorem db0_0 : decode method_5_code 0 = .ok (.aload_n 0, 1) := by decide +kernel
theorem db0_1 : decode method_5_code 1 = .ok (.iconst 0, 1) := by decide +kernel
theorem db0_2 : decode method_5_code 2 = .ok (.iaload, 1) := by decide +kernel
theorem db0_3 : decode method_5_code 3 = .ok (.iload_n 1, 1) := by decide +kernel
theorem db0_4 : decode method_5_code 4 = .ok (.invokestatic 26, 3) := by decide +kernel
theorem db0_7 : decode method_5_code 7 = .ok (.aload_n 0, 1) := by decide +kernel
theorem db0_8 : decode method_5_code 8 = .ok (.iconst 1, 1) := by decide +kernel
theorem db0_9 : decode method_5_code 9 = .ok (.iaload, 1) := by decide +kernel
theorem db0_10 : decode method_5_code 10 = .ok (.iload_n 1, 1) := by decide +kernel
theorem db0_11 : decode method_5_code 11 = .ok (.invokestatic 26, 3) := by decide +kernel
theorem db0_14 : decode method_5_code 14 = .ok (.iadd, 1) := by decide +kernel
theorem db0_15 : decode method_5_code 15 = .ok (.aload_n 0, 1) := by decide +kernel
theorem db0_16 : decode method_5_code 16 = .ok (.iconst 2, 1) := by decide +kernel
theorem db0_17 : decode method_5_code 17 = .ok (.iaload, 1) := by decide +kernel
theorem db0_18 : decode method_5_code 18 = .ok (.iload_n 1, 1) := by decide +kernel
theorem db0_19 : decode method_5_code 19 = .ok (.invokestatic 26, 3) := by decide +kernel
theorem db0_22 : decode method_5_code 22 = .ok (.iadd, 1) := by decide +kernel
theorem db0_23 : decode method_5_code 23 = .ok (.aload_n 0, 1) := by decide +kernel
theorem db0_24 : decode method_5_code 24 = .ok (.iconst 3, 1) := by decide +kernel
theorem db0_25 : decode method_5_code 25 = .ok (.iaload, 1) := by decide +kernel
theorem db0_26 : decode method_5_code 26 = .ok (.iload_n 1, 1) := by decide +kernel
theorem db0_27 : decode method_5_code 27 = .ok (.invokestatic 26, 3) := by decide +kernel
theorem db0_30 : decode method_5_code 30 = .ok (.iadd, 1) := by decide +kernel
theorem db0_31 : decode method_5_code 31 = .ok (.ireturn, 1) := by decide +kernel
theorem pdb0_0 : parseMethodDescriptor "(II)I" = some ⟨[.int, .int], some .int⟩ := by decide +kernel
theorem pnb0 : plainName "com/example/rootward/rootward/model/InstanceGroupPinLaw" = true := by first | (simp [plainName, overriddenIn]; done) | decide +kernel
theorem efb0 (m : MethodId) (x0 : Addr) (x1 : Int32) : entryFrame m #[(.ref x0), (.int x1)] 2 = mkF m 0 #[.val (.ref x0), .val (.int x1)] [] := by first | (simp [entryFrame, mkF, argsToLocals, Value.category, maxLocals]; done) | rfl
def fB0 (w0 : Int32) (w1 : Int32) (w2 : Int32) (w3 : Int32) : Int32 := ((((fLt w0 (0 : Int32)) + (fLt w1 (0 : Int32))) + (fLt w2 (0 : Int32))) + (fLt w3 (0 : Int32)))
def Qb0 (Z : State) (a : Addr) (ka : ClassId) (w0 : Int32) (w1 : Int32) (w2 : Int32) (w3 : Int32) (h0 : Heap) (n0 : Nat) (v : Option Value) (h : Heap) (L : List Loc) : Prop := v = some (.int (fB0 w0 w1 w2 w3)) ∧ Fr n0 L ∧ h = h0
set_option maxRecDepth 65536 in
set_option maxHeartbeats 40000000 in
theorem rmb0 (l : Launch) (Z : State) (a0 : Array Value) (hw : ∀ d ∈ tables_1, d.before a0 Z = true) (ws : List Jvm.Cond) (a : Addr) (ka : ClassId) (w0 : Int32) (w1 : Int32) (w2 : Int32) (w3 : Int32) (h0 : Heap) (n0 : Nat) (O0 : Old Z n0 h0) (V_a : Arv Z h0 a ka .int (4 : Int32) [(.int w0), (.int w1), (.int w2), (.int w3)] (.int (0 : Int32))) :
    MetFree l (⟨"com/example/rootward/rootward/model/InstanceGroupPinLaw", "below", "([II)I"⟩ : MethodName) (head1 (Jvm.Cond.code (⟨"com/example/rootward/rootward/model/InstanceGroupPinLaw", "below", "([II)I"⟩ : MethodName) method_5_code 2 (some .int) :: ws) ({ frames := 1, cells := 0, slots := 0, locals := 14 } : Room)) (fun A_ U_ => A_ = #[(.ref a), (.int (0 : Int32))] ∧ Z.Warmed39 U_.vm ∧ U_.heap = h0) (fun _ _ _ _ _ => True) (fun _ U o U' => ∃ v L, o = .returned v ∧ Qb0 Z a ka w0 w1 w2 w3 h0 n0 v U'.heap L ∧ FrameEnd U o U' L ({ frames := 1, cells := 0, slots := 0, locals := 14 } : Room).cells ({ frames := 1, cells := 0, slots := 0, locals := 14 } : Room).slots) := by
  refine MetFree.of_bodySF (plainFor_of_name pnb0) hisR ?_
  intro p e s m args below meth cd s₁ Bd hml0 hP hK
  obtain ⟨rfl, hZ, hh⟩ := hP
  have hx := Bd.exec
  have hby := Bd.bytes
  have hlk : meth.locks = false := BodyLoose.notSynchronized Bd
  have hml : cd.maxLocals = 2 := hml0
  have hown : s.vm.findClass "com/example/rootward/rootward/model/InstanceGroupPinLaw" = some m.cls := findClass_of_methodNamed Bd.named
  have hnm := (name_of_methodNamed Bd.named Bd.method).1
  have X0 : Stand p l e ({ frames := 1, cells := 0, slots := 0, locals := 14 } : Room) s m #[(.ref a), (.int (0 : Int32))] below meth cd s₁ [] 0 0 := Stand.of_body Bd
  have e0 : s₁.heap = h0 := by rw [← hh, Bd.state]; rfl
  have N0 := Fr.nil n0
  have G : Go p e below s 0 0 (Qb0 Z a ka w0 w1 w2 w3 h0 n0) (s₁.setTop (mkF m 0 #[.val (.ref a), .val (.int (0 : Int32))] [])) := by
    show Go p e below s _ _ _ (s₁.setTop (mkF m 0 #[.val (.ref a), .val (.int (0 : Int32))] []))
    refine Go.st (fun _ kq_ => XS.aloadN X0.here hx rfl (hb hby db0_0) rfl rfl kq_) ?_
    show Go p e below s _ _ _ (s₁.setTop (mkF m 1 #[.val (.ref a), .val (.int (0 : Int32))] [(.ref a)]))
    refine Go.st (fun _ kq_ => XS.iconst X0.here hx rfl (hb hby db0_1) kq_) ?_
    show Go p e below s _ _ _ (s₁.setTop (mkF m 2 #[.val (.ref a), .val (.int (0 : Int32))] [(.int (0 : Int32)), (.ref a)]))
    refine Go.st (fun _ kq_ => own_iaload X0 hx hZ e0 V_a (by decide) (by decide) (v := (.int w0)) rfl (g := (mkF m 2 #[.val (.ref a), .val (.int (0 : Int32))] [(.int (0 : Int32)), (.ref a)])) rfl rfl (hb hby db0_2) _ kq_) ?_
    show Go p e below s _ _ _ (s₁.setTop (mkF m 3 #[.val (.ref a), .val (.int (0 : Int32))] [(.int w0)]))
    refine Go.st (fun _ kq_ => XS.iloadN X0.here hx rfl (hb hby db0_3) rfl kq_) ?_
    show Go p e below s _ _ _ (s₁.setTop (mkF m 4 #[.val (.ref a), .val (.int (0 : Int32))] [(.int (0 : Int32)), (.int w0)]))
    obtain ⟨_, _, ⟨T1, L1, k1, n1⟩, -, X1, ⟨Lc1, hQ1, l1, y1, z1⟩, st1⟩ := Jvm.LawKit.callS X0 hx (y := (⟨"com/example/rootward/rootward/model/InstanceGroupPinLaw", "lt", "(II)I"⟩ : MethodName)) hown (mvT hZ (own_w hw 21 rfl)) (mvT hZ (own_w hw 22 rfl)) (mvT hZ (own_w hw 16 rfl)) (mvT hZ (own_w hw 23 rfl)) (by decide) (backOf (W := 0) (rml l Z a0 hw [] w0 (0 : Int32) h0 n0 O0 ) hZ (own_w hw 23 rfl) (own_w hw 16 rfl) (by decide) (by decide)) (g := (mkF m 4 #[.val (.ref a), .val (.int (0 : Int32))] [(.int (0 : Int32)), (.int w0)])) rfl (by rw [hml]; rfl) (argsL := [(.int w0), (.int (0 : Int32))]) (rest := []) (lenOf pdb0_0 rfl) rfl (by show 2 * 0 + _ ≤ _; exact Nat.le_of_eq rfl) (hb hby db0_4) (fun _ _ => ⟨rfl, e0, (by decide : 0 + 0 ≤ _), (by decide : 0 + 0 ≤ _)⟩)
    dsimp only [Pt.U, Pt.locs, Pt.cells, Pt.slots] at X1 l1 y1 z1 st1 hQ1
    subst l1 y1 z1
    obtain ⟨rfl, Nc1, e1⟩ := hQ1
    have N1 := Fr.app N0 Nc1
    refine Go.st st1 ?_
    show Go p e below s _ _ _ (T1.setTop (mkF m 7 #[.val (.ref a), .val (.int (0 : Int32))] [(.int (fLt w0 (0 : Int32)))]))
    refine Go.st (fun _ kq_ => XS.aloadN X1.here hx rfl (hb hby db0_7) rfl rfl kq_) ?_
    show Go p e below s _ _ _ (T1.setTop (mkF m 8 #[.val (.ref a), .val (.int (0 : Int32))] [(.ref a), (.int (fLt w0 (0 : Int32)))]))
    refine Go.st (fun _ kq_ => XS.iconst X1.here hx rfl (hb hby db0_8) kq_) ?_
    show Go p e below s _ _ _ (T1.setTop (mkF m 9 #[.val (.ref a), .val (.int (0 : Int32))] [(.int (1 : Int32)), (.ref a), (.int (fLt w0 (0 : Int32)))]))
    refine Go.st (fun _ kq_ => own_iaload X1 hx hZ e1 V_a (by decide) (by decide) (v := (.int w1)) rfl (g := (mkF m 9 #[.val (.ref a), .val (.int (0 : Int32))] [(.int (1 : Int32)), (.ref a), (.int (fLt w0 (0 : Int32)))])) rfl rfl (hb hby db0_9) _ kq_) ?_
    show Go p e below s _ _ _ (T1.setTop (mkF m 10 #[.val (.ref a), .val (.int (0 : Int32))] [(.int w1), (.int (fLt w0 (0 : Int32)))]))
    refine Go.st (fun _ kq_ => XS.iloadN X1.here hx rfl (hb hby db0_10) rfl kq_) ?_
    show Go p e below s _ _ _ (T1.setTop (mkF m 11 #[.val (.ref a), .val (.int (0 : Int32))] [(.int (0 : Int32)), (.int w1), (.int (fLt w0 (0 : Int32)))]))
    obtain ⟨_, _, ⟨T2, L2, k2, n2⟩, -, X2, ⟨Lc2, hQ2, l2, y2, z2⟩, st2⟩ := Jvm.LawKit.callS X1 hx (y := (⟨"com/example/rootward/rootward/model/InstanceGroupPinLaw", "lt", "(II)I"⟩ : MethodName)) hown (mvT hZ (own_w hw 21 rfl)) (mvT hZ (own_w hw 22 rfl)) (mvT hZ (own_w hw 16 rfl)) (mvT hZ (own_w hw 23 rfl)) (by decide) (backOf (W := 1) (rml l Z a0 hw [] w1 (0 : Int32) h0 n0 O0 ) hZ (own_w hw 23 rfl) (own_w hw 16 rfl) (by decide) (by decide)) (g := (mkF m 11 #[.val (.ref a), .val (.int (0 : Int32))] [(.int (0 : Int32)), (.int w1), (.int (fLt w0 (0 : Int32)))])) rfl (by rw [hml]; rfl) (argsL := [(.int w1), (.int (0 : Int32))]) (rest := [(.int (fLt w0 (0 : Int32)))]) (lenOf pdb0_0 rfl) rfl (by show 2 * 0 + _ ≤ _; exact Nat.le_of_eq rfl) (hb hby db0_11) (fun _ _ => ⟨rfl, e1, (by decide : 0 + 0 ≤ _), (by decide : 0 + 0 ≤ _)⟩)
    dsimp only [Pt.U, Pt.locs, Pt.cells, Pt.slots] at X2 l2 y2 z2 st2 hQ2
    subst l2 y2 z2
    obtain ⟨rfl, Nc2, e2⟩ := hQ2
    have N2 := Fr.app N1 Nc2
    refine Go.st st2 ?_
    show Go p e below s _ _ _ (T2.setTop (mkF m 14 #[.val (.ref a), .val (.int (0 : Int32))] [(.int (fLt w1 (0 : Int32))), (.int (fLt w0 (0 : Int32)))]))
    refine Go.st (fun _ kq_ => XS.iadd X2.here hx rfl (hb hby db0_14) rfl kq_) ?_
    show Go p e below s _ _ _ (T2.setTop (mkF m 15 #[.val (.ref a), .val (.int (0 : Int32))] [(.int ((fLt w0 (0 : Int32)) + (fLt w1 (0 : Int32))))]))
    refine Go.st (fun _ kq_ => XS.aloadN X2.here hx rfl (hb hby db0_15) rfl rfl kq_) ?_
    show Go p e below s _ _ _ (T2.setTop (mkF m 16 #[.val (.ref a), .val (.int (0 : Int32))] [(.ref a), (.int ((fLt w0 (0 : Int32)) + (fLt w1 (0 : Int32))))]))
    refine Go.st (fun _ kq_ => XS.iconst X2.here hx rfl (hb hby db0_16) kq_) ?_
    show Go p e below s _ _ _ (T2.setTop (mkF m 17 #[.val (.ref a), .val (.int (0 : Int32))] [(.int (2 : Int32)), (.ref a), (.int ((fLt w0 (0 : Int32)) + (fLt w1 (0 : Int32))))]))
    refine Go.st (fun _ kq_ => own_iaload X2 hx hZ e2 V_a (by decide) (by decide) (v := (.int w2)) rfl (g := (mkF m 17 #[.val (.ref a), .val (.int (0 : Int32))] [(.int (2 : Int32)), (.ref a), (.int ((fLt w0 (0 : Int32)) + (fLt w1 (0 : Int32))))])) rfl rfl (hb hby db0_17) _ kq_) ?_
    show Go p e below s _ _ _ (T2.setTop (mkF m 18 #[.val (.ref a), .val (.int (0 : Int32))] [(.int w2), (.int ((fLt w0 (0 : Int32)) + (fLt w1 (0 : Int32))))]))
    refine Go.st (fun _ kq_ => XS.iloadN X2.here hx rfl (hb hby db0_18) rfl kq_) ?_
    show Go p e below s _ _ _ (T2.setTop (mkF m 19 #[.val (.ref a), .val (.int (0 : Int32))] [(.int (0 : Int32)), (.int w2), (.int ((fLt w0 (0 : Int32)) + (fLt w1 (0 : Int32))))]))
    obtain ⟨_, _, ⟨T3, L3, k3, n3⟩, -, X3, ⟨Lc3, hQ3, l3, y3, z3⟩, st3⟩ := Jvm.LawKit.callS X2 hx (y := (⟨"com/example/rootward/rootward/model/InstanceGroupPinLaw", "lt", "(II)I"⟩ : MethodName)) hown (mvT hZ (own_w hw 21 rfl)) (mvT hZ (own_w hw 22 rfl)) (mvT hZ (own_w hw 16 rfl)) (mvT hZ (own_w hw 23 rfl)) (by decide) (backOf (W := 1) (rml l Z a0 hw [] w2 (0 : Int32) h0 n0 O0 ) hZ (own_w hw 23 rfl) (own_w hw 16 rfl) (by decide) (by decide)) (g := (mkF m 19 #[.val (.ref a), .val (.int (0 : Int32))] [(.int (0 : Int32)), (.int w2), (.int ((fLt w0 (0 : Int32)) + (fLt w1 (0 : Int32))))])) rfl (by rw [hml]; rfl) (argsL := [(.int w2), (.int (0 : Int32))]) (rest := [(.int ((fLt w0 (0 : Int32)) + (fLt w1 (0 : Int32))))]) (lenOf pdb0_0 rfl) rfl (by show 2 * 0 + _ ≤ _; exact Nat.le_of_eq rfl) (hb hby db0_19) (fun _ _ => ⟨rfl, e2, (by decide : 0 + 0 ≤ _), (by decide : 0 + 0 ≤ _)⟩)
    dsimp only [Pt.U, Pt.locs, Pt.cells, Pt.slots] at X3 l3 y3 z3 st3 hQ3
    subst l3 y3 z3
    obtain ⟨rfl, Nc3, e3⟩ := hQ3
    have N3 := Fr.app N2 Nc3
    refine Go.st st3 ?_
    show Go p e below s _ _ _ (T3.setTop (mkF m 22 #[.val (.ref a), .val (.int (0 : Int32))] [(.int (fLt w2 (0 : Int32))), (.int ((fLt w0 (0 : Int32)) + (fLt w1 (0 : Int32))))]))
    refine Go.st (fun _ kq_ => XS.iadd X3.here hx rfl (hb hby db0_22) rfl kq_) ?_
    show Go p e below s _ _ _ (T3.setTop (mkF m 23 #[.val (.ref a), .val (.int (0 : Int32))] [(.int (((fLt w0 (0 : Int32)) + (fLt w1 (0 : Int32))) + (fLt w2 (0 : Int32))))]))
    refine Go.st (fun _ kq_ => XS.aloadN X3.here hx rfl (hb hby db0_23) rfl rfl kq_) ?_
    show Go p e below s _ _ _ (T3.setTop (mkF m 24 #[.val (.ref a), .val (.int (0 : Int32))] [(.ref a), (.int (((fLt w0 (0 : Int32)) + (fLt w1 (0 : Int32))) + (fLt w2 (0 : Int32))))]))
    refine Go.st (fun _ kq_ => XS.iconst X3.here hx rfl (hb hby db0_24) kq_) ?_
    show Go p e below s _ _ _ (T3.setTop (mkF m 25 #[.val (.ref a), .val (.int (0 : Int32))] [(.int (3 : Int32)), (.ref a), (.int (((fLt w0 (0 : Int32)) + (fLt w1 (0 : Int32))) + (fLt w2 (0 : Int32))))]))
    refine Go.st (fun _ kq_ => own_iaload X3 hx hZ e3 V_a (by decide) (by decide) (v := (.int w3)) rfl (g := (mkF m 25 #[.val (.ref a), .val (.int (0 : Int32))] [(.int (3 : Int32)), (.ref a), (.int (((fLt w0 (0 : Int32)) + (fLt w1 (0 : Int32))) + (fLt w2 (0 : Int32))))])) rfl rfl (hb hby db0_25) _ kq_) ?_
    show Go p e below s _ _ _ (T3.setTop (mkF m 26 #[.val (.ref a), .val (.int (0 : Int32))] [(.int w3), (.int (((fLt w0 (0 : Int32)) + (fLt w1 (0 : Int32))) + (fLt w2 (0 : Int32))))]))
    refine Go.st (fun _ kq_ => XS.iloadN X3.here hx rfl (hb hby db0_26) rfl kq_) ?_
    show Go p e below s _ _ _ (T3.setTop (mkF m 27 #[.val (.ref a), .val (.int (0 : Int32))] [(.int (0 : Int32)), (.int w3), (.int (((fLt w0 (0 : Int32)) + (fLt w1 (0 : Int32))) + (fLt w2 (0 : Int32))))]))
    obtain ⟨_, _, ⟨T4, L4, k4, n4⟩, -, X4, ⟨Lc4, hQ4, l4, y4, z4⟩, st4⟩ := Jvm.LawKit.callS X3 hx (y := (⟨"com/example/rootward/rootward/model/InstanceGroupPinLaw", "lt", "(II)I"⟩ : MethodName)) hown (mvT hZ (own_w hw 21 rfl)) (mvT hZ (own_w hw 22 rfl)) (mvT hZ (own_w hw 16 rfl)) (mvT hZ (own_w hw 23 rfl)) (by decide) (backOf (W := 1) (rml l Z a0 hw [] w3 (0 : Int32) h0 n0 O0 ) hZ (own_w hw 23 rfl) (own_w hw 16 rfl) (by decide) (by decide)) (g := (mkF m 27 #[.val (.ref a), .val (.int (0 : Int32))] [(.int (0 : Int32)), (.int w3), (.int (((fLt w0 (0 : Int32)) + (fLt w1 (0 : Int32))) + (fLt w2 (0 : Int32))))])) rfl (by rw [hml]; rfl) (argsL := [(.int w3), (.int (0 : Int32))]) (rest := [(.int (((fLt w0 (0 : Int32)) + (fLt w1 (0 : Int32))) + (fLt w2 (0 : Int32))))]) (lenOf pdb0_0 rfl) rfl (by show 2 * 0 + _ ≤ _; exact Nat.le_of_eq rfl) (hb hby db0_27) (fun _ _ => ⟨rfl, e3, (by decide : 0 + 0 ≤ _), (by decide : 0 + 0 ≤ _)⟩)
    dsimp only [Pt.U, Pt.locs, Pt.cells, Pt.slots] at X4 l4 y4 z4 st4 hQ4
    subst l4 y4 z4
    obtain ⟨rfl, Nc4, e4⟩ := hQ4
    have N4 := Fr.app N3 Nc4
    refine Go.st st4 ?_
    show Go p e below s _ _ _ (T4.setTop (mkF m 30 #[.val (.ref a), .val (.int (0 : Int32))] [(.int (fLt w3 (0 : Int32))), (.int (((fLt w0 (0 : Int32)) + (fLt w1 (0 : Int32))) + (fLt w2 (0 : Int32))))]))
    refine Go.st (fun _ kq_ => XS.iadd X4.here hx rfl (hb hby db0_30) rfl kq_) ?_
    show Go p e below s _ _ _ (T4.setTop (mkF m 31 #[.val (.ref a), .val (.int (0 : Int32))] [(.int ((((fLt w0 (0 : Int32)) + (fLt w1 (0 : Int32))) + (fLt w2 (0 : Int32))) + (fLt w3 (0 : Int32))))]))
    exact Go.ret X4 hlk (some (.int ((((fLt w0 (0 : Int32)) + (fLt w1 (0 : Int32))) + (fLt w2 (0 : Int32))) + (fLt w3 (0 : Int32))))) (fun h => by rw [Bd.returns] at h; cases h) (by rw [e4]; exact ⟨own_res (z' := ((((fLt w0 (0 : Int32)) + (fLt w1 (0 : Int32))) + (fLt w2 (0 : Int32))) + (fLt w3 (0 : Int32)))) rfl rfl, N4, rfl⟩) (by decide) (by decide) (fun fs hr => retI X4 hx Bd.returns (hb hby db0_31) hr)
  obtain ⟨s2, o2, st2, r2⟩ := G
  exact ⟨s2, o2, castTop (efb0 m a (0 : Int32)) st2, r2⟩
theorem db1_0 : decode method_5_code 0 = .ok (.aload_n 0, 1) := by decide +kernel
theorem db1_1 : decode method_5_code 1 = .ok (.iconst 0, 1) := by decide +kernel
theorem db1_2 : decode method_5_code 2 = .ok (.iaload, 1) := by decide +kernel
theorem db1_3 : decode method_5_code 3 = .ok (.iload_n 1, 1) := by decide +kernel
theorem db1_4 : decode method_5_code 4 = .ok (.invokestatic 26, 3) := by decide +kernel
theorem db1_7 : decode method_5_code 7 = .ok (.aload_n 0, 1) := by decide +kernel
theorem db1_8 : decode method_5_code 8 = .ok (.iconst 1, 1) := by decide +kernel
theorem db1_9 : decode method_5_code 9 = .ok (.iaload, 1) := by decide +kernel
theorem db1_10 : decode method_5_code 10 = .ok (.iload_n 1, 1) := by decide +kernel
theorem db1_11 : decode method_5_code 11 = .ok (.invokestatic 26, 3) := by decide +kernel
theorem db1_14 : decode method_5_code 14 = .ok (.iadd, 1) := by decide +kernel
theorem db1_15 : decode method_5_code 15 = .ok (.aload_n 0, 1) := by decide +kernel
theorem db1_16 : decode method_5_code 16 = .ok (.iconst 2, 1) := by decide +kernel
theorem db1_17 : decode method_5_code 17 = .ok (.iaload, 1) := by decide +kernel
theorem db1_18 : decode method_5_code 18 = .ok (.iload_n 1, 1) := by decide +kernel
theorem db1_19 : decode method_5_code 19 = .ok (.invokestatic 26, 3) := by decide +kernel
theorem db1_22 : decode method_5_code 22 = .ok (.iadd, 1) := by decide +kernel
theorem db1_23 : decode method_5_code 23 = .ok (.aload_n 0, 1) := by decide +kernel
theorem db1_24 : decode method_5_code 24 = .ok (.iconst 3, 1) := by decide +kernel
theorem db1_25 : decode method_5_code 25 = .ok (.iaload, 1) := by decide +kernel
theorem db1_26 : decode method_5_code 26 = .ok (.iload_n 1, 1) := by decide +kernel
theorem db1_27 : decode method_5_code 27 = .ok (.invokestatic 26, 3) := by decide +kernel
theorem db1_30 : decode method_5_code 30 = .ok (.iadd, 1) := by decide +kernel
theorem db1_31 : decode method_5_code 31 = .ok (.ireturn, 1) := by decide +kernel
theorem pdb1_0 : parseMethodDescriptor "(II)I" = some ⟨[.int, .int], some .int⟩ := by decide +kernel
theorem pnb1 : plainName "com/example/rootward/rootward/model/InstanceGroupPinLaw" = true := by first | (simp [plainName, overriddenIn]; done) | decide +kernel
theorem efb1 (m : MethodId) (x0 : Addr) (x1 : Int32) : entryFrame m #[(.ref x0), (.int x1)] 2 = mkF m 0 #[.val (.ref x0), .val (.int x1)] [] := by first | (simp [entryFrame, mkF, argsToLocals, Value.category, maxLocals]; done) | rfl
def fB1 (w0 : Int32) (w1 : Int32) (w2 : Int32) (w3 : Int32) : Int32 := ((((fLt w0 (1 : Int32)) + (fLt w1 (1 : Int32))) + (fLt w2 (1 : Int32))) + (fLt w3 (1 : Int32)))
def Qb1 (Z : State) (a : Addr) (ka : ClassId) (w0 : Int32) (w1 : Int32) (w2 : Int32) (w3 : Int32) (h0 : Heap) (n0 : Nat) (v : Option Value) (h : Heap) (L : List Loc) : Prop := v = some (.int (fB1 w0 w1 w2 w3)) ∧ Fr n0 L ∧ h = h0
set_option maxRecDepth 65536 in
set_option maxHeartbeats 40000000 in
theorem rmb1 (l : Launch) (Z : State) (a0 : Array Value) (hw : ∀ d ∈ tables_1, d.before a0 Z = true) (ws : List Jvm.Cond) (a : Addr) (ka : ClassId) (w0 : Int32) (w1 : Int32) (w2 : Int32) (w3 : Int32) (h0 : Heap) (n0 : Nat) (O0 : Old Z n0 h0) (V_a : Arv Z h0 a ka .int (4 : Int32) [(.int w0), (.int w1), (.int w2), (.int w3)] (.int (0 : Int32))) :
    MetFree l (⟨"com/example/rootward/rootward/model/InstanceGroupPinLaw", "below", "([II)I"⟩ : MethodName) (head1 (Jvm.Cond.code (⟨"com/example/rootward/rootward/model/InstanceGroupPinLaw", "below", "([II)I"⟩ : MethodName) method_5_code 2 (some .int) :: ws) ({ frames := 1, cells := 0, slots := 0, locals := 14 } : Room)) (fun A_ U_ => A_ = #[(.ref a), (.int (1 : Int32))] ∧ Z.Warmed39 U_.vm ∧ U_.heap = h0) (fun _ _ _ _ _ => True) (fun _ U o U' => ∃ v L, o = .returned v ∧ Qb1 Z a ka w0 w1 w2 w3 h0 n0 v U'.heap L ∧ FrameEnd U o U' L ({ frames := 1, cells := 0, slots := 0, locals := 14 } : Room).cells ({ frames := 1, cells := 0, slots := 0, locals := 14 } : Room).slots) := by
  refine MetFree.of_bodySF (plainFor_of_name pnb1) hisR ?_
  intro p e s m args below meth cd s₁ Bd hml0 hP hK
  obtain ⟨rfl, hZ, hh⟩ := hP
  have hx := Bd.exec
  have hby := Bd.bytes
  have hlk : meth.locks = false := BodyLoose.notSynchronized Bd
  have hml : cd.maxLocals = 2 := hml0
  have hown : s.vm.findClass "com/example/rootward/rootward/model/InstanceGroupPinLaw" = some m.cls := findClass_of_methodNamed Bd.named
  have hnm := (name_of_methodNamed Bd.named Bd.method).1
  have X0 : Stand p l e ({ frames := 1, cells := 0, slots := 0, locals := 14 } : Room) s m #[(.ref a), (.int (1 : Int32))] below meth cd s₁ [] 0 0 := Stand.of_body Bd
  have e0 : s₁.heap = h0 := by rw [← hh, Bd.state]; rfl
  have N0 := Fr.nil n0
  have G : Go p e below s 0 0 (Qb1 Z a ka w0 w1 w2 w3 h0 n0) (s₁.setTop (mkF m 0 #[.val (.ref a), .val (.int (1 : Int32))] [])) := by
    show Go p e below s _ _ _ (s₁.setTop (mkF m 0 #[.val (.ref a), .val (.int (1 : Int32))] []))
    refine Go.st (fun _ kq_ => XS.aloadN X0.here hx rfl (hb hby db1_0) rfl rfl kq_) ?_
    show Go p e below s _ _ _ (s₁.setTop (mkF m 1 #[.val (.ref a), .val (.int (1 : Int32))] [(.ref a)]))
    refine Go.st (fun _ kq_ => XS.iconst X0.here hx rfl (hb hby db1_1) kq_) ?_
    show Go p e below s _ _ _ (s₁.setTop (mkF m 2 #[.val (.ref a), .val (.int (1 : Int32))] [(.int (0 : Int32)), (.ref a)]))
    refine Go.st (fun _ kq_ => own_iaload X0 hx hZ e0 V_a (by decide) (by decide) (v := (.int w0)) rfl (g := (mkF m 2 #[.val (.ref a), .val (.int (1 : Int32))] [(.int (0 : Int32)), (.ref a)])) rfl rfl (hb hby db1_2) _ kq_) ?_
    show Go p e below s _ _ _ (s₁.setTop (mkF m 3 #[.val (.ref a), .val (.int (1 : Int32))] [(.int w0)]))
    refine Go.st (fun _ kq_ => XS.iloadN X0.here hx rfl (hb hby db1_3) rfl kq_) ?_
    show Go p e below s _ _ _ (s₁.setTop (mkF m 4 #[.val (.ref a), .val (.int (1 : Int32))] [(.int (1 : Int32)), (.int w0)]))
    obtain ⟨_, _, ⟨T1, L1, k1, n1⟩, -, X1, ⟨Lc1, hQ1, l1, y1, z1⟩, st1⟩ := Jvm.LawKit.callS X0 hx (y := (⟨"com/example/rootward/rootward/model/InstanceGroupPinLaw", "lt", "(II)I"⟩ : MethodName)) hown (mvT hZ (own_w hw 21 rfl)) (mvT hZ (own_w hw 22 rfl)) (mvT hZ (own_w hw 16 rfl)) (mvT hZ (own_w hw 23 rfl)) (by decide) (backOf (W := 0) (rml l Z a0 hw [] w0 (1 : Int32) h0 n0 O0 ) hZ (own_w hw 23 rfl) (own_w hw 16 rfl) (by decide) (by decide)) (g := (mkF m 4 #[.val (.ref a), .val (.int (1 : Int32))] [(.int (1 : Int32)), (.int w0)])) rfl (by rw [hml]; rfl) (argsL := [(.int w0), (.int (1 : Int32))]) (rest := []) (lenOf pdb1_0 rfl) rfl (by show 2 * 0 + _ ≤ _; exact Nat.le_of_eq rfl) (hb hby db1_4) (fun _ _ => ⟨rfl, e0, (by decide : 0 + 0 ≤ _), (by decide : 0 + 0 ≤ _)⟩)
    dsimp only [Pt.U, Pt.locs, Pt.cells, Pt.slots] at X1 l1 y1 z1 st1 hQ1
    subst l1 y1 z1
    obtain ⟨rfl, Nc1, e1⟩ := hQ1
    have N1 := Fr.app N0 Nc1
    refine Go.st st1 ?_
    show Go p e below s _ _ _ (T1.setTop (mkF m 7 #[.val (.ref a), .val (.int (1 : Int32))] [(.int (fLt w0 (1 : Int32)))]))
    refine Go.st (fun _ kq_ => XS.aloadN X1.here hx rfl (hb hby db1_7) rfl rfl kq_) ?_
    show Go p e below s _ _ _ (T1.setTop (mkF m 8 #[.val (.ref a), .val (.int (1 : Int32))] [(.ref a), (.int (fLt w0 (1 : Int32)))]))
    refine Go.st (fun _ kq_ => XS.iconst X1.here hx rfl (hb hby db1_8) kq_) ?_
    show Go p e below s _ _ _ (T1.setTop (mkF m 9 #[.val (.ref a), .val (.int (1 : Int32))] [(.int (1 : Int32)), (.ref a), (.int (fLt w0 (1 : Int32)))]))
    refine Go.st (fun _ kq_ => own_iaload X1 hx hZ e1 V_a (by decide) (by decide) (v := (.int w1)) rfl (g := (mkF m 9 #[.val (.ref a), .val (.int (1 : Int32))] [(.int (1 : Int32)), (.ref a), (.int (fLt w0 (1 : Int32)))])) rfl rfl (hb hby db1_9) _ kq_) ?_
    show Go p e below s _ _ _ (T1.setTop (mkF m 10 #[.val (.ref a), .val (.int (1 : Int32))] [(.int w1), (.int (fLt w0 (1 : Int32)))]))
    refine Go.st (fun _ kq_ => XS.iloadN X1.here hx rfl (hb hby db1_10) rfl kq_) ?_
    show Go p e below s _ _ _ (T1.setTop (mkF m 11 #[.val (.ref a), .val (.int (1 : Int32))] [(.int (1 : Int32)), (.int w1), (.int (fLt w0 (1 : Int32)))]))
    obtain ⟨_, _, ⟨T2, L2, k2, n2⟩, -, X2, ⟨Lc2, hQ2, l2, y2, z2⟩, st2⟩ := Jvm.LawKit.callS X1 hx (y := (⟨"com/example/rootward/rootward/model/InstanceGroupPinLaw", "lt", "(II)I"⟩ : MethodName)) hown (mvT hZ (own_w hw 21 rfl)) (mvT hZ (own_w hw 22 rfl)) (mvT hZ (own_w hw 16 rfl)) (mvT hZ (own_w hw 23 rfl)) (by decide) (backOf (W := 1) (rml l Z a0 hw [] w1 (1 : Int32) h0 n0 O0 ) hZ (own_w hw 23 rfl) (own_w hw 16 rfl) (by decide) (by decide)) (g := (mkF m 11 #[.val (.ref a), .val (.int (1 : Int32))] [(.int (1 : Int32)), (.int w1), (.int (fLt w0 (1 : Int32)))])) rfl (by rw [hml]; rfl) (argsL := [(.int w1), (.int (1 : Int32))]) (rest := [(.int (fLt w0 (1 : Int32)))]) (lenOf pdb1_0 rfl) rfl (by show 2 * 0 + _ ≤ _; exact Nat.le_of_eq rfl) (hb hby db1_11) (fun _ _ => ⟨rfl, e1, (by decide : 0 + 0 ≤ _), (by decide : 0 + 0 ≤ _)⟩)
    dsimp only [Pt.U, Pt.locs, Pt.cells, Pt.slots] at X2 l2 y2 z2 st2 hQ2
    subst l2 y2 z2
    obtain ⟨rfl, Nc2, e2⟩ := hQ2
    have N2 := Fr.app N1 Nc2
    refine Go.st st2 ?_
    show Go p e below s _ _ _ (T2.setTop (mkF m 14 #[.val (.ref a), .val (.int (1 : Int32))] [(.int (fLt w1 (1 : Int32))), (.int (fLt w0 (1 : Int32)))]))
    refine Go.st (fun _ kq_ => XS.iadd X2.here hx rfl (hb hby db1_14) rfl kq_) ?_
    show Go p e below s _ _ _ (T2.setTop (mkF m 15 #[.val (.ref a), .val (.int (1 : Int32))] [(.int ((fLt w0 (1 : Int32)) + (fLt w1 (1 : Int32))))]))
    refine Go.st (fun _ kq_ => XS.aloadN X2.here hx rfl (hb hby db1_15) rfl rfl kq_) ?_
    show Go p e below s _ _ _ (T2.setTop (mkF m 16 #[.val (.ref a), .val (.int (1 : Int32))] [(.ref a), (.int ((fLt w0 (1 : Int32)) + (fLt w1 (1 : Int32))))]))
    refine Go.st (fun _ kq_ => XS.iconst X2.here hx rfl (hb hby db1_16) kq_) ?_
    show Go p e below s _ _ _ (T2.setTop (mkF m 17 #[.val (.ref a), .val (.int (1 : Int32))] [(.int (2 : Int32)), (.ref a), (.int ((fLt w0 (1 : Int32)) + (fLt w1 (1 : Int32))))]))
    refine Go.st (fun _ kq_ => own_iaload X2 hx hZ e2 V_a (by decide) (by decide) (v := (.int w2)) rfl (g := (mkF m 17 #[.val (.ref a), .val (.int (1 : Int32))] [(.int (2 : Int32)), (.ref a), (.int ((fLt w0 (1 : Int32)) + (fLt w1 (1 : Int32))))])) rfl rfl (hb hby db1_17) _ kq_) ?_
    show Go p e below s _ _ _ (T2.setTop (mkF m 18 #[.val (.ref a), .val (.int (1 : Int32))] [(.int w2), (.int ((fLt w0 (1 : Int32)) + (fLt w1 (1 : Int32))))]))
    refine Go.st (fun _ kq_ => XS.iloadN X2.here hx rfl (hb hby db1_18) rfl kq_) ?_
    show Go p e below s _ _ _ (T2.setTop (mkF m 19 #[.val (.ref a), .val (.int (1 : Int32))] [(.int (1 : Int32)), (.int w2), (.int ((fLt w0 (1 : Int32)) + (fLt w1 (1 : Int32))))]))
    obtain ⟨_, _, ⟨T3, L3, k3, n3⟩, -, X3, ⟨Lc3, hQ3, l3, y3, z3⟩, st3⟩ := Jvm.LawKit.callS X2 hx (y := (⟨"com/example/rootward/rootward/model/InstanceGroupPinLaw", "lt", "(II)I"⟩ : MethodName)) hown (mvT hZ (own_w hw 21 rfl)) (mvT hZ (own_w hw 22 rfl)) (mvT hZ (own_w hw 16 rfl)) (mvT hZ (own_w hw 23 rfl)) (by decide) (backOf (W := 1) (rml l Z a0 hw [] w2 (1 : Int32) h0 n0 O0 ) hZ (own_w hw 23 rfl) (own_w hw 16 rfl) (by decide) (by decide)) (g := (mkF m 19 #[.val (.ref a), .val (.int (1 : Int32))] [(.int (1 : Int32)), (.int w2), (.int ((fLt w0 (1 : Int32)) + (fLt w1 (1 : Int32))))])) rfl (by rw [hml]; rfl) (argsL := [(.int w2), (.int (1 : Int32))]) (rest := [(.int ((fLt w0 (1 : Int32)) + (fLt w1 (1 : Int32))))]) (lenOf pdb1_0 rfl) rfl (by show 2 * 0 + _ ≤ _; exact Nat.le_of_eq rfl) (hb hby db1_19) (fun _ _ => ⟨rfl, e2, (by decide : 0 + 0 ≤ _), (by decide : 0 + 0 ≤ _)⟩)
    dsimp only [Pt.U, Pt.locs, Pt.cells, Pt.slots] at X3 l3 y3 z3 st3 hQ3
    subst l3 y3 z3
    obtain ⟨rfl, Nc3, e3⟩ := hQ3
    have N3 := Fr.app N2 Nc3
    refine Go.st st3 ?_
    show Go p e below s _ _ _ (T3.setTop (mkF m 22 #[.val (.ref a), .val (.int (1 : Int32))] [(.int (fLt w2 (1 : Int32))), (.int ((fLt w0 (1 : Int32)) + (fLt w1 (1 : Int32))))]))
    refine Go.st (fun _ kq_ => XS.iadd X3.here hx rfl (hb hby db1_22) rfl kq_) ?_
    show Go p e below s _ _ _ (T3.setTop (mkF m 23 #[.val (.ref a), .val (.int (1 : Int32))] [(.int (((fLt w0 (1 : Int32)) + (fLt w1 (1 : Int32))) + (fLt w2 (1 : Int32))))]))
    refine Go.st (fun _ kq_ => XS.aloadN X3.here hx rfl (hb hby db1_23) rfl rfl kq_) ?_
    show Go p e below s _ _ _ (T3.setTop (mkF m 24 #[.val (.ref a), .val (.int (1 : Int32))] [(.ref a), (.int (((fLt w0 (1 : Int32)) + (fLt w1 (1 : Int32))) + (fLt w2 (1 : Int32))))]))
    refine Go.st (fun _ kq_ => XS.iconst X3.here hx rfl (hb hby db1_24) kq_) ?_
    show Go p e below s _ _ _ (T3.setTop (mkF m 25 #[.val (.ref a), .val (.int (1 : Int32))] [(.int (3 : Int32)), (.ref a), (.int (((fLt w0 (1 : Int32)) + (fLt w1 (1 : Int32))) + (fLt w2 (1 : Int32))))]))
    refine Go.st (fun _ kq_ => own_iaload X3 hx hZ e3 V_a (by decide) (by decide) (v := (.int w3)) rfl (g := (mkF m 25 #[.val (.ref a), .val (.int (1 : Int32))] [(.int (3 : Int32)), (.ref a), (.int (((fLt w0 (1 : Int32)) + (fLt w1 (1 : Int32))) + (fLt w2 (1 : Int32))))])) rfl rfl (hb hby db1_25) _ kq_) ?_
    show Go p e below s _ _ _ (T3.setTop (mkF m 26 #[.val (.ref a), .val (.int (1 : Int32))] [(.int w3), (.int (((fLt w0 (1 : Int32)) + (fLt w1 (1 : Int32))) + (fLt w2 (1 : Int32))))]))
    refine Go.st (fun _ kq_ => XS.iloadN X3.here hx rfl (hb hby db1_26) rfl kq_) ?_
    show Go p e below s _ _ _ (T3.setTop (mkF m 27 #[.val (.ref a), .val (.int (1 : Int32))] [(.int (1 : Int32)), (.int w3), (.int (((fLt w0 (1 : Int32)) + (fLt w1 (1 : Int32))) + (fLt w2 (1 : Int32))))]))
    obtain ⟨_, _, ⟨T4, L4, k4, n4⟩, -, X4, ⟨Lc4, hQ4, l4, y4, z4⟩, st4⟩ := Jvm.LawKit.callS X3 hx (y := (⟨"com/example/rootward/rootward/model/InstanceGroupPinLaw", "lt", "(II)I"⟩ : MethodName)) hown (mvT hZ (own_w hw 21 rfl)) (mvT hZ (own_w hw 22 rfl)) (mvT hZ (own_w hw 16 rfl)) (mvT hZ (own_w hw 23 rfl)) (by decide) (backOf (W := 1) (rml l Z a0 hw [] w3 (1 : Int32) h0 n0 O0 ) hZ (own_w hw 23 rfl) (own_w hw 16 rfl) (by decide) (by decide)) (g := (mkF m 27 #[.val (.ref a), .val (.int (1 : Int32))] [(.int (1 : Int32)), (.int w3), (.int (((fLt w0 (1 : Int32)) + (fLt w1 (1 : Int32))) + (fLt w2 (1 : Int32))))])) rfl (by rw [hml]; rfl) (argsL := [(.int w3), (.int (1 : Int32))]) (rest := [(.int (((fLt w0 (1 : Int32)) + (fLt w1 (1 : Int32))) + (fLt w2 (1 : Int32))))]) (lenOf pdb1_0 rfl) rfl (by show 2 * 0 + _ ≤ _; exact Nat.le_of_eq rfl) (hb hby db1_27) (fun _ _ => ⟨rfl, e3, (by decide : 0 + 0 ≤ _), (by decide : 0 + 0 ≤ _)⟩)
    dsimp only [Pt.U, Pt.locs, Pt.cells, Pt.slots] at X4 l4 y4 z4 st4 hQ4
    subst l4 y4 z4
    obtain ⟨rfl, Nc4, e4⟩ := hQ4
    have N4 := Fr.app N3 Nc4
    refine Go.st st4 ?_
    show Go p e below s _ _ _ (T4.setTop (mkF m 30 #[.val (.ref a), .val (.int (1 : Int32))] [(.int (fLt w3 (1 : Int32))), (.int (((fLt w0 (1 : Int32)) + (fLt w1 (1 : Int32))) + (fLt w2 (1 : Int32))))]))
    refine Go.st (fun _ kq_ => XS.iadd X4.here hx rfl (hb hby db1_30) rfl kq_) ?_
    show Go p e below s _ _ _ (T4.setTop (mkF m 31 #[.val (.ref a), .val (.int (1 : Int32))] [(.int ((((fLt w0 (1 : Int32)) + (fLt w1 (1 : Int32))) + (fLt w2 (1 : Int32))) + (fLt w3 (1 : Int32))))]))
    exact Go.ret X4 hlk (some (.int ((((fLt w0 (1 : Int32)) + (fLt w1 (1 : Int32))) + (fLt w2 (1 : Int32))) + (fLt w3 (1 : Int32))))) (fun h => by rw [Bd.returns] at h; cases h) (by rw [e4]; exact ⟨own_res (z' := ((((fLt w0 (1 : Int32)) + (fLt w1 (1 : Int32))) + (fLt w2 (1 : Int32))) + (fLt w3 (1 : Int32)))) rfl rfl, N4, rfl⟩) (by decide) (by decide) (fun fs hr => retI X4 hx Bd.returns (hb hby db1_31) hr)
  obtain ⟨s2, o2, st2, r2⟩ := G
  exact ⟨s2, o2, castTop (efb1 m a (1 : Int32)) st2, r2⟩
theorem db2_0 : decode method_5_code 0 = .ok (.aload_n 0, 1) := by decide +kernel
theorem db2_1 : decode method_5_code 1 = .ok (.iconst 0, 1) := by decide +kernel
theorem db2_2 : decode method_5_code 2 = .ok (.iaload, 1) := by decide +kernel
theorem db2_3 : decode method_5_code 3 = .ok (.iload_n 1, 1) := by decide +kernel
theorem db2_4 : decode method_5_code 4 = .ok (.invokestatic 26, 3) := by decide +kernel
theorem db2_7 : decode method_5_code 7 = .ok (.aload_n 0, 1) := by decide +kernel
theorem db2_8 : decode method_5_code 8 = .ok (.iconst 1, 1) := by decide +kernel
theorem db2_9 : decode method_5_code 9 = .ok (.iaload, 1) := by decide +kernel
theorem db2_10 : decode method_5_code 10 = .ok (.iload_n 1, 1) := by decide +kernel
theorem db2_11 : decode method_5_code 11 = .ok (.invokestatic 26, 3) := by decide +kernel
theorem db2_14 : decode method_5_code 14 = .ok (.iadd, 1) := by decide +kernel
theorem db2_15 : decode method_5_code 15 = .ok (.aload_n 0, 1) := by decide +kernel
theorem db2_16 : decode method_5_code 16 = .ok (.iconst 2, 1) := by decide +kernel
theorem db2_17 : decode method_5_code 17 = .ok (.iaload, 1) := by decide +kernel
theorem db2_18 : decode method_5_code 18 = .ok (.iload_n 1, 1) := by decide +kernel
theorem db2_19 : decode method_5_code 19 = .ok (.invokestatic 26, 3) := by decide +kernel
theorem db2_22 : decode method_5_code 22 = .ok (.iadd, 1) := by decide +kernel
theorem db2_23 : decode method_5_code 23 = .ok (.aload_n 0, 1) := by decide +kernel
theorem db2_24 : decode method_5_code 24 = .ok (.iconst 3, 1) := by decide +kernel
theorem db2_25 : decode method_5_code 25 = .ok (.iaload, 1) := by decide +kernel
theorem db2_26 : decode method_5_code 26 = .ok (.iload_n 1, 1) := by decide +kernel
theorem db2_27 : decode method_5_code 27 = .ok (.invokestatic 26, 3) := by decide +kernel
theorem db2_30 : decode method_5_code 30 = .ok (.iadd, 1) := by decide +kernel
theorem db2_31 : decode method_5_code 31 = .ok (.ireturn, 1) := by decide +kernel
theorem pdb2_0 : parseMethodDescriptor "(II)I" = some ⟨[.int, .int], some .int⟩ := by decide +kernel
theorem pnb2 : plainName "com/example/rootward/rootward/model/InstanceGroupPinLaw" = true := by first | (simp [plainName, overriddenIn]; done) | decide +kernel
theorem efb2 (m : MethodId) (x0 : Addr) (x1 : Int32) : entryFrame m #[(.ref x0), (.int x1)] 2 = mkF m 0 #[.val (.ref x0), .val (.int x1)] [] := by first | (simp [entryFrame, mkF, argsToLocals, Value.category, maxLocals]; done) | rfl
def fB2 (w0 : Int32) (w1 : Int32) (w2 : Int32) (w3 : Int32) : Int32 := ((((fLt w0 (2 : Int32)) + (fLt w1 (2 : Int32))) + (fLt w2 (2 : Int32))) + (fLt w3 (2 : Int32)))
def Qb2 (Z : State) (a : Addr) (ka : ClassId) (w0 : Int32) (w1 : Int32) (w2 : Int32) (w3 : Int32) (h0 : Heap) (n0 : Nat) (v : Option Value) (h : Heap) (L : List Loc) : Prop := v = some (.int (fB2 w0 w1 w2 w3)) ∧ Fr n0 L ∧ h = h0
set_option maxRecDepth 65536 in
set_option maxHeartbeats 40000000 in
theorem rmb2 (l : Launch) (Z : State) (a0 : Array Value) (hw : ∀ d ∈ tables_1, d.before a0 Z = true) (ws : List Jvm.Cond) (a : Addr) (ka : ClassId) (w0 : Int32) (w1 : Int32) (w2 : Int32) (w3 : Int32) (h0 : Heap) (n0 : Nat) (O0 : Old Z n0 h0) (V_a : Arv Z h0 a ka .int (4 : Int32) [(.int w0), (.int w1), (.int w2), (.int w3)] (.int (0 : Int32))) :
    MetFree l (⟨"com/example/rootward/rootward/model/InstanceGroupPinLaw", "below", "([II)I"⟩ : MethodName) (head1 (Jvm.Cond.code (⟨"com/example/rootward/rootward/model/InstanceGroupPinLaw", "below", "([II)I"⟩ : MethodName) method_5_code 2 (some .int) :: ws) ({ frames := 1, cells := 0, slots := 0, locals := 14 } : Room)) (fun A_ U_ => A_ = #[(.ref a), (.int (2 : Int32))] ∧ Z.Warmed39 U_.vm ∧ U_.heap = h0) (fun _ _ _ _ _ => True) (fun _ U o U' => ∃ v L, o = .returned v ∧ Qb2 Z a ka w0 w1 w2 w3 h0 n0 v U'.heap L ∧ FrameEnd U o U' L ({ frames := 1, cells := 0, slots := 0, locals := 14 } : Room).cells ({ frames := 1, cells := 0, slots := 0, locals := 14 } : Room).slots) := by
  refine MetFree.of_bodySF (plainFor_of_name pnb2) hisR ?_
  intro p e s m args below meth cd s₁ Bd hml0 hP hK
  obtain ⟨rfl, hZ, hh⟩ := hP
  have hx := Bd.exec
  have hby := Bd.bytes
  have hlk : meth.locks = false := BodyLoose.notSynchronized Bd
  have hml : cd.maxLocals = 2 := hml0
  have hown : s.vm.findClass "com/example/rootward/rootward/model/InstanceGroupPinLaw" = some m.cls := findClass_of_methodNamed Bd.named
  have hnm := (name_of_methodNamed Bd.named Bd.method).1
  have X0 : Stand p l e ({ frames := 1, cells := 0, slots := 0, locals := 14 } : Room) s m #[(.ref a), (.int (2 : Int32))] below meth cd s₁ [] 0 0 := Stand.of_body Bd
  have e0 : s₁.heap = h0 := by rw [← hh, Bd.state]; rfl
  have N0 := Fr.nil n0
  have G : Go p e below s 0 0 (Qb2 Z a ka w0 w1 w2 w3 h0 n0) (s₁.setTop (mkF m 0 #[.val (.ref a), .val (.int (2 : Int32))] [])) := by
    show Go p e below s _ _ _ (s₁.setTop (mkF m 0 #[.val (.ref a), .val (.int (2 : Int32))] []))
    refine Go.st (fun _ kq_ => XS.aloadN X0.here hx rfl (hb hby db2_0) rfl rfl kq_) ?_
    show Go p e below s _ _ _ (s₁.setTop (mkF m 1 #[.val (.ref a), .val (.int (2 : Int32))] [(.ref a)]))
    refine Go.st (fun _ kq_ => XS.iconst X0.here hx rfl (hb hby db2_1) kq_) ?_
    show Go p e below s _ _ _ (s₁.setTop (mkF m 2 #[.val (.ref a), .val (.int (2 : Int32))] [(.int (0 : Int32)), (.ref a)]))
    refine Go.st (fun _ kq_ => own_iaload X0 hx hZ e0 V_a (by decide) (by decide) (v := (.int w0)) rfl (g := (mkF m 2 #[.val (.ref a), .val (.int (2 : Int32))] [(.int (0 : Int32)), (.ref a)])) rfl rfl (hb hby db2_2) _ kq_) ?_
    show Go p e below s _ _ _ (s₁.setTop (mkF m 3 #[.val (.ref a), .val (.int (2 : Int32))] [(.int w0)]))
    refine Go.st (fun _ kq_ => XS.iloadN X0.here hx rfl (hb hby db2_3) rfl kq_) ?_
    show Go p e below s _ _ _ (s₁.setTop (mkF m 4 #[.val (.ref a), .val (.int (2 : Int32))] [(.int (2 : Int32)), (.int w0)]))
    obtain ⟨_, _, ⟨T1, L1, k1, n1⟩, -, X1, ⟨Lc1, hQ1, l1, y1, z1⟩, st1⟩ := Jvm.LawKit.callS X0 hx (y := (⟨"com/example/rootward/rootward/model/InstanceGroupPinLaw", "lt", "(II)I"⟩ : MethodName)) hown (mvT hZ (own_w hw 21 rfl)) (mvT hZ (own_w hw 22 rfl)) (mvT hZ (own_w hw 16 rfl)) (mvT hZ (own_w hw 23 rfl)) (by decide) (backOf (W := 0) (rml l Z a0 hw [] w0 (2 : Int32) h0 n0 O0 ) hZ (own_w hw 23 rfl) (own_w hw 16 rfl) (by decide) (by decide)) (g := (mkF m 4 #[.val (.ref a), .val (.int (2 : Int32))] [(.int (2 : Int32)), (.int w0)])) rfl (by rw [hml]; rfl) (argsL := [(.int w0), (.int (2 : Int32))]) (rest := []) (lenOf pdb2_0 rfl) rfl (by show 2 * 0 + _ ≤ _; exact Nat.le_of_eq rfl) (hb hby db2_4) (fun _ _ => ⟨rfl, e0, (by decide : 0 + 0 ≤ _), (by decide : 0 + 0 ≤ _)⟩)
    dsimp only [Pt.U, Pt.locs, Pt.cells, Pt.slots] at X1 l1 y1 z1 st1 hQ1
    subst l1 y1 z1
    obtain ⟨rfl, Nc1, e1⟩ := hQ1
    have N1 := Fr.app N0 Nc1
    refine Go.st st1 ?_
    show Go p e below s _ _ _ (T1.setTop (mkF m 7 #[.val (.ref a), .val (.int (2 : Int32))] [(.int (fLt w0 (2 : Int32)))]))
    refine Go.st (fun _ kq_ => XS.aloadN X1.here hx rfl (hb hby db2_7) rfl rfl kq_) ?_
    show Go p e below s _ _ _ (T1.setTop (mkF m 8 #[.val (.ref a), .val (.int (2 : Int32))] [(.ref a), (.int (fLt w0 (2 : Int32)))]))
    refine Go.st (fun _ kq_ => XS.iconst X1.here hx rfl (hb hby db2_8) kq_) ?_
    show Go p e below s _ _ _ (T1.setTop (mkF m 9 #[.val (.ref a), .val (.int (2 : Int32))] [(.int (1 : Int32)), (.ref a), (.int (fLt w0 (2 : Int32)))]))
    refine Go.st (fun _ kq_ => own_iaload X1 hx hZ e1 V_a (by decide) (by decide) (v := (.int w1)) rfl (g := (mkF m 9 #[.val (.ref a), .val (.int (2 : Int32))] [(.int (1 : Int32)), (.ref a), (.int (fLt w0 (2 : Int32)))])) rfl rfl (hb hby db2_9) _ kq_) ?_
    show Go p e below s _ _ _ (T1.setTop (mkF m 10 #[.val (.ref a), .val (.int (2 : Int32))] [(.int w1), (.int (fLt w0 (2 : Int32)))]))
    refine Go.st (fun _ kq_ => XS.iloadN X1.here hx rfl (hb hby db2_10) rfl kq_) ?_
    show Go p e below s _ _ _ (T1.setTop (mkF m 11 #[.val (.ref a), .val (.int (2 : Int32))] [(.int (2 : Int32)), (.int w1), (.int (fLt w0 (2 : Int32)))]))
    obtain ⟨_, _, ⟨T2, L2, k2, n2⟩, -, X2, ⟨Lc2, hQ2, l2, y2, z2⟩, st2⟩ := Jvm.LawKit.callS X1 hx (y := (⟨"com/example/rootward/rootward/model/InstanceGroupPinLaw", "lt", "(II)I"⟩ : MethodName)) hown (mvT hZ (own_w hw 21 rfl)) (mvT hZ (own_w hw 22 rfl)) (mvT hZ (own_w hw 16 rfl)) (mvT hZ (own_w hw 23 rfl)) (by decide) (backOf (W := 1) (rml l Z a0 hw [] w1 (2 : Int32) h0 n0 O0 ) hZ (own_w hw 23 rfl) (own_w hw 16 rfl) (by decide) (by decide)) (g := (mkF m 11 #[.val (.ref a), .val (.int (2 : Int32))] [(.int (2 : Int32)), (.int w1), (.int (fLt w0 (2 : Int32)))])) rfl (by rw [hml]; rfl) (argsL := [(.int w1), (.int (2 : Int32))]) (rest := [(.int (fLt w0 (2 : Int32)))]) (lenOf pdb2_0 rfl) rfl (by show 2 * 0 + _ ≤ _; exact Nat.le_of_eq rfl) (hb hby db2_11) (fun _ _ => ⟨rfl, e1, (by decide : 0 + 0 ≤ _), (by decide : 0 + 0 ≤ _)⟩)
    dsimp only [Pt.U, Pt.locs, Pt.cells, Pt.slots] at X2 l2 y2 z2 st2 hQ2
    subst l2 y2 z2
    obtain ⟨rfl, Nc2, e2⟩ := hQ2
    have N2 := Fr.app N1 Nc2
    refine Go.st st2 ?_
    show Go p e below s _ _ _ (T2.setTop (mkF m 14 #[.val (.ref a), .val (.int (2 : Int32))] [(.int (fLt w1 (2 : Int32))), (.int (fLt w0 (2 : Int32)))]))
    refine Go.st (fun _ kq_ => XS.iadd X2.here hx rfl (hb hby db2_14) rfl kq_) ?_
    show Go p e below s _ _ _ (T2.setTop (mkF m 15 #[.val (.ref a), .val (.int (2 : Int32))] [(.int ((fLt w0 (2 : Int32)) + (fLt w1 (2 : Int32))))]))
    refine Go.st (fun _ kq_ => XS.aloadN X2.here hx rfl (hb hby db2_15) rfl rfl kq_) ?_
    show Go p e below s _ _ _ (T2.setTop (mkF m 16 #[.val (.ref a), .val (.int (2 : Int32))] [(.ref a), (.int ((fLt w0 (2 : Int32)) + (fLt w1 (2 : Int32))))]))
    refine Go.st (fun _ kq_ => XS.iconst X2.here hx rfl (hb hby db2_16) kq_) ?_
    show Go p e below s _ _ _ (T2.setTop (mkF m 17 #[.val (.ref a), .val (.int (2 : Int32))] [(.int (2 : Int32)), (.ref a), (.int ((fLt w0 (2 : Int32)) + (fLt w1 (2 : Int32))))]))
    refine Go.st (fun _ kq_ => own_iaload X2 hx hZ e2 V_a (by decide) (by decide) (v := (.int w2)) rfl (g := (mkF m 17 #[.val (.ref a), .val (.int (2 : Int32))] [(.int (2 : Int32)), (.ref a), (.int ((fLt w0 (2 : Int32)) + (fLt w1 (2 : Int32))))])) rfl rfl (hb hby db2_17) _ kq_) ?_
    show Go p e below s _ _ _ (T2.setTop (mkF m 18 #[.val (.ref a), .val (.int (2 : Int32))] [(.int w2), (.int ((fLt w0 (2 : Int32)) + (fLt w1 (2 : Int32))))]))
    refine Go.st (fun _ kq_ => XS.iloadN X2.here hx rfl (hb hby db2_18) rfl kq_) ?_
    show Go p e below s _ _ _ (T2.setTop (mkF m 19 #[.val (.ref a), .val (.int (2 : Int32))] [(.int (2 : Int32)), (.int w2), (.int ((fLt w0 (2 : Int32)) + (fLt w1 (2 : Int32))))]))
    obtain ⟨_, _, ⟨T3, L3, k3, n3⟩, -, X3, ⟨Lc3, hQ3, l3, y3, z3⟩, st3⟩ := Jvm.LawKit.callS X2 hx (y := (⟨"com/example/rootward/rootward/model/InstanceGroupPinLaw", "lt", "(II)I"⟩ : MethodName)) hown (mvT hZ (own_w hw 21 rfl)) (mvT hZ (own_w hw 22 rfl)) (mvT hZ (own_w hw 16 rfl)) (mvT hZ (own_w hw 23 rfl)) (by decide) (backOf (W := 1) (rml l Z a0 hw [] w2 (2 : Int32) h0 n0 O0 ) hZ (own_w hw 23 rfl) (own_w hw 16 rfl) (by decide) (by decide)) (g := (mkF m 19 #[.val (.ref a), .val (.int (2 : Int32))] [(.int (2 : Int32)), (.int w2), (.int ((fLt w0 (2 : Int32)) + (fLt w1 (2 : Int32))))])) rfl (by rw [hml]; rfl) (argsL := [(.int w2), (.int (2 : Int32))]) (rest := [(.int ((fLt w0 (2 : Int32)) + (fLt w1 (2 : Int32))))]) (lenOf pdb2_0 rfl) rfl (by show 2 * 0 + _ ≤ _; exact Nat.le_of_eq rfl) (hb hby db2_19) (fun _ _ => ⟨rfl, e2, (by decide : 0 + 0 ≤ _), (by decide : 0 + 0 ≤ _)⟩)
    dsimp only [Pt.U, Pt.locs, Pt.cells, Pt.slots] at X3 l3 y3 z3 st3 hQ3
    subst l3 y3 z3
    obtain ⟨rfl, Nc3, e3⟩ := hQ3
    have N3 := Fr.app N2 Nc3
    refine Go.st st3 ?_
    show Go p e below s _ _ _ (T3.setTop (mkF m 22 #[.val (.ref a), .val (.int (2 : Int32))] [(.int (fLt w2 (2 : Int32))), (.int ((fLt w0 (2 : Int32)) + (fLt w1 (2 : Int32))))]))
    refine Go.st (fun _ kq_ => XS.iadd X3.here hx rfl (hb hby db2_22) rfl kq_) ?_
    show Go p e below s _ _ _ (T3.setTop (mkF m 23 #[.val (.ref a), .val (.int (2 : Int32))] [(.int (((fLt w0 (2 : Int32)) + (fLt w1 (2 : Int32))) + (fLt w2 (2 : Int32))))]))
    refine Go.st (fun _ kq_ => XS.aloadN X3.here hx rfl (hb hby db2_23) rfl rfl kq_) ?_
    show Go p e below s _ _ _ (T3.setTop (mkF m 24 #[.val (.ref a), .val (.int (2 : Int32))] [(.ref a), (.int (((fLt w0 (2 : Int32)) + (fLt w1 (2 : Int32))) + (fLt w2 (2 : Int32))))]))
    refine Go.st (fun _ kq_ => XS.iconst X3.here hx rfl (hb hby db2_24) kq_) ?_
    show Go p e below s _ _ _ (T3.setTop (mkF m 25 #[.val (.ref a), .val (.int (2 : Int32))] [(.int (3 : Int32)), (.ref a), (.int (((fLt w0 (2 : Int32)) + (fLt w1 (2 : Int32))) + (fLt w2 (2 : Int32))))]))
    refine Go.st (fun _ kq_ => own_iaload X3 hx hZ e3 V_a (by decide) (by decide) (v := (.int w3)) rfl (g := (mkF m 25 #[.val (.ref a), .val (.int (2 : Int32))] [(.int (3 : Int32)), (.ref a), (.int (((fLt w0 (2 : Int32)) + (fLt w1 (2 : Int32))) + (fLt w2 (2 : Int32))))])) rfl rfl (hb hby db2_25) _ kq_) ?_
    show Go p e below s _ _ _ (T3.setTop (mkF m 26 #[.val (.ref a), .val (.int (2 : Int32))] [(.int w3), (.int (((fLt w0 (2 : Int32)) + (fLt w1 (2 : Int32))) + (fLt w2 (2 : Int32))))]))
    refine Go.st (fun _ kq_ => XS.iloadN X3.here hx rfl (hb hby db2_26) rfl kq_) ?_
    show Go p e below s _ _ _ (T3.setTop (mkF m 27 #[.val (.ref a), .val (.int (2 : Int32))] [(.int (2 : Int32)), (.int w3), (.int (((fLt w0 (2 : Int32)) + (fLt w1 (2 : Int32))) + (fLt w2 (2 : Int32))))]))
    obtain ⟨_, _, ⟨T4, L4, k4, n4⟩, -, X4, ⟨Lc4, hQ4, l4, y4, z4⟩, st4⟩ := Jvm.LawKit.callS X3 hx (y := (⟨"com/example/rootward/rootward/model/InstanceGroupPinLaw", "lt", "(II)I"⟩ : MethodName)) hown (mvT hZ (own_w hw 21 rfl)) (mvT hZ (own_w hw 22 rfl)) (mvT hZ (own_w hw 16 rfl)) (mvT hZ (own_w hw 23 rfl)) (by decide) (backOf (W := 1) (rml l Z a0 hw [] w3 (2 : Int32) h0 n0 O0 ) hZ (own_w hw 23 rfl) (own_w hw 16 rfl) (by decide) (by decide)) (g := (mkF m 27 #[.val (.ref a), .val (.int (2 : Int32))] [(.int (2 : Int32)), (.int w3), (.int (((fLt w0 (2 : Int32)) + (fLt w1 (2 : Int32))) + (fLt w2 (2 : Int32))))])) rfl (by rw [hml]; rfl) (argsL := [(.int w3), (.int (2 : Int32))]) (rest := [(.int (((fLt w0 (2 : Int32)) + (fLt w1 (2 : Int32))) + (fLt w2 (2 : Int32))))]) (lenOf pdb2_0 rfl) rfl (by show 2 * 0 + _ ≤ _; exact Nat.le_of_eq rfl) (hb hby db2_27) (fun _ _ => ⟨rfl, e3, (by decide : 0 + 0 ≤ _), (by decide : 0 + 0 ≤ _)⟩)
    dsimp only [Pt.U, Pt.locs, Pt.cells, Pt.slots] at X4 l4 y4 z4 st4 hQ4
    subst l4 y4 z4
    obtain ⟨rfl, Nc4, e4⟩ := hQ4
    have N4 := Fr.app N3 Nc4
    refine Go.st st4 ?_
    show Go p e below s _ _ _ (T4.setTop (mkF m 30 #[.val (.ref a), .val (.int (2 : Int32))] [(.int (fLt w3 (2 : Int32))), (.int (((fLt w0 (2 : Int32)) + (fLt w1 (2 : Int32))) + (fLt w2 (2 : Int32))))]))
    refine Go.st (fun _ kq_ => XS.iadd X4.here hx rfl (hb hby db2_30) rfl kq_) ?_
    show Go p e below s _ _ _ (T4.setTop (mkF m 31 #[.val (.ref a), .val (.int (2 : Int32))] [(.int ((((fLt w0 (2 : Int32)) + (fLt w1 (2 : Int32))) + (fLt w2 (2 : Int32))) + (fLt w3 (2 : Int32))))]))
    exact Go.ret X4 hlk (some (.int ((((fLt w0 (2 : Int32)) + (fLt w1 (2 : Int32))) + (fLt w2 (2 : Int32))) + (fLt w3 (2 : Int32))))) (fun h => by rw [Bd.returns] at h; cases h) (by rw [e4]; exact ⟨own_res (z' := ((((fLt w0 (2 : Int32)) + (fLt w1 (2 : Int32))) + (fLt w2 (2 : Int32))) + (fLt w3 (2 : Int32)))) rfl rfl, N4, rfl⟩) (by decide) (by decide) (fun fs hr => retI X4 hx Bd.returns (hb hby db2_31) hr)
  obtain ⟨s2, o2, st2, r2⟩ := G
  exact ⟨s2, o2, castTop (efb2 m a (2 : Int32)) st2, r2⟩
theorem db3_0 : decode method_5_code 0 = .ok (.aload_n 0, 1) := by decide +kernel
theorem db3_1 : decode method_5_code 1 = .ok (.iconst 0, 1) := by decide +kernel
theorem db3_2 : decode method_5_code 2 = .ok (.iaload, 1) := by decide +kernel
theorem db3_3 : decode method_5_code 3 = .ok (.iload_n 1, 1) := by decide +kernel
theorem db3_4 : decode method_5_code 4 = .ok (.invokestatic 26, 3) := by decide +kernel
theorem db3_7 : decode method_5_code 7 = .ok (.aload_n 0, 1) := by decide +kernel
theorem db3_8 : decode method_5_code 8 = .ok (.iconst 1, 1) := by decide +kernel
theorem db3_9 : decode method_5_code 9 = .ok (.iaload, 1) := by decide +kernel
theorem db3_10 : decode method_5_code 10 = .ok (.iload_n 1, 1) := by decide +kernel
theorem db3_11 : decode method_5_code 11 = .ok (.invokestatic 26, 3) := by decide +kernel
theorem db3_14 : decode method_5_code 14 = .ok (.iadd, 1) := by decide +kernel
theorem db3_15 : decode method_5_code 15 = .ok (.aload_n 0, 1) := by decide +kernel
theorem db3_16 : decode method_5_code 16 = .ok (.iconst 2, 1) := by decide +kernel
theorem db3_17 : decode method_5_code 17 = .ok (.iaload, 1) := by decide +kernel
theorem db3_18 : decode method_5_code 18 = .ok (.iload_n 1, 1) := by decide +kernel
theorem db3_19 : decode method_5_code 19 = .ok (.invokestatic 26, 3) := by decide +kernel
theorem db3_22 : decode method_5_code 22 = .ok (.iadd, 1) := by decide +kernel
theorem db3_23 : decode method_5_code 23 = .ok (.aload_n 0, 1) := by decide +kernel
theorem db3_24 : decode method_5_code 24 = .ok (.iconst 3, 1) := by decide +kernel
theorem db3_25 : decode method_5_code 25 = .ok (.iaload, 1) := by decide +kernel
theorem db3_26 : decode method_5_code 26 = .ok (.iload_n 1, 1) := by decide +kernel
theorem db3_27 : decode method_5_code 27 = .ok (.invokestatic 26, 3) := by decide +kernel
theorem db3_30 : decode method_5_code 30 = .ok (.iadd, 1) := by decide +kernel
theorem db3_31 : decode method_5_code 31 = .ok (.ireturn, 1) := by decide +kernel
theorem pdb3_0 : parseMethodDescriptor "(II)I" = some ⟨[.int, .int], some .int⟩ := by decide +kernel
theorem pnb3 : plainName "com/example/rootward/rootward/model/InstanceGroupPinLaw" = true := by first | (simp [plainName, overriddenIn]; done) | decide +kernel
theorem efb3 (m : MethodId) (x0 : Addr) (x1 : Int32) : entryFrame m #[(.ref x0), (.int x1)] 2 = mkF m 0 #[.val (.ref x0), .val (.int x1)] [] := by first | (simp [entryFrame, mkF, argsToLocals, Value.category, maxLocals]; done) | rfl
def fB3 (w0 : Int32) (w1 : Int32) (w2 : Int32) (w3 : Int32) : Int32 := ((((fLt w0 (3 : Int32)) + (fLt w1 (3 : Int32))) + (fLt w2 (3 : Int32))) + (fLt w3 (3 : Int32)))
def Qb3 (Z : State) (a : Addr) (ka : ClassId) (w0 : Int32) (w1 : Int32) (w2 : Int32) (w3 : Int32) (h0 : Heap) (n0 : Nat) (v : Option Value) (h : Heap) (L : List Loc) : Prop := v = some (.int (fB3 w0 w1 w2 w3)) ∧ Fr n0 L ∧ h = h0
set_option maxRecDepth 65536 in
set_option maxHeartbeats 40000000 in
theorem rmb3 (l : Launch) (Z : State) (a0 : Array Value) (hw : ∀ d ∈ tables_1, d.before a0 Z = true) (ws : List Jvm.Cond) (a : Addr) (ka : ClassId) (w0 : Int32) (w1 : Int32) (w2 : Int32) (w3 : Int32) (h0 : Heap) (n0 : Nat) (O0 : Old Z n0 h0) (V_a : Arv Z h0 a ka .int (4 : Int32) [(.int w0), (.int w1), (.int w2), (.int w3)] (.int (0 : Int32))) :
    MetFree l (⟨"com/example/rootward/rootward/model/InstanceGroupPinLaw", "below", "([II)I"⟩ : MethodName) (head1 (Jvm.Cond.code (⟨"com/example/rootward/rootward/model/InstanceGroupPinLaw", "below", "([II)I"⟩ : MethodName) method_5_code 2 (some .int) :: ws) ({ frames := 1, cells := 0, slots := 0, locals := 14 } : Room)) (fun A_ U_ => A_ = #[(.ref a), (.int (3 : Int32))] ∧ Z.Warmed39 U_.vm ∧ U_.heap = h0) (fun _ _ _ _ _ => True) (fun _ U o U' => ∃ v L, o = .returned v ∧ Qb3 Z a ka w0 w1 w2 w3 h0 n0 v U'.heap L ∧ FrameEnd U o U' L ({ frames := 1, cells := 0, slots := 0, locals := 14 } : Room).cells ({ frames := 1, cells := 0, slots := 0, locals := 14 } : Room).slots) := by
  refine MetFree.of_bodySF (plainFor_of_name pnb3) hisR ?_
  intro p e s m args below meth cd s₁ Bd hml0 hP hK
  obtain ⟨rfl, hZ, hh⟩ := hP
  have hx := Bd.exec
  have hby := Bd.bytes
  have hlk : meth.locks = false := BodyLoose.notSynchronized Bd
  have hml : cd.maxLocals = 2 := hml0
  have hown : s.vm.findClass "com/example/rootward/rootward/model/InstanceGroupPinLaw" = some m.cls := findClass_of_methodNamed Bd.named
  have hnm := (name_of_methodNamed Bd.named Bd.method).1
  have X0 : Stand p l e ({ frames := 1, cells := 0, slots := 0, locals := 14 } : Room) s m #[(.ref a), (.int (3 : Int32))] below meth cd s₁ [] 0 0 := Stand.of_body Bd
  have e0 : s₁.heap = h0 := by rw [← hh, Bd.state]; rfl
  have N0 := Fr.nil n0
  have G : Go p e below s 0 0 (Qb3 Z a ka w0 w1 w2 w3 h0 n0) (s₁.setTop (mkF m 0 #[.val (.ref a), .val (.int (3 : Int32))] [])) := by
    show Go p e below s _ _ _ (s₁.setTop (mkF m 0 #[.val (.ref a), .val (.int (3 : Int32))] []))
    refine Go.st (fun _ kq_ => XS.aloadN X0.here hx rfl (hb hby db3_0) rfl rfl kq_) ?_
    show Go p e below s _ _ _ (s₁.setTop (mkF m 1 #[.val (.ref a), .val (.int (3 : Int32))] [(.ref a)]))
    refine Go.st (fun _ kq_ => XS.iconst X0.here hx rfl (hb hby db3_1) kq_) ?_
    show Go p e below s _ _ _ (s₁.setTop (mkF m 2 #[.val (.ref a), .val (.int (3 : Int32))] [(.int (0 : Int32)), (.ref a)]))
    refine Go.st (fun _ kq_ => own_iaload X0 hx hZ e0 V_a (by decide) (by decide) (v := (.int w0)) rfl (g := (mkF m 2 #[.val (.ref a), .val (.int (3 : Int32))] [(.int (0 : Int32)), (.ref a)])) rfl rfl (hb hby db3_2) _ kq_) ?_
    show Go p e below s _ _ _ (s₁.setTop (mkF m 3 #[.val (.ref a), .val (.int (3 : Int32))] [(.int w0)]))
    refine Go.st (fun _ kq_ => XS.iloadN X0.here hx rfl (hb hby db3_3) rfl kq_) ?_
    show Go p e below s _ _ _ (s₁.setTop (mkF m 4 #[.val (.ref a), .val (.int (3 : Int32))] [(.int (3 : Int32)), (.int w0)]))
    obtain ⟨_, _, ⟨T1, L1, k1, n1⟩, -, X1, ⟨Lc1, hQ1, l1, y1, z1⟩, st1⟩ := Jvm.LawKit.callS X0 hx (y := (⟨"com/example/rootward/rootward/model/InstanceGroupPinLaw", "lt", "(II)I"⟩ : MethodName)) hown (mvT hZ (own_w hw 21 rfl)) (mvT hZ (own_w hw 22 rfl)) (mvT hZ (own_w hw 16 rfl)) (mvT hZ (own_w hw 23 rfl)) (by decide) (backOf (W := 0) (rml l Z a0 hw [] w0 (3 : Int32) h0 n0 O0 ) hZ (own_w hw 23 rfl) (own_w hw 16 rfl) (by decide) (by decide)) (g := (mkF m 4 #[.val (.ref a), .val (.int (3 : Int32))] [(.int (3 : Int32)), (.int w0)])) rfl (by rw [hml]; rfl) (argsL := [(.int w0), (.int (3 : Int32))]) (rest := []) (lenOf pdb3_0 rfl) rfl (by show 2 * 0 + _ ≤ _; exact Nat.le_of_eq rfl) (hb hby db3_4) (fun _ _ => ⟨rfl, e0, (by decide : 0 + 0 ≤ _), (by decide : 0 + 0 ≤ _)⟩)
    dsimp only [Pt.U, Pt.locs, Pt.cells, Pt.slots] at X1 l1 y1 z1 st1 hQ1
    subst l1 y1 z1
    obtain ⟨rfl, Nc1, e1⟩ := hQ1
    have N1 := Fr.app N0 Nc1
    refine Go.st st1 ?_
    show Go p e below s _ _ _ (T1.setTop (mkF m 7 #[.val (.ref a), .val (.int (3 : Int32))] [(.int (fLt w0 (3 : Int32)))]))
    refine Go.st (fun _ kq_ => XS.aloadN X1.here hx rfl (hb hby db3_7) rfl rfl kq_) ?_
    show Go p e below s _ _ _ (T1.setTop (mkF m 8 #[.val (.ref a), .val (.int (3 : Int32))] [(.ref a), (.int (fLt w0 (3 : Int32)))]))
    refine Go.st (fun _ kq_ => XS.iconst X1.here hx rfl (hb hby db3_8) kq_) ?_
    show Go p e below s _ _ _ (T1.setTop (mkF m 9 #[.val (.ref a), .val (.int (3 : Int32))] [(.int (1 : Int32)), (.ref a), (.int (fLt w0 (3 : Int32)))]))
    refine Go.st (fun _ kq_ => own_iaload X1 hx hZ e1 V_a (by decide) (by decide) (v := (.int w1)) rfl (g := (mkF m 9 #[.val (.ref a), .val (.int (3 : Int32))] [(.int (1 : Int32)), (.ref a), (.int (fLt w0 (3 : Int32)))])) rfl rfl (hb hby db3_9) _ kq_) ?_
    show Go p e below s _ _ _ (T1.setTop (mkF m 10 #[.val (.ref a), .val (.int (3 : Int32))] [(.int w1), (.int (fLt w0 (3 : Int32)))]))
    refine Go.st (fun _ kq_ => XS.iloadN X1.here hx rfl (hb hby db3_10) rfl kq_) ?_
    show Go p e below s _ _ _ (T1.setTop (mkF m 11 #[.val (.ref a), .val (.int (3 : Int32))] [(.int (3 : Int32)), (.int w1), (.int (fLt w0 (3 : Int32)))]))
    obtain ⟨_, _, ⟨T2, L2, k2, n2⟩, -, X2, ⟨Lc2, hQ2, l2, y2, z2⟩, st2⟩ := Jvm.LawKit.callS X1 hx (y := (⟨"com/example/rootward/rootward/model/InstanceGroupPinLaw", "lt", "(II)I"⟩ : MethodName)) hown (mvT hZ (own_w hw 21 rfl)) (mvT hZ (own_w hw 22 rfl)) (mvT hZ (own_w hw 16 rfl)) (mvT hZ (own_w hw 23 rfl)) (by decide) (backOf (W := 1) (rml l Z a0 hw [] w1 (3 : Int32) h0 n0 O0 ) hZ (own_w hw 23 rfl) (own_w hw 16 rfl) (by decide) (by decide)) (g := (mkF m 11 #[.val (.ref a), .val (.int (3 : Int32))] [(.int (3 : Int32)), (.int w1), (.int (fLt w0 (3 : Int32)))])) rfl (by rw [hml]; rfl) (argsL := [(.int w1), (.int (3 : Int32))]) (rest := [(.int (fLt w0 (3 : Int32)))]) (lenOf pdb3_0 rfl) rfl (by show 2 * 0 + _ ≤ _; exact Nat.le_of_eq rfl) (hb hby db3_11) (fun _ _ => ⟨rfl, e1, (by decide : 0 + 0 ≤ _), (by decide : 0 + 0 ≤ _)⟩)
    dsimp only [Pt.U, Pt.locs, Pt.cells, Pt.slots] at X2 l2 y2 z2 st2 hQ2
    subst l2 y2 z2
    obtain ⟨rfl, Nc2, e2⟩ := hQ2
    have N2 := Fr.app N1 Nc2
    refine Go.st st2 ?_
    show Go p e below s _ _ _ (T2.setTop (mkF m 14 #[.val (.ref a), .val (.int (3 : Int32))] [(.int (fLt w1 (3 : Int32))), (.int (fLt w0 (3 : Int32)))]))
    refine Go.st (fun _ kq_ => XS.iadd X2.here hx rfl (hb hby db3_14) rfl kq_) ?_
    show Go p e below s _ _ _ (T2.setTop (mkF m 15 #[.val (.ref a), .val (.int (3 : Int32))] [(.int ((fLt w0 (3 : Int32)) + (fLt w1 (3 : Int32))))]))
    refine Go.st (fun _ kq_ => XS.aloadN X2.here hx rfl (hb hby db3_15) rfl rfl kq_) ?_
    show Go p e below s _ _ _ (T2.setTop (mkF m 16 #[.val (.ref a), .val (.int (3 : Int32))] [(.ref a), (.int ((fLt w0 (3 : Int32)) + (fLt w1 (3 : Int32))))]))
    refine Go.st (fun _ kq_ => XS.iconst X2.here hx rfl (hb hby db3_16) kq_) ?_
    show Go p e below s _ _ _ (T2.setTop (mkF m 17 #[.val (.ref a), .val (.int (3 : Int32))] [(.int (2 : Int32)), (.ref a), (.int ((fLt w0 (3 : Int32)) + (fLt w1 (3 : Int32))))]))
    refine Go.st (fun _ kq_ => own_iaload X2 hx hZ e2 V_a (by decide) (by decide) (v := (.int w2)) rfl (g := (mkF m 17 #[.val (.ref a), .val (.int (3 : Int32))] [(.int (2 : Int32)), (.ref a), (.int ((fLt w0 (3 : Int32)) + (fLt w1 (3 : Int32))))])) rfl rfl (hb hby db3_17) _ kq_) ?_
    show Go p e below s _ _ _ (T2.setTop (mkF m 18 #[.val (.ref a), .val (.int (3 : Int32))] [(.int w2), (.int ((fLt w0 (3 : Int32)) + (fLt w1 (3 : Int32))))]))
    refine Go.st (fun _ kq_ => XS.iloadN X2.here hx rfl (hb hby db3_18) rfl kq_) ?_
    show Go p e below s _ _ _ (T2.setTop (mkF m 19 #[.val (.ref a), .val (.int (3 : Int32))] [(.int (3 : Int32)), (.int w2), (.int ((fLt w0 (3 : Int32)) + (fLt w1 (3 : Int32))))]))
    obtain ⟨_, _, ⟨T3, L3, k3, n3⟩, -, X3, ⟨Lc3, hQ3, l3, y3, z3⟩, st3⟩ := Jvm.LawKit.callS X2 hx (y := (⟨"com/example/rootward/rootward/model/InstanceGroupPinLaw", "lt", "(II)I"⟩ : MethodName)) hown (mvT hZ (own_w hw 21 rfl)) (mvT hZ (own_w hw 22 rfl)) (mvT hZ (own_w hw 16 rfl)) (mvT hZ (own_w hw 23 rfl)) (by decide) (backOf (W := 1) (rml l Z a0 hw [] w2 (3 : Int32) h0 n0 O0 ) hZ (own_w hw 23 rfl) (own_w hw 16 rfl) (by decide) (by decide)) (g := (mkF m 19 #[.val (.ref a), .val (.int (3 : Int32))] [(.int (3 : Int32)), (.int w2), (.int ((fLt w0 (3 : Int32)) + (fLt w1 (3 : Int32))))])) rfl (by rw [hml]; rfl) (argsL := [(.int w2), (.int (3 : Int32))]) (rest := [(.int ((fLt w0 (3 : Int32)) + (fLt w1 (3 : Int32))))]) (lenOf pdb3_0 rfl) rfl (by show 2 * 0 + _ ≤ _; exact Nat.le_of_eq rfl) (hb hby db3_19) (fun _ _ => ⟨rfl, e2, (by decide : 0 + 0 ≤ _), (by decide : 0 + 0 ≤ _)⟩)
    dsimp only [Pt.U, Pt.locs, Pt.cells, Pt.slots] at X3 l3 y3 z3 st3 hQ3
    subst l3 y3 z3
    obtain ⟨rfl, Nc3, e3⟩ := hQ3
    have N3 := Fr.app N2 Nc3
    refine Go.st st3 ?_
    show Go p e below s _ _ _ (T3.setTop (mkF m 22 #[.val (.ref a), .val (.int (3 : Int32))] [(.int (fLt w2 (3 : Int32))), (.int ((fLt w0 (3 : Int32)) + (fLt w1 (3 : Int32))))]))
    refine Go.st (fun _ kq_ => XS.iadd X3.here hx rfl (hb hby db3_22) rfl kq_) ?_
    show Go p e below s _ _ _ (T3.setTop (mkF m 23 #[.val (.ref a), .val (.int (3 : Int32))] [(.int (((fLt w0 (3 : Int32)) + (fLt w1 (3 : Int32))) + (fLt w2 (3 : Int32))))]))
    refine Go.st (fun _ kq_ => XS.aloadN X3.here hx rfl (hb hby db3_23) rfl rfl kq_) ?_
    show Go p e below s _ _ _ (T3.setTop (mkF m 24 #[.val (.ref a), .val (.int (3 : Int32))] [(.ref a), (.int (((fLt w0 (3 : Int32)) + (fLt w1 (3 : Int32))) + (fLt w2 (3 : Int32))))]))
    refine Go.st (fun _ kq_ => XS.iconst X3.here hx rfl (hb hby db3_24) kq_) ?_
    show Go p e below s _ _ _ (T3.setTop (mkF m 25 #[.val (.ref a), .val (.int (3 : Int32))] [(.int (3 : Int32)), (.ref a), (.int (((fLt w0 (3 : Int32)) + (fLt w1 (3 : Int32))) + (fLt w2 (3 : Int32))))]))
    refine Go.st (fun _ kq_ => own_iaload X3 hx hZ e3 V_a (by decide) (by decide) (v := (.int w3)) rfl (g := (mkF m 25 #[.val (.ref a), .val (.int (3 : Int32))] [(.int (3 : Int32)), (.ref a), (.int (((fLt w0 (3 : Int32)) + (fLt w1 (3 : Int32))) + (fLt w2 (3 : Int32))))])) rfl rfl (hb hby db3_25) _ kq_) ?_
    show Go p e below s _ _ _ (T3.setTop (mkF m 26 #[.val (.ref a), .val (.int (3 : Int32))] [(.int w3), (.int (((fLt w0 (3 : Int32)) + (fLt w1 (3 : Int32))) + (fLt w2 (3 : Int32))))]))
    refine Go.st (fun _ kq_ => XS.iloadN X3.here hx rfl (hb hby db3_26) rfl kq_) ?_
    show Go p e below s _ _ _ (T3.setTop (mkF m 27 #[.val (.ref a), .val (.int (3 : Int32))] [(.int (3 : Int32)), (.int w3), (.int (((fLt w0 (3 : Int32)) + (fLt w1 (3 : Int32))) + (fLt w2 (3 : Int32))))]))
    obtain ⟨_, _, ⟨T4, L4, k4, n4⟩, -, X4, ⟨Lc4, hQ4, l4, y4, z4⟩, st4⟩ := Jvm.LawKit.callS X3 hx (y := (⟨"com/example/rootward/rootward/model/InstanceGroupPinLaw", "lt", "(II)I"⟩ : MethodName)) hown (mvT hZ (own_w hw 21 rfl)) (mvT hZ (own_w hw 22 rfl)) (mvT hZ (own_w hw 16 rfl)) (mvT hZ (own_w hw 23 rfl)) (by decide) (backOf (W := 1) (rml l Z a0 hw [] w3 (3 : Int32) h0 n0 O0 ) hZ (own_w hw 23 rfl) (own_w hw 16 rfl) (by decide) (by decide)) (g := (mkF m 27 #[.val (.ref a), .val (.int (3 : Int32))] [(.int (3 : Int32)), (.int w3), (.int (((fLt w0 (3 : Int32)) + (fLt w1 (3 : Int32))) + (fLt w2 (3 : Int32))))])) rfl (by rw [hml]; rfl) (argsL := [(.int w3), (.int (3 : Int32))]) (rest := [(.int (((fLt w0 (3 : Int32)) + (fLt w1 (3 : Int32))) + (fLt w2 (3 : Int32))))]) (lenOf pdb3_0 rfl) rfl (by show 2 * 0 + _ ≤ _; exact Nat.le_of_eq rfl) (hb hby db3_27) (fun _ _ => ⟨rfl, e3, (by decide : 0 + 0 ≤ _), (by decide : 0 + 0 ≤ _)⟩)
    dsimp only [Pt.U, Pt.locs, Pt.cells, Pt.slots] at X4 l4 y4 z4 st4 hQ4
    subst l4 y4 z4
    obtain ⟨rfl, Nc4, e4⟩ := hQ4
    have N4 := Fr.app N3 Nc4
    refine Go.st st4 ?_
    show Go p e below s _ _ _ (T4.setTop (mkF m 30 #[.val (.ref a), .val (.int (3 : Int32))] [(.int (fLt w3 (3 : Int32))), (.int (((fLt w0 (3 : Int32)) + (fLt w1 (3 : Int32))) + (fLt w2 (3 : Int32))))]))
    refine Go.st (fun _ kq_ => XS.iadd X4.here hx rfl (hb hby db3_30) rfl kq_) ?_
    show Go p e below s _ _ _ (T4.setTop (mkF m 31 #[.val (.ref a), .val (.int (3 : Int32))] [(.int ((((fLt w0 (3 : Int32)) + (fLt w1 (3 : Int32))) + (fLt w2 (3 : Int32))) + (fLt w3 (3 : Int32))))]))
    exact Go.ret X4 hlk (some (.int ((((fLt w0 (3 : Int32)) + (fLt w1 (3 : Int32))) + (fLt w2 (3 : Int32))) + (fLt w3 (3 : Int32))))) (fun h => by rw [Bd.returns] at h; cases h) (by rw [e4]; exact ⟨own_res (z' := ((((fLt w0 (3 : Int32)) + (fLt w1 (3 : Int32))) + (fLt w2 (3 : Int32))) + (fLt w3 (3 : Int32)))) rfl rfl, N4, rfl⟩) (by decide) (by decide) (fun fs hr => retI X4 hx Bd.returns (hb hby db3_31) hr)
  obtain ⟨s2, o2, st2, r2⟩ := G
  exact ⟨s2, o2, castTop (efb3 m a (3 : Int32)) st2, r2⟩
theorem dh00_0 : decode method_6_code 0 = .ok (.aload_n 0, 1) := by decide +kernel
theorem dh00_1 : decode method_6_code 1 = .ok (.iload_n 1, 1) := by decide +kernel
theorem dh00_2 : decode method_6_code 2 = .ok (.iaload, 1) := by decide +kernel
theorem dh00_3 : decode method_6_code 3 = .ok (.istore_n 3, 1) := by decide +kernel
theorem dh00_4 : decode method_6_code 4 = .ok (.aload_n 0, 1) := by decide +kernel
theorem dh00_5 : decode method_6_code 5 = .ok (.iload_n 2, 1) := by decide +kernel
theorem dh00_6 : decode method_6_code 6 = .ok (.iaload, 1) := by decide +kernel
theorem dh00_7 : decode method_6_code 7 = .ok (.istore 4, 2) := by decide +kernel
theorem dh00_9 : decode method_6_code 9 = .ok (.iload_n 3, 1) := by decide +kernel
theorem dh00_10 : decode method_6_code 10 = .ok (.iconst (-1), 1) := by decide +kernel
theorem dh00_11 : decode method_6_code 11 = .ok (.if_icmp .eq 24, 3) := by decide +kernel
theorem dh00_14 : decode method_6_code 14 = .ok (.iload_n 3, 1) := by decide +kernel
theorem dh00_15 : decode method_6_code 15 = .ok (.iload 4, 2) := by decide +kernel
theorem dh00_17 : decode method_6_code 17 = .ok (.if_icmp .lt 14, 3) := by decide +kernel
theorem dh00_20 : decode method_6_code 20 = .ok (.iload_n 3, 1) := by decide +kernel
theorem dh00_21 : decode method_6_code 21 = .ok (.iload 4, 2) := by decide +kernel
theorem dh00_23 : decode method_6_code 23 = .ok (.if_icmp .ne 12, 3) := by decide +kernel
theorem dh00_26 : decode method_6_code 26 = .ok (.iload_n 1, 1) := by decide +kernel
theorem dh00_27 : decode method_6_code 27 = .ok (.iload_n 2, 1) := by decide +kernel
theorem dh00_28 : decode method_6_code 28 = .ok (.if_icmp .ge 7, 3) := by decide +kernel
theorem dh00_31 : decode method_6_code 31 = .ok (.iconst 1, 1) := by decide +kernel
theorem dh00_32 : decode method_6_code 32 = .ok (.goto 4, 3) := by decide +kernel
theorem dh00_35 : decode method_6_code 35 = .ok (.iconst 0, 1) := by decide +kernel
theorem dh00_36 : decode method_6_code 36 = .ok (.ireturn, 1) := by decide +kernel
theorem pnh00 : plainName "com/example/rootward/rootward/model/InstanceGroupPinLaw" = true := by first | (simp [plainName, overriddenIn]; done) | decide +kernel
theorem efh00 (m : MethodId) (x0 : Addr) (x1 : Int32) (x2 : Int32) : entryFrame m #[(.ref x0), (.int x1), (.int x2)] 5 = mkF m 0 #[.val (.ref x0), .val (.int x1), .val (.int x2), .unset, .unset] [] := by first | (simp [entryFrame, mkF, argsToLocals, Value.category, maxLocals]; done) | rfl
def fA00 (w0 : Int32) (w1 : Int32) (w2 : Int32) (w3 : Int32) : Int32 := (if w0 = (-1 : Int32) then (0 : Int32) else (if w0 < w0 then (1 : Int32) else (if w0 = w0 then (0 : Int32) else (0 : Int32))))
def Qh00 (Z : State) (a : Addr) (ka : ClassId) (w0 : Int32) (w1 : Int32) (w2 : Int32) (w3 : Int32) (h0 : Heap) (n0 : Nat) (v : Option Value) (h : Heap) (L : List Loc) : Prop := v = some (.int (fA00 w0 w1 w2 w3)) ∧ Fr n0 L ∧ h = h0
set_option maxRecDepth 65536 in
set_option maxHeartbeats 40000000 in
theorem rmh00 (l : Launch) (Z : State) (a0 : Array Value) (hw : ∀ d ∈ tables_1, d.before a0 Z = true) (ws : List Jvm.Cond) (a : Addr) (ka : ClassId) (w0 : Int32) (w1 : Int32) (w2 : Int32) (w3 : Int32) (h0 : Heap) (n0 : Nat) (O0 : Old Z n0 h0) (V_a : Arv Z h0 a ka .int (4 : Int32) [(.int w0), (.int w1), (.int w2), (.int w3)] (.int (0 : Int32))) :
    MetFree l (⟨"com/example/rootward/rootward/model/InstanceGroupPinLaw", "ahead", "([III)I"⟩ : MethodName) (head1 (Jvm.Cond.code (⟨"com/example/rootward/rootward/model/InstanceGroupPinLaw", "ahead", "([III)I"⟩ : MethodName) method_6_code 5 (some .int) :: ws) ({ frames := 0, cells := 0, slots := 0, locals := 0 } : Room)) (fun A_ U_ => A_ = #[(.ref a), (.int (0 : Int32)), (.int (0 : Int32))] ∧ Z.Warmed39 U_.vm ∧ U_.heap = h0) (fun _ _ _ _ _ => True) (fun _ U o U' => ∃ v L, o = .returned v ∧ Qh00 Z a ka w0 w1 w2 w3 h0 n0 v U'.heap L ∧ FrameEnd U o U' L ({ frames := 0, cells := 0, slots := 0, locals := 0 } : Room).cells ({ frames := 0, cells := 0, slots := 0, locals := 0 } : Room).slots) := by
  refine MetFree.of_bodySF (plainFor_of_name pnh00) hisR ?_
  intro p e s m args below meth cd s₁ Bd hml0 hP hK
  obtain ⟨rfl, hZ, hh⟩ := hP
  have hx := Bd.exec
  have hby := Bd.bytes
  have hlk : meth.locks = false := BodyLoose.notSynchronized Bd
  have hml : cd.maxLocals = 5 := hml0
  have hown : s.vm.findClass "com/example/rootward/rootward/model/InstanceGroupPinLaw" = some m.cls := findClass_of_methodNamed Bd.named
  have hnm := (name_of_methodNamed Bd.named Bd.method).1
  have X0 : Stand p l e ({ frames := 0, cells := 0, slots := 0, locals := 0 } : Room) s m #[(.ref a), (.int (0 : Int32)), (.int (0 : Int32))] below meth cd s₁ [] 0 0 := Stand.of_body Bd
  have e0 : s₁.heap = h0 := by rw [← hh, Bd.state]; rfl
  have N0 := Fr.nil n0
  have G : Go p e below s 0 0 (Qh00 Z a ka w0 w1 w2 w3 h0 n0) (s₁.setTop (mkF m 0 #[.val (.ref a), .val (.int (0 : Int32)), .val (.int (0 : Int32)), .unset, .unset] [])) := by
    show Go p e below s _ _ _ (s₁.setTop (mkF m 0 #[.val (.ref a), .val (.int (0 : Int32)), .val (.int (0 : Int32)), .unset, .unset] []))
    refine Go.st (fun _ kq_ => XS.aloadN X0.here hx rfl (hb hby dh00_0) rfl rfl kq_) ?_
    show Go p e below s _ _ _ (s₁.setTop (mkF m 1 #[.val (.ref a), .val (.int (0 : Int32)), .val (.int (0 : Int32)), .unset, .unset] [(.ref a)]))
    refine Go.st (fun _ kq_ => XS.iloadN X0.here hx rfl (hb hby dh00_1) rfl kq_) ?_
    show Go p e below s _ _ _ (s₁.setTop (mkF m 2 #[.val (.ref a), .val (.int (0 : Int32)), .val (.int (0 : Int32)), .unset, .unset] [(.int (0 : Int32)), (.ref a)]))
    refine Go.st (fun _ kq_ => own_iaload X0 hx hZ e0 V_a (by decide) (by decide) (v := (.int w0)) rfl (g := (mkF m 2 #[.val (.ref a), .val (.int (0 : Int32)), .val (.int (0 : Int32)), .unset, .unset] [(.int (0 : Int32)), (.ref a)])) rfl rfl (hb hby dh00_2) _ kq_) ?_
    show Go p e below s _ _ _ (s₁.setTop (mkF m 3 #[.val (.ref a), .val (.int (0 : Int32)), .val (.int (0 : Int32)), .unset, .unset] [(.int w0)]))
    refine Go.st (fun _ kq_ => XS.istoreN X0.here hx rfl (hb hby dh00_3) rfl (l' := #[.val (.ref a), .val (.int (0 : Int32)), .val (.int (0 : Int32)), .val (.int w0), .unset]) rfl kq_) ?_
    show Go p e below s _ _ _ (s₁.setTop (mkF m 4 #[.val (.ref a), .val (.int (0 : Int32)), .val (.int (0 : Int32)), .val (.int w0), .unset] []))
    refine Go.st (fun _ kq_ => XS.aloadN X0.here hx rfl (hb hby dh00_4) rfl rfl kq_) ?_
    show Go p e below s _ _ _ (s₁.setTop (mkF m 5 #[.val (.ref a), .val (.int (0 : Int32)), .val (.int (0 : Int32)), .val (.int w0), .unset] [(.ref a)]))
    refine Go.st (fun _ kq_ => XS.iloadN X0.here hx rfl (hb hby dh00_5) rfl kq_) ?_
    show Go p e below s _ _ _ (s₁.setTop (mkF m 6 #[.val (.ref a), .val (.int (0 : Int32)), .val (.int (0 : Int32)), .val (.int w0), .unset] [(.int (0 : Int32)), (.ref a)]))
    refine Go.st (fun _ kq_ => own_iaload X0 hx hZ e0 V_a (by decide) (by decide) (v := (.int w0)) rfl (g := (mkF m 6 #[.val (.ref a), .val (.int (0 : Int32)), .val (.int (0 : Int32)), .val (.int w0), .unset] [(.int (0 : Int32)), (.ref a)])) rfl rfl (hb hby dh00_6) _ kq_) ?_
    show Go p e below s _ _ _ (s₁.setTop (mkF m 7 #[.val (.ref a), .val (.int (0 : Int32)), .val (.int (0 : Int32)), .val (.int w0), .unset] [(.int w0)]))
    refine Go.st (fun _ kq_ => XS.istore X0.here hx rfl (hb hby dh00_7) rfl (l' := #[.val (.ref a), .val (.int (0 : Int32)), .val (.int (0 : Int32)), .val (.int w0), .val (.int w0)]) rfl kq_) ?_
    show Go p e below s _ _ _ (s₁.setTop (mkF m 9 #[.val (.ref a), .val (.int (0 : Int32)), .val (.int (0 : Int32)), .val (.int w0), .val (.int w0)] []))
    refine Go.st (fun _ kq_ => XS.iloadN X0.here hx rfl (hb hby dh00_9) rfl kq_) ?_
    show Go p e below s _ _ _ (s₁.setTop (mkF m 10 #[.val (.ref a), .val (.int (0 : Int32)), .val (.int (0 : Int32)), .val (.int w0), .val (.int w0)] [(.int w0)]))
    refine Go.st (fun _ kq_ => XS.iconst X0.here hx rfl (hb hby dh00_10) kq_) ?_
    show Go p e below s _ _ _ (s₁.setTop (mkF m 11 #[.val (.ref a), .val (.int (0 : Int32)), .val (.int (0 : Int32)), .val (.int w0), .val (.int w0)] [(.int (-1 : Int32)), (.int w0)]))
    by_cases c11_1 : w0 = (-1 : Int32)
    · refine Go.st (fun _ kq_ => XS.icmpYes X0.here hx rfl (pc0 := 11) (pc' := 35) rfl (hb hby dh00_11) rfl (XT.ii_eq_t c11_1) (by decide) (by decide) kq_) ?_
      show Go p e below s _ _ _ (s₁.setTop (mkF m 35 #[.val (.ref a), .val (.int (0 : Int32)), .val (.int (0 : Int32)), .val (.int w0), .val (.int w0)] []))
      refine Go.st (fun _ kq_ => XS.iconst X0.here hx rfl (hb hby dh00_35) kq_) ?_
      show Go p e below s _ _ _ (s₁.setTop (mkF m 36 #[.val (.ref a), .val (.int (0 : Int32)), .val (.int (0 : Int32)), .val (.int w0), .val (.int w0)] [(.int (0 : Int32))]))
      exact Go.ret X0 hlk (some (.int (0 : Int32))) (fun h => by rw [Bd.returns] at h; cases h) (by rw [e0]; exact ⟨own_res (z' := (0 : Int32)) (by unfold fA00; rw [if_pos c11_1]) rfl, N0, rfl⟩) (by decide) (by decide) (fun fs hr => retI X0 hx Bd.returns (hb hby dh00_36) hr)
    · refine Go.st (fun _ kq_ => XS.icmpNo X0.here hx rfl (hb hby dh00_11) rfl (XT.ii_eq_f c11_1) kq_) ?_
      show Go p e below s _ _ _ (s₁.setTop (mkF m 14 #[.val (.ref a), .val (.int (0 : Int32)), .val (.int (0 : Int32)), .val (.int w0), .val (.int w0)] []))
      refine Go.st (fun _ kq_ => XS.iloadN X0.here hx rfl (hb hby dh00_14) rfl kq_) ?_
      show Go p e below s _ _ _ (s₁.setTop (mkF m 15 #[.val (.ref a), .val (.int (0 : Int32)), .val (.int (0 : Int32)), .val (.int w0), .val (.int w0)] [(.int w0)]))
      refine Go.st (fun _ kq_ => XS.iload X0.here hx rfl (hb hby dh00_15) rfl kq_) ?_
      show Go p e below s _ _ _ (s₁.setTop (mkF m 17 #[.val (.ref a), .val (.int (0 : Int32)), .val (.int (0 : Int32)), .val (.int w0), .val (.int w0)] [(.int w0), (.int w0)]))
      by_cases c17_2 : w0 < w0
      · refine Go.st (fun _ kq_ => XS.icmpYes X0.here hx rfl (pc0 := 17) (pc' := 31) rfl (hb hby dh00_17) rfl (XT.ii_lt_t c17_2) (by decide) (by decide) kq_) ?_
        show Go p e below s _ _ _ (s₁.setTop (mkF m 31 #[.val (.ref a), .val (.int (0 : Int32)), .val (.int (0 : Int32)), .val (.int w0), .val (.int w0)] []))
        refine Go.st (fun _ kq_ => XS.iconst X0.here hx rfl (hb hby dh00_31) kq_) ?_
        show Go p e below s _ _ _ (s₁.setTop (mkF m 32 #[.val (.ref a), .val (.int (0 : Int32)), .val (.int (0 : Int32)), .val (.int w0), .val (.int w0)] [(.int (1 : Int32))]))
        refine Go.st (fun _ kq_ => XS.goto X0.here hx rfl (pc0 := 32) (pc' := 36) rfl (hb hby dh00_32) (by decide) (by decide) kq_) ?_
        show Go p e below s _ _ _ (s₁.setTop (mkF m 36 #[.val (.ref a), .val (.int (0 : Int32)), .val (.int (0 : Int32)), .val (.int w0), .val (.int w0)] [(.int (1 : Int32))]))
        exact Go.ret X0 hlk (some (.int (1 : Int32))) (fun h => by rw [Bd.returns] at h; cases h) (by rw [e0]; exact ⟨own_res (z' := (1 : Int32)) (by unfold fA00; rw [if_neg c11_1, if_pos c17_2]) rfl, N0, rfl⟩) (by decide) (by decide) (fun fs hr => retI X0 hx Bd.returns (hb hby dh00_36) hr)
      · refine Go.st (fun _ kq_ => XS.icmpNo X0.here hx rfl (hb hby dh00_17) rfl (XT.ii_lt_f c17_2) kq_) ?_
        show Go p e below s _ _ _ (s₁.setTop (mkF m 20 #[.val (.ref a), .val (.int (0 : Int32)), .val (.int (0 : Int32)), .val (.int w0), .val (.int w0)] []))
        refine Go.st (fun _ kq_ => XS.iloadN X0.here hx rfl (hb hby dh00_20) rfl kq_) ?_
        show Go p e below s _ _ _ (s₁.setTop (mkF m 21 #[.val (.ref a), .val (.int (0 : Int32)), .val (.int (0 : Int32)), .val (.int w0), .val (.int w0)] [(.int w0)]))
        refine Go.st (fun _ kq_ => XS.iload X0.here hx rfl (hb hby dh00_21) rfl kq_) ?_
        show Go p e below s _ _ _ (s₁.setTop (mkF m 23 #[.val (.ref a), .val (.int (0 : Int32)), .val (.int (0 : Int32)), .val (.int w0), .val (.int w0)] [(.int w0), (.int w0)]))
        by_cases c23_3 : w0 = w0
        · refine Go.st (fun _ kq_ => XS.icmpNo X0.here hx rfl (hb hby dh00_23) rfl (XT.ii_ne_f c23_3) kq_) ?_
          show Go p e below s _ _ _ (s₁.setTop (mkF m 26 #[.val (.ref a), .val (.int (0 : Int32)), .val (.int (0 : Int32)), .val (.int w0), .val (.int w0)] []))
          refine Go.st (fun _ kq_ => XS.iloadN X0.here hx rfl (hb hby dh00_26) rfl kq_) ?_
          show Go p e below s _ _ _ (s₁.setTop (mkF m 27 #[.val (.ref a), .val (.int (0 : Int32)), .val (.int (0 : Int32)), .val (.int w0), .val (.int w0)] [(.int (0 : Int32))]))
          refine Go.st (fun _ kq_ => XS.iloadN X0.here hx rfl (hb hby dh00_27) rfl kq_) ?_
          show Go p e below s _ _ _ (s₁.setTop (mkF m 28 #[.val (.ref a), .val (.int (0 : Int32)), .val (.int (0 : Int32)), .val (.int w0), .val (.int w0)] [(.int (0 : Int32)), (.int (0 : Int32))]))
          refine Go.st (fun _ kq_ => XS.icmpYes X0.here hx rfl (pc0 := 28) (pc' := 35) rfl (hb hby dh00_28) rfl (by decide) (by decide) (by decide) kq_) ?_
          show Go p e below s _ _ _ (s₁.setTop (mkF m 35 #[.val (.ref a), .val (.int (0 : Int32)), .val (.int (0 : Int32)), .val (.int w0), .val (.int w0)] []))
          refine Go.st (fun _ kq_ => XS.iconst X0.here hx rfl (hb hby dh00_35) kq_) ?_
          show Go p e below s _ _ _ (s₁.setTop (mkF m 36 #[.val (.ref a), .val (.int (0 : Int32)), .val (.int (0 : Int32)), .val (.int w0), .val (.int w0)] [(.int (0 : Int32))]))
          exact Go.ret X0 hlk (some (.int (0 : Int32))) (fun h => by rw [Bd.returns] at h; cases h) (by rw [e0]; exact ⟨own_res (z' := (0 : Int32)) (by unfold fA00; rw [if_neg c11_1, if_neg c17_2, if_pos c23_3]) rfl, N0, rfl⟩) (by decide) (by decide) (fun fs hr => retI X0 hx Bd.returns (hb hby dh00_36) hr)
        · refine Go.st (fun _ kq_ => XS.icmpYes X0.here hx rfl (pc0 := 23) (pc' := 35) rfl (hb hby dh00_23) rfl (XT.ii_ne_t c23_3) (by decide) (by decide) kq_) ?_
          show Go p e below s _ _ _ (s₁.setTop (mkF m 35 #[.val (.ref a), .val (.int (0 : Int32)), .val (.int (0 : Int32)), .val (.int w0), .val (.int w0)] []))
          refine Go.st (fun _ kq_ => XS.iconst X0.here hx rfl (hb hby dh00_35) kq_) ?_
          show Go p e below s _ _ _ (s₁.setTop (mkF m 36 #[.val (.ref a), .val (.int (0 : Int32)), .val (.int (0 : Int32)), .val (.int w0), .val (.int w0)] [(.int (0 : Int32))]))
          exact Go.ret X0 hlk (some (.int (0 : Int32))) (fun h => by rw [Bd.returns] at h; cases h) (by rw [e0]; exact ⟨own_res (z' := (0 : Int32)) (by unfold fA00; rw [if_neg c11_1, if_neg c17_2, if_neg c23_3]) rfl, N0, rfl⟩) (by decide) (by decide) (fun fs hr => retI X0 hx Bd.returns (hb hby dh00_36) hr)
  obtain ⟨s2, o2, st2, r2⟩ := G
  exact ⟨s2, o2, castTop (efh00 m a (0 : Int32) (0 : Int32)) st2, r2⟩
theorem dh01_0 : decode method_6_code 0 = .ok (.aload_n 0, 1) := by decide +kernel
theorem dh01_1 : decode method_6_code 1 = .ok (.iload_n 1, 1) := by decide +kernel
theorem dh01_2 : decode method_6_code 2 = .ok (.iaload, 1) := by decide +kernel
theorem dh01_3 : decode method_6_code 3 = .ok (.istore_n 3, 1) := by decide +kernel
theorem dh01_4 : decode method_6_code 4 = .ok (.aload_n 0, 1) := by decide +kernel
theorem dh01_5 : decode method_6_code 5 = .ok (.iload_n 2, 1) := by decide +kernel
theorem dh01_6 : decode method_6_code 6 = .ok (.iaload, 1) := by decide +kernel
theorem dh01_7 : decode method_6_code 7 = .ok (.istore 4, 2) := by decide +kernel
theorem dh01_9 : decode method_6_code 9 = .ok (.iload_n 3, 1) := by decide +kernel
theorem dh01_10 : decode method_6_code 10 = .ok (.iconst (-1), 1) := by decide +kernel
theorem dh01_11 : decode method_6_code 11 = .ok (.if_icmp .eq 24, 3) := by decide +kernel
theorem dh01_14 : decode method_6_code 14 = .ok (.iload_n 3, 1) := by decide +kernel
theorem dh01_15 : decode method_6_code 15 = .ok (.iload 4, 2) := by decide +kernel
theorem dh01_17 : decode method_6_code 17 = .ok (.if_icmp .lt 14, 3) := by decide +kernel
theorem dh01_20 : decode method_6_code 20 = .ok (.iload_n 3, 1) := by decide +kernel
theorem dh01_21 : decode method_6_code 21 = .ok (.iload 4, 2) := by decide +kernel
theorem dh01_23 : decode method_6_code 23 = .ok (.if_icmp .ne 12, 3) := by decide +kernel
theorem dh01_26 : decode method_6_code 26 = .ok (.iload_n 1, 1) := by decide +kernel
theorem dh01_27 : decode method_6_code 27 = .ok (.iload_n 2, 1) := by decide +kernel
theorem dh01_28 : decode method_6_code 28 = .ok (.if_icmp .ge 7, 3) := by decide +kernel
theorem dh01_31 : decode method_6_code 31 = .ok (.iconst 1, 1) := by decide +kernel
theorem dh01_32 : decode method_6_code 32 = .ok (.goto 4, 3) := by decide +kernel
theorem dh01_35 : decode method_6_code 35 = .ok (.iconst 0, 1) := by decide +kernel
theorem dh01_36 : decode method_6_code 36 = .ok (.ireturn, 1) := by decide +kernel
theorem pnh01 : plainName "com/example/rootward/rootward/model/InstanceGroupPinLaw" = true := by first | (simp [plainName, overriddenIn]; done) | decide +kernel
theorem efh01 (m : MethodId) (x0 : Addr) (x1 : Int32) (x2 : Int32) : entryFrame m #[(.ref x0), (.int x1), (.int x2)] 5 = mkF m 0 #[.val (.ref x0), .val (.int x1), .val (.int x2), .unset, .unset] [] := by first | (simp [entryFrame, mkF, argsToLocals, Value.category, maxLocals]; done) | rfl
def fA01 (w0 : Int32) (w1 : Int32) (w2 : Int32) (w3 : Int32) : Int32 := (if w0 = (-1 : Int32) then (0 : Int32) else (if w0 < w1 then (1 : Int32) else (if w0 = w1 then (1 : Int32) else (0 : Int32))))
def Qh01 (Z : State) (a : Addr) (ka : ClassId) (w0 : Int32) (w1 : Int32) (w2 : Int32) (w3 : Int32) (h0 : Heap) (n0 : Nat) (v : Option Value) (h : Heap) (L : List Loc) : Prop := v = some (.int (fA01 w0 w1 w2 w3)) ∧ Fr n0 L ∧ h = h0
set_option maxRecDepth 65536 in
set_option maxHeartbeats 40000000 in
theorem rmh01 (l : Launch) (Z : State) (a0 : Array Value) (hw : ∀ d ∈ tables_1, d.before a0 Z = true) (ws : List Jvm.Cond) (a : Addr) (ka : ClassId) (w0 : Int32) (w1 : Int32) (w2 : Int32) (w3 : Int32) (h0 : Heap) (n0 : Nat) (O0 : Old Z n0 h0) (V_a : Arv Z h0 a ka .int (4 : Int32) [(.int w0), (.int w1), (.int w2), (.int w3)] (.int (0 : Int32))) :
    MetFree l (⟨"com/example/rootward/rootward/model/InstanceGroupPinLaw", "ahead", "([III)I"⟩ : MethodName) (head1 (Jvm.Cond.code (⟨"com/example/rootward/rootward/model/InstanceGroupPinLaw", "ahead", "([III)I"⟩ : MethodName) method_6_code 5 (some .int) :: ws) ({ frames := 0, cells := 0, slots := 0, locals := 0 } : Room)) (fun A_ U_ => A_ = #[(.ref a), (.int (0 : Int32)), (.int (1 : Int32))] ∧ Z.Warmed39 U_.vm ∧ U_.heap = h0) (fun _ _ _ _ _ => True) (fun _ U o U' => ∃ v L, o = .returned v ∧ Qh01 Z a ka w0 w1 w2 w3 h0 n0 v U'.heap L ∧ FrameEnd U o U' L ({ frames := 0, cells := 0, slots := 0, locals := 0 } : Room).cells ({ frames := 0, cells := 0, slots := 0, locals := 0 } : Room).slots) := by
  refine MetFree.of_bodySF (plainFor_of_name pnh01) hisR ?_
  intro p e s m args below meth cd s₁ Bd hml0 hP hK
  obtain ⟨rfl, hZ, hh⟩ := hP
  have hx := Bd.exec
  have hby := Bd.bytes
  have hlk : meth.locks = false := BodyLoose.notSynchronized Bd
  have hml : cd.maxLocals = 5 := hml0
  have hown : s.vm.findClass "com/example/rootward/rootward/model/InstanceGroupPinLaw" = some m.cls := findClass_of_methodNamed Bd.named
  have hnm := (name_of_methodNamed Bd.named Bd.method).1
  have X0 : Stand p l e ({ frames := 0, cells := 0, slots := 0, locals := 0 } : Room) s m #[(.ref a), (.int (0 : Int32)), (.int (1 : Int32))] below meth cd s₁ [] 0 0 := Stand.of_body Bd
  have e0 : s₁.heap = h0 := by rw [← hh, Bd.state]; rfl
  have N0 := Fr.nil n0
  have G : Go p e below s 0 0 (Qh01 Z a ka w0 w1 w2 w3 h0 n0) (s₁.setTop (mkF m 0 #[.val (.ref a), .val (.int (0 : Int32)), .val (.int (1 : Int32)), .unset, .unset] [])) := by
    show Go p e below s _ _ _ (s₁.setTop (mkF m 0 #[.val (.ref a), .val (.int (0 : Int32)), .val (.int (1 : Int32)), .unset, .unset] []))
    refine Go.st (fun _ kq_ => XS.aloadN X0.here hx rfl (hb hby dh01_0) rfl rfl kq_) ?_
    show Go p e below s _ _ _ (s₁.setTop (mkF m 1 #[.val (.ref a), .val (.int (0 : Int32)), .val (.int (1 : Int32)), .unset, .unset] [(.ref a)]))
    refine Go.st (fun _ kq_ => XS.iloadN X0.here hx rfl (hb hby dh01_1) rfl kq_) ?_
    show Go p e below s _ _ _ (s₁.setTop (mkF m 2 #[.val (.ref a), .val (.int (0 : Int32)), .val (.int (1 : Int32)), .unset, .unset] [(.int (0 : Int32)), (.ref a)]))
    refine Go.st (fun _ kq_ => own_iaload X0 hx hZ e0 V_a (by decide) (by decide) (v := (.int w0)) rfl (g := (mkF m 2 #[.val (.ref a), .val (.int (0 : Int32)), .val (.int (1 : Int32)), .unset, .unset] [(.int (0 : Int32)), (.ref a)])) rfl rfl (hb hby dh01_2) _ kq_) ?_
    show Go p e below s _ _ _ (s₁.setTop (mkF m 3 #[.val (.ref a), .val (.int (0 : Int32)), .val (.int (1 : Int32)), .unset, .unset] [(.int w0)]))
    refine Go.st (fun _ kq_ => XS.istoreN X0.here hx rfl (hb hby dh01_3) rfl (l' := #[.val (.ref a), .val (.int (0 : Int32)), .val (.int (1 : Int32)), .val (.int w0), .unset]) rfl kq_) ?_
    show Go p e below s _ _ _ (s₁.setTop (mkF m 4 #[.val (.ref a), .val (.int (0 : Int32)), .val (.int (1 : Int32)), .val (.int w0), .unset] []))
    refine Go.st (fun _ kq_ => XS.aloadN X0.here hx rfl (hb hby dh01_4) rfl rfl kq_) ?_
    show Go p e below s _ _ _ (s₁.setTop (mkF m 5 #[.val (.ref a), .val (.int (0 : Int32)), .val (.int (1 : Int32)), .val (.int w0), .unset] [(.ref a)]))
    refine Go.st (fun _ kq_ => XS.iloadN X0.here hx rfl (hb hby dh01_5) rfl kq_) ?_
    show Go p e below s _ _ _ (s₁.setTop (mkF m 6 #[.val (.ref a), .val (.int (0 : Int32)), .val (.int (1 : Int32)), .val (.int w0), .unset] [(.int (1 : Int32)), (.ref a)]))
    refine Go.st (fun _ kq_ => own_iaload X0 hx hZ e0 V_a (by decide) (by decide) (v := (.int w1)) rfl (g := (mkF m 6 #[.val (.ref a), .val (.int (0 : Int32)), .val (.int (1 : Int32)), .val (.int w0), .unset] [(.int (1 : Int32)), (.ref a)])) rfl rfl (hb hby dh01_6) _ kq_) ?_
    show Go p e below s _ _ _ (s₁.setTop (mkF m 7 #[.val (.ref a), .val (.int (0 : Int32)), .val (.int (1 : Int32)), .val (.int w0), .unset] [(.int w1)]))
    refine Go.st (fun _ kq_ => XS.istore X0.here hx rfl (hb hby dh01_7) rfl (l' := #[.val (.ref a), .val (.int (0 : Int32)), .val (.int (1 : Int32)), .val (.int w0), .val (.int w1)]) rfl kq_) ?_
    show Go p e below s _ _ _ (s₁.setTop (mkF m 9 #[.val (.ref a), .val (.int (0 : Int32)), .val (.int (1 : Int32)), .val (.int w0), .val (.int w1)] []))
    refine Go.st (fun _ kq_ => XS.iloadN X0.here hx rfl (hb hby dh01_9) rfl kq_) ?_
    show Go p e below s _ _ _ (s₁.setTop (mkF m 10 #[.val (.ref a), .val (.int (0 : Int32)), .val (.int (1 : Int32)), .val (.int w0), .val (.int w1)] [(.int w0)]))
    refine Go.st (fun _ kq_ => XS.iconst X0.here hx rfl (hb hby dh01_10) kq_) ?_
    show Go p e below s _ _ _ (s₁.setTop (mkF m 11 #[.val (.ref a), .val (.int (0 : Int32)), .val (.int (1 : Int32)), .val (.int w0), .val (.int w1)] [(.int (-1 : Int32)), (.int w0)]))
    by_cases c11_1 : w0 = (-1 : Int32)
    · refine Go.st (fun _ kq_ => XS.icmpYes X0.here hx rfl (pc0 := 11) (pc' := 35) rfl (hb hby dh01_11) rfl (XT.ii_eq_t c11_1) (by decide) (by decide) kq_) ?_
      show Go p e below s _ _ _ (s₁.setTop (mkF m 35 #[.val (.ref a), .val (.int (0 : Int32)), .val (.int (1 : Int32)), .val (.int w0), .val (.int w1)] []))
      refine Go.st (fun _ kq_ => XS.iconst X0.here hx rfl (hb hby dh01_35) kq_) ?_
      show Go p e below s _ _ _ (s₁.setTop (mkF m 36 #[.val (.ref a), .val (.int (0 : Int32)), .val (.int (1 : Int32)), .val (.int w0), .val (.int w1)] [(.int (0 : Int32))]))
      exact Go.ret X0 hlk (some (.int (0 : Int32))) (fun h => by rw [Bd.returns] at h; cases h) (by rw [e0]; exact ⟨own_res (z' := (0 : Int32)) (by unfold fA01; rw [if_pos c11_1]) rfl, N0, rfl⟩) (by decide) (by decide) (fun fs hr => retI X0 hx Bd.returns (hb hby dh01_36) hr)
    · refine Go.st (fun _ kq_ => XS.icmpNo X0.here hx rfl (hb hby dh01_11) rfl (XT.ii_eq_f c11_1) kq_) ?_
      show Go p e below s _ _ _ (s₁.setTop (mkF m 14 #[.val (.ref a), .val (.int (0 : Int32)), .val (.int (1 : Int32)), .val (.int w0), .val (.int w1)] []))
      refine Go.st (fun _ kq_ => XS.iloadN X0.here hx rfl (hb hby dh01_14) rfl kq_) ?_
      show Go p e below s _ _ _ (s₁.setTop (mkF m 15 #[.val (.ref a), .val (.int (0 : Int32)), .val (.int (1 : Int32)), .val (.int w0), .val (.int w1)] [(.int w0)]))
      refine Go.st (fun _ kq_ => XS.iload X0.here hx rfl (hb hby dh01_15) rfl kq_) ?_
      show Go p e below s _ _ _ (s₁.setTop (mkF m 17 #[.val (.ref a), .val (.int (0 : Int32)), .val (.int (1 : Int32)), .val (.int w0), .val (.int w1)] [(.int w1), (.int w0)]))
      by_cases c17_2 : w0 < w1
      · refine Go.st (fun _ kq_ => XS.icmpYes X0.here hx rfl (pc0 := 17) (pc' := 31) rfl (hb hby dh01_17) rfl (XT.ii_lt_t c17_2) (by decide) (by decide) kq_) ?_
        show Go p e below s _ _ _ (s₁.setTop (mkF m 31 #[.val (.ref a), .val (.int (0 : Int32)), .val (.int (1 : Int32)), .val (.int w0), .val (.int w1)] []))
        refine Go.st (fun _ kq_ => XS.iconst X0.here hx rfl (hb hby dh01_31) kq_) ?_
        show Go p e below s _ _ _ (s₁.setTop (mkF m 32 #[.val (.ref a), .val (.int (0 : Int32)), .val (.int (1 : Int32)), .val (.int w0), .val (.int w1)] [(.int (1 : Int32))]))
        refine Go.st (fun _ kq_ => XS.goto X0.here hx rfl (pc0 := 32) (pc' := 36) rfl (hb hby dh01_32) (by decide) (by decide) kq_) ?_
        show Go p e below s _ _ _ (s₁.setTop (mkF m 36 #[.val (.ref a), .val (.int (0 : Int32)), .val (.int (1 : Int32)), .val (.int w0), .val (.int w1)] [(.int (1 : Int32))]))
        exact Go.ret X0 hlk (some (.int (1 : Int32))) (fun h => by rw [Bd.returns] at h; cases h) (by rw [e0]; exact ⟨own_res (z' := (1 : Int32)) (by unfold fA01; rw [if_neg c11_1, if_pos c17_2]) rfl, N0, rfl⟩) (by decide) (by decide) (fun fs hr => retI X0 hx Bd.returns (hb hby dh01_36) hr)
      · refine Go.st (fun _ kq_ => XS.icmpNo X0.here hx rfl (hb hby dh01_17) rfl (XT.ii_lt_f c17_2) kq_) ?_
        show Go p e below s _ _ _ (s₁.setTop (mkF m 20 #[.val (.ref a), .val (.int (0 : Int32)), .val (.int (1 : Int32)), .val (.int w0), .val (.int w1)] []))
        refine Go.st (fun _ kq_ => XS.iloadN X0.here hx rfl (hb hby dh01_20) rfl kq_) ?_
        show Go p e below s _ _ _ (s₁.setTop (mkF m 21 #[.val (.ref a), .val (.int (0 : Int32)), .val (.int (1 : Int32)), .val (.int w0), .val (.int w1)] [(.int w0)]))
        refine Go.st (fun _ kq_ => XS.iload X0.here hx rfl (hb hby dh01_21) rfl kq_) ?_
        show Go p e below s _ _ _ (s₁.setTop (mkF m 23 #[.val (.ref a), .val (.int (0 : Int32)), .val (.int (1 : Int32)), .val (.int w0), .val (.int w1)] [(.int w1), (.int w0)]))
        by_cases c23_3 : w0 = w1
        · refine Go.st (fun _ kq_ => XS.icmpNo X0.here hx rfl (hb hby dh01_23) rfl (XT.ii_ne_f c23_3) kq_) ?_
          show Go p e below s _ _ _ (s₁.setTop (mkF m 26 #[.val (.ref a), .val (.int (0 : Int32)), .val (.int (1 : Int32)), .val (.int w0), .val (.int w1)] []))
          refine Go.st (fun _ kq_ => XS.iloadN X0.here hx rfl (hb hby dh01_26) rfl kq_) ?_
          show Go p e below s _ _ _ (s₁.setTop (mkF m 27 #[.val (.ref a), .val (.int (0 : Int32)), .val (.int (1 : Int32)), .val (.int w0), .val (.int w1)] [(.int (0 : Int32))]))
          refine Go.st (fun _ kq_ => XS.iloadN X0.here hx rfl (hb hby dh01_27) rfl kq_) ?_
          show Go p e below s _ _ _ (s₁.setTop (mkF m 28 #[.val (.ref a), .val (.int (0 : Int32)), .val (.int (1 : Int32)), .val (.int w0), .val (.int w1)] [(.int (1 : Int32)), (.int (0 : Int32))]))
          refine Go.st (fun _ kq_ => XS.icmpNo X0.here hx rfl (hb hby dh01_28) rfl (by decide) kq_) ?_
          show Go p e below s _ _ _ (s₁.setTop (mkF m 31 #[.val (.ref a), .val (.int (0 : Int32)), .val (.int (1 : Int32)), .val (.int w0), .val (.int w1)] []))
          refine Go.st (fun _ kq_ => XS.iconst X0.here hx rfl (hb hby dh01_31) kq_) ?_
          show Go p e below s _ _ _ (s₁.setTop (mkF m 32 #[.val (.ref a), .val (.int (0 : Int32)), .val (.int (1 : Int32)), .val (.int w0), .val (.int w1)] [(.int (1 : Int32))]))
          refine Go.st (fun _ kq_ => XS.goto X0.here hx rfl (pc0 := 32) (pc' := 36) rfl (hb hby dh01_32) (by decide) (by decide) kq_) ?_
          show Go p e below s _ _ _ (s₁.setTop (mkF m 36 #[.val (.ref a), .val (.int (0 : Int32)), .val (.int (1 : Int32)), .val (.int w0), .val (.int w1)] [(.int (1 : Int32))]))
          exact Go.ret X0 hlk (some (.int (1 : Int32))) (fun h => by rw [Bd.returns] at h; cases h) (by rw [e0]; exact ⟨own_res (z' := (1 : Int32)) (by unfold fA01; rw [if_neg c11_1, if_neg c17_2, if_pos c23_3]) rfl, N0, rfl⟩) (by decide) (by decide) (fun fs hr => retI X0 hx Bd.returns (hb hby dh01_36) hr)
        · refine Go.st (fun _ kq_ => XS.icmpYes X0.here hx rfl (pc0 := 23) (pc' := 35) rfl (hb hby dh01_23) rfl (XT.ii_ne_t c23_3) (by decide) (by decide) kq_) ?_
          show Go p e below s _ _ _ (s₁.setTop (mkF m 35 #[.val (.ref a), .val (.int (0 : Int32)), .val (.int (1 : Int32)), .val (.int w0), .val (.int w1)] []))
          refine Go.st (fun _ kq_ => XS.iconst X0.here hx rfl (hb hby dh01_35) kq_) ?_
          show Go p e below s _ _ _ (s₁.setTop (mkF m 36 #[.val (.ref a), .val (.int (0 : Int32)), .val (.int (1 : Int32)), .val (.int w0), .val (.int w1)] [(.int (0 : Int32))]))
          exact Go.ret X0 hlk (some (.int (0 : Int32))) (fun h => by rw [Bd.returns] at h; cases h) (by rw [e0]; exact ⟨own_res (z' := (0 : Int32)) (by unfold fA01; rw [if_neg c11_1, if_neg c17_2, if_neg c23_3]) rfl, N0, rfl⟩) (by decide) (by decide) (fun fs hr => retI X0 hx Bd.returns (hb hby dh01_36) hr)
  obtain ⟨s2, o2, st2, r2⟩ := G
  exact ⟨s2, o2, castTop (efh01 m a (0 : Int32) (1 : Int32)) st2, r2⟩
theorem dh02_0 : decode method_6_code 0 = .ok (.aload_n 0, 1) := by decide +kernel
theorem dh02_1 : decode method_6_code 1 = .ok (.iload_n 1, 1) := by decide +kernel
theorem dh02_2 : decode method_6_code 2 = .ok (.iaload, 1) := by decide +kernel
theorem dh02_3 : decode method_6_code 3 = .ok (.istore_n 3, 1) := by decide +kernel
theorem dh02_4 : decode method_6_code 4 = .ok (.aload_n 0, 1) := by decide +kernel
theorem dh02_5 : decode method_6_code 5 = .ok (.iload_n 2, 1) := by decide +kernel
theorem dh02_6 : decode method_6_code 6 = .ok (.iaload, 1) := by decide +kernel
theorem dh02_7 : decode method_6_code 7 = .ok (.istore 4, 2) := by decide +kernel
theorem dh02_9 : decode method_6_code 9 = .ok (.iload_n 3, 1) := by decide +kernel
theorem dh02_10 : decode method_6_code 10 = .ok (.iconst (-1), 1) := by decide +kernel
theorem dh02_11 : decode method_6_code 11 = .ok (.if_icmp .eq 24, 3) := by decide +kernel
theorem dh02_14 : decode method_6_code 14 = .ok (.iload_n 3, 1) := by decide +kernel
theorem dh02_15 : decode method_6_code 15 = .ok (.iload 4, 2) := by decide +kernel
theorem dh02_17 : decode method_6_code 17 = .ok (.if_icmp .lt 14, 3) := by decide +kernel
theorem dh02_20 : decode method_6_code 20 = .ok (.iload_n 3, 1) := by decide +kernel
theorem dh02_21 : decode method_6_code 21 = .ok (.iload 4, 2) := by decide +kernel
theorem dh02_23 : decode method_6_code 23 = .ok (.if_icmp .ne 12, 3) := by decide +kernel
theorem dh02_26 : decode method_6_code 26 = .ok (.iload_n 1, 1) := by decide +kernel
theorem dh02_27 : decode method_6_code 27 = .ok (.iload_n 2, 1) := by decide +kernel
theorem dh02_28 : decode method_6_code 28 = .ok (.if_icmp .ge 7, 3) := by decide +kernel
theorem dh02_31 : decode method_6_code 31 = .ok (.iconst 1, 1) := by decide +kernel
theorem dh02_32 : decode method_6_code 32 = .ok (.goto 4, 3) := by decide +kernel
theorem dh02_35 : decode method_6_code 35 = .ok (.iconst 0, 1) := by decide +kernel
theorem dh02_36 : decode method_6_code 36 = .ok (.ireturn, 1) := by decide +kernel
theorem pnh02 : plainName "com/example/rootward/rootward/model/InstanceGroupPinLaw" = true := by first | (simp [plainName, overriddenIn]; done) | decide +kernel
theorem efh02 (m : MethodId) (x0 : Addr) (x1 : Int32) (x2 : Int32) : entryFrame m #[(.ref x0), (.int x1), (.int x2)] 5 = mkF m 0 #[.val (.ref x0), .val (.int x1), .val (.int x2), .unset, .unset] [] := by first | (simp [entryFrame, mkF, argsToLocals, Value.category, maxLocals]; done) | rfl
def fA02 (w0 : Int32) (w1 : Int32) (w2 : Int32) (w3 : Int32) : Int32 := (if w0 = (-1 : Int32) then (0 : Int32) else (if w0 < w2 then (1 : Int32) else (if w0 = w2 then (1 : Int32) else (0 : Int32))))
def Qh02 (Z : State) (a : Addr) (ka : ClassId) (w0 : Int32) (w1 : Int32) (w2 : Int32) (w3 : Int32) (h0 : Heap) (n0 : Nat) (v : Option Value) (h : Heap) (L : List Loc) : Prop := v = some (.int (fA02 w0 w1 w2 w3)) ∧ Fr n0 L ∧ h = h0
set_option maxRecDepth 65536 in
set_option maxHeartbeats 40000000 in
theorem rmh02 (l : Launch) (Z : State) (a0 : Array Value) (hw : ∀ d ∈ tables_1, d.before a0 Z = true) (ws : List Jvm.Cond) (a : Addr) (ka : ClassId) (w0 : Int32) (w1 : Int32) (w2 : Int32) (w3 : Int32) (h0 : Heap) (n0 : Nat) (O0 : Old Z n0 h0) (V_a : Arv Z h0 a ka .int (4 : Int32) [(.int w0), (.int w1), (.int w2), (.int w3)] (.int (0 : Int32))) :
    MetFree l (⟨"com/example/rootward/rootward/model/InstanceGroupPinLaw", "ahead", "([III)I"⟩ : MethodName) (head1 (Jvm.Cond.code (⟨"com/example/rootward/rootward/model/InstanceGroupPinLaw", "ahead", "([III)I"⟩ : MethodName) method_6_code 5 (some .int) :: ws) ({ frames := 0, cells := 0, slots := 0, locals := 0 } : Room)) (fun A_ U_ => A_ = #[(.ref a), (.int (0 : Int32)), (.int (2 : Int32))] ∧ Z.Warmed39 U_.vm ∧ U_.heap = h0) (fun _ _ _ _ _ => True) (fun _ U o U' => ∃ v L, o = .returned v ∧ Qh02 Z a ka w0 w1 w2 w3 h0 n0 v U'.heap L ∧ FrameEnd U o U' L ({ frames := 0, cells := 0, slots := 0, locals := 0 } : Room).cells ({ frames := 0, cells := 0, slots := 0, locals := 0 } : Room).slots) := by
  refine MetFree.of_bodySF (plainFor_of_name pnh02) hisR ?_
  intro p e s m args below meth cd s₁ Bd hml0 hP hK
  obtain ⟨rfl, hZ, hh⟩ := hP
  have hx := Bd.exec
  have hby := Bd.bytes
  have hlk : meth.locks = false := BodyLoose.notSynchronized Bd
  have hml : cd.maxLocals = 5 := hml0
  have hown : s.vm.findClass "com/example/rootward/rootward/model/InstanceGroupPinLaw" = some m.cls := findClass_of_methodNamed Bd.named
  have hnm := (name_of_methodNamed Bd.named Bd.method).1
  have X0 : Stand p l e ({ frames := 0, cells := 0, slots := 0, locals := 0 } : Room) s m #[(.ref a), (.int (0 : Int32)), (.int (2 : Int32))] below meth cd s₁ [] 0 0 := Stand.of_body Bd
  have e0 : s₁.heap = h0 := by rw [← hh, Bd.state]; rfl
  have N0 := Fr.nil n0
  have G : Go p e below s 0 0 (Qh02 Z a ka w0 w1 w2 w3 h0 n0) (s₁.setTop (mkF m 0 #[.val (.ref a), .val (.int (0 : Int32)), .val (.int (2 : Int32)), .unset, .unset] [])) := by
    show Go p e below s _ _ _ (s₁.setTop (mkF m 0 #[.val (.ref a), .val (.int (0 : Int32)), .val (.int (2 : Int32)), .unset, .unset] []))
    refine Go.st (fun _ kq_ => XS.aloadN X0.here hx rfl (hb hby dh02_0) rfl rfl kq_) ?_
    show Go p e below s _ _ _ (s₁.setTop (mkF m 1 #[.val (.ref a), .val (.int (0 : Int32)), .val (.int (2 : Int32)), .unset, .unset] [(.ref a)]))
    refine Go.st (fun _ kq_ => XS.iloadN X0.here hx rfl (hb hby dh02_1) rfl kq_) ?_
    show Go p e below s _ _ _ (s₁.setTop (mkF m 2 #[.val (.ref a), .val (.int (0 : Int32)), .val (.int (2 : Int32)), .unset, .unset] [(.int (0 : Int32)), (.ref a)]))
    refine Go.st (fun _ kq_ => own_iaload X0 hx hZ e0 V_a (by decide) (by decide) (v := (.int w0)) rfl (g := (mkF m 2 #[.val (.ref a), .val (.int (0 : Int32)), .val (.int (2 : Int32)), .unset, .unset] [(.int (0 : Int32)), (.ref a)])) rfl rfl (hb hby dh02_2) _ kq_) ?_
    show Go p e below s _ _ _ (s₁.setTop (mkF m 3 #[.val (.ref a), .val (.int (0 : Int32)), .val (.int (2 : Int32)), .unset, .unset] [(.int w0)]))
    refine Go.st (fun _ kq_ => XS.istoreN X0.here hx rfl (hb hby dh02_3) rfl (l' := #[.val (.ref a), .val (.int (0 : Int32)), .val (.int (2 : Int32)), .val (.int w0), .unset]) rfl kq_) ?_
    show Go p e below s _ _ _ (s₁.setTop (mkF m 4 #[.val (.ref a), .val (.int (0 : Int32)), .val (.int (2 : Int32)), .val (.int w0), .unset] []))
    refine Go.st (fun _ kq_ => XS.aloadN X0.here hx rfl (hb hby dh02_4) rfl rfl kq_) ?_
    show Go p e below s _ _ _ (s₁.setTop (mkF m 5 #[.val (.ref a), .val (.int (0 : Int32)), .val (.int (2 : Int32)), .val (.int w0), .unset] [(.ref a)]))
    refine Go.st (fun _ kq_ => XS.iloadN X0.here hx rfl (hb hby dh02_5) rfl kq_) ?_
    show Go p e below s _ _ _ (s₁.setTop (mkF m 6 #[.val (.ref a), .val (.int (0 : Int32)), .val (.int (2 : Int32)), .val (.int w0), .unset] [(.int (2 : Int32)), (.ref a)]))
    refine Go.st (fun _ kq_ => own_iaload X0 hx hZ e0 V_a (by decide) (by decide) (v := (.int w2)) rfl (g := (mkF m 6 #[.val (.ref a), .val (.int (0 : Int32)), .val (.int (2 : Int32)), .val (.int w0), .unset] [(.int (2 : Int32)), (.ref a)])) rfl rfl (hb hby dh02_6) _ kq_) ?_
    show Go p e below s _ _ _ (s₁.setTop (mkF m 7 #[.val (.ref a), .val (.int (0 : Int32)), .val (.int (2 : Int32)), .val (.int w0), .unset] [(.int w2)]))
    refine Go.st (fun _ kq_ => XS.istore X0.here hx rfl (hb hby dh02_7) rfl (l' := #[.val (.ref a), .val (.int (0 : Int32)), .val (.int (2 : Int32)), .val (.int w0), .val (.int w2)]) rfl kq_) ?_
    show Go p e below s _ _ _ (s₁.setTop (mkF m 9 #[.val (.ref a), .val (.int (0 : Int32)), .val (.int (2 : Int32)), .val (.int w0), .val (.int w2)] []))
    refine Go.st (fun _ kq_ => XS.iloadN X0.here hx rfl (hb hby dh02_9) rfl kq_) ?_
    show Go p e below s _ _ _ (s₁.setTop (mkF m 10 #[.val (.ref a), .val (.int (0 : Int32)), .val (.int (2 : Int32)), .val (.int w0), .val (.int w2)] [(.int w0)]))
    refine Go.st (fun _ kq_ => XS.iconst X0.here hx rfl (hb hby dh02_10) kq_) ?_
    show Go p e below s _ _ _ (s₁.setTop (mkF m 11 #[.val (.ref a), .val (.int (0 : Int32)), .val (.int (2 : Int32)), .val (.int w0), .val (.int w2)] [(.int (-1 : Int32)), (.int w0)]))
    by_cases c11_1 : w0 = (-1 : Int32)
    · refine Go.st (fun _ kq_ => XS.icmpYes X0.here hx rfl (pc0 := 11) (pc' := 35) rfl (hb hby dh02_11) rfl (XT.ii_eq_t c11_1) (by decide) (by decide) kq_) ?_
      show Go p e below s _ _ _ (s₁.setTop (mkF m 35 #[.val (.ref a), .val (.int (0 : Int32)), .val (.int (2 : Int32)), .val (.int w0), .val (.int w2)] []))
      refine Go.st (fun _ kq_ => XS.iconst X0.here hx rfl (hb hby dh02_35) kq_) ?_
      show Go p e below s _ _ _ (s₁.setTop (mkF m 36 #[.val (.ref a), .val (.int (0 : Int32)), .val (.int (2 : Int32)), .val (.int w0), .val (.int w2)] [(.int (0 : Int32))]))
      exact Go.ret X0 hlk (some (.int (0 : Int32))) (fun h => by rw [Bd.returns] at h; cases h) (by rw [e0]; exact ⟨own_res (z' := (0 : Int32)) (by unfold fA02; rw [if_pos c11_1]) rfl, N0, rfl⟩) (by decide) (by decide) (fun fs hr => retI X0 hx Bd.returns (hb hby dh02_36) hr)
    · refine Go.st (fun _ kq_ => XS.icmpNo X0.here hx rfl (hb hby dh02_11) rfl (XT.ii_eq_f c11_1) kq_) ?_
      show Go p e below s _ _ _ (s₁.setTop (mkF m 14 #[.val (.ref a), .val (.int (0 : Int32)), .val (.int (2 : Int32)), .val (.int w0), .val (.int w2)] []))
      refine Go.st (fun _ kq_ => XS.iloadN X0.here hx rfl (hb hby dh02_14) rfl kq_) ?_
      show Go p e below s _ _ _ (s₁.setTop (mkF m 15 #[.val (.ref a), .val (.int (0 : Int32)), .val (.int (2 : Int32)), .val (.int w0), .val (.int w2)] [(.int w0)]))
      refine Go.st (fun _ kq_ => XS.iload X0.here hx rfl (hb hby dh02_15) rfl kq_) ?_
      show Go p e below s _ _ _ (s₁.setTop (mkF m 17 #[.val (.ref a), .val (.int (0 : Int32)), .val (.int (2 : Int32)), .val (.int w0), .val (.int w2)] [(.int w2), (.int w0)]))
      by_cases c17_2 : w0 < w2
      · refine Go.st (fun _ kq_ => XS.icmpYes X0.here hx rfl (pc0 := 17) (pc' := 31) rfl (hb hby dh02_17) rfl (XT.ii_lt_t c17_2) (by decide) (by decide) kq_) ?_
        show Go p e below s _ _ _ (s₁.setTop (mkF m 31 #[.val (.ref a), .val (.int (0 : Int32)), .val (.int (2 : Int32)), .val (.int w0), .val (.int w2)] []))
        refine Go.st (fun _ kq_ => XS.iconst X0.here hx rfl (hb hby dh02_31) kq_) ?_
        show Go p e below s _ _ _ (s₁.setTop (mkF m 32 #[.val (.ref a), .val (.int (0 : Int32)), .val (.int (2 : Int32)), .val (.int w0), .val (.int w2)] [(.int (1 : Int32))]))
        refine Go.st (fun _ kq_ => XS.goto X0.here hx rfl (pc0 := 32) (pc' := 36) rfl (hb hby dh02_32) (by decide) (by decide) kq_) ?_
        show Go p e below s _ _ _ (s₁.setTop (mkF m 36 #[.val (.ref a), .val (.int (0 : Int32)), .val (.int (2 : Int32)), .val (.int w0), .val (.int w2)] [(.int (1 : Int32))]))
        exact Go.ret X0 hlk (some (.int (1 : Int32))) (fun h => by rw [Bd.returns] at h; cases h) (by rw [e0]; exact ⟨own_res (z' := (1 : Int32)) (by unfold fA02; rw [if_neg c11_1, if_pos c17_2]) rfl, N0, rfl⟩) (by decide) (by decide) (fun fs hr => retI X0 hx Bd.returns (hb hby dh02_36) hr)
      · refine Go.st (fun _ kq_ => XS.icmpNo X0.here hx rfl (hb hby dh02_17) rfl (XT.ii_lt_f c17_2) kq_) ?_
        show Go p e below s _ _ _ (s₁.setTop (mkF m 20 #[.val (.ref a), .val (.int (0 : Int32)), .val (.int (2 : Int32)), .val (.int w0), .val (.int w2)] []))
        refine Go.st (fun _ kq_ => XS.iloadN X0.here hx rfl (hb hby dh02_20) rfl kq_) ?_
        show Go p e below s _ _ _ (s₁.setTop (mkF m 21 #[.val (.ref a), .val (.int (0 : Int32)), .val (.int (2 : Int32)), .val (.int w0), .val (.int w2)] [(.int w0)]))
        refine Go.st (fun _ kq_ => XS.iload X0.here hx rfl (hb hby dh02_21) rfl kq_) ?_
        show Go p e below s _ _ _ (s₁.setTop (mkF m 23 #[.val (.ref a), .val (.int (0 : Int32)), .val (.int (2 : Int32)), .val (.int w0), .val (.int w2)] [(.int w2), (.int w0)]))
        by_cases c23_3 : w0 = w2
        · refine Go.st (fun _ kq_ => XS.icmpNo X0.here hx rfl (hb hby dh02_23) rfl (XT.ii_ne_f c23_3) kq_) ?_
          show Go p e below s _ _ _ (s₁.setTop (mkF m 26 #[.val (.ref a), .val (.int (0 : Int32)), .val (.int (2 : Int32)), .val (.int w0), .val (.int w2)] []))
          refine Go.st (fun _ kq_ => XS.iloadN X0.here hx rfl (hb hby dh02_26) rfl kq_) ?_
          show Go p e below s _ _ _ (s₁.setTop (mkF m 27 #[.val (.ref a), .val (.int (0 : Int32)), .val (.int (2 : Int32)), .val (.int w0), .val (.int w2)] [(.int (0 : Int32))]))
          refine Go.st (fun _ kq_ => XS.iloadN X0.here hx rfl (hb hby dh02_27) rfl kq_) ?_
          show Go p e below s _ _ _ (s₁.setTop (mkF m 28 #[.val (.ref a), .val (.int (0 : Int32)), .val (.int (2 : Int32)), .val (.int w0), .val (.int w2)] [(.int (2 : Int32)), (.int (0 : Int32))]))
          refine Go.st (fun _ kq_ => XS.icmpNo X0.here hx rfl (hb hby dh02_28) rfl (by decide) kq_) ?_
          show Go p e below s _ _ _ (s₁.setTop (mkF m 31 #[.val (.ref a), .val (.int (0 : Int32)), .val (.int (2 : Int32)), .val (.int w0), .val (.int w2)] []))
          refine Go.st (fun _ kq_ => XS.iconst X0.here hx rfl (hb hby dh02_31) kq_) ?_
          show Go p e below s _ _ _ (s₁.setTop (mkF m 32 #[.val (.ref a), .val (.int (0 : Int32)), .val (.int (2 : Int32)), .val (.int w0), .val (.int w2)] [(.int (1 : Int32))]))
          refine Go.st (fun _ kq_ => XS.goto X0.here hx rfl (pc0 := 32) (pc' := 36) rfl (hb hby dh02_32) (by decide) (by decide) kq_) ?_
          show Go p e below s _ _ _ (s₁.setTop (mkF m 36 #[.val (.ref a), .val (.int (0 : Int32)), .val (.int (2 : Int32)), .val (.int w0), .val (.int w2)] [(.int (1 : Int32))]))
          exact Go.ret X0 hlk (some (.int (1 : Int32))) (fun h => by rw [Bd.returns] at h; cases h) (by rw [e0]; exact ⟨own_res (z' := (1 : Int32)) (by unfold fA02; rw [if_neg c11_1, if_neg c17_2, if_pos c23_3]) rfl, N0, rfl⟩) (by decide) (by decide) (fun fs hr => retI X0 hx Bd.returns (hb hby dh02_36) hr)
        · refine Go.st (fun _ kq_ => XS.icmpYes X0.here hx rfl (pc0 := 23) (pc' := 35) rfl (hb hby dh02_23) rfl (XT.ii_ne_t c23_3) (by decide) (by decide) kq_) ?_
          show Go p e below s _ _ _ (s₁.setTop (mkF m 35 #[.val (.ref a), .val (.int (0 : Int32)), .val (.int (2 : Int32)), .val (.int w0), .val (.int w2)] []))
          refine Go.st (fun _ kq_ => XS.iconst X0.here hx rfl (hb hby dh02_35) kq_) ?_
          show Go p e below s _ _ _ (s₁.setTop (mkF m 36 #[.val (.ref a), .val (.int (0 : Int32)), .val (.int (2 : Int32)), .val (.int w0), .val (.int w2)] [(.int (0 : Int32))]))
          exact Go.ret X0 hlk (some (.int (0 : Int32))) (fun h => by rw [Bd.returns] at h; cases h) (by rw [e0]; exact ⟨own_res (z' := (0 : Int32)) (by unfold fA02; rw [if_neg c11_1, if_neg c17_2, if_neg c23_3]) rfl, N0, rfl⟩) (by decide) (by decide) (fun fs hr => retI X0 hx Bd.returns (hb hby dh02_36) hr)
  obtain ⟨s2, o2, st2, r2⟩ := G
  exact ⟨s2, o2, castTop (efh02 m a (0 : Int32) (2 : Int32)) st2, r2⟩
theorem dh03_0 : decode method_6_code 0 = .ok (.aload_n 0, 1) := by decide +kernel
theorem dh03_1 : decode method_6_code 1 = .ok (.iload_n 1, 1) := by decide +kernel
theorem dh03_2 : decode method_6_code 2 = .ok (.iaload, 1) := by decide +kernel
theorem dh03_3 : decode method_6_code 3 = .ok (.istore_n 3, 1) := by decide +kernel
theorem dh03_4 : decode method_6_code 4 = .ok (.aload_n 0, 1) := by decide +kernel
theorem dh03_5 : decode method_6_code 5 = .ok (.iload_n 2, 1) := by decide +kernel
theorem dh03_6 : decode method_6_code 6 = .ok (.iaload, 1) := by decide +kernel
theorem dh03_7 : decode method_6_code 7 = .ok (.istore 4, 2) := by decide +kernel
theorem dh03_9 : decode method_6_code 9 = .ok (.iload_n 3, 1) := by decide +kernel
theorem dh03_10 : decode method_6_code 10 = .ok (.iconst (-1), 1) := by decide +kernel
theorem dh03_11 : decode method_6_code 11 = .ok (.if_icmp .eq 24, 3) := by decide +kernel
theorem dh03_14 : decode method_6_code 14 = .ok (.iload_n 3, 1) := by decide +kernel
theorem dh03_15 : decode method_6_code 15 = .ok (.iload 4, 2) := by decide +kernel
theorem dh03_17 : decode method_6_code 17 = .ok (.if_icmp .lt 14, 3) := by decide +kernel
theorem dh03_20 : decode method_6_code 20 = .ok (.iload_n 3, 1) := by decide +kernel
theorem dh03_21 : decode method_6_code 21 = .ok (.iload 4, 2) := by decide +kernel
theorem dh03_23 : decode method_6_code 23 = .ok (.if_icmp .ne 12, 3) := by decide +kernel
theorem dh03_26 : decode method_6_code 26 = .ok (.iload_n 1, 1) := by decide +kernel
theorem dh03_27 : decode method_6_code 27 = .ok (.iload_n 2, 1) := by decide +kernel
theorem dh03_28 : decode method_6_code 28 = .ok (.if_icmp .ge 7, 3) := by decide +kernel
theorem dh03_31 : decode method_6_code 31 = .ok (.iconst 1, 1) := by decide +kernel
theorem dh03_32 : decode method_6_code 32 = .ok (.goto 4, 3) := by decide +kernel
theorem dh03_35 : decode method_6_code 35 = .ok (.iconst 0, 1) := by decide +kernel
theorem dh03_36 : decode method_6_code 36 = .ok (.ireturn, 1) := by decide +kernel
theorem pnh03 : plainName "com/example/rootward/rootward/model/InstanceGroupPinLaw" = true := by first | (simp [plainName, overriddenIn]; done) | decide +kernel
theorem efh03 (m : MethodId) (x0 : Addr) (x1 : Int32) (x2 : Int32) : entryFrame m #[(.ref x0), (.int x1), (.int x2)] 5 = mkF m 0 #[.val (.ref x0), .val (.int x1), .val (.int x2), .unset, .unset] [] := by first | (simp [entryFrame, mkF, argsToLocals, Value.category, maxLocals]; done) | rfl
def fA03 (w0 : Int32) (w1 : Int32) (w2 : Int32) (w3 : Int32) : Int32 := (if w0 = (-1 : Int32) then (0 : Int32) else (if w0 < w3 then (1 : Int32) else (if w0 = w3 then (1 : Int32) else (0 : Int32))))
def Qh03 (Z : State) (a : Addr) (ka : ClassId) (w0 : Int32) (w1 : Int32) (w2 : Int32) (w3 : Int32) (h0 : Heap) (n0 : Nat) (v : Option Value) (h : Heap) (L : List Loc) : Prop := v = some (.int (fA03 w0 w1 w2 w3)) ∧ Fr n0 L ∧ h = h0
set_option maxRecDepth 65536 in
set_option maxHeartbeats 40000000 in
theorem rmh03 (l : Launch) (Z : State) (a0 : Array Value) (hw : ∀ d ∈ tables_1, d.before a0 Z = true) (ws : List Jvm.Cond) (a : Addr) (ka : ClassId) (w0 : Int32) (w1 : Int32) (w2 : Int32) (w3 : Int32) (h0 : Heap) (n0 : Nat) (O0 : Old Z n0 h0) (V_a : Arv Z h0 a ka .int (4 : Int32) [(.int w0), (.int w1), (.int w2), (.int w3)] (.int (0 : Int32))) :
    MetFree l (⟨"com/example/rootward/rootward/model/InstanceGroupPinLaw", "ahead", "([III)I"⟩ : MethodName) (head1 (Jvm.Cond.code (⟨"com/example/rootward/rootward/model/InstanceGroupPinLaw", "ahead", "([III)I"⟩ : MethodName) method_6_code 5 (some .int) :: ws) ({ frames := 0, cells := 0, slots := 0, locals := 0 } : Room)) (fun A_ U_ => A_ = #[(.ref a), (.int (0 : Int32)), (.int (3 : Int32))] ∧ Z.Warmed39 U_.vm ∧ U_.heap = h0) (fun _ _ _ _ _ => True) (fun _ U o U' => ∃ v L, o = .returned v ∧ Qh03 Z a ka w0 w1 w2 w3 h0 n0 v U'.heap L ∧ FrameEnd U o U' L ({ frames := 0, cells := 0, slots := 0, locals := 0 } : Room).cells ({ frames := 0, cells := 0, slots := 0, locals := 0 } : Room).slots) := by
  refine MetFree.of_bodySF (plainFor_of_name pnh03) hisR ?_
  intro p e s m args below meth cd s₁ Bd hml0 hP hK
  obtain ⟨rfl, hZ, hh⟩ := hP
  have hx := Bd.exec
  have hby := Bd.bytes
  have hlk : meth.locks = false := BodyLoose.notSynchronized Bd
  have hml : cd.maxLocals = 5 := hml0
  have hown : s.vm.findClass "com/example/rootward/rootward/model/InstanceGroupPinLaw" = some m.cls := findClass_of_methodNamed Bd.named
  have hnm := (name_of_methodNamed Bd.named Bd.method).1
  have X0 : Stand p l e ({ frames := 0, cells := 0, slots := 0, locals := 0 } : Room) s m #[(.ref a), (.int (0 : Int32)), (.int (3 : Int32))] below meth cd s₁ [] 0 0 := Stand.of_body Bd
  have e0 : s₁.heap = h0 := by rw [← hh, Bd.state]; rfl
  have N0 := Fr.nil n0
  have G : Go p e below s 0 0 (Qh03 Z a ka w0 w1 w2 w3 h0 n0) (s₁.setTop (mkF m 0 #[.val (.ref a), .val (.int (0 : Int32)), .val (.int (3 : Int32)), .unset, .unset] [])) := by
    show Go p e below s _ _ _ (s₁.setTop (mkF m 0 #[.val (.ref a), .val (.int (0 : Int32)), .val (.int (3 : Int32)), .unset, .unset] []))
    refine Go.st (fun _ kq_ => XS.aloadN X0.here hx rfl (hb hby dh03_0) rfl rfl kq_) ?_
    show Go p e below s _ _ _ (s₁.setTop (mkF m 1 #[.val (.ref a), .val (.int (0 : Int32)), .val (.int (3 : Int32)), .unset, .unset] [(.ref a)]))
    refine Go.st (fun _ kq_ => XS.iloadN X0.here hx rfl (hb hby dh03_1) rfl kq_) ?_
    show Go p e below s _ _ _ (s₁.setTop (mkF m 2 #[.val (.ref a), .val (.int (0 : Int32)), .val (.int (3 : Int32)), .unset, .unset] [(.int (0 : Int32)), (.ref a)]))
    refine Go.st (fun _ kq_ => own_iaload X0 hx hZ e0 V_a (by decide) (by decide) (v := (.int w0)) rfl (g := (mkF m 2 #[.val (.ref a), .val (.int (0 : Int32)), .val (.int (3 : Int32)), .unset, .unset] [(.int (0 : Int32)), (.ref a)])) rfl rfl (hb hby dh03_2) _ kq_) ?_
    show Go p e below s _ _ _ (s₁.setTop (mkF m 3 #[.val (.ref a), .val (.int (0 : Int32)), .val (.int (3 : Int32)), .unset, .unset] [(.int w0)]))
    refine Go.st (fun _ kq_ => XS.istoreN X0.here hx rfl (hb hby dh03_3) rfl (l' := #[.val (.ref a), .val (.int (0 : Int32)), .val (.int (3 : Int32)), .val (.int w0), .unset]) rfl kq_) ?_
    show Go p e below s _ _ _ (s₁.setTop (mkF m 4 #[.val (.ref a), .val (.int (0 : Int32)), .val (.int (3 : Int32)), .val (.int w0), .unset] []))
    refine Go.st (fun _ kq_ => XS.aloadN X0.here hx rfl (hb hby dh03_4) rfl rfl kq_) ?_
    show Go p e below s _ _ _ (s₁.setTop (mkF m 5 #[.val (.ref a), .val (.int (0 : Int32)), .val (.int (3 : Int32)), .val (.int w0), .unset] [(.ref a)]))
    refine Go.st (fun _ kq_ => XS.iloadN X0.here hx rfl (hb hby dh03_5) rfl kq_) ?_
    show Go p e below s _ _ _ (s₁.setTop (mkF m 6 #[.val (.ref a), .val (.int (0 : Int32)), .val (.int (3 : Int32)), .val (.int w0), .unset] [(.int (3 : Int32)), (.ref a)]))
    refine Go.st (fun _ kq_ => own_iaload X0 hx hZ e0 V_a (by decide) (by decide) (v := (.int w3)) rfl (g := (mkF m 6 #[.val (.ref a), .val (.int (0 : Int32)), .val (.int (3 : Int32)), .val (.int w0), .unset] [(.int (3 : Int32)), (.ref a)])) rfl rfl (hb hby dh03_6) _ kq_) ?_
    show Go p e below s _ _ _ (s₁.setTop (mkF m 7 #[.val (.ref a), .val (.int (0 : Int32)), .val (.int (3 : Int32)), .val (.int w0), .unset] [(.int w3)]))
    refine Go.st (fun _ kq_ => XS.istore X0.here hx rfl (hb hby dh03_7) rfl (l' := #[.val (.ref a), .val (.int (0 : Int32)), .val (.int (3 : Int32)), .val (.int w0), .val (.int w3)]) rfl kq_) ?_
    show Go p e below s _ _ _ (s₁.setTop (mkF m 9 #[.val (.ref a), .val (.int (0 : Int32)), .val (.int (3 : Int32)), .val (.int w0), .val (.int w3)] []))
    refine Go.st (fun _ kq_ => XS.iloadN X0.here hx rfl (hb hby dh03_9) rfl kq_) ?_
    show Go p e below s _ _ _ (s₁.setTop (mkF m 10 #[.val (.ref a), .val (.int (0 : Int32)), .val (.int (3 : Int32)), .val (.int w0), .val (.int w3)] [(.int w0)]))
    refine Go.st (fun _ kq_ => XS.iconst X0.here hx rfl (hb hby dh03_10) kq_) ?_
    show Go p e below s _ _ _ (s₁.setTop (mkF m 11 #[.val (.ref a), .val (.int (0 : Int32)), .val (.int (3 : Int32)), .val (.int w0), .val (.int w3)] [(.int (-1 : Int32)), (.int w0)]))
    by_cases c11_1 : w0 = (-1 : Int32)
    · refine Go.st (fun _ kq_ => XS.icmpYes X0.here hx rfl (pc0 := 11) (pc' := 35) rfl (hb hby dh03_11) rfl (XT.ii_eq_t c11_1) (by decide) (by decide) kq_) ?_
      show Go p e below s _ _ _ (s₁.setTop (mkF m 35 #[.val (.ref a), .val (.int (0 : Int32)), .val (.int (3 : Int32)), .val (.int w0), .val (.int w3)] []))
      refine Go.st (fun _ kq_ => XS.iconst X0.here hx rfl (hb hby dh03_35) kq_) ?_
      show Go p e below s _ _ _ (s₁.setTop (mkF m 36 #[.val (.ref a), .val (.int (0 : Int32)), .val (.int (3 : Int32)), .val (.int w0), .val (.int w3)] [(.int (0 : Int32))]))
      exact Go.ret X0 hlk (some (.int (0 : Int32))) (fun h => by rw [Bd.returns] at h; cases h) (by rw [e0]; exact ⟨own_res (z' := (0 : Int32)) (by unfold fA03; rw [if_pos c11_1]) rfl, N0, rfl⟩) (by decide) (by decide) (fun fs hr => retI X0 hx Bd.returns (hb hby dh03_36) hr)
    · refine Go.st (fun _ kq_ => XS.icmpNo X0.here hx rfl (hb hby dh03_11) rfl (XT.ii_eq_f c11_1) kq_) ?_
      show Go p e below s _ _ _ (s₁.setTop (mkF m 14 #[.val (.ref a), .val (.int (0 : Int32)), .val (.int (3 : Int32)), .val (.int w0), .val (.int w3)] []))
      refine Go.st (fun _ kq_ => XS.iloadN X0.here hx rfl (hb hby dh03_14) rfl kq_) ?_
      show Go p e below s _ _ _ (s₁.setTop (mkF m 15 #[.val (.ref a), .val (.int (0 : Int32)), .val (.int (3 : Int32)), .val (.int w0), .val (.int w3)] [(.int w0)]))
      refine Go.st (fun _ kq_ => XS.iload X0.here hx rfl (hb hby dh03_15) rfl kq_) ?_
      show Go p e below s _ _ _ (s₁.setTop (mkF m 17 #[.val (.ref a), .val (.int (0 : Int32)), .val (.int (3 : Int32)), .val (.int w0), .val (.int w3)] [(.int w3), (.int w0)]))
      by_cases c17_2 : w0 < w3
      · refine Go.st (fun _ kq_ => XS.icmpYes X0.here hx rfl (pc0 := 17) (pc' := 31) rfl (hb hby dh03_17) rfl (XT.ii_lt_t c17_2) (by decide) (by decide) kq_) ?_
        show Go p e below s _ _ _ (s₁.setTop (mkF m 31 #[.val (.ref a), .val (.int (0 : Int32)), .val (.int (3 : Int32)), .val (.int w0), .val (.int w3)] []))
        refine Go.st (fun _ kq_ => XS.iconst X0.here hx rfl (hb hby dh03_31) kq_) ?_
        show Go p e below s _ _ _ (s₁.setTop (mkF m 32 #[.val (.ref a), .val (.int (0 : Int32)), .val (.int (3 : Int32)), .val (.int w0), .val (.int w3)] [(.int (1 : Int32))]))
        refine Go.st (fun _ kq_ => XS.goto X0.here hx rfl (pc0 := 32) (pc' := 36) rfl (hb hby dh03_32) (by decide) (by decide) kq_) ?_
        show Go p e below s _ _ _ (s₁.setTop (mkF m 36 #[.val (.ref a), .val (.int (0 : Int32)), .val (.int (3 : Int32)), .val (.int w0), .val (.int w3)] [(.int (1 : Int32))]))
        exact Go.ret X0 hlk (some (.int (1 : Int32))) (fun h => by rw [Bd.returns] at h; cases h) (by rw [e0]; exact ⟨own_res (z' := (1 : Int32)) (by unfold fA03; rw [if_neg c11_1, if_pos c17_2]) rfl, N0, rfl⟩) (by decide) (by decide) (fun fs hr => retI X0 hx Bd.returns (hb hby dh03_36) hr)
      · refine Go.st (fun _ kq_ => XS.icmpNo X0.here hx rfl (hb hby dh03_17) rfl (XT.ii_lt_f c17_2) kq_) ?_
        show Go p e below s _ _ _ (s₁.setTop (mkF m 20 #[.val (.ref a), .val (.int (0 : Int32)), .val (.int (3 : Int32)), .val (.int w0), .val (.int w3)] []))
        refine Go.st (fun _ kq_ => XS.iloadN X0.here hx rfl (hb hby dh03_20) rfl kq_) ?_
        show Go p e below s _ _ _ (s₁.setTop (mkF m 21 #[.val (.ref a), .val (.int (0 : Int32)), .val (.int (3 : Int32)), .val (.int w0), .val (.int w3)] [(.int w0)]))
        refine Go.st (fun _ kq_ => XS.iload X0.here hx rfl (hb hby dh03_21) rfl kq_) ?_
        show Go p e below s _ _ _ (s₁.setTop (mkF m 23 #[.val (.ref a), .val (.int (0 : Int32)), .val (.int (3 : Int32)), .val (.int w0), .val (.int w3)] [(.int w3), (.int w0)]))
        by_cases c23_3 : w0 = w3
        · refine Go.st (fun _ kq_ => XS.icmpNo X0.here hx rfl (hb hby dh03_23) rfl (XT.ii_ne_f c23_3) kq_) ?_
          show Go p e below s _ _ _ (s₁.setTop (mkF m 26 #[.val (.ref a), .val (.int (0 : Int32)), .val (.int (3 : Int32)), .val (.int w0), .val (.int w3)] []))
          refine Go.st (fun _ kq_ => XS.iloadN X0.here hx rfl (hb hby dh03_26) rfl kq_) ?_
          show Go p e below s _ _ _ (s₁.setTop (mkF m 27 #[.val (.ref a), .val (.int (0 : Int32)), .val (.int (3 : Int32)), .val (.int w0), .val (.int w3)] [(.int (0 : Int32))]))
          refine Go.st (fun _ kq_ => XS.iloadN X0.here hx rfl (hb hby dh03_27) rfl kq_) ?_
          show Go p e below s _ _ _ (s₁.setTop (mkF m 28 #[.val (.ref a), .val (.int (0 : Int32)), .val (.int (3 : Int32)), .val (.int w0), .val (.int w3)] [(.int (3 : Int32)), (.int (0 : Int32))]))
          refine Go.st (fun _ kq_ => XS.icmpNo X0.here hx rfl (hb hby dh03_28) rfl (by decide) kq_) ?_
          show Go p e below s _ _ _ (s₁.setTop (mkF m 31 #[.val (.ref a), .val (.int (0 : Int32)), .val (.int (3 : Int32)), .val (.int w0), .val (.int w3)] []))
          refine Go.st (fun _ kq_ => XS.iconst X0.here hx rfl (hb hby dh03_31) kq_) ?_
          show Go p e below s _ _ _ (s₁.setTop (mkF m 32 #[.val (.ref a), .val (.int (0 : Int32)), .val (.int (3 : Int32)), .val (.int w0), .val (.int w3)] [(.int (1 : Int32))]))
          refine Go.st (fun _ kq_ => XS.goto X0.here hx rfl (pc0 := 32) (pc' := 36) rfl (hb hby dh03_32) (by decide) (by decide) kq_) ?_
          show Go p e below s _ _ _ (s₁.setTop (mkF m 36 #[.val (.ref a), .val (.int (0 : Int32)), .val (.int (3 : Int32)), .val (.int w0), .val (.int w3)] [(.int (1 : Int32))]))
          exact Go.ret X0 hlk (some (.int (1 : Int32))) (fun h => by rw [Bd.returns] at h; cases h) (by rw [e0]; exact ⟨own_res (z' := (1 : Int32)) (by unfold fA03; rw [if_neg c11_1, if_neg c17_2, if_pos c23_3]) rfl, N0, rfl⟩) (by decide) (by decide) (fun fs hr => retI X0 hx Bd.returns (hb hby dh03_36) hr)
        · refine Go.st (fun _ kq_ => XS.icmpYes X0.here hx rfl (pc0 := 23) (pc' := 35) rfl (hb hby dh03_23) rfl (XT.ii_ne_t c23_3) (by decide) (by decide) kq_) ?_
          show Go p e below s _ _ _ (s₁.setTop (mkF m 35 #[.val (.ref a), .val (.int (0 : Int32)), .val (.int (3 : Int32)), .val (.int w0), .val (.int w3)] []))
          refine Go.st (fun _ kq_ => XS.iconst X0.here hx rfl (hb hby dh03_35) kq_) ?_
          show Go p e below s _ _ _ (s₁.setTop (mkF m 36 #[.val (.ref a), .val (.int (0 : Int32)), .val (.int (3 : Int32)), .val (.int w0), .val (.int w3)] [(.int (0 : Int32))]))
          exact Go.ret X0 hlk (some (.int (0 : Int32))) (fun h => by rw [Bd.returns] at h; cases h) (by rw [e0]; exact ⟨own_res (z' := (0 : Int32)) (by unfold fA03; rw [if_neg c11_1, if_neg c17_2, if_neg c23_3]) rfl, N0, rfl⟩) (by decide) (by decide) (fun fs hr => retI X0 hx Bd.returns (hb hby dh03_36) hr)
  obtain ⟨s2, o2, st2, r2⟩ := G
  exact ⟨s2, o2, castTop (efh03 m a (0 : Int32) (3 : Int32)) st2, r2⟩
theorem dh10_0 : decode method_6_code 0 = .ok (.aload_n 0, 1) := by decide +kernel
theorem dh10_1 : decode method_6_code 1 = .ok (.iload_n 1, 1) := by decide +kernel
theorem dh10_2 : decode method_6_code 2 = .ok (.iaload, 1) := by decide +kernel
theorem dh10_3 : decode method_6_code 3 = .ok (.istore_n 3, 1) := by decide +kernel
theorem dh10_4 : decode method_6_code 4 = .ok (.aload_n 0, 1) := by decide +kernel
theorem dh10_5 : decode method_6_code 5 = .ok (.iload_n 2, 1) := by decide +kernel
theorem dh10_6 : decode method_6_code 6 = .ok (.iaload, 1) := by decide +kernel
theorem dh10_7 : decode method_6_code 7 = .ok (.istore 4, 2) := by decide +kernel
theorem dh10_9 : decode method_6_code 9 = .ok (.iload_n 3, 1) := by decide +kernel
theorem dh10_10 : decode method_6_code 10 = .ok (.iconst (-1), 1) := by decide +kernel
theorem dh10_11 : decode method_6_code 11 = .ok (.if_icmp .eq 24, 3) := by decide +kernel
theorem dh10_14 : decode method_6_code 14 = .ok (.iload_n 3, 1) := by decide +kernel
theorem dh10_15 : decode method_6_code 15 = .ok (.iload 4, 2) := by decide +kernel
theorem dh10_17 : decode method_6_code 17 = .ok (.if_icmp .lt 14, 3) := by decide +kernel
theorem dh10_20 : decode method_6_code 20 = .ok (.iload_n 3, 1) := by decide +kernel
theorem dh10_21 : decode method_6_code 21 = .ok (.iload 4, 2) := by decide +kernel
theorem dh10_23 : decode method_6_code 23 = .ok (.if_icmp .ne 12, 3) := by decide +kernel
theorem dh10_26 : decode method_6_code 26 = .ok (.iload_n 1, 1) := by decide +kernel
theorem dh10_27 : decode method_6_code 27 = .ok (.iload_n 2, 1) := by decide +kernel
theorem dh10_28 : decode method_6_code 28 = .ok (.if_icmp .ge 7, 3) := by decide +kernel
theorem dh10_31 : decode method_6_code 31 = .ok (.iconst 1, 1) := by decide +kernel
theorem dh10_32 : decode method_6_code 32 = .ok (.goto 4, 3) := by decide +kernel
theorem dh10_35 : decode method_6_code 35 = .ok (.iconst 0, 1) := by decide +kernel
theorem dh10_36 : decode method_6_code 36 = .ok (.ireturn, 1) := by decide +kernel
theorem pnh10 : plainName "com/example/rootward/rootward/model/InstanceGroupPinLaw" = true := by first | (simp [plainName, overriddenIn]; done) | decide +kernel
theorem efh10 (m : MethodId) (x0 : Addr) (x1 : Int32) (x2 : Int32) : entryFrame m #[(.ref x0), (.int x1), (.int x2)] 5 = mkF m 0 #[.val (.ref x0), .val (.int x1), .val (.int x2), .unset, .unset] [] := by first | (simp [entryFrame, mkF, argsToLocals, Value.category, maxLocals]; done) | rfl
def fA10 (w0 : Int32) (w1 : Int32) (w2 : Int32) (w3 : Int32) : Int32 := (if w1 = (-1 : Int32) then (0 : Int32) else (if w1 < w0 then (1 : Int32) else (if w1 = w0 then (0 : Int32) else (0 : Int32))))
def Qh10 (Z : State) (a : Addr) (ka : ClassId) (w0 : Int32) (w1 : Int32) (w2 : Int32) (w3 : Int32) (h0 : Heap) (n0 : Nat) (v : Option Value) (h : Heap) (L : List Loc) : Prop := v = some (.int (fA10 w0 w1 w2 w3)) ∧ Fr n0 L ∧ h = h0
set_option maxRecDepth 65536 in
set_option maxHeartbeats 40000000 in
theorem rmh10 (l : Launch) (Z : State) (a0 : Array Value) (hw : ∀ d ∈ tables_1, d.before a0 Z = true) (ws : List Jvm.Cond) (a : Addr) (ka : ClassId) (w0 : Int32) (w1 : Int32) (w2 : Int32) (w3 : Int32) (h0 : Heap) (n0 : Nat) (O0 : Old Z n0 h0) (V_a : Arv Z h0 a ka .int (4 : Int32) [(.int w0), (.int w1), (.int w2), (.int w3)] (.int (0 : Int32))) :
    MetFree l (⟨"com/example/rootward/rootward/model/InstanceGroupPinLaw", "ahead", "([III)I"⟩ : MethodName) (head1 (Jvm.Cond.code (⟨"com/example/rootward/rootward/model/InstanceGroupPinLaw", "ahead", "([III)I"⟩ : MethodName) method_6_code 5 (some .int) :: ws) ({ frames := 0, cells := 0, slots := 0, locals := 0 } : Room)) (fun A_ U_ => A_ = #[(.ref a), (.int (1 : Int32)), (.int (0 : Int32))] ∧ Z.Warmed39 U_.vm ∧ U_.heap = h0) (fun _ _ _ _ _ => True) (fun _ U o U' => ∃ v L, o = .returned v ∧ Qh10 Z a ka w0 w1 w2 w3 h0 n0 v U'.heap L ∧ FrameEnd U o U' L ({ frames := 0, cells := 0, slots := 0, locals := 0 } : Room).cells ({ frames := 0, cells := 0, slots := 0, locals := 0 } : Room).slots) := by
  refine MetFree.of_bodySF (plainFor_of_name pnh10) hisR ?_
  intro p e s m args below meth cd s₁ Bd hml0 hP hK
  obtain ⟨rfl, hZ, hh⟩ := hP
  have hx := Bd.exec
  have hby := Bd.bytes
  have hlk : meth.locks = false := BodyLoose.notSynchronized Bd
  have hml : cd.maxLocals = 5 := hml0
  have hown : s.vm.findClass "com/example/rootward/rootward/model/InstanceGroupPinLaw" = some m.cls := findClass_of_methodNamed Bd.named
  have hnm := (name_of_methodNamed Bd.named Bd.method).1
  have X0 : Stand p l e ({ frames := 0, cells := 0, slots := 0, locals := 0 } : Room) s m #[(.ref a), (.int (1 : Int32)), (.int (0 : Int32))] below meth cd s₁ [] 0 0 := Stand.of_body Bd
  have e0 : s₁.heap = h0 := by rw [← hh, Bd.state]; rfl
  have N0 := Fr.nil n0
  have G : Go p e below s 0 0 (Qh10 Z a ka w0 w1 w2 w3 h0 n0) (s₁.setTop (mkF m 0 #[.val (.ref a), .val (.int (1 : Int32)), .val (.int (0 : Int32)), .unset, .unset] [])) := by
    show Go p e below s _ _ _ (s₁.setTop (mkF m 0 #[.val (.ref a), .val (.int (1 : Int32)), .val (.int (0 : Int32)), .unset, .unset] []))
    refine Go.st (fun _ kq_ => XS.aloadN X0.here hx rfl (hb hby dh10_0) rfl rfl kq_) ?_
    show Go p e below s _ _ _ (s₁.setTop (mkF m 1 #[.val (.ref a), .val (.int (1 : Int32)), .val (.int (0 : Int32)), .unset, .unset] [(.ref a)]))
    refine Go.st (fun _ kq_ => XS.iloadN X0.here hx rfl (hb hby dh10_1) rfl kq_) ?_
    show Go p e below s _ _ _ (s₁.setTop (mkF m 2 #[.val (.ref a), .val (.int (1 : Int32)), .val (.int (0 : Int32)), .unset, .unset] [(.int (1 : Int32)), (.ref a)]))
    refine Go.st (fun _ kq_ => own_iaload X0 hx hZ e0 V_a (by decide) (by decide) (v := (.int w1)) rfl (g := (mkF m 2 #[.val (.ref a), .val (.int (1 : Int32)), .val (.int (0 : Int32)), .unset, .unset] [(.int (1 : Int32)), (.ref a)])) rfl rfl (hb hby dh10_2) _ kq_) ?_
    show Go p e below s _ _ _ (s₁.setTop (mkF m 3 #[.val (.ref a), .val (.int (1 : Int32)), .val (.int (0 : Int32)), .unset, .unset] [(.int w1)]))
    refine Go.st (fun _ kq_ => XS.istoreN X0.here hx rfl (hb hby dh10_3) rfl (l' := #[.val (.ref a), .val (.int (1 : Int32)), .val (.int (0 : Int32)), .val (.int w1), .unset]) rfl kq_) ?_
    show Go p e below s _ _ _ (s₁.setTop (mkF m 4 #[.val (.ref a), .val (.int (1 : Int32)), .val (.int (0 : Int32)), .val (.int w1), .unset] []))
    refine Go.st (fun _ kq_ => XS.aloadN X0.here hx rfl (hb hby dh10_4) rfl rfl kq_) ?_
    show Go p e below s _ _ _ (s₁.setTop (mkF m 5 #[.val (.ref a), .val (.int (1 : Int32)), .val (.int (0 : Int32)), .val (.int w1), .unset] [(.ref a)]))
    refine Go.st (fun _ kq_ => XS.iloadN X0.here hx rfl (hb hby dh10_5) rfl kq_) ?_
    show Go p e below s _ _ _ (s₁.setTop (mkF m 6 #[.val (.ref a), .val (.int (1 : Int32)), .val (.int (0 : Int32)), .val (.int w1), .unset] [(.int (0 : Int32)), (.ref a)]))
    refine Go.st (fun _ kq_ => own_iaload X0 hx hZ e0 V_a (by decide) (by decide) (v := (.int w0)) rfl (g := (mkF m 6 #[.val (.ref a), .val (.int (1 : Int32)), .val (.int (0 : Int32)), .val (.int w1), .unset] [(.int (0 : Int32)), (.ref a)])) rfl rfl (hb hby dh10_6) _ kq_) ?_
    show Go p e below s _ _ _ (s₁.setTop (mkF m 7 #[.val (.ref a), .val (.int (1 : Int32)), .val (.int (0 : Int32)), .val (.int w1), .unset] [(.int w0)]))
    refine Go.st (fun _ kq_ => XS.istore X0.here hx rfl (hb hby dh10_7) rfl (l' := #[.val (.ref a), .val (.int (1 : Int32)), .val (.int (0 : Int32)), .val (.int w1), .val (.int w0)]) rfl kq_) ?_
    show Go p e below s _ _ _ (s₁.setTop (mkF m 9 #[.val (.ref a), .val (.int (1 : Int32)), .val (.int (0 : Int32)), .val (.int w1), .val (.int w0)] []))
    refine Go.st (fun _ kq_ => XS.iloadN X0.here hx rfl (hb hby dh10_9) rfl kq_) ?_
    show Go p e below s _ _ _ (s₁.setTop (mkF m 10 #[.val (.ref a), .val (.int (1 : Int32)), .val (.int (0 : Int32)), .val (.int w1), .val (.int w0)] [(.int w1)]))
    refine Go.st (fun _ kq_ => XS.iconst X0.here hx rfl (hb hby dh10_10) kq_) ?_
    show Go p e below s _ _ _ (s₁.setTop (mkF m 11 #[.val (.ref a), .val (.int (1 : Int32)), .val (.int (0 : Int32)), .val (.int w1), .val (.int w0)] [(.int (-1 : Int32)), (.int w1)]))
    by_cases c11_1 : w1 = (-1 : Int32)
    · refine Go.st (fun _ kq_ => XS.icmpYes X0.here hx rfl (pc0 := 11) (pc' := 35) rfl (hb hby dh10_11) rfl (XT.ii_eq_t c11_1) (by decide) (by decide) kq_) ?_
      show Go p e below s _ _ _ (s₁.setTop (mkF m 35 #[.val (.ref a), .val (.int (1 : Int32)), .val (.int (0 : Int32)), .val (.int w1), .val (.int w0)] []))
      refine Go.st (fun _ kq_ => XS.iconst X0.here hx rfl (hb hby dh10_35) kq_) ?_
      show Go p e below s _ _ _ (s₁.setTop (mkF m 36 #[.val (.ref a), .val (.int (1 : Int32)), .val (.int (0 : Int32)), .val (.int w1), .val (.int w0)] [(.int (0 : Int32))]))
      exact Go.ret X0 hlk (some (.int (0 : Int32))) (fun h => by rw [Bd.returns] at h; cases h) (by rw [e0]; exact ⟨own_res (z' := (0 : Int32)) (by unfold fA10; rw [if_pos c11_1]) rfl, N0, rfl⟩) (by decide) (by decide) (fun fs hr => retI X0 hx Bd.returns (hb hby dh10_36) hr)
    · refine Go.st (fun _ kq_ => XS.icmpNo X0.here hx rfl (hb hby dh10_11) rfl (XT.ii_eq_f c11_1) kq_) ?_
      show Go p e below s _ _ _ (s₁.setTop (mkF m 14 #[.val (.ref a), .val (.int (1 : Int32)), .val (.int (0 : Int32)), .val (.int w1), .val (.int w0)] []))
      refine Go.st (fun _ kq_ => XS.iloadN X0.here hx rfl (hb hby dh10_14) rfl kq_) ?_
      show Go p e below s _ _ _ (s₁.setTop (mkF m 15 #[.val (.ref a), .val (.int (1 : Int32)), .val (.int (0 : Int32)), .val (.int w1), .val (.int w0)] [(.int w1)]))
      refine Go.st (fun _ kq_ => XS.iload X0.here hx rfl (hb hby dh10_15) rfl kq_) ?_
      show Go p e below s _ _ _ (s₁.setTop (mkF m 17 #[.val (.ref a), .val (.int (1 : Int32)), .val (.int (0 : Int32)), .val (.int w1), .val (.int w0)] [(.int w0), (.int w1)]))
      by_cases c17_2 : w1 < w0
      · refine Go.st (fun _ kq_ => XS.icmpYes X0.here hx rfl (pc0 := 17) (pc' := 31) rfl (hb hby dh10_17) rfl (XT.ii_lt_t c17_2) (by decide) (by decide) kq_) ?_
        show Go p e below s _ _ _ (s₁.setTop (mkF m 31 #[.val (.ref a), .val (.int (1 : Int32)), .val (.int (0 : Int32)), .val (.int w1), .val (.int w0)] []))
        refine Go.st (fun _ kq_ => XS.iconst X0.here hx rfl (hb hby dh10_31) kq_) ?_
        show Go p e below s _ _ _ (s₁.setTop (mkF m 32 #[.val (.ref a), .val (.int (1 : Int32)), .val (.int (0 : Int32)), .val (.int w1), .val (.int w0)] [(.int (1 : Int32))]))
        refine Go.st (fun _ kq_ => XS.goto X0.here hx rfl (pc0 := 32) (pc' := 36) rfl (hb hby dh10_32) (by decide) (by decide) kq_) ?_
        show Go p e below s _ _ _ (s₁.setTop (mkF m 36 #[.val (.ref a), .val (.int (1 : Int32)), .val (.int (0 : Int32)), .val (.int w1), .val (.int w0)] [(.int (1 : Int32))]))
        exact Go.ret X0 hlk (some (.int (1 : Int32))) (fun h => by rw [Bd.returns] at h; cases h) (by rw [e0]; exact ⟨own_res (z' := (1 : Int32)) (by unfold fA10; rw [if_neg c11_1, if_pos c17_2]) rfl, N0, rfl⟩) (by decide) (by decide) (fun fs hr => retI X0 hx Bd.returns (hb hby dh10_36) hr)
      · refine Go.st (fun _ kq_ => XS.icmpNo X0.here hx rfl (hb hby dh10_17) rfl (XT.ii_lt_f c17_2) kq_) ?_
        show Go p e below s _ _ _ (s₁.setTop (mkF m 20 #[.val (.ref a), .val (.int (1 : Int32)), .val (.int (0 : Int32)), .val (.int w1), .val (.int w0)] []))
        refine Go.st (fun _ kq_ => XS.iloadN X0.here hx rfl (hb hby dh10_20) rfl kq_) ?_
        show Go p e below s _ _ _ (s₁.setTop (mkF m 21 #[.val (.ref a), .val (.int (1 : Int32)), .val (.int (0 : Int32)), .val (.int w1), .val (.int w0)] [(.int w1)]))
        refine Go.st (fun _ kq_ => XS.iload X0.here hx rfl (hb hby dh10_21) rfl kq_) ?_
        show Go p e below s _ _ _ (s₁.setTop (mkF m 23 #[.val (.ref a), .val (.int (1 : Int32)), .val (.int (0 : Int32)), .val (.int w1), .val (.int w0)] [(.int w0), (.int w1)]))
        by_cases c23_3 : w1 = w0
        · refine Go.st (fun _ kq_ => XS.icmpNo X0.here hx rfl (hb hby dh10_23) rfl (XT.ii_ne_f c23_3) kq_) ?_
          show Go p e below s _ _ _ (s₁.setTop (mkF m 26 #[.val (.ref a), .val (.int (1 : Int32)), .val (.int (0 : Int32)), .val (.int w1), .val (.int w0)] []))
          refine Go.st (fun _ kq_ => XS.iloadN X0.here hx rfl (hb hby dh10_26) rfl kq_) ?_
          show Go p e below s _ _ _ (s₁.setTop (mkF m 27 #[.val (.ref a), .val (.int (1 : Int32)), .val (.int (0 : Int32)), .val (.int w1), .val (.int w0)] [(.int (1 : Int32))]))
          refine Go.st (fun _ kq_ => XS.iloadN X0.here hx rfl (hb hby dh10_27) rfl kq_) ?_
          show Go p e below s _ _ _ (s₁.setTop (mkF m 28 #[.val (.ref a), .val (.int (1 : Int32)), .val (.int (0 : Int32)), .val (.int w1), .val (.int w0)] [(.int (0 : Int32)), (.int (1 : Int32))]))
          refine Go.st (fun _ kq_ => XS.icmpYes X0.here hx rfl (pc0 := 28) (pc' := 35) rfl (hb hby dh10_28) rfl (by decide) (by decide) (by decide) kq_) ?_
          show Go p e below s _ _ _ (s₁.setTop (mkF m 35 #[.val (.ref a), .val (.int (1 : Int32)), .val (.int (0 : Int32)), .val (.int w1), .val (.int w0)] []))
          refine Go.st (fun _ kq_ => XS.iconst X0.here hx rfl (hb hby dh10_35) kq_) ?_
          show Go p e below s _ _ _ (s₁.setTop (mkF m 36 #[.val (.ref a), .val (.int (1 : Int32)), .val (.int (0 : Int32)), .val (.int w1), .val (.int w0)] [(.int (0 : Int32))]))
          exact Go.ret X0 hlk (some (.int (0 : Int32))) (fun h => by rw [Bd.returns] at h; cases h) (by rw [e0]; exact ⟨own_res (z' := (0 : Int32)) (by unfold fA10; rw [if_neg c11_1, if_neg c17_2, if_pos c23_3]) rfl, N0, rfl⟩) (by decide) (by decide) (fun fs hr => retI X0 hx Bd.returns (hb hby dh10_36) hr)
        · refine Go.st (fun _ kq_ => XS.icmpYes X0.here hx rfl (pc0 := 23) (pc' := 35) rfl (hb hby dh10_23) rfl (XT.ii_ne_t c23_3) (by decide) (by decide) kq_) ?_
          show Go p e below s _ _ _ (s₁.setTop (mkF m 35 #[.val (.ref a), .val (.int (1 : Int32)), .val (.int (0 : Int32)), .val (.int w1), .val (.int w0)] []))
          refine Go.st (fun _ kq_ => XS.iconst X0.here hx rfl (hb hby dh10_35) kq_) ?_
          show Go p e below s _ _ _ (s₁.setTop (mkF m 36 #[.val (.ref a), .val (.int (1 : Int32)), .val (.int (0 : Int32)), .val (.int w1), .val (.int w0)] [(.int (0 : Int32))]))
          exact Go.ret X0 hlk (some (.int (0 : Int32))) (fun h => by rw [Bd.returns] at h; cases h) (by rw [e0]; exact ⟨own_res (z' := (0 : Int32)) (by unfold fA10; rw [if_neg c11_1, if_neg c17_2, if_neg c23_3]) rfl, N0, rfl⟩) (by decide) (by decide) (fun fs hr => retI X0 hx Bd.returns (hb hby dh10_36) hr)
  obtain ⟨s2, o2, st2, r2⟩ := G
  exact ⟨s2, o2, castTop (efh10 m a (1 : Int32) (0 : Int32)) st2, r2⟩
theorem dh11_0 : decode method_6_code 0 = .ok (.aload_n 0, 1) := by decide +kernel
theorem dh11_1 : decode method_6_code 1 = .ok (.iload_n 1, 1) := by decide +kernel
theorem dh11_2 : decode method_6_code 2 = .ok (.iaload, 1) := by decide +kernel
theorem dh11_3 : decode method_6_code 3 = .ok (.istore_n 3, 1) := by decide +kernel
theorem dh11_4 : decode method_6_code 4 = .ok (.aload_n 0, 1) := by decide +kernel
theorem dh11_5 : decode method_6_code 5 = .ok (.iload_n 2, 1) := by decide +kernel
theorem dh11_6 : decode method_6_code 6 = .ok (.iaload, 1) := by decide +kernel
theorem dh11_7 : decode method_6_code 7 = .ok (.istore 4, 2) := by decide +kernel
theorem dh11_9 : decode method_6_code 9 = .ok (.iload_n 3, 1) := by decide +kernel
theorem dh11_10 : decode method_6_code 10 = .ok (.iconst (-1), 1) := by decide +kernel
theorem dh11_11 : decode method_6_code 11 = .ok (.if_icmp .eq 24, 3) := by decide +kernel
theorem dh11_14 : decode method_6_code 14 = .ok (.iload_n 3, 1) := by decide +kernel
theorem dh11_15 : decode method_6_code 15 = .ok (.iload 4, 2) := by decide +kernel
theorem dh11_17 : decode method_6_code 17 = .ok (.if_icmp .lt 14, 3) := by decide +kernel
theorem dh11_20 : decode method_6_code 20 = .ok (.iload_n 3, 1) := by decide +kernel
theorem dh11_21 : decode method_6_code 21 = .ok (.iload 4, 2) := by decide +kernel
theorem dh11_23 : decode method_6_code 23 = .ok (.if_icmp .ne 12, 3) := by decide +kernel
theorem dh11_26 : decode method_6_code 26 = .ok (.iload_n 1, 1) := by decide +kernel
theorem dh11_27 : decode method_6_code 27 = .ok (.iload_n 2, 1) := by decide +kernel
theorem dh11_28 : decode method_6_code 28 = .ok (.if_icmp .ge 7, 3) := by decide +kernel
theorem dh11_31 : decode method_6_code 31 = .ok (.iconst 1, 1) := by decide +kernel
theorem dh11_32 : decode method_6_code 32 = .ok (.goto 4, 3) := by decide +kernel
theorem dh11_35 : decode method_6_code 35 = .ok (.iconst 0, 1) := by decide +kernel
theorem dh11_36 : decode method_6_code 36 = .ok (.ireturn, 1) := by decide +kernel
theorem pnh11 : plainName "com/example/rootward/rootward/model/InstanceGroupPinLaw" = true := by first | (simp [plainName, overriddenIn]; done) | decide +kernel
theorem efh11 (m : MethodId) (x0 : Addr) (x1 : Int32) (x2 : Int32) : entryFrame m #[(.ref x0), (.int x1), (.int x2)] 5 = mkF m 0 #[.val (.ref x0), .val (.int x1), .val (.int x2), .unset, .unset] [] := by first | (simp [entryFrame, mkF, argsToLocals, Value.category, maxLocals]; done) | rfl
def fA11 (w0 : Int32) (w1 : Int32) (w2 : Int32) (w3 : Int32) : Int32 := (if w1 = (-1 : Int32) then (0 : Int32) else (if w1 < w1 then (1 : Int32) else (if w1 = w1 then (0 : Int32) else (0 : Int32))))
def Qh11 (Z : State) (a : Addr) (ka : ClassId) (w0 : Int32) (w1 : Int32) (w2 : Int32) (w3 : Int32) (h0 : Heap) (n0 : Nat) (v : Option Value) (h : Heap) (L : List Loc) : Prop := v = some (.int (fA11 w0 w1 w2 w3)) ∧ Fr n0 L ∧ h = h0
set_option maxRecDepth 65536 in
set_option maxHeartbeats 40000000 in
theorem rmh11 (l : Launch) (Z : State) (a0 : Array Value) (hw : ∀ d ∈ tables_1, d.before a0 Z = true) (ws : List Jvm.Cond) (a : Addr) (ka : ClassId) (w0 : Int32) (w1 : Int32) (w2 : Int32) (w3 : Int32) (h0 : Heap) (n0 : Nat) (O0 : Old Z n0 h0) (V_a : Arv Z h0 a ka .int (4 : Int32) [(.int w0), (.int w1), (.int w2), (.int w3)] (.int (0 : Int32))) :
    MetFree l (⟨"com/example/rootward/rootward/model/InstanceGroupPinLaw", "ahead", "([III)I"⟩ : MethodName) (head1 (Jvm.Cond.code (⟨"com/example/rootward/rootward/model/InstanceGroupPinLaw", "ahead", "([III)I"⟩ : MethodName) method_6_code 5 (some .int) :: ws) ({ frames := 0, cells := 0, slots := 0, locals := 0 } : Room)) (fun A_ U_ => A_ = #[(.ref a), (.int (1 : Int32)), (.int (1 : Int32))] ∧ Z.Warmed39 U_.vm ∧ U_.heap = h0) (fun _ _ _ _ _ => True) (fun _ U o U' => ∃ v L, o = .returned v ∧ Qh11 Z a ka w0 w1 w2 w3 h0 n0 v U'.heap L ∧ FrameEnd U o U' L ({ frames := 0, cells := 0, slots := 0, locals := 0 } : Room).cells ({ frames := 0, cells := 0, slots := 0, locals := 0 } : Room).slots) := by
  refine MetFree.of_bodySF (plainFor_of_name pnh11) hisR ?_
  intro p e s m args below meth cd s₁ Bd hml0 hP hK
  obtain ⟨rfl, hZ, hh⟩ := hP
  have hx := Bd.exec
  have hby := Bd.bytes
  have hlk : meth.locks = false := BodyLoose.notSynchronized Bd
  have hml : cd.maxLocals = 5 := hml0
  have hown : s.vm.findClass "com/example/rootward/rootward/model/InstanceGroupPinLaw" = some m.cls := findClass_of_methodNamed Bd.named
  have hnm := (name_of_methodNamed Bd.named Bd.method).1
  have X0 : Stand p l e ({ frames := 0, cells := 0, slots := 0, locals := 0 } : Room) s m #[(.ref a), (.int (1 : Int32)), (.int (1 : Int32))] below meth cd s₁ [] 0 0 := Stand.of_body Bd
  have e0 : s₁.heap = h0 := by rw [← hh, Bd.state]; rfl
  have N0 := Fr.nil n0
  have G : Go p e below s 0 0 (Qh11 Z a ka w0 w1 w2 w3 h0 n0) (s₁.setTop (mkF m 0 #[.val (.ref a), .val (.int (1 : Int32)), .val (.int (1 : Int32)), .unset, .unset] [])) := by
    show Go p e below s _ _ _ (s₁.setTop (mkF m 0 #[.val (.ref a), .val (.int (1 : Int32)), .val (.int (1 : Int32)), .unset, .unset] []))
    refine Go.st (fun _ kq_ => XS.aloadN X0.here hx rfl (hb hby dh11_0) rfl rfl kq_) ?_
    show Go p e below s _ _ _ (s₁.setTop (mkF m 1 #[.val (.ref a), .val (.int (1 : Int32)), .val (.int (1 : Int32)), .unset, .unset] [(.ref a)]))
    refine Go.st (fun _ kq_ => XS.iloadN X0.here hx rfl (hb hby dh11_1) rfl kq_) ?_
    show Go p e below s _ _ _ (s₁.setTop (mkF m 2 #[.val (.ref a), .val (.int (1 : Int32)), .val (.int (1 : Int32)), .unset, .unset] [(.int (1 : Int32)), (.ref a)]))
    refine Go.st (fun _ kq_ => own_iaload X0 hx hZ e0 V_a (by decide) (by decide) (v := (.int w1)) rfl (g := (mkF m 2 #[.val (.ref a), .val (.int (1 : Int32)), .val (.int (1 : Int32)), .unset, .unset] [(.int (1 : Int32)), (.ref a)])) rfl rfl (hb hby dh11_2) _ kq_) ?_
    show Go p e below s _ _ _ (s₁.setTop (mkF m 3 #[.val (.ref a), .val (.int (1 : Int32)), .val (.int (1 : Int32)), .unset, .unset] [(.int w1)]))
    refine Go.st (fun _ kq_ => XS.istoreN X0.here hx rfl (hb hby dh11_3) rfl (l' := #[.val (.ref a), .val (.int (1 : Int32)), .val (.int (1 : Int32)), .val (.int w1), .unset]) rfl kq_) ?_
    show Go p e below s _ _ _ (s₁.setTop (mkF m 4 #[.val (.ref a), .val (.int (1 : Int32)), .val (.int (1 : Int32)), .val (.int w1), .unset] []))
    refine Go.st (fun _ kq_ => XS.aloadN X0.here hx rfl (hb hby dh11_4) rfl rfl kq_) ?_
    show Go p e below s _ _ _ (s₁.setTop (mkF m 5 #[.val (.ref a), .val (.int (1 : Int32)), .val (.int (1 : Int32)), .val (.int w1), .unset] [(.ref a)]))
    refine Go.st (fun _ kq_ => XS.iloadN X0.here hx rfl (hb hby dh11_5) rfl kq_) ?_
    show Go p e below s _ _ _ (s₁.setTop (mkF m 6 #[.val (.ref a), .val (.int (1 : Int32)), .val (.int (1 : Int32)), .val (.int w1), .unset] [(.int (1 : Int32)), (.ref a)]))
    refine Go.st (fun _ kq_ => own_iaload X0 hx hZ e0 V_a (by decide) (by decide) (v := (.int w1)) rfl (g := (mkF m 6 #[.val (.ref a), .val (.int (1 : Int32)), .val (.int (1 : Int32)), .val (.int w1), .unset] [(.int (1 : Int32)), (.ref a)])) rfl rfl (hb hby dh11_6) _ kq_) ?_
    show Go p e below s _ _ _ (s₁.setTop (mkF m 7 #[.val (.ref a), .val (.int (1 : Int32)), .val (.int (1 : Int32)), .val (.int w1), .unset] [(.int w1)]))
    refine Go.st (fun _ kq_ => XS.istore X0.here hx rfl (hb hby dh11_7) rfl (l' := #[.val (.ref a), .val (.int (1 : Int32)), .val (.int (1 : Int32)), .val (.int w1), .val (.int w1)]) rfl kq_) ?_
    show Go p e below s _ _ _ (s₁.setTop (mkF m 9 #[.val (.ref a), .val (.int (1 : Int32)), .val (.int (1 : Int32)), .val (.int w1), .val (.int w1)] []))
    refine Go.st (fun _ kq_ => XS.iloadN X0.here hx rfl (hb hby dh11_9) rfl kq_) ?_
    show Go p e below s _ _ _ (s₁.setTop (mkF m 10 #[.val (.ref a), .val (.int (1 : Int32)), .val (.int (1 : Int32)), .val (.int w1), .val (.int w1)] [(.int w1)]))
    refine Go.st (fun _ kq_ => XS.iconst X0.here hx rfl (hb hby dh11_10) kq_) ?_
    show Go p e below s _ _ _ (s₁.setTop (mkF m 11 #[.val (.ref a), .val (.int (1 : Int32)), .val (.int (1 : Int32)), .val (.int w1), .val (.int w1)] [(.int (-1 : Int32)), (.int w1)]))
    by_cases c11_1 : w1 = (-1 : Int32)
    · refine Go.st (fun _ kq_ => XS.icmpYes X0.here hx rfl (pc0 := 11) (pc' := 35) rfl (hb hby dh11_11) rfl (XT.ii_eq_t c11_1) (by decide) (by decide) kq_) ?_
      show Go p e below s _ _ _ (s₁.setTop (mkF m 35 #[.val (.ref a), .val (.int (1 : Int32)), .val (.int (1 : Int32)), .val (.int w1), .val (.int w1)] []))
      refine Go.st (fun _ kq_ => XS.iconst X0.here hx rfl (hb hby dh11_35) kq_) ?_
      show Go p e below s _ _ _ (s₁.setTop (mkF m 36 #[.val (.ref a), .val (.int (1 : Int32)), .val (.int (1 : Int32)), .val (.int w1), .val (.int w1)] [(.int (0 : Int32))]))
      exact Go.ret X0 hlk (some (.int (0 : Int32))) (fun h => by rw [Bd.returns] at h; cases h) (by rw [e0]; exact ⟨own_res (z' := (0 : Int32)) (by unfold fA11; rw [if_pos c11_1]) rfl, N0, rfl⟩) (by decide) (by decide) (fun fs hr => retI X0 hx Bd.returns (hb hby dh11_36) hr)
    · refine Go.st (fun _ kq_ => XS.icmpNo X0.here hx rfl (hb hby dh11_11) rfl (XT.ii_eq_f c11_1) kq_) ?_
      show Go p e below s _ _ _ (s₁.setTop (mkF m 14 #[.val (.ref a), .val (.int (1 : Int32)), .val (.int (1 : Int32)), .val (.int w1), .val (.int w1)] []))
      refine Go.st (fun _ kq_ => XS.iloadN X0.here hx rfl (hb hby dh11_14) rfl kq_) ?_
      show Go p e below s _ _ _ (s₁.setTop (mkF m 15 #[.val (.ref a), .val (.int (1 : Int32)), .val (.int (1 : Int32)), .val (.int w1), .val (.int w1)] [(.int w1)]))
      refine Go.st (fun _ kq_ => XS.iload X0.here hx rfl (hb hby dh11_15) rfl kq_) ?_
      show Go p e below s _ _ _ (s₁.setTop (mkF m 17 #[.val (.ref a), .val (.int (1 : Int32)), .val (.int (1 : Int32)), .val (.int w1), .val (.int w1)] [(.int w1), (.int w1)]))
      by_cases c17_2 : w1 < w1
      · refine Go.st (fun _ kq_ => XS.icmpYes X0.here hx rfl (pc0 := 17) (pc' := 31) rfl (hb hby dh11_17) rfl (XT.ii_lt_t c17_2) (by decide) (by decide) kq_) ?_
        show Go p e below s _ _ _ (s₁.setTop (mkF m 31 #[.val (.ref a), .val (.int (1 : Int32)), .val (.int (1 : Int32)), .val (.int w1), .val (.int w1)] []))
        refine Go.st (fun _ kq_ => XS.iconst X0.here hx rfl (hb hby dh11_31) kq_) ?_
        show Go p e below s _ _ _ (s₁.setTop (mkF m 32 #[.val (.ref a), .val (.int (1 : Int32)), .val (.int (1 : Int32)), .val (.int w1), .val (.int w1)] [(.int (1 : Int32))]))
        refine Go.st (fun _ kq_ => XS.goto X0.here hx rfl (pc0 := 32) (pc' := 36) rfl (hb hby dh11_32) (by decide) (by decide) kq_) ?_
        show Go p e below s _ _ _ (s₁.setTop (mkF m 36 #[.val (.ref a), .val (.int (1 : Int32)), .val (.int (1 : Int32)), .val (.int w1), .val (.int w1)] [(.int (1 : Int32))]))
        exact Go.ret X0 hlk (some (.int (1 : Int32))) (fun h => by rw [Bd.returns] at h; cases h) (by rw [e0]; exact ⟨own_res (z' := (1 : Int32)) (by unfold fA11; rw [if_neg c11_1, if_pos c17_2]) rfl, N0, rfl⟩) (by decide) (by decide) (fun fs hr => retI X0 hx Bd.returns (hb hby dh11_36) hr)
      · refine Go.st (fun _ kq_ => XS.icmpNo X0.here hx rfl (hb hby dh11_17) rfl (XT.ii_lt_f c17_2) kq_) ?_
        show Go p e below s _ _ _ (s₁.setTop (mkF m 20 #[.val (.ref a), .val (.int (1 : Int32)), .val (.int (1 : Int32)), .val (.int w1), .val (.int w1)] []))
        refine Go.st (fun _ kq_ => XS.iloadN X0.here hx rfl (hb hby dh11_20) rfl kq_) ?_
        show Go p e below s _ _ _ (s₁.setTop (mkF m 21 #[.val (.ref a), .val (.int (1 : Int32)), .val (.int (1 : Int32)), .val (.int w1), .val (.int w1)] [(.int w1)]))
        refine Go.st (fun _ kq_ => XS.iload X0.here hx rfl (hb hby dh11_21) rfl kq_) ?_
        show Go p e below s _ _ _ (s₁.setTop (mkF m 23 #[.val (.ref a), .val (.int (1 : Int32)), .val (.int (1 : Int32)), .val (.int w1), .val (.int w1)] [(.int w1), (.int w1)]))
        by_cases c23_3 : w1 = w1
        · refine Go.st (fun _ kq_ => XS.icmpNo X0.here hx rfl (hb hby dh11_23) rfl (XT.ii_ne_f c23_3) kq_) ?_
          show Go p e below s _ _ _ (s₁.setTop (mkF m 26 #[.val (.ref a), .val (.int (1 : Int32)), .val (.int (1 : Int32)), .val (.int w1), .val (.int w1)] []))
          refine Go.st (fun _ kq_ => XS.iloadN X0.here hx rfl (hb hby dh11_26) rfl kq_) ?_
          show Go p e below s _ _ _ (s₁.setTop (mkF m 27 #[.val (.ref a), .val (.int (1 : Int32)), .val (.int (1 : Int32)), .val (.int w1), .val (.int w1)] [(.int (1 : Int32))]))
          refine Go.st (fun _ kq_ => XS.iloadN X0.here hx rfl (hb hby dh11_27) rfl kq_) ?_
          show Go p e below s _ _ _ (s₁.setTop (mkF m 28 #[.val (.ref a), .val (.int (1 : Int32)), .val (.int (1 : Int32)), .val (.int w1), .val (.int w1)] [(.int (1 : Int32)), (.int (1 : Int32))]))
          refine Go.st (fun _ kq_ => XS.icmpYes X0.here hx rfl (pc0 := 28) (pc' := 35) rfl (hb hby dh11_28) rfl (by decide) (by decide) (by decide) kq_) ?_
          show Go p e below s _ _ _ (s₁.setTop (mkF m 35 #[.val (.ref a), .val (.int (1 : Int32)), .val (.int (1 : Int32)), .val (.int w1), .val (.int w1)] []))
          refine Go.st (fun _ kq_ => XS.iconst X0.here hx rfl (hb hby dh11_35) kq_) ?_
          show Go p e below s _ _ _ (s₁.setTop (mkF m 36 #[.val (.ref a), .val (.int (1 : Int32)), .val (.int (1 : Int32)), .val (.int w1), .val (.int w1)] [(.int (0 : Int32))]))
          exact Go.ret X0 hlk (some (.int (0 : Int32))) (fun h => by rw [Bd.returns] at h; cases h) (by rw [e0]; exact ⟨own_res (z' := (0 : Int32)) (by unfold fA11; rw [if_neg c11_1, if_neg c17_2, if_pos c23_3]) rfl, N0, rfl⟩) (by decide) (by decide) (fun fs hr => retI X0 hx Bd.returns (hb hby dh11_36) hr)
        · refine Go.st (fun _ kq_ => XS.icmpYes X0.here hx rfl (pc0 := 23) (pc' := 35) rfl (hb hby dh11_23) rfl (XT.ii_ne_t c23_3) (by decide) (by decide) kq_) ?_
          show Go p e below s _ _ _ (s₁.setTop (mkF m 35 #[.val (.ref a), .val (.int (1 : Int32)), .val (.int (1 : Int32)), .val (.int w1), .val (.int w1)] []))
          refine Go.st (fun _ kq_ => XS.iconst X0.here hx rfl (hb hby dh11_35) kq_) ?_
          show Go p e below s _ _ _ (s₁.setTop (mkF m 36 #[.val (.ref a), .val (.int (1 : Int32)), .val (.int (1 : Int32)), .val (.int w1), .val (.int w1)] [(.int (0 : Int32))]))
          exact Go.ret X0 hlk (some (.int (0 : Int32))) (fun h => by rw [Bd.returns] at h; cases h) (by rw [e0]; exact ⟨own_res (z' := (0 : Int32)) (by unfold fA11; rw [if_neg c11_1, if_neg c17_2, if_neg c23_3]) rfl, N0, rfl⟩) (by decide) (by decide) (fun fs hr => retI X0 hx Bd.returns (hb hby dh11_36) hr)
  obtain ⟨s2, o2, st2, r2⟩ := G
  exact ⟨s2, o2, castTop (efh11 m a (1 : Int32) (1 : Int32)) st2, r2⟩
theorem dh12_0 : decode method_6_code 0 = .ok (.aload_n 0, 1) := by decide +kernel
theorem dh12_1 : decode method_6_code 1 = .ok (.iload_n 1, 1) := by decide +kernel
theorem dh12_2 : decode method_6_code 2 = .ok (.iaload, 1) := by decide +kernel
theorem dh12_3 : decode method_6_code 3 = .ok (.istore_n 3, 1) := by decide +kernel
theorem dh12_4 : decode method_6_code 4 = .ok (.aload_n 0, 1) := by decide +kernel
theorem dh12_5 : decode method_6_code 5 = .ok (.iload_n 2, 1) := by decide +kernel
theorem dh12_6 : decode method_6_code 6 = .ok (.iaload, 1) := by decide +kernel
theorem dh12_7 : decode method_6_code 7 = .ok (.istore 4, 2) := by decide +kernel
theorem dh12_9 : decode method_6_code 9 = .ok (.iload_n 3, 1) := by decide +kernel
theorem dh12_10 : decode method_6_code 10 = .ok (.iconst (-1), 1) := by decide +kernel
theorem dh12_11 : decode method_6_code 11 = .ok (.if_icmp .eq 24, 3) := by decide +kernel
theorem dh12_14 : decode method_6_code 14 = .ok (.iload_n 3, 1) := by decide +kernel
theorem dh12_15 : decode method_6_code 15 = .ok (.iload 4, 2) := by decide +kernel
theorem dh12_17 : decode method_6_code 17 = .ok (.if_icmp .lt 14, 3) := by decide +kernel
theorem dh12_20 : decode method_6_code 20 = .ok (.iload_n 3, 1) := by decide +kernel
theorem dh12_21 : decode method_6_code 21 = .ok (.iload 4, 2) := by decide +kernel
theorem dh12_23 : decode method_6_code 23 = .ok (.if_icmp .ne 12, 3) := by decide +kernel
theorem dh12_26 : decode method_6_code 26 = .ok (.iload_n 1, 1) := by decide +kernel
theorem dh12_27 : decode method_6_code 27 = .ok (.iload_n 2, 1) := by decide +kernel
theorem dh12_28 : decode method_6_code 28 = .ok (.if_icmp .ge 7, 3) := by decide +kernel
theorem dh12_31 : decode method_6_code 31 = .ok (.iconst 1, 1) := by decide +kernel
theorem dh12_32 : decode method_6_code 32 = .ok (.goto 4, 3) := by decide +kernel
theorem dh12_35 : decode method_6_code 35 = .ok (.iconst 0, 1) := by decide +kernel
theorem dh12_36 : decode method_6_code 36 = .ok (.ireturn, 1) := by decide +kernel
theorem pnh12 : plainName "com/example/rootward/rootward/model/InstanceGroupPinLaw" = true := by first | (simp [plainName, overriddenIn]; done) | decide +kernel
theorem efh12 (m : MethodId) (x0 : Addr) (x1 : Int32) (x2 : Int32) : entryFrame m #[(.ref x0), (.int x1), (.int x2)] 5 = mkF m 0 #[.val (.ref x0), .val (.int x1), .val (.int x2), .unset, .unset] [] := by first | (simp [entryFrame, mkF, argsToLocals, Value.category, maxLocals]; done) | rfl
def fA12 (w0 : Int32) (w1 : Int32) (w2 : Int32) (w3 : Int32) : Int32 := (if w1 = (-1 : Int32) then (0 : Int32) else (if w1 < w2 then (1 : Int32) else (if w1 = w2 then (1 : Int32) else (0 : Int32))))
def Qh12 (Z : State) (a : Addr) (ka : ClassId) (w0 : Int32) (w1 : Int32) (w2 : Int32) (w3 : Int32) (h0 : Heap) (n0 : Nat) (v : Option Value) (h : Heap) (L : List Loc) : Prop := v = some (.int (fA12 w0 w1 w2 w3)) ∧ Fr n0 L ∧ h = h0
set_option maxRecDepth 65536 in
set_option maxHeartbeats 40000000 in
theorem rmh12 (l : Launch) (Z : State) (a0 : Array Value) (hw : ∀ d ∈ tables_1, d.before a0 Z = true) (ws : List Jvm.Cond) (a : Addr) (ka : ClassId) (w0 : Int32) (w1 : Int32) (w2 : Int32) (w3 : Int32) (h0 : Heap) (n0 : Nat) (O0 : Old Z n0 h0) (V_a : Arv Z h0 a ka .int (4 : Int32) [(.int w0), (.int w1), (.int w2), (.int w3)] (.int (0 : Int32))) :
    MetFree l (⟨"com/example/rootward/rootward/model/InstanceGroupPinLaw", "ahead", "([III)I"⟩ : MethodName) (head1 (Jvm.Cond.code (⟨"com/example/rootward/rootward/model/InstanceGroupPinLaw", "ahead", "([III)I"⟩ : MethodName) method_6_code 5 (some .int) :: ws) ({ frames := 0, cells := 0, slots := 0, locals := 0 } : Room)) (fun A_ U_ => A_ = #[(.ref a), (.int (1 : Int32)), (.int (2 : Int32))] ∧ Z.Warmed39 U_.vm ∧ U_.heap = h0) (fun _ _ _ _ _ => True) (fun _ U o U' => ∃ v L, o = .returned v ∧ Qh12 Z a ka w0 w1 w2 w3 h0 n0 v U'.heap L ∧ FrameEnd U o U' L ({ frames := 0, cells := 0, slots := 0, locals := 0 } : Room).cells ({ frames := 0, cells := 0, slots := 0, locals := 0 } : Room).slots) := by
  refine MetFree.of_bodySF (plainFor_of_name pnh12) hisR ?_
  intro p e s m args below meth cd s₁ Bd hml0 hP hK
  obtain ⟨rfl, hZ, hh⟩ := hP
  have hx := Bd.exec
  have hby := Bd.bytes
  have hlk : meth.locks = false := BodyLoose.notSynchronized Bd
  have hml : cd.maxLocals = 5 := hml0
  have hown : s.vm.findClass "com/example/rootward/rootward/model/InstanceGroupPinLaw" = some m.cls := findClass_of_methodNamed Bd.named
  have hnm := (name_of_methodNamed Bd.named Bd.method).1
  have X0 : Stand p l e ({ frames := 0, cells := 0, slots := 0, locals := 0 } : Room) s m #[(.ref a), (.int (1 : Int32)), (.int (2 : Int32))] below meth cd s₁ [] 0 0 := Stand.of_body Bd
  have e0 : s₁.heap = h0 := by rw [← hh, Bd.state]; rfl
  have N0 := Fr.nil n0
  have G : Go p e below s 0 0 (Qh12 Z a ka w0 w1 w2 w3 h0 n0) (s₁.setTop (mkF m 0 #[.val (.ref a), .val (.int (1 : Int32)), .val (.int (2 : Int32)), .unset, .unset] [])) := by
    show Go p e below s _ _ _ (s₁.setTop (mkF m 0 #[.val (.ref a), .val (.int (1 : Int32)), .val (.int (2 : Int32)), .unset, .unset] []))
    refine Go.st (fun _ kq_ => XS.aloadN X0.here hx rfl (hb hby dh12_0) rfl rfl kq_) ?_
    show Go p e below s _ _ _ (s₁.setTop (mkF m 1 #[.val (.ref a), .val (.int (1 : Int32)), .val (.int (2 : Int32)), .unset, .unset] [(.ref a)]))
    refine Go.st (fun _ kq_ => XS.iloadN X0.here hx rfl (hb hby dh12_1) rfl kq_) ?_
    show Go p e below s _ _ _ (s₁.setTop (mkF m 2 #[.val (.ref a), .val (.int (1 : Int32)), .val (.int (2 : Int32)), .unset, .unset] [(.int (1 : Int32)), (.ref a)]))
    refine Go.st (fun _ kq_ => own_iaload X0 hx hZ e0 V_a (by decide) (by decide) (v := (.int w1)) rfl (g := (mkF m 2 #[.val (.ref a), .val (.int (1 : Int32)), .val (.int (2 : Int32)), .unset, .unset] [(.int (1 : Int32)), (.ref a)])) rfl rfl (hb hby dh12_2) _ kq_) ?_
    show Go p e below s _ _ _ (s₁.setTop (mkF m 3 #[.val (.ref a), .val (.int (1 : Int32)), .val (.int (2 : Int32)), .unset, .unset] [(.int w1)]))
    refine Go.st (fun _ kq_ => XS.istoreN X0.here hx rfl (hb hby dh12_3) rfl (l' := #[.val (.ref a), .val (.int (1 : Int32)), .val (.int (2 : Int32)), .val (.int w1), .unset]) rfl kq_) ?_
    show Go p e below s _ _ _ (s₁.setTop (mkF m 4 #[.val (.ref a), .val (.int (1 : Int32)), .val (.int (2 : Int32)), .val (.int w1), .unset] []))
    refine Go.st (fun _ kq_ => XS.aloadN X0.here hx rfl (hb hby dh12_4) rfl rfl kq_) ?_
    show Go p e below s _ _ _ (s₁.setTop (mkF m 5 #[.val (.ref a), .val (.int (1 : Int32)), .val (.int (2 : Int32)), .val (.int w1), .unset] [(.ref a)]))
    refine Go.st (fun _ kq_ => XS.iloadN X0.here hx rfl (hb hby dh12_5) rfl kq_) ?_
    show Go p e below s _ _ _ (s₁.setTop (mkF m 6 #[.val (.ref a), .val (.int (1 : Int32)), .val (.int (2 : Int32)), .val (.int w1), .unset] [(.int (2 : Int32)), (.ref a)]))
    refine Go.st (fun _ kq_ => own_iaload X0 hx hZ e0 V_a (by decide) (by decide) (v := (.int w2)) rfl (g := (mkF m 6 #[.val (.ref a), .val (.int (1 : Int32)), .val (.int (2 : Int32)), .val (.int w1), .unset] [(.int (2 : Int32)), (.ref a)])) rfl rfl (hb hby dh12_6) _ kq_) ?_
    show Go p e below s _ _ _ (s₁.setTop (mkF m 7 #[.val (.ref a), .val (.int (1 : Int32)), .val (.int (2 : Int32)), .val (.int w1), .unset] [(.int w2)]))
    refine Go.st (fun _ kq_ => XS.istore X0.here hx rfl (hb hby dh12_7) rfl (l' := #[.val (.ref a), .val (.int (1 : Int32)), .val (.int (2 : Int32)), .val (.int w1), .val (.int w2)]) rfl kq_) ?_
    show Go p e below s _ _ _ (s₁.setTop (mkF m 9 #[.val (.ref a), .val (.int (1 : Int32)), .val (.int (2 : Int32)), .val (.int w1), .val (.int w2)] []))
    refine Go.st (fun _ kq_ => XS.iloadN X0.here hx rfl (hb hby dh12_9) rfl kq_) ?_
    show Go p e below s _ _ _ (s₁.setTop (mkF m 10 #[.val (.ref a), .val (.int (1 : Int32)), .val (.int (2 : Int32)), .val (.int w1), .val (.int w2)] [(.int w1)]))
    refine Go.st (fun _ kq_ => XS.iconst X0.here hx rfl (hb hby dh12_10) kq_) ?_
    show Go p e below s _ _ _ (s₁.setTop (mkF m 11 #[.val (.ref a), .val (.int (1 : Int32)), .val (.int (2 : Int32)), .val (.int w1), .val (.int w2)] [(.int (-1 : Int32)), (.int w1)]))
    by_cases c11_1 : w1 = (-1 : Int32)
    · refine Go.st (fun _ kq_ => XS.icmpYes X0.here hx rfl (pc0 := 11) (pc' := 35) rfl (hb hby dh12_11) rfl (XT.ii_eq_t c11_1) (by decide) (by decide) kq_) ?_
      show Go p e below s _ _ _ (s₁.setTop (mkF m 35 #[.val (.ref a), .val (.int (1 : Int32)), .val (.int (2 : Int32)), .val (.int w1), .val (.int w2)] []))
      refine Go.st (fun _ kq_ => XS.iconst X0.here hx rfl (hb hby dh12_35) kq_) ?_
      show Go p e below s _ _ _ (s₁.setTop (mkF m 36 #[.val (.ref a), .val (.int (1 : Int32)), .val (.int (2 : Int32)), .val (.int w1), .val (.int w2)] [(.int (0 : Int32))]))
      exact Go.ret X0 hlk (some (.int (0 : Int32))) (fun h => by rw [Bd.returns] at h; cases h) (by rw [e0]; exact ⟨own_res (z' := (0 : Int32)) (by unfold fA12; rw [if_pos c11_1]) rfl, N0, rfl⟩) (by decide) (by decide) (fun fs hr => retI X0 hx Bd.returns (hb hby dh12_36) hr)
    · refine Go.st (fun _ kq_ => XS.icmpNo X0.here hx rfl (hb hby dh12_11) rfl (XT.ii_eq_f c11_1) kq_) ?_
      show Go p e below s _ _ _ (s₁.setTop (mkF m 14 #[.val (.ref a), .val (.int (1 : Int32)), .val (.int (2 : Int32)), .val (.int w1), .val (.int w2)] []))
      refine Go.st (fun _ kq_ => XS.iloadN X0.here hx rfl (hb hby dh12_14) rfl kq_) ?_
      show Go p e below s _ _ _ (s₁.setTop (mkF m 15 #[.val (.ref a), .val (.int (1 : Int32)), .val (.int (2 : Int32)), .val (.int w1), .val (.int w2)] [(.int w1)]))
      refine Go.st (fun _ kq_ => XS.iload X0.here hx rfl (hb hby dh12_15) rfl kq_) ?_
      show Go p e below s _ _ _ (s₁.setTop (mkF m 17 #[.val (.ref a), .val (.int (1 : Int32)), .val (.int (2 : Int32)), .val (.int w1), .val (.int w2)] [(.int w2), (.int w1)]))
      by_cases c17_2 : w1 < w2
      · refine Go.st (fun _ kq_ => XS.icmpYes X0.here hx rfl (pc0 := 17) (pc' := 31) rfl (hb hby dh12_17) rfl (XT.ii_lt_t c17_2) (by decide) (by decide) kq_) ?_
        show Go p e below s _ _ _ (s₁.setTop (mkF m 31 #[.val (.ref a), .val (.int (1 : Int32)), .val (.int (2 : Int32)), .val (.int w1), .val (.int w2)] []))
        refine Go.st (fun _ kq_ => XS.iconst X0.here hx rfl (hb hby dh12_31) kq_) ?_
        show Go p e below s _ _ _ (s₁.setTop (mkF m 32 #[.val (.ref a), .val (.int (1 : Int32)), .val (.int (2 : Int32)), .val (.int w1), .val (.int w2)] [(.int (1 : Int32))]))
        refine Go.st (fun _ kq_ => XS.goto X0.here hx rfl (pc0 := 32) (pc' := 36) rfl (hb hby dh12_32) (by decide) (by decide) kq_) ?_
        show Go p e below s _ _ _ (s₁.setTop (mkF m 36 #[.val (.ref a), .val (.int (1 : Int32)), .val (.int (2 : Int32)), .val (.int w1), .val (.int w2)] [(.int (1 : Int32))]))
        exact Go.ret X0 hlk (some (.int (1 : Int32))) (fun h => by rw [Bd.returns] at h; cases h) (by rw [e0]; exact ⟨own_res (z' := (1 : Int32)) (by unfold fA12; rw [if_neg c11_1, if_pos c17_2]) rfl, N0, rfl⟩) (by decide) (by decide) (fun fs hr => retI X0 hx Bd.returns (hb hby dh12_36) hr)
      · refine Go.st (fun _ kq_ => XS.icmpNo X0.here hx rfl (hb hby dh12_17) rfl (XT.ii_lt_f c17_2) kq_) ?_
        show Go p e below s _ _ _ (s₁.setTop (mkF m 20 #[.val (.ref a), .val (.int (1 : Int32)), .val (.int (2 : Int32)), .val (.int w1), .val (.int w2)] []))
        refine Go.st (fun _ kq_ => XS.iloadN X0.here hx rfl (hb hby dh12_20) rfl kq_) ?_
        show Go p e below s _ _ _ (s₁.setTop (mkF m 21 #[.val (.ref a), .val (.int (1 : Int32)), .val (.int (2 : Int32)), .val (.int w1), .val (.int w2)] [(.int w1)]))
        refine Go.st (fun _ kq_ => XS.iload X0.here hx rfl (hb hby dh12_21) rfl kq_) ?_
        show Go p e below s _ _ _ (s₁.setTop (mkF m 23 #[.val (.ref a), .val (.int (1 : Int32)), .val (.int (2 : Int32)), .val (.int w1), .val (.int w2)] [(.int w2), (.int w1)]))
        by_cases c23_3 : w1 = w2
        · refine Go.st (fun _ kq_ => XS.icmpNo X0.here hx rfl (hb hby dh12_23) rfl (XT.ii_ne_f c23_3) kq_) ?_
          show Go p e below s _ _ _ (s₁.setTop (mkF m 26 #[.val (.ref a), .val (.int (1 : Int32)), .val (.int (2 : Int32)), .val (.int w1), .val (.int w2)] []))
          refine Go.st (fun _ kq_ => XS.iloadN X0.here hx rfl (hb hby dh12_26) rfl kq_) ?_
          show Go p e below s _ _ _ (s₁.setTop (mkF m 27 #[.val (.ref a), .val (.int (1 : Int32)), .val (.int (2 : Int32)), .val (.int w1), .val (.int w2)] [(.int (1 : Int32))]))
          refine Go.st (fun _ kq_ => XS.iloadN X0.here hx rfl (hb hby dh12_27) rfl kq_) ?_
          show Go p e below s _ _ _ (s₁.setTop (mkF m 28 #[.val (.ref a), .val (.int (1 : Int32)), .val (.int (2 : Int32)), .val (.int w1), .val (.int w2)] [(.int (2 : Int32)), (.int (1 : Int32))]))
          refine Go.st (fun _ kq_ => XS.icmpNo X0.here hx rfl (hb hby dh12_28) rfl (by decide) kq_) ?_
          show Go p e below s _ _ _ (s₁.setTop (mkF m 31 #[.val (.ref a), .val (.int (1 : Int32)), .val (.int (2 : Int32)), .val (.int w1), .val (.int w2)] []))
          refine Go.st (fun _ kq_ => XS.iconst X0.here hx rfl (hb hby dh12_31) kq_) ?_
          show Go p e below s _ _ _ (s₁.setTop (mkF m 32 #[.val (.ref a), .val (.int (1 : Int32)), .val (.int (2 : Int32)), .val (.int w1), .val (.int w2)] [(.int (1 : Int32))]))
          refine Go.st (fun _ kq_ => XS.goto X0.here hx rfl (pc0 := 32) (pc' := 36) rfl (hb hby dh12_32) (by decide) (by decide) kq_) ?_
          show Go p e below s _ _ _ (s₁.setTop (mkF m 36 #[.val (.ref a), .val (.int (1 : Int32)), .val (.int (2 : Int32)), .val (.int w1), .val (.int w2)] [(.int (1 : Int32))]))
          exact Go.ret X0 hlk (some (.int (1 : Int32))) (fun h => by rw [Bd.returns] at h; cases h) (by rw [e0]; exact ⟨own_res (z' := (1 : Int32)) (by unfold fA12; rw [if_neg c11_1, if_neg c17_2, if_pos c23_3]) rfl, N0, rfl⟩) (by decide) (by decide) (fun fs hr => retI X0 hx Bd.returns (hb hby dh12_36) hr)
        · refine Go.st (fun _ kq_ => XS.icmpYes X0.here hx rfl (pc0 := 23) (pc' := 35) rfl (hb hby dh12_23) rfl (XT.ii_ne_t c23_3) (by decide) (by decide) kq_) ?_
          show Go p e below s _ _ _ (s₁.setTop (mkF m 35 #[.val (.ref a), .val (.int (1 : Int32)), .val (.int (2 : Int32)), .val (.int w1), .val (.int w2)] []))
          refine Go.st (fun _ kq_ => XS.iconst X0.here hx rfl (hb hby dh12_35) kq_) ?_
          show Go p e below s _ _ _ (s₁.setTop (mkF m 36 #[.val (.ref a), .val (.int (1 : Int32)), .val (.int (2 : Int32)), .val (.int w1), .val (.int w2)] [(.int (0 : Int32))]))
          exact Go.ret X0 hlk (some (.int (0 : Int32))) (fun h => by rw [Bd.returns] at h; cases h) (by rw [e0]; exact ⟨own_res (z' := (0 : Int32)) (by unfold fA12; rw [if_neg c11_1, if_neg c17_2, if_neg c23_3]) rfl, N0, rfl⟩) (by decide) (by decide) (fun fs hr => retI X0 hx Bd.returns (hb hby dh12_36) hr)
  obtain ⟨s2, o2, st2, r2⟩ := G
  exact ⟨s2, o2, castTop (efh12 m a (1 : Int32) (2 : Int32)) st2, r2⟩
theorem dh13_0 : decode method_6_code 0 = .ok (.aload_n 0, 1) := by decide +kernel
theorem dh13_1 : decode method_6_code 1 = .ok (.iload_n 1, 1) := by decide +kernel
theorem dh13_2 : decode method_6_code 2 = .ok (.iaload, 1) := by decide +kernel
theorem dh13_3 : decode method_6_code 3 = .ok (.istore_n 3, 1) := by decide +kernel
theorem dh13_4 : decode method_6_code 4 = .ok (.aload_n 0, 1) := by decide +kernel
theorem dh13_5 : decode method_6_code 5 = .ok (.iload_n 2, 1) := by decide +kernel
theorem dh13_6 : decode method_6_code 6 = .ok (.iaload, 1) := by decide +kernel
theorem dh13_7 : decode method_6_code 7 = .ok (.istore 4, 2) := by decide +kernel
theorem dh13_9 : decode method_6_code 9 = .ok (.iload_n 3, 1) := by decide +kernel
theorem dh13_10 : decode method_6_code 10 = .ok (.iconst (-1), 1) := by decide +kernel
theorem dh13_11 : decode method_6_code 11 = .ok (.if_icmp .eq 24, 3) := by decide +kernel
theorem dh13_14 : decode method_6_code 14 = .ok (.iload_n 3, 1) := by decide +kernel
theorem dh13_15 : decode method_6_code 15 = .ok (.iload 4, 2) := by decide +kernel
theorem dh13_17 : decode method_6_code 17 = .ok (.if_icmp .lt 14, 3) := by decide +kernel
theorem dh13_20 : decode method_6_code 20 = .ok (.iload_n 3, 1) := by decide +kernel
theorem dh13_21 : decode method_6_code 21 = .ok (.iload 4, 2) := by decide +kernel
theorem dh13_23 : decode method_6_code 23 = .ok (.if_icmp .ne 12, 3) := by decide +kernel
theorem dh13_26 : decode method_6_code 26 = .ok (.iload_n 1, 1) := by decide +kernel
theorem dh13_27 : decode method_6_code 27 = .ok (.iload_n 2, 1) := by decide +kernel
theorem dh13_28 : decode method_6_code 28 = .ok (.if_icmp .ge 7, 3) := by decide +kernel
theorem dh13_31 : decode method_6_code 31 = .ok (.iconst 1, 1) := by decide +kernel
theorem dh13_32 : decode method_6_code 32 = .ok (.goto 4, 3) := by decide +kernel
theorem dh13_35 : decode method_6_code 35 = .ok (.iconst 0, 1) := by decide +kernel
theorem dh13_36 : decode method_6_code 36 = .ok (.ireturn, 1) := by decide +kernel
theorem pnh13 : plainName "com/example/rootward/rootward/model/InstanceGroupPinLaw" = true := by first | (simp [plainName, overriddenIn]; done) | decide +kernel
theorem efh13 (m : MethodId) (x0 : Addr) (x1 : Int32) (x2 : Int32) : entryFrame m #[(.ref x0), (.int x1), (.int x2)] 5 = mkF m 0 #[.val (.ref x0), .val (.int x1), .val (.int x2), .unset, .unset] [] := by first | (simp [entryFrame, mkF, argsToLocals, Value.category, maxLocals]; done) | rfl
def fA13 (w0 : Int32) (w1 : Int32) (w2 : Int32) (w3 : Int32) : Int32 := (if w1 = (-1 : Int32) then (0 : Int32) else (if w1 < w3 then (1 : Int32) else (if w1 = w3 then (1 : Int32) else (0 : Int32))))
def Qh13 (Z : State) (a : Addr) (ka : ClassId) (w0 : Int32) (w1 : Int32) (w2 : Int32) (w3 : Int32) (h0 : Heap) (n0 : Nat) (v : Option Value) (h : Heap) (L : List Loc) : Prop := v = some (.int (fA13 w0 w1 w2 w3)) ∧ Fr n0 L ∧ h = h0
set_option maxRecDepth 65536 in
set_option maxHeartbeats 40000000 in
theorem rmh13 (l : Launch) (Z : State) (a0 : Array Value) (hw : ∀ d ∈ tables_1, d.before a0 Z = true) (ws : List Jvm.Cond) (a : Addr) (ka : ClassId) (w0 : Int32) (w1 : Int32) (w2 : Int32) (w3 : Int32) (h0 : Heap) (n0 : Nat) (O0 : Old Z n0 h0) (V_a : Arv Z h0 a ka .int (4 : Int32) [(.int w0), (.int w1), (.int w2), (.int w3)] (.int (0 : Int32))) :
    MetFree l (⟨"com/example/rootward/rootward/model/InstanceGroupPinLaw", "ahead", "([III)I"⟩ : MethodName) (head1 (Jvm.Cond.code (⟨"com/example/rootward/rootward/model/InstanceGroupPinLaw", "ahead", "([III)I"⟩ : MethodName) method_6_code 5 (some .int) :: ws) ({ frames := 0, cells := 0, slots := 0, locals := 0 } : Room)) (fun A_ U_ => A_ = #[(.ref a), (.int (1 : Int32)), (.int (3 : Int32))] ∧ Z.Warmed39 U_.vm ∧ U_.heap = h0) (fun _ _ _ _ _ => True) (fun _ U o U' => ∃ v L, o = .returned v ∧ Qh13 Z a ka w0 w1 w2 w3 h0 n0 v U'.heap L ∧ FrameEnd U o U' L ({ frames := 0, cells := 0, slots := 0, locals := 0 } : Room).cells ({ frames := 0, cells := 0, slots := 0, locals := 0 } : Room).slots) := by
  refine MetFree.of_bodySF (plainFor_of_name pnh13) hisR ?_
  intro p e s m args below meth cd s₁ Bd hml0 hP hK
  obtain ⟨rfl, hZ, hh⟩ := hP
  have hx := Bd.exec
  have hby := Bd.bytes
  have hlk : meth.locks = false := BodyLoose.notSynchronized Bd
  have hml : cd.maxLocals = 5 := hml0
  have hown : s.vm.findClass "com/example/rootward/rootward/model/InstanceGroupPinLaw" = some m.cls := findClass_of_methodNamed Bd.named
  have hnm := (name_of_methodNamed Bd.named Bd.method).1
  have X0 : Stand p l e ({ frames := 0, cells := 0, slots := 0, locals := 0 } : Room) s m #[(.ref a), (.int (1 : Int32)), (.int (3 : Int32))] below meth cd s₁ [] 0 0 := Stand.of_body Bd
  have e0 : s₁.heap = h0 := by rw [← hh, Bd.state]; rfl
  have N0 := Fr.nil n0
  have G : Go p e below s 0 0 (Qh13 Z a ka w0 w1 w2 w3 h0 n0) (s₁.setTop (mkF m 0 #[.val (.ref a), .val (.int (1 : Int32)), .val (.int (3 : Int32)), .unset, .unset] [])) := by
    show Go p e below s _ _ _ (s₁.setTop (mkF m 0 #[.val (.ref a), .val (.int (1 : Int32)), .val (.int (3 : Int32)), .unset, .unset] []))
    refine Go.st (fun _ kq_ => XS.aloadN X0.here hx rfl (hb hby dh13_0) rfl rfl kq_) ?_
    show Go p e below s _ _ _ (s₁.setTop (mkF m 1 #[.val (.ref a), .val (.int (1 : Int32)), .val (.int (3 : Int32)), .unset, .unset] [(.ref a)]))
    refine Go.st (fun _ kq_ => XS.iloadN X0.here hx rfl (hb hby dh13_1) rfl kq_) ?_
    show Go p e below s _ _ _ (s₁.setTop (mkF m 2 #[.val (.ref a), .val (.int (1 : Int32)), .val (.int (3 : Int32)), .unset, .unset] [(.int (1 : Int32)), (.ref a)]))
    refine Go.st (fun _ kq_ => own_iaload X0 hx hZ e0 V_a (by decide) (by decide) (v := (.int w1)) rfl (g := (mkF m 2 #[.val (.ref a), .val (.int (1 : Int32)), .val (.int (3 : Int32)), .unset, .unset] [(.int (1 : Int32)), (.ref a)])) rfl rfl (hb hby dh13_2) _ kq_) ?_
    show Go p e below s _ _ _ (s₁.setTop (mkF m 3 #[.val (.ref a), .val (.int (1 : Int32)), .val (.int (3 : Int32)), .unset, .unset] [(.int w1)]))
    refine Go.st (fun _ kq_ => XS.istoreN X0.here hx rfl (hb hby dh13_3) rfl (l' := #[.val (.ref a), .val (.int (1 : Int32)), .val (.int (3 : Int32)), .val (.int w1), .unset]) rfl kq_) ?_
    show Go p e below s _ _ _ (s₁.setTop (mkF m 4 #[.val (.ref a), .val (.int (1 : Int32)), .val (.int (3 : Int32)), .val (.int w1), .unset] []))
    refine Go.st (fun _ kq_ => XS.aloadN X0.here hx rfl (hb hby dh13_4) rfl rfl kq_) ?_
    show Go p e below s _ _ _ (s₁.setTop (mkF m 5 #[.val (.ref a), .val (.int (1 : Int32)), .val (.int (3 : Int32)), .val (.int w1), .unset] [(.ref a)]))
    refine Go.st (fun _ kq_ => XS.iloadN X0.here hx rfl (hb hby dh13_5) rfl kq_) ?_
    show Go p e below s _ _ _ (s₁.setTop (mkF m 6 #[.val (.ref a), .val (.int (1 : Int32)), .val (.int (3 : Int32)), .val (.int w1), .unset] [(.int (3 : Int32)), (.ref a)]))
    refine Go.st (fun _ kq_ => own_iaload X0 hx hZ e0 V_a (by decide) (by decide) (v := (.int w3)) rfl (g := (mkF m 6 #[.val (.ref a), .val (.int (1 : Int32)), .val (.int (3 : Int32)), .val (.int w1), .unset] [(.int (3 : Int32)), (.ref a)])) rfl rfl (hb hby dh13_6) _ kq_) ?_
    show Go p e below s _ _ _ (s₁.setTop (mkF m 7 #[.val (.ref a), .val (.int (1 : Int32)), .val (.int (3 : Int32)), .val (.int w1), .unset] [(.int w3)]))
    refine Go.st (fun _ kq_ => XS.istore X0.here hx rfl (hb hby dh13_7) rfl (l' := #[.val (.ref a), .val (.int (1 : Int32)), .val (.int (3 : Int32)), .val (.int w1), .val (.int w3)]) rfl kq_) ?_
    show Go p e below s _ _ _ (s₁.setTop (mkF m 9 #[.val (.ref a), .val (.int (1 : Int32)), .val (.int (3 : Int32)), .val (.int w1), .val (.int w3)] []))
    refine Go.st (fun _ kq_ => XS.iloadN X0.here hx rfl (hb hby dh13_9) rfl kq_) ?_
    show Go p e below s _ _ _ (s₁.setTop (mkF m 10 #[.val (.ref a), .val (.int (1 : Int32)), .val (.int (3 : Int32)), .val (.int w1), .val (.int w3)] [(.int w1)]))
    refine Go.st (fun _ kq_ => XS.iconst X0.here hx rfl (hb hby dh13_10) kq_) ?_
    show Go p e below s _ _ _ (s₁.setTop (mkF m 11 #[.val (.ref a), .val (.int (1 : Int32)), .val (.int (3 : Int32)), .val (.int w1), .val (.int w3)] [(.int (-1 : Int32)), (.int w1)]))
    by_cases c11_1 : w1 = (-1 : Int32)
    · refine Go.st (fun _ kq_ => XS.icmpYes X0.here hx rfl (pc0 := 11) (pc' := 35) rfl (hb hby dh13_11) rfl (XT.ii_eq_t c11_1) (by decide) (by decide) kq_) ?_
      show Go p e below s _ _ _ (s₁.setTop (mkF m 35 #[.val (.ref a), .val (.int (1 : Int32)), .val (.int (3 : Int32)), .val (.int w1), .val (.int w3)] []))
      refine Go.st (fun _ kq_ => XS.iconst X0.here hx rfl (hb hby dh13_35) kq_) ?_
      show Go p e below s _ _ _ (s₁.setTop (mkF m 36 #[.val (.ref a), .val (.int (1 : Int32)), .val (.int (3 : Int32)), .val (.int w1), .val (.int w3)] [(.int (0 : Int32))]))
      exact Go.ret X0 hlk (some (.int (0 : Int32))) (fun h => by rw [Bd.returns] at h; cases h) (by rw [e0]; exact ⟨own_res (z' := (0 : Int32)) (by unfold fA13; rw [if_pos c11_1]) rfl, N0, rfl⟩) (by decide) (by decide) (fun fs hr => retI X0 hx Bd.returns (hb hby dh13_36) hr)
    · refine Go.st (fun _ kq_ => XS.icmpNo X0.here hx rfl (hb hby dh13_11) rfl (XT.ii_eq_f c11_1) kq_) ?_
      show Go p e below s _ _ _ (s₁.setTop (mkF m 14 #[.val (.ref a), .val (.int (1 : Int32)), .val (.int (3 : Int32)), .val (.int w1), .val (.int w3)] []))
      refine Go.st (fun _ kq_ => XS.iloadN X0.here hx rfl (hb hby dh13_14) rfl kq_) ?_
      show Go p e below s _ _ _ (s₁.setTop (mkF m 15 #[.val (.ref a), .val (.int (1 : Int32)), .val (.int (3 : Int32)), .val (.int w1), .val (.int w3)] [(.int w1)]))
      refine Go.st (fun _ kq_ => XS.iload X0.here hx rfl (hb hby dh13_15) rfl kq_) ?_
      show Go p e below s _ _ _ (s₁.setTop (mkF m 17 #[.val (.ref a), .val (.int (1 : Int32)), .val (.int (3 : Int32)), .val (.int w1), .val (.int w3)] [(.int w3), (.int w1)]))
      by_cases c17_2 : w1 < w3
      · refine Go.st (fun _ kq_ => XS.icmpYes X0.here hx rfl (pc0 := 17) (pc' := 31) rfl (hb hby dh13_17) rfl (XT.ii_lt_t c17_2) (by decide) (by decide) kq_) ?_
        show Go p e below s _ _ _ (s₁.setTop (mkF m 31 #[.val (.ref a), .val (.int (1 : Int32)), .val (.int (3 : Int32)), .val (.int w1), .val (.int w3)] []))
        refine Go.st (fun _ kq_ => XS.iconst X0.here hx rfl (hb hby dh13_31) kq_) ?_
        show Go p e below s _ _ _ (s₁.setTop (mkF m 32 #[.val (.ref a), .val (.int (1 : Int32)), .val (.int (3 : Int32)), .val (.int w1), .val (.int w3)] [(.int (1 : Int32))]))
        refine Go.st (fun _ kq_ => XS.goto X0.here hx rfl (pc0 := 32) (pc' := 36) rfl (hb hby dh13_32) (by decide) (by decide) kq_) ?_
        show Go p e below s _ _ _ (s₁.setTop (mkF m 36 #[.val (.ref a), .val (.int (1 : Int32)), .val (.int (3 : Int32)), .val (.int w1), .val (.int w3)] [(.int (1 : Int32))]))
        exact Go.ret X0 hlk (some (.int (1 : Int32))) (fun h => by rw [Bd.returns] at h; cases h) (by rw [e0]; exact ⟨own_res (z' := (1 : Int32)) (by unfold fA13; rw [if_neg c11_1, if_pos c17_2]) rfl, N0, rfl⟩) (by decide) (by decide) (fun fs hr => retI X0 hx Bd.returns (hb hby dh13_36) hr)
      · refine Go.st (fun _ kq_ => XS.icmpNo X0.here hx rfl (hb hby dh13_17) rfl (XT.ii_lt_f c17_2) kq_) ?_
        show Go p e below s _ _ _ (s₁.setTop (mkF m 20 #[.val (.ref a), .val (.int (1 : Int32)), .val (.int (3 : Int32)), .val (.int w1), .val (.int w3)] []))
        refine Go.st (fun _ kq_ => XS.iloadN X0.here hx rfl (hb hby dh13_20) rfl kq_) ?_
        show Go p e below s _ _ _ (s₁.setTop (mkF m 21 #[.val (.ref a), .val (.int (1 : Int32)), .val (.int (3 : Int32)), .val (.int w1), .val (.int w3)] [(.int w1)]))
        refine Go.st (fun _ kq_ => XS.iload X0.here hx rfl (hb hby dh13_21) rfl kq_) ?_
        show Go p e below s _ _ _ (s₁.setTop (mkF m 23 #[.val (.ref a), .val (.int (1 : Int32)), .val (.int (3 : Int32)), .val (.int w1), .val (.int w3)] [(.int w3), (.int w1)]))
        by_cases c23_3 : w1 = w3
        · refine Go.st (fun _ kq_ => XS.icmpNo X0.here hx rfl (hb hby dh13_23) rfl (XT.ii_ne_f c23_3) kq_) ?_
          show Go p e below s _ _ _ (s₁.setTop (mkF m 26 #[.val (.ref a), .val (.int (1 : Int32)), .val (.int (3 : Int32)), .val (.int w1), .val (.int w3)] []))
          refine Go.st (fun _ kq_ => XS.iloadN X0.here hx rfl (hb hby dh13_26) rfl kq_) ?_
          show Go p e below s _ _ _ (s₁.setTop (mkF m 27 #[.val (.ref a), .val (.int (1 : Int32)), .val (.int (3 : Int32)), .val (.int w1), .val (.int w3)] [(.int (1 : Int32))]))
          refine Go.st (fun _ kq_ => XS.iloadN X0.here hx rfl (hb hby dh13_27) rfl kq_) ?_
          show Go p e below s _ _ _ (s₁.setTop (mkF m 28 #[.val (.ref a), .val (.int (1 : Int32)), .val (.int (3 : Int32)), .val (.int w1), .val (.int w3)] [(.int (3 : Int32)), (.int (1 : Int32))]))
          refine Go.st (fun _ kq_ => XS.icmpNo X0.here hx rfl (hb hby dh13_28) rfl (by decide) kq_) ?_
          show Go p e below s _ _ _ (s₁.setTop (mkF m 31 #[.val (.ref a), .val (.int (1 : Int32)), .val (.int (3 : Int32)), .val (.int w1), .val (.int w3)] []))
          refine Go.st (fun _ kq_ => XS.iconst X0.here hx rfl (hb hby dh13_31) kq_) ?_
          show Go p e below s _ _ _ (s₁.setTop (mkF m 32 #[.val (.ref a), .val (.int (1 : Int32)), .val (.int (3 : Int32)), .val (.int w1), .val (.int w3)] [(.int (1 : Int32))]))
          refine Go.st (fun _ kq_ => XS.goto X0.here hx rfl (pc0 := 32) (pc' := 36) rfl (hb hby dh13_32) (by decide) (by decide) kq_) ?_
          show Go p e below s _ _ _ (s₁.setTop (mkF m 36 #[.val (.ref a), .val (.int (1 : Int32)), .val (.int (3 : Int32)), .val (.int w1), .val (.int w3)] [(.int (1 : Int32))]))
          exact Go.ret X0 hlk (some (.int (1 : Int32))) (fun h => by rw [Bd.returns] at h; cases h) (by rw [e0]; exact ⟨own_res (z' := (1 : Int32)) (by unfold fA13; rw [if_neg c11_1, if_neg c17_2, if_pos c23_3]) rfl, N0, rfl⟩) (by decide) (by decide) (fun fs hr => retI X0 hx Bd.returns (hb hby dh13_36) hr)
        · refine Go.st (fun _ kq_ => XS.icmpYes X0.here hx rfl (pc0 := 23) (pc' := 35) rfl (hb hby dh13_23) rfl (XT.ii_ne_t c23_3) (by decide) (by decide) kq_) ?_
          show Go p e below s _ _ _ (s₁.setTop (mkF m 35 #[.val (.ref a), .val (.int (1 : Int32)), .val (.int (3 : Int32)), .val (.int w1), .val (.int w3)] []))
          refine Go.st (fun _ kq_ => XS.iconst X0.here hx rfl (hb hby dh13_35) kq_) ?_
          show Go p e below s _ _ _ (s₁.setTop (mkF m 36 #[.val (.ref a), .val (.int (1 : Int32)), .val (.int (3 : Int32)), .val (.int w1), .val (.int w3)] [(.int (0 : Int32))]))
          exact Go.ret X0 hlk (some (.int (0 : Int32))) (fun h => by rw [Bd.returns] at h; cases h) (by rw [e0]; exact ⟨own_res (z' := (0 : Int32)) (by unfold fA13; rw [if_neg c11_1, if_neg c17_2, if_neg c23_3]) rfl, N0, rfl⟩) (by decide) (by decide) (fun fs hr => retI X0 hx Bd.returns (hb hby dh13_36) hr)
  obtain ⟨s2, o2, st2, r2⟩ := G
  exact ⟨s2, o2, castTop (efh13 m a (1 : Int32) (3 : Int32)) st2, r2⟩
theorem dh20_0 : decode method_6_code 0 = .ok (.aload_n 0, 1) := by decide +kernel
theorem dh20_1 : decode method_6_code 1 = .ok (.iload_n 1, 1) := by decide +kernel
theorem dh20_2 : decode method_6_code 2 = .ok (.iaload, 1) := by decide +kernel
theorem dh20_3 : decode method_6_code 3 = .ok (.istore_n 3, 1) := by decide +kernel
theorem dh20_4 : decode method_6_code 4 = .ok (.aload_n 0, 1) := by decide +kernel
theorem dh20_5 : decode method_6_code 5 = .ok (.iload_n 2, 1) := by decide +kernel
theorem dh20_6 : decode method_6_code 6 = .ok (.iaload, 1) := by decide +kernel
theorem dh20_7 : decode method_6_code 7 = .ok (.istore 4, 2) := by decide +kernel
theorem dh20_9 : decode method_6_code 9 = .ok (.iload_n 3, 1) := by decide +kernel
theorem dh20_10 : decode method_6_code 10 = .ok (.iconst (-1), 1) := by decide +kernel
theorem dh20_11 : decode method_6_code 11 = .ok (.if_icmp .eq 24, 3) := by decide +kernel
theorem dh20_14 : decode method_6_code 14 = .ok (.iload_n 3, 1) := by decide +kernel
theorem dh20_15 : decode method_6_code 15 = .ok (.iload 4, 2) := by decide +kernel
theorem dh20_17 : decode method_6_code 17 = .ok (.if_icmp .lt 14, 3) := by decide +kernel
theorem dh20_20 : decode method_6_code 20 = .ok (.iload_n 3, 1) := by decide +kernel
theorem dh20_21 : decode method_6_code 21 = .ok (.iload 4, 2) := by decide +kernel
theorem dh20_23 : decode method_6_code 23 = .ok (.if_icmp .ne 12, 3) := by decide +kernel
theorem dh20_26 : decode method_6_code 26 = .ok (.iload_n 1, 1) := by decide +kernel
theorem dh20_27 : decode method_6_code 27 = .ok (.iload_n 2, 1) := by decide +kernel
theorem dh20_28 : decode method_6_code 28 = .ok (.if_icmp .ge 7, 3) := by decide +kernel
theorem dh20_31 : decode method_6_code 31 = .ok (.iconst 1, 1) := by decide +kernel
theorem dh20_32 : decode method_6_code 32 = .ok (.goto 4, 3) := by decide +kernel
theorem dh20_35 : decode method_6_code 35 = .ok (.iconst 0, 1) := by decide +kernel
theorem dh20_36 : decode method_6_code 36 = .ok (.ireturn, 1) := by decide +kernel
theorem pnh20 : plainName "com/example/rootward/rootward/model/InstanceGroupPinLaw" = true := by first | (simp [plainName, overriddenIn]; done) | decide +kernel
theorem efh20 (m : MethodId) (x0 : Addr) (x1 : Int32) (x2 : Int32) : entryFrame m #[(.ref x0), (.int x1), (.int x2)] 5 = mkF m 0 #[.val (.ref x0), .val (.int x1), .val (.int x2), .unset, .unset] [] := by first | (simp [entryFrame, mkF, argsToLocals, Value.category, maxLocals]; done) | rfl
def fA20 (w0 : Int32) (w1 : Int32) (w2 : Int32) (w3 : Int32) : Int32 := (if w2 = (-1 : Int32) then (0 : Int32) else (if w2 < w0 then (1 : Int32) else (if w2 = w0 then (0 : Int32) else (0 : Int32))))
def Qh20 (Z : State) (a : Addr) (ka : ClassId) (w0 : Int32) (w1 : Int32) (w2 : Int32) (w3 : Int32) (h0 : Heap) (n0 : Nat) (v : Option Value) (h : Heap) (L : List Loc) : Prop := v = some (.int (fA20 w0 w1 w2 w3)) ∧ Fr n0 L ∧ h = h0
set_option maxRecDepth 65536 in
set_option maxHeartbeats 40000000 in
theorem rmh20 (l : Launch) (Z : State) (a0 : Array Value) (hw : ∀ d ∈ tables_1, d.before a0 Z = true) (ws : List Jvm.Cond) (a : Addr) (ka : ClassId) (w0 : Int32) (w1 : Int32) (w2 : Int32) (w3 : Int32) (h0 : Heap) (n0 : Nat) (O0 : Old Z n0 h0) (V_a : Arv Z h0 a ka .int (4 : Int32) [(.int w0), (.int w1), (.int w2), (.int w3)] (.int (0 : Int32))) :
    MetFree l (⟨"com/example/rootward/rootward/model/InstanceGroupPinLaw", "ahead", "([III)I"⟩ : MethodName) (head1 (Jvm.Cond.code (⟨"com/example/rootward/rootward/model/InstanceGroupPinLaw", "ahead", "([III)I"⟩ : MethodName) method_6_code 5 (some .int) :: ws) ({ frames := 0, cells := 0, slots := 0, locals := 0 } : Room)) (fun A_ U_ => A_ = #[(.ref a), (.int (2 : Int32)), (.int (0 : Int32))] ∧ Z.Warmed39 U_.vm ∧ U_.heap = h0) (fun _ _ _ _ _ => True) (fun _ U o U' => ∃ v L, o = .returned v ∧ Qh20 Z a ka w0 w1 w2 w3 h0 n0 v U'.heap L ∧ FrameEnd U o U' L ({ frames := 0, cells := 0, slots := 0, locals := 0 } : Room).cells ({ frames := 0, cells := 0, slots := 0, locals := 0 } : Room).slots) := by
  refine MetFree.of_bodySF (plainFor_of_name pnh20) hisR ?_
  intro p e s m args below meth cd s₁ Bd hml0 hP hK
  obtain ⟨rfl, hZ, hh⟩ := hP
  have hx := Bd.exec
  have hby := Bd.bytes
  have hlk : meth.locks = false := BodyLoose.notSynchronized Bd
  have hml : cd.maxLocals = 5 := hml0
  have hown : s.vm.findClass "com/example/rootward/rootward/model/InstanceGroupPinLaw" = some m.cls := findClass_of_methodNamed Bd.named
  have hnm := (name_of_methodNamed Bd.named Bd.method).1
  have X0 : Stand p l e ({ frames := 0, cells := 0, slots := 0, locals := 0 } : Room) s m #[(.ref a), (.int (2 : Int32)), (.int (0 : Int32))] below meth cd s₁ [] 0 0 := Stand.of_body Bd
  have e0 : s₁.heap = h0 := by rw [← hh, Bd.state]; rfl
  have N0 := Fr.nil n0
  have G : Go p e below s 0 0 (Qh20 Z a ka w0 w1 w2 w3 h0 n0) (s₁.setTop (mkF m 0 #[.val (.ref a), .val (.int (2 : Int32)), .val (.int (0 : Int32)), .unset, .unset] [])) := by
    show Go p e below s _ _ _ (s₁.setTop (mkF m 0 #[.val (.ref a), .val (.int (2 : Int32)), .val (.int (0 : Int32)), .unset, .unset] []))
    refine Go.st (fun _ kq_ => XS.aloadN X0.here hx rfl (hb hby dh20_0) rfl rfl kq_) ?_
    show Go p e below s _ _ _ (s₁.setTop (mkF m 1 #[.val (.ref a), .val (.int (2 : Int32)), .val (.int (0 : Int32)), .unset, .unset] [(.ref a)]))
    refine Go.st (fun _ kq_ => XS.iloadN X0.here hx rfl (hb hby dh20_1) rfl kq_) ?_
    show Go p e below s _ _ _ (s₁.setTop (mkF m 2 #[.val (.ref a), .val (.int (2 : Int32)), .val (.int (0 : Int32)), .unset, .unset] [(.int (2 : Int32)), (.ref a)]))
    refine Go.st (fun _ kq_ => own_iaload X0 hx hZ e0 V_a (by decide) (by decide) (v := (.int w2)) rfl (g := (mkF m 2 #[.val (.ref a), .val (.int (2 : Int32)), .val (.int (0 : Int32)), .unset, .unset] [(.int (2 : Int32)), (.ref a)])) rfl rfl (hb hby dh20_2) _ kq_) ?_
    show Go p e below s _ _ _ (s₁.setTop (mkF m 3 #[.val (.ref a), .val (.int (2 : Int32)), .val (.int (0 : Int32)), .unset, .unset] [(.int w2)]))
    refine Go.st (fun _ kq_ => XS.istoreN X0.here hx rfl (hb hby dh20_3) rfl (l' := #[.val (.ref a), .val (.int (2 : Int32)), .val (.int (0 : Int32)), .val (.int w2), .unset]) rfl kq_) ?_
    show Go p e below s _ _ _ (s₁.setTop (mkF m 4 #[.val (.ref a), .val (.int (2 : Int32)), .val (.int (0 : Int32)), .val (.int w2), .unset] []))
    refine Go.st (fun _ kq_ => XS.aloadN X0.here hx rfl (hb hby dh20_4) rfl rfl kq_) ?_
    show Go p e below s _ _ _ (s₁.setTop (mkF m 5 #[.val (.ref a), .val (.int (2 : Int32)), .val (.int (0 : Int32)), .val (.int w2), .unset] [(.ref a)]))
    refine Go.st (fun _ kq_ => XS.iloadN X0.here hx rfl (hb hby dh20_5) rfl kq_) ?_
    show Go p e below s _ _ _ (s₁.setTop (mkF m 6 #[.val (.ref a), .val (.int (2 : Int32)), .val (.int (0 : Int32)), .val (.int w2), .unset] [(.int (0 : Int32)), (.ref a)]))
    refine Go.st (fun _ kq_ => own_iaload X0 hx hZ e0 V_a (by decide) (by decide) (v := (.int w0)) rfl (g := (mkF m 6 #[.val (.ref a), .val (.int (2 : Int32)), .val (.int (0 : Int32)), .val (.int w2), .unset] [(.int (0 : Int32)), (.ref a)])) rfl rfl (hb hby dh20_6) _ kq_) ?_
    show Go p e below s _ _ _ (s₁.setTop (mkF m 7 #[.val (.ref a), .val (.int (2 : Int32)), .val (.int (0 : Int32)), .val (.int w2), .unset] [(.int w0)]))
    refine Go.st (fun _ kq_ => XS.istore X0.here hx rfl (hb hby dh20_7) rfl (l' := #[.val (.ref a), .val (.int (2 : Int32)), .val (.int (0 : Int32)), .val (.int w2), .val (.int w0)]) rfl kq_) ?_
    show Go p e below s _ _ _ (s₁.setTop (mkF m 9 #[.val (.ref a), .val (.int (2 : Int32)), .val (.int (0 : Int32)), .val (.int w2), .val (.int w0)] []))
    refine Go.st (fun _ kq_ => XS.iloadN X0.here hx rfl (hb hby dh20_9) rfl kq_) ?_
    show Go p e below s _ _ _ (s₁.setTop (mkF m 10 #[.val (.ref a), .val (.int (2 : Int32)), .val (.int (0 : Int32)), .val (.int w2), .val (.int w0)] [(.int w2)]))
    refine Go.st (fun _ kq_ => XS.iconst X0.here hx rfl (hb hby dh20_10) kq_) ?_
    show Go p e below s _ _ _ (s₁.setTop (mkF m 11 #[.val (.ref a), .val (.int (2 : Int32)), .val (.int (0 : Int32)), .val (.int w2), .val (.int w0)] [(.int (-1 : Int32)), (.int w2)]))
    by_cases c11_1 : w2 = (-1 : Int32)
    · refine Go.st (fun _ kq_ => XS.icmpYes X0.here hx rfl (pc0 := 11) (pc' := 35) rfl (hb hby dh20_11) rfl (XT.ii_eq_t c11_1) (by decide) (by decide) kq_) ?_
      show Go p e below s _ _ _ (s₁.setTop (mkF m 35 #[.val (.ref a), .val (.int (2 : Int32)), .val (.int (0 : Int32)), .val (.int w2), .val (.int w0)] []))
      refine Go.st (fun _ kq_ => XS.iconst X0.here hx rfl (hb hby dh20_35) kq_) ?_
      show Go p e below s _ _ _ (s₁.setTop (mkF m 36 #[.val (.ref a), .val (.int (2 : Int32)), .val (.int (0 : Int32)), .val (.int w2), .val (.int w0)] [(.int (0 : Int32))]))
      exact Go.ret X0 hlk (some (.int (0 : Int32))) (fun h => by rw [Bd.returns] at h; cases h) (by rw [e0]; exact ⟨own_res (z' := (0 : Int32)) (by unfold fA20; rw [if_pos c11_1]) rfl, N0, rfl⟩) (by decide) (by decide) (fun fs hr => retI X0 hx Bd.returns (hb hby dh20_36) hr)
    · refine Go.st (fun _ kq_ => XS.icmpNo X0.here hx rfl (hb hby dh20_11) rfl (XT.ii_eq_f c11_1) kq_) ?_
      show Go p e below s _ _ _ (s₁.setTop (mkF m 14 #[.val (.ref a), .val (.int (2 : Int32)), .val (.int (0 : Int32)), .val (.int w2), .val (.int w0)] []))
      refine Go.st (fun _ kq_ => XS.iloadN X0.here hx rfl (hb hby dh20_14) rfl kq_) ?_
      show Go p e below s _ _ _ (s₁.setTop (mkF m 15 #[.val (.ref a), .val (.int (2 : Int32)), .val (.int (0 : Int32)), .val (.int w2), .val (.int w0)] [(.int w2)]))
      refine Go.st (fun _ kq_ => XS.iload X0.here hx rfl (hb hby dh20_15) rfl kq_) ?_
      show Go p e below s _ _ _ (s₁.setTop (mkF m 17 #[.val (.ref a), .val (.int (2 : Int32)), .val (.int (0 : Int32)), .val (.int w2), .val (.int w0)] [(.int w0), (.int w2)]))
      by_cases c17_2 : w2 < w0
      · refine Go.st (fun _ kq_ => XS.icmpYes X0.here hx rfl (pc0 := 17) (pc' := 31) rfl (hb hby dh20_17) rfl (XT.ii_lt_t c17_2) (by decide) (by decide) kq_) ?_
        show Go p e below s _ _ _ (s₁.setTop (mkF m 31 #[.val (.ref a), .val (.int (2 : Int32)), .val (.int (0 : Int32)), .val (.int w2), .val (.int w0)] []))
        refine Go.st (fun _ kq_ => XS.iconst X0.here hx rfl (hb hby dh20_31) kq_) ?_
        show Go p e below s _ _ _ (s₁.setTop (mkF m 32 #[.val (.ref a), .val (.int (2 : Int32)), .val (.int (0 : Int32)), .val (.int w2), .val (.int w0)] [(.int (1 : Int32))]))
        refine Go.st (fun _ kq_ => XS.goto X0.here hx rfl (pc0 := 32) (pc' := 36) rfl (hb hby dh20_32) (by decide) (by decide) kq_) ?_
        show Go p e below s _ _ _ (s₁.setTop (mkF m 36 #[.val (.ref a), .val (.int (2 : Int32)), .val (.int (0 : Int32)), .val (.int w2), .val (.int w0)] [(.int (1 : Int32))]))
        exact Go.ret X0 hlk (some (.int (1 : Int32))) (fun h => by rw [Bd.returns] at h; cases h) (by rw [e0]; exact ⟨own_res (z' := (1 : Int32)) (by unfold fA20; rw [if_neg c11_1, if_pos c17_2]) rfl, N0, rfl⟩) (by decide) (by decide) (fun fs hr => retI X0 hx Bd.returns (hb hby dh20_36) hr)
      · refine Go.st (fun _ kq_ => XS.icmpNo X0.here hx rfl (hb hby dh20_17) rfl (XT.ii_lt_f c17_2) kq_) ?_
        show Go p e below s _ _ _ (s₁.setTop (mkF m 20 #[.val (.ref a), .val (.int (2 : Int32)), .val (.int (0 : Int32)), .val (.int w2), .val (.int w0)] []))
        refine Go.st (fun _ kq_ => XS.iloadN X0.here hx rfl (hb hby dh20_20) rfl kq_) ?_
        show Go p e below s _ _ _ (s₁.setTop (mkF m 21 #[.val (.ref a), .val (.int (2 : Int32)), .val (.int (0 : Int32)), .val (.int w2), .val (.int w0)] [(.int w2)]))
        refine Go.st (fun _ kq_ => XS.iload X0.here hx rfl (hb hby dh20_21) rfl kq_) ?_
        show Go p e below s _ _ _ (s₁.setTop (mkF m 23 #[.val (.ref a), .val (.int (2 : Int32)), .val (.int (0 : Int32)), .val (.int w2), .val (.int w0)] [(.int w0), (.int w2)]))
        by_cases c23_3 : w2 = w0
        · refine Go.st (fun _ kq_ => XS.icmpNo X0.here hx rfl (hb hby dh20_23) rfl (XT.ii_ne_f c23_3) kq_) ?_
          show Go p e below s _ _ _ (s₁.setTop (mkF m 26 #[.val (.ref a), .val (.int (2 : Int32)), .val (.int (0 : Int32)), .val (.int w2), .val (.int w0)] []))
          refine Go.st (fun _ kq_ => XS.iloadN X0.here hx rfl (hb hby dh20_26) rfl kq_) ?_
          show Go p e below s _ _ _ (s₁.setTop (mkF m 27 #[.val (.ref a), .val (.int (2 : Int32)), .val (.int (0 : Int32)), .val (.int w2), .val (.int w0)] [(.int (2 : Int32))]))
          refine Go.st (fun _ kq_ => XS.iloadN X0.here hx rfl (hb hby dh20_27) rfl kq_) ?_
          show Go p e below s _ _ _ (s₁.setTop (mkF m 28 #[.val (.ref a), .val (.int (2 : Int32)), .val (.int (0 : Int32)), .val (.int w2), .val (.int w0)] [(.int (0 : Int32)), (.int (2 : Int32))]))
          refine Go.st (fun _ kq_ => XS.icmpYes X0.here hx rfl (pc0 := 28) (pc' := 35) rfl (hb hby dh20_28) rfl (by decide) (by decide) (by decide) kq_) ?_
          show Go p e below s _ _ _ (s₁.setTop (mkF m 35 #[.val (.ref a), .val (.int (2 : Int32)), .val (.int (0 : Int32)), .val (.int w2), .val (.int w0)] []))
          refine Go.st (fun _ kq_ => XS.iconst X0.here hx rfl (hb hby dh20_35) kq_) ?_
          show Go p e below s _ _ _ (s₁.setTop (mkF m 36 #[.val (.ref a), .val (.int (2 : Int32)), .val (.int (0 : Int32)), .val (.int w2), .val (.int w0)] [(.int (0 : Int32))]))
          exact Go.ret X0 hlk (some (.int (0 : Int32))) (fun h => by rw [Bd.returns] at h; cases h) (by rw [e0]; exact ⟨own_res (z' := (0 : Int32)) (by unfold fA20; rw [if_neg c11_1, if_neg c17_2, if_pos c23_3]) rfl, N0, rfl⟩) (by decide) (by decide) (fun fs hr => retI X0 hx Bd.returns (hb hby dh20_36) hr)
        · refine Go.st (fun _ kq_ => XS.icmpYes X0.here hx rfl (pc0 := 23) (pc' := 35) rfl (hb hby dh20_23) rfl (XT.ii_ne_t c23_3) (by decide) (by decide) kq_) ?_
          show Go p e below s _ _ _ (s₁.setTop (mkF m 35 #[.val (.ref a), .val (.int (2 : Int32)), .val (.int (0 : Int32)), .val (.int w2), .val (.int w0)] []))
          refine Go.st (fun _ kq_ => XS.iconst X0.here hx rfl (hb hby dh20_35) kq_) ?_
          show Go p e below s _ _ _ (s₁.setTop (mkF m 36 #[.val (.ref a), .val (.int (2 : Int32)), .val (.int (0 : Int32)), .val (.int w2), .val (.int w0)] [(.int (0 : Int32))]))
          exact Go.ret X0 hlk (some (.int (0 : Int32))) (fun h => by rw [Bd.returns] at h; cases h) (by rw [e0]; exact ⟨own_res (z' := (0 : Int32)) (by unfold fA20; rw [if_neg c11_1, if_neg c17_2, if_neg c23_3]) rfl, N0, rfl⟩) (by decide) (by decide) (fun fs hr => retI X0 hx Bd.returns (hb hby dh20_36) hr)
  obtain ⟨s2, o2, st2, r2⟩ := G
  exact ⟨s2, o2, castTop (efh20 m a (2 : Int32) (0 : Int32)) st2, r2⟩
theorem dh21_0 : decode method_6_code 0 = .ok (.aload_n 0, 1) := by decide +kernel
theorem dh21_1 : decode method_6_code 1 = .ok (.iload_n 1, 1) := by decide +kernel
theorem dh21_2 : decode method_6_code 2 = .ok (.iaload, 1) := by decide +kernel
theorem dh21_3 : decode method_6_code 3 = .ok (.istore_n 3, 1) := by decide +kernel
theorem dh21_4 : decode method_6_code 4 = .ok (.aload_n 0, 1) := by decide +kernel
theorem dh21_5 : decode method_6_code 5 = .ok (.iload_n 2, 1) := by decide +kernel
theorem dh21_6 : decode method_6_code 6 = .ok (.iaload, 1) := by decide +kernel
theorem dh21_7 : decode method_6_code 7 = .ok (.istore 4, 2) := by decide +kernel
theorem dh21_9 : decode method_6_code 9 = .ok (.iload_n 3, 1) := by decide +kernel
theorem dh21_10 : decode method_6_code 10 = .ok (.iconst (-1), 1) := by decide +kernel
theorem dh21_11 : decode method_6_code 11 = .ok (.if_icmp .eq 24, 3) := by decide +kernel
theorem dh21_14 : decode method_6_code 14 = .ok (.iload_n 3, 1) := by decide +kernel
theorem dh21_15 : decode method_6_code 15 = .ok (.iload 4, 2) := by decide +kernel
theorem dh21_17 : decode method_6_code 17 = .ok (.if_icmp .lt 14, 3) := by decide +kernel
theorem dh21_20 : decode method_6_code 20 = .ok (.iload_n 3, 1) := by decide +kernel
theorem dh21_21 : decode method_6_code 21 = .ok (.iload 4, 2) := by decide +kernel
theorem dh21_23 : decode method_6_code 23 = .ok (.if_icmp .ne 12, 3) := by decide +kernel
theorem dh21_26 : decode method_6_code 26 = .ok (.iload_n 1, 1) := by decide +kernel
theorem dh21_27 : decode method_6_code 27 = .ok (.iload_n 2, 1) := by decide +kernel
theorem dh21_28 : decode method_6_code 28 = .ok (.if_icmp .ge 7, 3) := by decide +kernel
theorem dh21_31 : decode method_6_code 31 = .ok (.iconst 1, 1) := by decide +kernel
theorem dh21_32 : decode method_6_code 32 = .ok (.goto 4, 3) := by decide +kernel
theorem dh21_35 : decode method_6_code 35 = .ok (.iconst 0, 1) := by decide +kernel
theorem dh21_36 : decode method_6_code 36 = .ok (.ireturn, 1) := by decide +kernel
theorem pnh21 : plainName "com/example/rootward/rootward/model/InstanceGroupPinLaw" = true := by first | (simp [plainName, overriddenIn]; done) | decide +kernel
theorem efh21 (m : MethodId) (x0 : Addr) (x1 : Int32) (x2 : Int32) : entryFrame m #[(.ref x0), (.int x1), (.int x2)] 5 = mkF m 0 #[.val (.ref x0), .val (.int x1), .val (.int x2), .unset, .unset] [] := by first | (simp [entryFrame, mkF, argsToLocals, Value.category, maxLocals]; done) | rfl
def fA21 (w0 : Int32) (w1 : Int32) (w2 : Int32) (w3 : Int32) : Int32 := (if w2 = (-1 : Int32) then (0 : Int32) else (if w2 < w1 then (1 : Int32) else (if w2 = w1 then (0 : Int32) else (0 : Int32))))
def Qh21 (Z : State) (a : Addr) (ka : ClassId) (w0 : Int32) (w1 : Int32) (w2 : Int32) (w3 : Int32) (h0 : Heap) (n0 : Nat) (v : Option Value) (h : Heap) (L : List Loc) : Prop := v = some (.int (fA21 w0 w1 w2 w3)) ∧ Fr n0 L ∧ h = h0
set_option maxRecDepth 65536 in
set_option maxHeartbeats 40000000 in
theorem rmh21 (l : Launch) (Z : State) (a0 : Array Value) (hw : ∀ d ∈ tables_1, d.before a0 Z = true) (ws : List Jvm.Cond) (a : Addr) (ka : ClassId) (w0 : Int32) (w1 : Int32) (w2 : Int32) (w3 : Int32) (h0 : Heap) (n0 : Nat) (O0 : Old Z n0 h0) (V_a : Arv Z h0 a ka .int (4 : Int32) [(.int w0), (.int w1), (.int w2), (.int w3)] (.int (0 : Int32))) :
    MetFree l (⟨"com/example/rootward/rootward/model/InstanceGroupPinLaw", "ahead", "([III)I"⟩ : MethodName) (head1 (Jvm.Cond.code (⟨"com/example/rootward/rootward/model/InstanceGroupPinLaw", "ahead", "([III)I"⟩ : MethodName) method_6_code 5 (some .int) :: ws) ({ frames := 0, cells := 0, slots := 0, locals := 0 } : Room)) (fun A_ U_ => A_ = #[(.ref a), (.int (2 : Int32)), (.int (1 : Int32))] ∧ Z.Warmed39 U_.vm ∧ U_.heap = h0) (fun _ _ _ _ _ => True) (fun _ U o U' => ∃ v L, o = .returned v ∧ Qh21 Z a ka w0 w1 w2 w3 h0 n0 v U'.heap L ∧ FrameEnd U o U' L ({ frames := 0, cells := 0, slots := 0, locals := 0 } : Room).cells ({ frames := 0, cells := 0, slots := 0, locals := 0 } : Room).slots) := by
  refine MetFree.of_bodySF (plainFor_of_name pnh21) hisR ?_
  intro p e s m args below meth cd s₁ Bd hml0 hP hK
  obtain ⟨rfl, hZ, hh⟩ := hP
  have hx := Bd.exec
  have hby := Bd.bytes
  have hlk : meth.locks = false := BodyLoose.notSynchronized Bd
  have hml : cd.maxLocals = 5 := hml0
  have hown : s.vm.findClass "com/example/rootward/rootward/model/InstanceGroupPinLaw" = some m.cls := findClass_of_methodNamed Bd.named
  have hnm := (name_of_methodNamed Bd.named Bd.method).1
  have X0 : Stand p l e ({ frames := 0, cells := 0, slots := 0, locals := 0 } : Room) s m #[(.ref a), (.int (2 : Int32)), (.int (1 : Int32))] below meth cd s₁ [] 0 0 := Stand.of_body Bd
  have e0 : s₁.heap = h0 := by rw [← hh, Bd.state]; rfl
  have N0 := Fr.nil n0
  have G : Go p e below s 0 0 (Qh21 Z a ka w0 w1 w2 w3 h0 n0) (s₁.setTop (mkF m 0 #[.val (.ref a), .val (.int (2 : Int32)), .val (.int (1 : Int32)), .unset, .unset] [])) := by
    show Go p e below s _ _ _ (s₁.setTop (mkF m 0 #[.val (.ref a), .val (.int (2 : Int32)), .val (.int (1 : Int32)), .unset, .unset] []))
    refine Go.st (fun _ kq_ => XS.aloadN X0.here hx rfl (hb hby dh21_0) rfl rfl kq_) ?_
    show Go p e below s _ _ _ (s₁.setTop (mkF m 1 #[.val (.ref a), .val (.int (2 : Int32)), .val (.int (1 : Int32)), .unset, .unset] [(.ref a)]))
    refine Go.st (fun _ kq_ => XS.iloadN X0.here hx rfl (hb hby dh21_1) rfl kq_) ?_
    show Go p e below s _ _ _ (s₁.setTop (mkF m 2 #[.val (.ref a), .val (.int (2 : Int32)), .val (.int (1 : Int32)), .unset, .unset] [(.int (2 : Int32)), (.ref a)]))
    refine Go.st (fun _ kq_ => own_iaload X0 hx hZ e0 V_a (by decide) (by decide) (v := (.int w2)) rfl (g := (mkF m 2 #[.val (.ref a), .val (.int (2 : Int32)), .val (.int (1 : Int32)), .unset, .unset] [(.int (2 : Int32)), (.ref a)])) rfl rfl (hb hby dh21_2) _ kq_) ?_
    show Go p e below s _ _ _ (s₁.setTop (mkF m 3 #[.val (.ref a), .val (.int (2 : Int32)), .val (.int (1 : Int32)), .unset, .unset] [(.int w2)]))
    refine Go.st (fun _ kq_ => XS.istoreN X0.here hx rfl (hb hby dh21_3) rfl (l' := #[.val (.ref a), .val (.int (2 : Int32)), .val (.int (1 : Int32)), .val (.int w2), .unset]) rfl kq_) ?_
    show Go p e below s _ _ _ (s₁.setTop (mkF m 4 #[.val (.ref a), .val (.int (2 : Int32)), .val (.int (1 : Int32)), .val (.int w2), .unset] []))
    refine Go.st (fun _ kq_ => XS.aloadN X0.here hx rfl (hb hby dh21_4) rfl rfl kq_) ?_
    show Go p e below s _ _ _ (s₁.setTop (mkF m 5 #[.val (.ref a), .val (.int (2 : Int32)), .val (.int (1 : Int32)), .val (.int w2), .unset] [(.ref a)]))
    refine Go.st (fun _ kq_ => XS.iloadN X0.here hx rfl (hb hby dh21_5) rfl kq_) ?_
    show Go p e below s _ _ _ (s₁.setTop (mkF m 6 #[.val (.ref a), .val (.int (2 : Int32)), .val (.int (1 : Int32)), .val (.int w2), .unset] [(.int (1 : Int32)), (.ref a)]))
    refine Go.st (fun _ kq_ => own_iaload X0 hx hZ e0 V_a (by decide) (by decide) (v := (.int w1)) rfl (g := (mkF m 6 #[.val (.ref a), .val (.int (2 : Int32)), .val (.int (1 : Int32)), .val (.int w2), .unset] [(.int (1 : Int32)), (.ref a)])) rfl rfl (hb hby dh21_6) _ kq_) ?_
    show Go p e below s _ _ _ (s₁.setTop (mkF m 7 #[.val (.ref a), .val (.int (2 : Int32)), .val (.int (1 : Int32)), .val (.int w2), .unset] [(.int w1)]))
    refine Go.st (fun _ kq_ => XS.istore X0.here hx rfl (hb hby dh21_7) rfl (l' := #[.val (.ref a), .val (.int (2 : Int32)), .val (.int (1 : Int32)), .val (.int w2), .val (.int w1)]) rfl kq_) ?_
    show Go p e below s _ _ _ (s₁.setTop (mkF m 9 #[.val (.ref a), .val (.int (2 : Int32)), .val (.int (1 : Int32)), .val (.int w2), .val (.int w1)] []))
    refine Go.st (fun _ kq_ => XS.iloadN X0.here hx rfl (hb hby dh21_9) rfl kq_) ?_
    show Go p e below s _ _ _ (s₁.setTop (mkF m 10 #[.val (.ref a), .val (.int (2 : Int32)), .val (.int (1 : Int32)), .val (.int w2), .val (.int w1)] [(.int w2)]))
    refine Go.st (fun _ kq_ => XS.iconst X0.here hx rfl (hb hby dh21_10) kq_) ?_
    show Go p e below s _ _ _ (s₁.setTop (mkF m 11 #[.val (.ref a), .val (.int (2 : Int32)), .val (.int (1 : Int32)), .val (.int w2), .val (.int w1)] [(.int (-1 : Int32)), (.int w2)]))
    by_cases c11_1 : w2 = (-1 : Int32)
    · refine Go.st (fun _ kq_ => XS.icmpYes X0.here hx rfl (pc0 := 11) (pc' := 35) rfl (hb hby dh21_11) rfl (XT.ii_eq_t c11_1) (by decide) (by decide) kq_) ?_
      show Go p e below s _ _ _ (s₁.setTop (mkF m 35 #[.val (.ref a), .val (.int (2 : Int32)), .val (.int (1 : Int32)), .val (.int w2), .val (.int w1)] []))
      refine Go.st (fun _ kq_ => XS.iconst X0.here hx rfl (hb hby dh21_35) kq_) ?_
      show Go p e below s _ _ _ (s₁.setTop (mkF m 36 #[.val (.ref a), .val (.int (2 : Int32)), .val (.int (1 : Int32)), .val (.int w2), .val (.int w1)] [(.int (0 : Int32))]))
      exact Go.ret X0 hlk (some (.int (0 : Int32))) (fun h => by rw [Bd.returns] at h; cases h) (by rw [e0]; exact ⟨own_res (z' := (0 : Int32)) (by unfold fA21; rw [if_pos c11_1]) rfl, N0, rfl⟩) (by decide) (by decide) (fun fs hr => retI X0 hx Bd.returns (hb hby dh21_36) hr)
    · refine Go.st (fun _ kq_ => XS.icmpNo X0.here hx rfl (hb hby dh21_11) rfl (XT.ii_eq_f c11_1) kq_) ?_
      show Go p e below s _ _ _ (s₁.setTop (mkF m 14 #[.val (.ref a), .val (.int (2 : Int32)), .val (.int (1 : Int32)), .val (.int w2), .val (.int w1)] []))
      refine Go.st (fun _ kq_ => XS.iloadN X0.here hx rfl (hb hby dh21_14) rfl kq_) ?_
      show Go p e below s _ _ _ (s₁.setTop (mkF m 15 #[.val (.ref a), .val (.int (2 : Int32)), .val (.int (1 : Int32)), .val (.int w2), .val (.int w1)] [(.int w2)]))
      refine Go.st (fun _ kq_ => XS.iload X0.here hx rfl (hb hby dh21_15) rfl kq_) ?_
      show Go p e below s _ _ _ (s₁.setTop (mkF m 17 #[.val (.ref a), .val (.int (2 : Int32)), .val (.int (1 : Int32)), .val (.int w2), .val (.int w1)] [(.int w1), (.int w2)]))
      by_cases c17_2 : w2 < w1
      · refine Go.st (fun _ kq_ => XS.icmpYes X0.here hx rfl (pc0 := 17) (pc' := 31) rfl (hb hby dh21_17) rfl (XT.ii_lt_t c17_2) (by decide) (by decide) kq_) ?_
        show Go p e below s _ _ _ (s₁.setTop (mkF m 31 #[.val (.ref a), .val (.int (2 : Int32)), .val (.int (1 : Int32)), .val (.int w2), .val (.int w1)] []))
        refine Go.st (fun _ kq_ => XS.iconst X0.here hx rfl (hb hby dh21_31) kq_) ?_
        show Go p e below s _ _ _ (s₁.setTop (mkF m 32 #[.val (.ref a), .val (.int (2 : Int32)), .val (.int (1 : Int32)), .val (.int w2), .val (.int w1)] [(.int (1 : Int32))]))
        refine Go.st (fun _ kq_ => XS.goto X0.here hx rfl (pc0 := 32) (pc' := 36) rfl (hb hby dh21_32) (by decide) (by decide) kq_) ?_
        show Go p e below s _ _ _ (s₁.setTop (mkF m 36 #[.val (.ref a), .val (.int (2 : Int32)), .val (.int (1 : Int32)), .val (.int w2), .val (.int w1)] [(.int (1 : Int32))]))
        exact Go.ret X0 hlk (some (.int (1 : Int32))) (fun h => by rw [Bd.returns] at h; cases h) (by rw [e0]; exact ⟨own_res (z' := (1 : Int32)) (by unfold fA21; rw [if_neg c11_1, if_pos c17_2]) rfl, N0, rfl⟩) (by decide) (by decide) (fun fs hr => retI X0 hx Bd.returns (hb hby dh21_36) hr)
      · refine Go.st (fun _ kq_ => XS.icmpNo X0.here hx rfl (hb hby dh21_17) rfl (XT.ii_lt_f c17_2) kq_) ?_
        show Go p e below s _ _ _ (s₁.setTop (mkF m 20 #[.val (.ref a), .val (.int (2 : Int32)), .val (.int (1 : Int32)), .val (.int w2), .val (.int w1)] []))
        refine Go.st (fun _ kq_ => XS.iloadN X0.here hx rfl (hb hby dh21_20) rfl kq_) ?_
        show Go p e below s _ _ _ (s₁.setTop (mkF m 21 #[.val (.ref a), .val (.int (2 : Int32)), .val (.int (1 : Int32)), .val (.int w2), .val (.int w1)] [(.int w2)]))
        refine Go.st (fun _ kq_ => XS.iload X0.here hx rfl (hb hby dh21_21) rfl kq_) ?_
        show Go p e below s _ _ _ (s₁.setTop (mkF m 23 #[.val (.ref a), .val (.int (2 : Int32)), .val (.int (1 : Int32)), .val (.int w2), .val (.int w1)] [(.int w1), (.int w2)]))
        by_cases c23_3 : w2 = w1
        · refine Go.st (fun _ kq_ => XS.icmpNo X0.here hx rfl (hb hby dh21_23) rfl (XT.ii_ne_f c23_3) kq_) ?_
          show Go p e below s _ _ _ (s₁.setTop (mkF m 26 #[.val (.ref a), .val (.int (2 : Int32)), .val (.int (1 : Int32)), .val (.int w2), .val (.int w1)] []))
          refine Go.st (fun _ kq_ => XS.iloadN X0.here hx rfl (hb hby dh21_26) rfl kq_) ?_
          show Go p e below s _ _ _ (s₁.setTop (mkF m 27 #[.val (.ref a), .val (.int (2 : Int32)), .val (.int (1 : Int32)), .val (.int w2), .val (.int w1)] [(.int (2 : Int32))]))
          refine Go.st (fun _ kq_ => XS.iloadN X0.here hx rfl (hb hby dh21_27) rfl kq_) ?_
          show Go p e below s _ _ _ (s₁.setTop (mkF m 28 #[.val (.ref a), .val (.int (2 : Int32)), .val (.int (1 : Int32)), .val (.int w2), .val (.int w1)] [(.int (1 : Int32)), (.int (2 : Int32))]))
          refine Go.st (fun _ kq_ => XS.icmpYes X0.here hx rfl (pc0 := 28) (pc' := 35) rfl (hb hby dh21_28) rfl (by decide) (by decide) (by decide) kq_) ?_
          show Go p e below s _ _ _ (s₁.setTop (mkF m 35 #[.val (.ref a), .val (.int (2 : Int32)), .val (.int (1 : Int32)), .val (.int w2), .val (.int w1)] []))
          refine Go.st (fun _ kq_ => XS.iconst X0.here hx rfl (hb hby dh21_35) kq_) ?_
          show Go p e below s _ _ _ (s₁.setTop (mkF m 36 #[.val (.ref a), .val (.int (2 : Int32)), .val (.int (1 : Int32)), .val (.int w2), .val (.int w1)] [(.int (0 : Int32))]))
          exact Go.ret X0 hlk (some (.int (0 : Int32))) (fun h => by rw [Bd.returns] at h; cases h) (by rw [e0]; exact ⟨own_res (z' := (0 : Int32)) (by unfold fA21; rw [if_neg c11_1, if_neg c17_2, if_pos c23_3]) rfl, N0, rfl⟩) (by decide) (by decide) (fun fs hr => retI X0 hx Bd.returns (hb hby dh21_36) hr)
        · refine Go.st (fun _ kq_ => XS.icmpYes X0.here hx rfl (pc0 := 23) (pc' := 35) rfl (hb hby dh21_23) rfl (XT.ii_ne_t c23_3) (by decide) (by decide) kq_) ?_
          show Go p e below s _ _ _ (s₁.setTop (mkF m 35 #[.val (.ref a), .val (.int (2 : Int32)), .val (.int (1 : Int32)), .val (.int w2), .val (.int w1)] []))
          refine Go.st (fun _ kq_ => XS.iconst X0.here hx rfl (hb hby dh21_35) kq_) ?_
          show Go p e below s _ _ _ (s₁.setTop (mkF m 36 #[.val (.ref a), .val (.int (2 : Int32)), .val (.int (1 : Int32)), .val (.int w2), .val (.int w1)] [(.int (0 : Int32))]))
          exact Go.ret X0 hlk (some (.int (0 : Int32))) (fun h => by rw [Bd.returns] at h; cases h) (by rw [e0]; exact ⟨own_res (z' := (0 : Int32)) (by unfold fA21; rw [if_neg c11_1, if_neg c17_2, if_neg c23_3]) rfl, N0, rfl⟩) (by decide) (by decide) (fun fs hr => retI X0 hx Bd.returns (hb hby dh21_36) hr)
  obtain ⟨s2, o2, st2, r2⟩ := G
  exact ⟨s2, o2, castTop (efh21 m a (2 : Int32) (1 : Int32)) st2, r2⟩
theorem dh22_0 : decode method_6_code 0 = .ok (.aload_n 0, 1) := by decide +kernel
theorem dh22_1 : decode method_6_code 1 = .ok (.iload_n 1, 1) := by decide +kernel
theorem dh22_2 : decode method_6_code 2 = .ok (.iaload, 1) := by decide +kernel
theorem dh22_3 : decode method_6_code 3 = .ok (.istore_n 3, 1) := by decide +kernel
theorem dh22_4 : decode method_6_code 4 = .ok (.aload_n 0, 1) := by decide +kernel
theorem dh22_5 : decode method_6_code 5 = .ok (.iload_n 2, 1) := by decide +kernel
theorem dh22_6 : decode method_6_code 6 = .ok (.iaload, 1) := by decide +kernel
theorem dh22_7 : decode method_6_code 7 = .ok (.istore 4, 2) := by decide +kernel
theorem dh22_9 : decode method_6_code 9 = .ok (.iload_n 3, 1) := by decide +kernel
theorem dh22_10 : decode method_6_code 10 = .ok (.iconst (-1), 1) := by decide +kernel
theorem dh22_11 : decode method_6_code 11 = .ok (.if_icmp .eq 24, 3) := by decide +kernel
theorem dh22_14 : decode method_6_code 14 = .ok (.iload_n 3, 1) := by decide +kernel
theorem dh22_15 : decode method_6_code 15 = .ok (.iload 4, 2) := by decide +kernel
theorem dh22_17 : decode method_6_code 17 = .ok (.if_icmp .lt 14, 3) := by decide +kernel
theorem dh22_20 : decode method_6_code 20 = .ok (.iload_n 3, 1) := by decide +kernel
theorem dh22_21 : decode method_6_code 21 = .ok (.iload 4, 2) := by decide +kernel
theorem dh22_23 : decode method_6_code 23 = .ok (.if_icmp .ne 12, 3) := by decide +kernel
theorem dh22_26 : decode method_6_code 26 = .ok (.iload_n 1, 1) := by decide +kernel
theorem dh22_27 : decode method_6_code 27 = .ok (.iload_n 2, 1) := by decide +kernel
theorem dh22_28 : decode method_6_code 28 = .ok (.if_icmp .ge 7, 3) := by decide +kernel
theorem dh22_31 : decode method_6_code 31 = .ok (.iconst 1, 1) := by decide +kernel
theorem dh22_32 : decode method_6_code 32 = .ok (.goto 4, 3) := by decide +kernel
theorem dh22_35 : decode method_6_code 35 = .ok (.iconst 0, 1) := by decide +kernel
theorem dh22_36 : decode method_6_code 36 = .ok (.ireturn, 1) := by decide +kernel
theorem pnh22 : plainName "com/example/rootward/rootward/model/InstanceGroupPinLaw" = true := by first | (simp [plainName, overriddenIn]; done) | decide +kernel
theorem efh22 (m : MethodId) (x0 : Addr) (x1 : Int32) (x2 : Int32) : entryFrame m #[(.ref x0), (.int x1), (.int x2)] 5 = mkF m 0 #[.val (.ref x0), .val (.int x1), .val (.int x2), .unset, .unset] [] := by first | (simp [entryFrame, mkF, argsToLocals, Value.category, maxLocals]; done) | rfl
def fA22 (w0 : Int32) (w1 : Int32) (w2 : Int32) (w3 : Int32) : Int32 := (if w2 = (-1 : Int32) then (0 : Int32) else (if w2 < w2 then (1 : Int32) else (if w2 = w2 then (0 : Int32) else (0 : Int32))))
def Qh22 (Z : State) (a : Addr) (ka : ClassId) (w0 : Int32) (w1 : Int32) (w2 : Int32) (w3 : Int32) (h0 : Heap) (n0 : Nat) (v : Option Value) (h : Heap) (L : List Loc) : Prop := v = some (.int (fA22 w0 w1 w2 w3)) ∧ Fr n0 L ∧ h = h0
set_option maxRecDepth 65536 in
set_option maxHeartbeats 40000000 in
theorem rmh22 (l : Launch) (Z : State) (a0 : Array Value) (hw : ∀ d ∈ tables_1, d.before a0 Z = true) (ws : List Jvm.Cond) (a : Addr) (ka : ClassId) (w0 : Int32) (w1 : Int32) (w2 : Int32) (w3 : Int32) (h0 : Heap) (n0 : Nat) (O0 : Old Z n0 h0) (V_a : Arv Z h0 a ka .int (4 : Int32) [(.int w0), (.int w1), (.int w2), (.int w3)] (.int (0 : Int32))) :
    MetFree l (⟨"com/example/rootward/rootward/model/InstanceGroupPinLaw", "ahead", "([III)I"⟩ : MethodName) (head1 (Jvm.Cond.code (⟨"com/example/rootward/rootward/model/InstanceGroupPinLaw", "ahead", "([III)I"⟩ : MethodName) method_6_code 5 (some .int) :: ws) ({ frames := 0, cells := 0, slots := 0, locals := 0 } : Room)) (fun A_ U_ => A_ = #[(.ref a), (.int (2 : Int32)), (.int (2 : Int32))] ∧ Z.Warmed39 U_.vm ∧ U_.heap = h0) (fun _ _ _ _ _ => True) (fun _ U o U' => ∃ v L, o = .returned v ∧ Qh22 Z a ka w0 w1 w2 w3 h0 n0 v U'.heap L ∧ FrameEnd U o U' L ({ frames := 0, cells := 0, slots := 0, locals := 0 } : Room).cells ({ frames := 0, cells := 0, slots := 0, locals := 0 } : Room).slots) := by
  refine MetFree.of_bodySF (plainFor_of_name pnh22) hisR ?_
  intro p e s m args below meth cd s₁ Bd hml0 hP hK
  obtain ⟨rfl, hZ, hh⟩ := hP
  have hx := Bd.exec
  have hby := Bd.bytes
  have hlk : meth.locks = false := BodyLoose.notSynchronized Bd
  have hml : cd.maxLocals = 5 := hml0
  have hown : s.vm.findClass "com/example/rootward/rootward/model/InstanceGroupPinLaw" = some m.cls := findClass_of_methodNamed Bd.named
  have hnm := (name_of_methodNamed Bd.named Bd.method).1
  have X0 : Stand p l e ({ frames := 0, cells := 0, slots := 0, locals := 0 } : Room) s m #[(.ref a), (.int (2 : Int32)), (.int (2 : Int32))] below meth cd s₁ [] 0 0 := Stand.of_body Bd
  have e0 : s₁.heap = h0 := by rw [← hh, Bd.state]; rfl
  have N0 := Fr.nil n0
  have G : Go p e below s 0 0 (Qh22 Z a ka w0 w1 w2 w3 h0 n0) (s₁.setTop (mkF m 0 #[.val (.ref a), .val (.int (2 : Int32)), .val (.int (2 : Int32)), .unset, .unset] [])) := by
    show Go p e below s _ _ _ (s₁.setTop (mkF m 0 #[.val (.ref a), .val (.int (2 : Int32)), .val (.int (2 : Int32)), .unset, .unset] []))
    refine Go.st (fun _ kq_ => XS.aloadN X0.here hx rfl (hb hby dh22_0) rfl rfl kq_) ?_
    show Go p e below s _ _ _ (s₁.setTop (mkF m 1 #[.val (.ref a), .val (.int (2 : Int32)), .val (.int (2 : Int32)), .unset, .unset] [(.ref a)]))
    refine Go.st (fun _ kq_ => XS.iloadN X0.here hx rfl (hb hby dh22_1) rfl kq_) ?_
    show Go p e below s _ _ _ (s₁.setTop (mkF m 2 #[.val (.ref a), .val (.int (2 : Int32)), .val (.int (2 : Int32)), .unset, .unset] [(.int (2 : Int32)), (.ref a)]))
    refine Go.st (fun _ kq_ => own_iaload X0 hx hZ e0 V_a (by decide) (by decide) (v := (.int w2)) rfl (g := (mkF m 2 #[.val (.ref a), .val (.int (2 : Int32)), .val (.int (2 : Int32)), .unset, .unset] [(.int (2 : Int32)), (.ref a)])) rfl rfl (hb hby dh22_2) _ kq_) ?_
    show Go p e below s _ _ _ (s₁.setTop (mkF m 3 #[.val (.ref a), .val (.int (2 : Int32)), .val (.int (2 : Int32)), .unset, .unset] [(.int w2)]))
    refine Go.st (fun _ kq_ => XS.istoreN X0.here hx rfl (hb hby dh22_3) rfl (l' := #[.val (.ref a), .val (.int (2 : Int32)), .val (.int (2 : Int32)), .val (.int w2), .unset]) rfl kq_) ?_
    show Go p e below s _ _ _ (s₁.setTop (mkF m 4 #[.val (.ref a), .val (.int (2 : Int32)), .val (.int (2 : Int32)), .val (.int w2), .unset] []))
    refine Go.st (fun _ kq_ => XS.aloadN X0.here hx rfl (hb hby dh22_4) rfl rfl kq_) ?_
    show Go p e below s _ _ _ (s₁.setTop (mkF m 5 #[.val (.ref a), .val (.int (2 : Int32)), .val (.int (2 : Int32)), .val (.int w2), .unset] [(.ref a)]))
    refine Go.st (fun _ kq_ => XS.iloadN X0.here hx rfl (hb hby dh22_5) rfl kq_) ?_
    show Go p e below s _ _ _ (s₁.setTop (mkF m 6 #[.val (.ref a), .val (.int (2 : Int32)), .val (.int (2 : Int32)), .val (.int w2), .unset] [(.int (2 : Int32)), (.ref a)]))
    refine Go.st (fun _ kq_ => own_iaload X0 hx hZ e0 V_a (by decide) (by decide) (v := (.int w2)) rfl (g := (mkF m 6 #[.val (.ref a), .val (.int (2 : Int32)), .val (.int (2 : Int32)), .val (.int w2), .unset] [(.int (2 : Int32)), (.ref a)])) rfl rfl (hb hby dh22_6) _ kq_) ?_
    show Go p e below s _ _ _ (s₁.setTop (mkF m 7 #[.val (.ref a), .val (.int (2 : Int32)), .val (.int (2 : Int32)), .val (.int w2), .unset] [(.int w2)]))
    refine Go.st (fun _ kq_ => XS.istore X0.here hx rfl (hb hby dh22_7) rfl (l' := #[.val (.ref a), .val (.int (2 : Int32)), .val (.int (2 : Int32)), .val (.int w2), .val (.int w2)]) rfl kq_) ?_
    show Go p e below s _ _ _ (s₁.setTop (mkF m 9 #[.val (.ref a), .val (.int (2 : Int32)), .val (.int (2 : Int32)), .val (.int w2), .val (.int w2)] []))
    refine Go.st (fun _ kq_ => XS.iloadN X0.here hx rfl (hb hby dh22_9) rfl kq_) ?_
    show Go p e below s _ _ _ (s₁.setTop (mkF m 10 #[.val (.ref a), .val (.int (2 : Int32)), .val (.int (2 : Int32)), .val (.int w2), .val (.int w2)] [(.int w2)]))
    refine Go.st (fun _ kq_ => XS.iconst X0.here hx rfl (hb hby dh22_10) kq_) ?_
    show Go p e below s _ _ _ (s₁.setTop (mkF m 11 #[.val (.ref a), .val (.int (2 : Int32)), .val (.int (2 : Int32)), .val (.int w2), .val (.int w2)] [(.int (-1 : Int32)), (.int w2)]))
    by_cases c11_1 : w2 = (-1 : Int32)
    · refine Go.st (fun _ kq_ => XS.icmpYes X0.here hx rfl (pc0 := 11) (pc' := 35) rfl (hb hby dh22_11) rfl (XT.ii_eq_t c11_1) (by decide) (by decide) kq_) ?_
      show Go p e below s _ _ _ (s₁.setTop (mkF m 35 #[.val (.ref a), .val (.int (2 : Int32)), .val (.int (2 : Int32)), .val (.int w2), .val (.int w2)] []))
      refine Go.st (fun _ kq_ => XS.iconst X0.here hx rfl (hb hby dh22_35) kq_) ?_
      show Go p e below s _ _ _ (s₁.setTop (mkF m 36 #[.val (.ref a), .val (.int (2 : Int32)), .val (.int (2 : Int32)), .val (.int w2), .val (.int w2)] [(.int (0 : Int32))]))
      exact Go.ret X0 hlk (some (.int (0 : Int32))) (fun h => by rw [Bd.returns] at h; cases h) (by rw [e0]; exact ⟨own_res (z' := (0 : Int32)) (by unfold fA22; rw [if_pos c11_1]) rfl, N0, rfl⟩) (by decide) (by decide) (fun fs hr => retI X0 hx Bd.returns (hb hby dh22_36) hr)
    · refine Go.st (fun _ kq_ => XS.icmpNo X0.here hx rfl (hb hby dh22_11) rfl (XT.ii_eq_f c11_1) kq_) ?_
      show Go p e below s _ _ _ (s₁.setTop (mkF m 14 #[.val (.ref a), .val (.int (2 : Int32)), .val (.int (2 : Int32)), .val (.int w2), .val (.int w2)] []))
      refine Go.st (fun _ kq_ => XS.iloadN X0.here hx rfl (hb hby dh22_14) rfl kq_) ?_
      show Go p e below s _ _ _ (s₁.setTop (mkF m 15 #[.val (.ref a), .val (.int (2 : Int32)), .val (.int (2 : Int32)), .val (.int w2), .val (.int w2)] [(.int w2)]))
      refine Go.st (fun _ kq_ => XS.iload X0.here hx rfl (hb hby dh22_15) rfl kq_) ?_
      show Go p e below s _ _ _ (s₁.setTop (mkF m 17 #[.val (.ref a), .val (.int (2 : Int32)), .val (.int (2 : Int32)), .val (.int w2), .val (.int w2)] [(.int w2), (.int w2)]))
      by_cases c17_2 : w2 < w2
      · refine Go.st (fun _ kq_ => XS.icmpYes X0.here hx rfl (pc0 := 17) (pc' := 31) rfl (hb hby dh22_17) rfl (XT.ii_lt_t c17_2) (by decide) (by decide) kq_) ?_
        show Go p e below s _ _ _ (s₁.setTop (mkF m 31 #[.val (.ref a), .val (.int (2 : Int32)), .val (.int (2 : Int32)), .val (.int w2), .val (.int w2)] []))
        refine Go.st (fun _ kq_ => XS.iconst X0.here hx rfl (hb hby dh22_31) kq_) ?_
        show Go p e below s _ _ _ (s₁.setTop (mkF m 32 #[.val (.ref a), .val (.int (2 : Int32)), .val (.int (2 : Int32)), .val (.int w2), .val (.int w2)] [(.int (1 : Int32))]))
        refine Go.st (fun _ kq_ => XS.goto X0.here hx rfl (pc0 := 32) (pc' := 36) rfl (hb hby dh22_32) (by decide) (by decide) kq_) ?_
        show Go p e below s _ _ _ (s₁.setTop (mkF m 36 #[.val (.ref a), .val (.int (2 : Int32)), .val (.int (2 : Int32)), .val (.int w2), .val (.int w2)] [(.int (1 : Int32))]))
        exact Go.ret X0 hlk (some (.int (1 : Int32))) (fun h => by rw [Bd.returns] at h; cases h) (by rw [e0]; exact ⟨own_res (z' := (1 : Int32)) (by unfold fA22; rw [if_neg c11_1, if_pos c17_2]) rfl, N0, rfl⟩) (by decide) (by decide) (fun fs hr => retI X0 hx Bd.returns (hb hby dh22_36) hr)
      · refine Go.st (fun _ kq_ => XS.icmpNo X0.here hx rfl (hb hby dh22_17) rfl (XT.ii_lt_f c17_2) kq_) ?_
        show Go p e below s _ _ _ (s₁.setTop (mkF m 20 #[.val (.ref a), .val (.int (2 : Int32)), .val (.int (2 : Int32)), .val (.int w2), .val (.int w2)] []))
        refine Go.st (fun _ kq_ => XS.iloadN X0.here hx rfl (hb hby dh22_20) rfl kq_) ?_
        show Go p e below s _ _ _ (s₁.setTop (mkF m 21 #[.val (.ref a), .val (.int (2 : Int32)), .val (.int (2 : Int32)), .val (.int w2), .val (.int w2)] [(.int w2)]))
        refine Go.st (fun _ kq_ => XS.iload X0.here hx rfl (hb hby dh22_21) rfl kq_) ?_
        show Go p e below s _ _ _ (s₁.setTop (mkF m 23 #[.val (.ref a), .val (.int (2 : Int32)), .val (.int (2 : Int32)), .val (.int w2), .val (.int w2)] [(.int w2), (.int w2)]))
        by_cases c23_3 : w2 = w2
        · refine Go.st (fun _ kq_ => XS.icmpNo X0.here hx rfl (hb hby dh22_23) rfl (XT.ii_ne_f c23_3) kq_) ?_
          show Go p e below s _ _ _ (s₁.setTop (mkF m 26 #[.val (.ref a), .val (.int (2 : Int32)), .val (.int (2 : Int32)), .val (.int w2), .val (.int w2)] []))
          refine Go.st (fun _ kq_ => XS.iloadN X0.here hx rfl (hb hby dh22_26) rfl kq_) ?_
          show Go p e below s _ _ _ (s₁.setTop (mkF m 27 #[.val (.ref a), .val (.int (2 : Int32)), .val (.int (2 : Int32)), .val (.int w2), .val (.int w2)] [(.int (2 : Int32))]))
          refine Go.st (fun _ kq_ => XS.iloadN X0.here hx rfl (hb hby dh22_27) rfl kq_) ?_
          show Go p e below s _ _ _ (s₁.setTop (mkF m 28 #[.val (.ref a), .val (.int (2 : Int32)), .val (.int (2 : Int32)), .val (.int w2), .val (.int w2)] [(.int (2 : Int32)), (.int (2 : Int32))]))
          refine Go.st (fun _ kq_ => XS.icmpYes X0.here hx rfl (pc0 := 28) (pc' := 35) rfl (hb hby dh22_28) rfl (by decide) (by decide) (by decide) kq_) ?_
          show Go p e below s _ _ _ (s₁.setTop (mkF m 35 #[.val (.ref a), .val (.int (2 : Int32)), .val (.int (2 : Int32)), .val (.int w2), .val (.int w2)] []))
          refine Go.st (fun _ kq_ => XS.iconst X0.here hx rfl (hb hby dh22_35) kq_) ?_
          show Go p e below s _ _ _ (s₁.setTop (mkF m 36 #[.val (.ref a), .val (.int (2 : Int32)), .val (.int (2 : Int32)), .val (.int w2), .val (.int w2)] [(.int (0 : Int32))]))
          exact Go.ret X0 hlk (some (.int (0 : Int32))) (fun h => by rw [Bd.returns] at h; cases h) (by rw [e0]; exact ⟨own_res (z' := (0 : Int32)) (by unfold fA22; rw [if_neg c11_1, if_neg c17_2, if_pos c23_3]) rfl, N0, rfl⟩) (by decide) (by decide) (fun fs hr => retI X0 hx Bd.returns (hb hby dh22_36) hr)
        · refine Go.st (fun _ kq_ => XS.icmpYes X0.here hx rfl (pc0 := 23) (pc' := 35) rfl (hb hby dh22_23) rfl (XT.ii_ne_t c23_3) (by decide) (by decide) kq_) ?_
          show Go p e below s _ _ _ (s₁.setTop (mkF m 35 #[.val (.ref a), .val (.int (2 : Int32)), .val (.int (2 : Int32)), .val (.int w2), .val (.int w2)] []))
          refine Go.st (fun _ kq_ => XS.iconst X0.here hx rfl (hb hby dh22_35) kq_) ?_
          show Go p e below s _ _ _ (s₁.setTop (mkF m 36 #[.val (.ref a), .val (.int (2 : Int32)), .val (.int (2 : Int32)), .val (.int w2), .val (.int w2)] [(.int (0 : Int32))]))
          exact Go.ret X0 hlk (some (.int (0 : Int32))) (fun h => by rw [Bd.returns] at h; cases h) (by rw [e0]; exact ⟨own_res (z' := (0 : Int32)) (by unfold fA22; rw [if_neg c11_1, if_neg c17_2, if_neg c23_3]) rfl, N0, rfl⟩) (by decide) (by decide) (fun fs hr => retI X0 hx Bd.returns (hb hby dh22_36) hr)
  obtain ⟨s2, o2, st2, r2⟩ := G
  exact ⟨s2, o2, castTop (efh22 m a (2 : Int32) (2 : Int32)) st2, r2⟩
theorem dh23_0 : decode method_6_code 0 = .ok (.aload_n 0, 1) := by decide +kernel
theorem dh23_1 : decode method_6_code 1 = .ok (.iload_n 1, 1) := by decide +kernel
theorem dh23_2 : decode method_6_code 2 = .ok (.iaload, 1) := by decide +kernel
theorem dh23_3 : decode method_6_code 3 = .ok (.istore_n 3, 1) := by decide +kernel
theorem dh23_4 : decode method_6_code 4 = .ok (.aload_n 0, 1) := by decide +kernel
theorem dh23_5 : decode method_6_code 5 = .ok (.iload_n 2, 1) := by decide +kernel
theorem dh23_6 : decode method_6_code 6 = .ok (.iaload, 1) := by decide +kernel
theorem dh23_7 : decode method_6_code 7 = .ok (.istore 4, 2) := by decide +kernel
theorem dh23_9 : decode method_6_code 9 = .ok (.iload_n 3, 1) := by decide +kernel
theorem dh23_10 : decode method_6_code 10 = .ok (.iconst (-1), 1) := by decide +kernel
theorem dh23_11 : decode method_6_code 11 = .ok (.if_icmp .eq 24, 3) := by decide +kernel
theorem dh23_14 : decode method_6_code 14 = .ok (.iload_n 3, 1) := by decide +kernel
theorem dh23_15 : decode method_6_code 15 = .ok (.iload 4, 2) := by decide +kernel
theorem dh23_17 : decode method_6_code 17 = .ok (.if_icmp .lt 14, 3) := by decide +kernel
theorem dh23_20 : decode method_6_code 20 = .ok (.iload_n 3, 1) := by decide +kernel
theorem dh23_21 : decode method_6_code 21 = .ok (.iload 4, 2) := by decide +kernel
theorem dh23_23 : decode method_6_code 23 = .ok (.if_icmp .ne 12, 3) := by decide +kernel
theorem dh23_26 : decode method_6_code 26 = .ok (.iload_n 1, 1) := by decide +kernel
theorem dh23_27 : decode method_6_code 27 = .ok (.iload_n 2, 1) := by decide +kernel
theorem dh23_28 : decode method_6_code 28 = .ok (.if_icmp .ge 7, 3) := by decide +kernel
theorem dh23_31 : decode method_6_code 31 = .ok (.iconst 1, 1) := by decide +kernel
theorem dh23_32 : decode method_6_code 32 = .ok (.goto 4, 3) := by decide +kernel
theorem dh23_35 : decode method_6_code 35 = .ok (.iconst 0, 1) := by decide +kernel
theorem dh23_36 : decode method_6_code 36 = .ok (.ireturn, 1) := by decide +kernel
theorem pnh23 : plainName "com/example/rootward/rootward/model/InstanceGroupPinLaw" = true := by first | (simp [plainName, overriddenIn]; done) | decide +kernel
theorem efh23 (m : MethodId) (x0 : Addr) (x1 : Int32) (x2 : Int32) : entryFrame m #[(.ref x0), (.int x1), (.int x2)] 5 = mkF m 0 #[.val (.ref x0), .val (.int x1), .val (.int x2), .unset, .unset] [] := by first | (simp [entryFrame, mkF, argsToLocals, Value.category, maxLocals]; done) | rfl
def fA23 (w0 : Int32) (w1 : Int32) (w2 : Int32) (w3 : Int32) : Int32 := (if w2 = (-1 : Int32) then (0 : Int32) else (if w2 < w3 then (1 : Int32) else (if w2 = w3 then (1 : Int32) else (0 : Int32))))
def Qh23 (Z : State) (a : Addr) (ka : ClassId) (w0 : Int32) (w1 : Int32) (w2 : Int32) (w3 : Int32) (h0 : Heap) (n0 : Nat) (v : Option Value) (h : Heap) (L : List Loc) : Prop := v = some (.int (fA23 w0 w1 w2 w3)) ∧ Fr n0 L ∧ h = h0
set_option maxRecDepth 65536 in
set_option maxHeartbeats 40000000 in
theorem rmh23 (l : Launch) (Z : State) (a0 : Array Value) (hw : ∀ d ∈ tables_1, d.before a0 Z = true) (ws : List Jvm.Cond) (a : Addr) (ka : ClassId) (w0 : Int32) (w1 : Int32) (w2 : Int32) (w3 : Int32) (h0 : Heap) (n0 : Nat) (O0 : Old Z n0 h0) (V_a : Arv Z h0 a ka .int (4 : Int32) [(.int w0), (.int w1), (.int w2), (.int w3)] (.int (0 : Int32))) :
    MetFree l (⟨"com/example/rootward/rootward/model/InstanceGroupPinLaw", "ahead", "([III)I"⟩ : MethodName) (head1 (Jvm.Cond.code (⟨"com/example/rootward/rootward/model/InstanceGroupPinLaw", "ahead", "([III)I"⟩ : MethodName) method_6_code 5 (some .int) :: ws) ({ frames := 0, cells := 0, slots := 0, locals := 0 } : Room)) (fun A_ U_ => A_ = #[(.ref a), (.int (2 : Int32)), (.int (3 : Int32))] ∧ Z.Warmed39 U_.vm ∧ U_.heap = h0) (fun _ _ _ _ _ => True) (fun _ U o U' => ∃ v L, o = .returned v ∧ Qh23 Z a ka w0 w1 w2 w3 h0 n0 v U'.heap L ∧ FrameEnd U o U' L ({ frames := 0, cells := 0, slots := 0, locals := 0 } : Room).cells ({ frames := 0, cells := 0, slots := 0, locals := 0 } : Room).slots) := by
  refine MetFree.of_bodySF (plainFor_of_name pnh23) hisR ?_
  intro p e s m args below meth cd s₁ Bd hml0 hP hK
  obtain ⟨rfl, hZ, hh⟩ := hP
  have hx := Bd.exec
  have hby := Bd.bytes
  have hlk : meth.locks = false := BodyLoose.notSynchronized Bd
  have hml : cd.maxLocals = 5 := hml0
  have hown : s.vm.findClass "com/example/rootward/rootward/model/InstanceGroupPinLaw" = some m.cls := findClass_of_methodNamed Bd.named
  have hnm := (name_of_methodNamed Bd.named Bd.method).1
  have X0 : Stand p l e ({ frames := 0, cells := 0, slots := 0, locals := 0 } : Room) s m #[(.ref a), (.int (2 : Int32)), (.int (3 : Int32))] below meth cd s₁ [] 0 0 := Stand.of_body Bd
  have e0 : s₁.heap = h0 := by rw [← hh, Bd.state]; rfl
  have N0 := Fr.nil n0
  have G : Go p e below s 0 0 (Qh23 Z a ka w0 w1 w2 w3 h0 n0) (s₁.setTop (mkF m 0 #[.val (.ref a), .val (.int (2 : Int32)), .val (.int (3 : Int32)), .unset, .unset] [])) := by
    show Go p e below s _ _ _ (s₁.setTop (mkF m 0 #[.val (.ref a), .val (.int (2 : Int32)), .val (.int (3 : Int32)), .unset, .unset] []))
    refine Go.st (fun _ kq_ => XS.aloadN X0.here hx rfl (hb hby dh23_0) rfl rfl kq_) ?_
    show Go p e below s _ _ _ (s₁.setTop (mkF m 1 #[.val (.ref a), .val (.int (2 : Int32)), .val (.int (3 : Int32)), .unset, .unset] [(.ref a)]))
    refine Go.st (fun _ kq_ => XS.iloadN X0.here hx rfl (hb hby dh23_1) rfl kq_) ?_
    show Go p e below s _ _ _ (s₁.setTop (mkF m 2 #[.val (.ref a), .val (.int (2 : Int32)), .val (.int (3 : Int32)), .unset, .unset] [(.int (2 : Int32)), (.ref a)]))
    refine Go.st (fun _ kq_ => own_iaload X0 hx hZ e0 V_a (by decide) (by decide) (v := (.int w2)) rfl (g := (mkF m 2 #[.val (.ref a), .val (.int (2 : Int32)), .val (.int (3 : Int32)), .unset, .unset] [(.int (2 : Int32)), (.ref a)])) rfl rfl (hb hby dh23_2) _ kq_) ?_
    show Go p e below s _ _ _ (s₁.setTop (mkF m 3 #[.val (.ref a), .val (.int (2 : Int32)), .val (.int (3 : Int32)), .unset, .unset] [(.int w2)]))
    refine Go.st (fun _ kq_ => XS.istoreN X0.here hx rfl (hb hby dh23_3) rfl (l' := #[.val (.ref a), .val (.int (2 : Int32)), .val (.int (3 : Int32)), .val (.int w2), .unset]) rfl kq_) ?_
    show Go p e below s _ _ _ (s₁.setTop (mkF m 4 #[.val (.ref a), .val (.int (2 : Int32)), .val (.int (3 : Int32)), .val (.int w2), .unset] []))
    refine Go.st (fun _ kq_ => XS.aloadN X0.here hx rfl (hb hby dh23_4) rfl rfl kq_) ?_
    show Go p e below s _ _ _ (s₁.setTop (mkF m 5 #[.val (.ref a), .val (.int (2 : Int32)), .val (.int (3 : Int32)), .val (.int w2), .unset] [(.ref a)]))
    refine Go.st (fun _ kq_ => XS.iloadN X0.here hx rfl (hb hby dh23_5) rfl kq_) ?_
    show Go p e below s _ _ _ (s₁.setTop (mkF m 6 #[.val (.ref a), .val (.int (2 : Int32)), .val (.int (3 : Int32)), .val (.int w2), .unset] [(.int (3 : Int32)), (.ref a)]))
    refine Go.st (fun _ kq_ => own_iaload X0 hx hZ e0 V_a (by decide) (by decide) (v := (.int w3)) rfl (g := (mkF m 6 #[.val (.ref a), .val (.int (2 : Int32)), .val (.int (3 : Int32)), .val (.int w2), .unset] [(.int (3 : Int32)), (.ref a)])) rfl rfl (hb hby dh23_6) _ kq_) ?_
    show Go p e below s _ _ _ (s₁.setTop (mkF m 7 #[.val (.ref a), .val (.int (2 : Int32)), .val (.int (3 : Int32)), .val (.int w2), .unset] [(.int w3)]))
    refine Go.st (fun _ kq_ => XS.istore X0.here hx rfl (hb hby dh23_7) rfl (l' := #[.val (.ref a), .val (.int (2 : Int32)), .val (.int (3 : Int32)), .val (.int w2), .val (.int w3)]) rfl kq_) ?_
    show Go p e below s _ _ _ (s₁.setTop (mkF m 9 #[.val (.ref a), .val (.int (2 : Int32)), .val (.int (3 : Int32)), .val (.int w2), .val (.int w3)] []))
    refine Go.st (fun _ kq_ => XS.iloadN X0.here hx rfl (hb hby dh23_9) rfl kq_) ?_
    show Go p e below s _ _ _ (s₁.setTop (mkF m 10 #[.val (.ref a), .val (.int (2 : Int32)), .val (.int (3 : Int32)), .val (.int w2), .val (.int w3)] [(.int w2)]))
    refine Go.st (fun _ kq_ => XS.iconst X0.here hx rfl (hb hby dh23_10) kq_) ?_
    show Go p e below s _ _ _ (s₁.setTop (mkF m 11 #[.val (.ref a), .val (.int (2 : Int32)), .val (.int (3 : Int32)), .val (.int w2), .val (.int w3)] [(.int (-1 : Int32)), (.int w2)]))
    by_cases c11_1 : w2 = (-1 : Int32)
    · refine Go.st (fun _ kq_ => XS.icmpYes X0.here hx rfl (pc0 := 11) (pc' := 35) rfl (hb hby dh23_11) rfl (XT.ii_eq_t c11_1) (by decide) (by decide) kq_) ?_
      show Go p e below s _ _ _ (s₁.setTop (mkF m 35 #[.val (.ref a), .val (.int (2 : Int32)), .val (.int (3 : Int32)), .val (.int w2), .val (.int w3)] []))
      refine Go.st (fun _ kq_ => XS.iconst X0.here hx rfl (hb hby dh23_35) kq_) ?_
      show Go p e below s _ _ _ (s₁.setTop (mkF m 36 #[.val (.ref a), .val (.int (2 : Int32)), .val (.int (3 : Int32)), .val (.int w2), .val (.int w3)] [(.int (0 : Int32))]))
      exact Go.ret X0 hlk (some (.int (0 : Int32))) (fun h => by rw [Bd.returns] at h; cases h) (by rw [e0]; exact ⟨own_res (z' := (0 : Int32)) (by unfold fA23; rw [if_pos c11_1]) rfl, N0, rfl⟩) (by decide) (by decide) (fun fs hr => retI X0 hx Bd.returns (hb hby dh23_36) hr)
    · refine Go.st (fun _ kq_ => XS.icmpNo X0.here hx rfl (hb hby dh23_11) rfl (XT.ii_eq_f c11_1) kq_) ?_
      show Go p e below s _ _ _ (s₁.setTop (mkF m 14 #[.val (.ref a), .val (.int (2 : Int32)), .val (.int (3 : Int32)), .val (.int w2), .val (.int w3)] []))
      refine Go.st (fun _ kq_ => XS.iloadN X0.here hx rfl (hb hby dh23_14) rfl kq_) ?_
      show Go p e below s _ _ _ (s₁.setTop (mkF m 15 #[.val (.ref a), .val (.int (2 : Int32)), .val (.int (3 : Int32)), .val (.int w2), .val (.int w3)] [(.int w2)]))
      refine Go.st (fun _ kq_ => XS.iload X0.here hx rfl (hb hby dh23_15) rfl kq_) ?_
      show Go p e below s _ _ _ (s₁.setTop (mkF m 17 #[.val (.ref a), .val (.int (2 : Int32)), .val (.int (3 : Int32)), .val (.int w2), .val (.int w3)] [(.int w3), (.int w2)]))
      by_cases c17_2 : w2 < w3
      · refine Go.st (fun _ kq_ => XS.icmpYes X0.here hx rfl (pc0 := 17) (pc' := 31) rfl (hb hby dh23_17) rfl (XT.ii_lt_t c17_2) (by decide) (by decide) kq_) ?_
        show Go p e below s _ _ _ (s₁.setTop (mkF m 31 #[.val (.ref a), .val (.int (2 : Int32)), .val (.int (3 : Int32)), .val (.int w2), .val (.int w3)] []))
        refine Go.st (fun _ kq_ => XS.iconst X0.here hx rfl (hb hby dh23_31) kq_) ?_
        show Go p e below s _ _ _ (s₁.setTop (mkF m 32 #[.val (.ref a), .val (.int (2 : Int32)), .val (.int (3 : Int32)), .val (.int w2), .val (.int w3)] [(.int (1 : Int32))]))
        refine Go.st (fun _ kq_ => XS.goto X0.here hx rfl (pc0 := 32) (pc' := 36) rfl (hb hby dh23_32) (by decide) (by decide) kq_) ?_
        show Go p e below s _ _ _ (s₁.setTop (mkF m 36 #[.val (.ref a), .val (.int (2 : Int32)), .val (.int (3 : Int32)), .val (.int w2), .val (.int w3)] [(.int (1 : Int32))]))
        exact Go.ret X0 hlk (some (.int (1 : Int32))) (fun h => by rw [Bd.returns] at h; cases h) (by rw [e0]; exact ⟨own_res (z' := (1 : Int32)) (by unfold fA23; rw [if_neg c11_1, if_pos c17_2]) rfl, N0, rfl⟩) (by decide) (by decide) (fun fs hr => retI X0 hx Bd.returns (hb hby dh23_36) hr)
      · refine Go.st (fun _ kq_ => XS.icmpNo X0.here hx rfl (hb hby dh23_17) rfl (XT.ii_lt_f c17_2) kq_) ?_
        show Go p e below s _ _ _ (s₁.setTop (mkF m 20 #[.val (.ref a), .val (.int (2 : Int32)), .val (.int (3 : Int32)), .val (.int w2), .val (.int w3)] []))
        refine Go.st (fun _ kq_ => XS.iloadN X0.here hx rfl (hb hby dh23_20) rfl kq_) ?_
        show Go p e below s _ _ _ (s₁.setTop (mkF m 21 #[.val (.ref a), .val (.int (2 : Int32)), .val (.int (3 : Int32)), .val (.int w2), .val (.int w3)] [(.int w2)]))
        refine Go.st (fun _ kq_ => XS.iload X0.here hx rfl (hb hby dh23_21) rfl kq_) ?_
        show Go p e below s _ _ _ (s₁.setTop (mkF m 23 #[.val (.ref a), .val (.int (2 : Int32)), .val (.int (3 : Int32)), .val (.int w2), .val (.int w3)] [(.int w3), (.int w2)]))
        by_cases c23_3 : w2 = w3
        · refine Go.st (fun _ kq_ => XS.icmpNo X0.here hx rfl (hb hby dh23_23) rfl (XT.ii_ne_f c23_3) kq_) ?_
          show Go p e below s _ _ _ (s₁.setTop (mkF m 26 #[.val (.ref a), .val (.int (2 : Int32)), .val (.int (3 : Int32)), .val (.int w2), .val (.int w3)] []))
          refine Go.st (fun _ kq_ => XS.iloadN X0.here hx rfl (hb hby dh23_26) rfl kq_) ?_
          show Go p e below s _ _ _ (s₁.setTop (mkF m 27 #[.val (.ref a), .val (.int (2 : Int32)), .val (.int (3 : Int32)), .val (.int w2), .val (.int w3)] [(.int (2 : Int32))]))
          refine Go.st (fun _ kq_ => XS.iloadN X0.here hx rfl (hb hby dh23_27) rfl kq_) ?_
          show Go p e below s _ _ _ (s₁.setTop (mkF m 28 #[.val (.ref a), .val (.int (2 : Int32)), .val (.int (3 : Int32)), .val (.int w2), .val (.int w3)] [(.int (3 : Int32)), (.int (2 : Int32))]))
          refine Go.st (fun _ kq_ => XS.icmpNo X0.here hx rfl (hb hby dh23_28) rfl (by decide) kq_) ?_
          show Go p e below s _ _ _ (s₁.setTop (mkF m 31 #[.val (.ref a), .val (.int (2 : Int32)), .val (.int (3 : Int32)), .val (.int w2), .val (.int w3)] []))
          refine Go.st (fun _ kq_ => XS.iconst X0.here hx rfl (hb hby dh23_31) kq_) ?_
          show Go p e below s _ _ _ (s₁.setTop (mkF m 32 #[.val (.ref a), .val (.int (2 : Int32)), .val (.int (3 : Int32)), .val (.int w2), .val (.int w3)] [(.int (1 : Int32))]))
          refine Go.st (fun _ kq_ => XS.goto X0.here hx rfl (pc0 := 32) (pc' := 36) rfl (hb hby dh23_32) (by decide) (by decide) kq_) ?_
          show Go p e below s _ _ _ (s₁.setTop (mkF m 36 #[.val (.ref a), .val (.int (2 : Int32)), .val (.int (3 : Int32)), .val (.int w2), .val (.int w3)] [(.int (1 : Int32))]))
          exact Go.ret X0 hlk (some (.int (1 : Int32))) (fun h => by rw [Bd.returns] at h; cases h) (by rw [e0]; exact ⟨own_res (z' := (1 : Int32)) (by unfold fA23; rw [if_neg c11_1, if_neg c17_2, if_pos c23_3]) rfl, N0, rfl⟩) (by decide) (by decide) (fun fs hr => retI X0 hx Bd.returns (hb hby dh23_36) hr)
        · refine Go.st (fun _ kq_ => XS.icmpYes X0.here hx rfl (pc0 := 23) (pc' := 35) rfl (hb hby dh23_23) rfl (XT.ii_ne_t c23_3) (by decide) (by decide) kq_) ?_
          show Go p e below s _ _ _ (s₁.setTop (mkF m 35 #[.val (.ref a), .val (.int (2 : Int32)), .val (.int (3 : Int32)), .val (.int w2), .val (.int w3)] []))
          refine Go.st (fun _ kq_ => XS.iconst X0.here hx rfl (hb hby dh23_35) kq_) ?_
          show Go p e below s _ _ _ (s₁.setTop (mkF m 36 #[.val (.ref a), .val (.int (2 : Int32)), .val (.int (3 : Int32)), .val (.int w2), .val (.int w3)] [(.int (0 : Int32))]))
          exact Go.ret X0 hlk (some (.int (0 : Int32))) (fun h => by rw [Bd.returns] at h; cases h) (by rw [e0]; exact ⟨own_res (z' := (0 : Int32)) (by unfold fA23; rw [if_neg c11_1, if_neg c17_2, if_neg c23_3]) rfl, N0, rfl⟩) (by decide) (by decide) (fun fs hr => retI X0 hx Bd.returns (hb hby dh23_36) hr)
  obtain ⟨s2, o2, st2, r2⟩ := G
  exact ⟨s2, o2, castTop (efh23 m a (2 : Int32) (3 : Int32)) st2, r2⟩
theorem dh30_0 : decode method_6_code 0 = .ok (.aload_n 0, 1) := by decide +kernel
theorem dh30_1 : decode method_6_code 1 = .ok (.iload_n 1, 1) := by decide +kernel
theorem dh30_2 : decode method_6_code 2 = .ok (.iaload, 1) := by decide +kernel
theorem dh30_3 : decode method_6_code 3 = .ok (.istore_n 3, 1) := by decide +kernel
theorem dh30_4 : decode method_6_code 4 = .ok (.aload_n 0, 1) := by decide +kernel
theorem dh30_5 : decode method_6_code 5 = .ok (.iload_n 2, 1) := by decide +kernel
theorem dh30_6 : decode method_6_code 6 = .ok (.iaload, 1) := by decide +kernel
theorem dh30_7 : decode method_6_code 7 = .ok (.istore 4, 2) := by decide +kernel
theorem dh30_9 : decode method_6_code 9 = .ok (.iload_n 3, 1) := by decide +kernel
theorem dh30_10 : decode method_6_code 10 = .ok (.iconst (-1), 1) := by decide +kernel
theorem dh30_11 : decode method_6_code 11 = .ok (.if_icmp .eq 24, 3) := by decide +kernel
theorem dh30_14 : decode method_6_code 14 = .ok (.iload_n 3, 1) := by decide +kernel
theorem dh30_15 : decode method_6_code 15 = .ok (.iload 4, 2) := by decide +kernel
theorem dh30_17 : decode method_6_code 17 = .ok (.if_icmp .lt 14, 3) := by decide +kernel
theorem dh30_20 : decode method_6_code 20 = .ok (.iload_n 3, 1) := by decide +kernel
theorem dh30_21 : decode method_6_code 21 = .ok (.iload 4, 2) := by decide +kernel
theorem dh30_23 : decode method_6_code 23 = .ok (.if_icmp .ne 12, 3) := by decide +kernel
theorem dh30_26 : decode method_6_code 26 = .ok (.iload_n 1, 1) := by decide +kernel
theorem dh30_27 : decode method_6_code 27 = .ok (.iload_n 2, 1) := by decide +kernel
theorem dh30_28 : decode method_6_code 28 = .ok (.if_icmp .ge 7, 3) := by decide +kernel
theorem dh30_31 : decode method_6_code 31 = .ok (.iconst 1, 1) := by decide +kernel
theorem dh30_32 : decode method_6_code 32 = .ok (.goto 4, 3) := by decide +kernel
theorem dh30_35 : decode method_6_code 35 = .ok (.iconst 0, 1) := by decide +kernel
theorem dh30_36 : decode method_6_code 36 = .ok (.ireturn, 1) := by decide +kernel
theorem pnh30 : plainName "com/example/rootward/rootward/model/InstanceGroupPinLaw" = true := by first | (simp [plainName, overriddenIn]; done) | decide +kernel
theorem efh30 (m : MethodId) (x0 : Addr) (x1 : Int32) (x2 : Int32) : entryFrame m #[(.ref x0), (.int x1), (.int x2)] 5 = mkF m 0 #[.val (.ref x0), .val (.int x1), .val (.int x2), .unset, .unset] [] := by first | (simp [entryFrame, mkF, argsToLocals, Value.category, maxLocals]; done) | rfl
def fA30 (w0 : Int32) (w1 : Int32) (w2 : Int32) (w3 : Int32) : Int32 := (if w3 = (-1 : Int32) then (0 : Int32) else (if w3 < w0 then (1 : Int32) else (if w3 = w0 then (0 : Int32) else (0 : Int32))))
def Qh30 (Z : State) (a : Addr) (ka : ClassId) (w0 : Int32) (w1 : Int32) (w2 : Int32) (w3 : Int32) (h0 : Heap) (n0 : Nat) (v : Option Value) (h : Heap) (L : List Loc) : Prop := v = some (.int (fA30 w0 w1 w2 w3)) ∧ Fr n0 L ∧ h = h0
set_option maxRecDepth 65536 in
set_option maxHeartbeats 40000000 in
theorem rmh30 (l : Launch) (Z : State) (a0 : Array Value) (hw : ∀ d ∈ tables_1, d.before a0 Z = true) (ws : List Jvm.Cond) (a : Addr) (ka : ClassId) (w0 : Int32) (w1 : Int32) (w2 : Int32) (w3 : Int32) (h0 : Heap) (n0 : Nat) (O0 : Old Z n0 h0) (V_a : Arv Z h0 a ka .int (4 : Int32) [(.int w0), (.int w1), (.int w2), (.int w3)] (.int (0 : Int32))) :
    MetFree l (⟨"com/example/rootward/rootward/model/InstanceGroupPinLaw", "ahead", "([III)I"⟩ : MethodName) (head1 (Jvm.Cond.code (⟨"com/example/rootward/rootward/model/InstanceGroupPinLaw", "ahead", "([III)I"⟩ : MethodName) method_6_code 5 (some .int) :: ws) ({ frames := 0, cells := 0, slots := 0, locals := 0 } : Room)) (fun A_ U_ => A_ = #[(.ref a), (.int (3 : Int32)), (.int (0 : Int32))] ∧ Z.Warmed39 U_.vm ∧ U_.heap = h0) (fun _ _ _ _ _ => True) (fun _ U o U' => ∃ v L, o = .returned v ∧ Qh30 Z a ka w0 w1 w2 w3 h0 n0 v U'.heap L ∧ FrameEnd U o U' L ({ frames := 0, cells := 0, slots := 0, locals := 0 } : Room).cells ({ frames := 0, cells := 0, slots := 0, locals := 0 } : Room).slots) := by
  refine MetFree.of_bodySF (plainFor_of_name pnh30) hisR ?_
  intro p e s m args below meth cd s₁ Bd hml0 hP hK
  obtain ⟨rfl, hZ, hh⟩ := hP
  have hx := Bd.exec
  have hby := Bd.bytes
  have hlk : meth.locks = false := BodyLoose.notSynchronized Bd
  have hml : cd.maxLocals = 5 := hml0
  have hown : s.vm.findClass "com/example/rootward/rootward/model/InstanceGroupPinLaw" = some m.cls := findClass_of_methodNamed Bd.named
  have hnm := (name_of_methodNamed Bd.named Bd.method).1
  have X0 : Stand p l e ({ frames := 0, cells := 0, slots := 0, locals := 0 } : Room) s m #[(.ref a), (.int (3 : Int32)), (.int (0 : Int32))] below meth cd s₁ [] 0 0 := Stand.of_body Bd
  have e0 : s₁.heap = h0 := by rw [← hh, Bd.state]; rfl
  have N0 := Fr.nil n0
  have G : Go p e below s 0 0 (Qh30 Z a ka w0 w1 w2 w3 h0 n0) (s₁.setTop (mkF m 0 #[.val (.ref a), .val (.int (3 : Int32)), .val (.int (0 : Int32)), .unset, .unset] [])) := by
    show Go p e below s _ _ _ (s₁.setTop (mkF m 0 #[.val (.ref a), .val (.int (3 : Int32)), .val (.int (0 : Int32)), .unset, .unset] []))
    refine Go.st (fun _ kq_ => XS.aloadN X0.here hx rfl (hb hby dh30_0) rfl rfl kq_) ?_
    show Go p e below s _ _ _ (s₁.setTop (mkF m 1 #[.val (.ref a), .val (.int (3 : Int32)), .val (.int (0 : Int32)), .unset, .unset] [(.ref a)]))
    refine Go.st (fun _ kq_ => XS.iloadN X0.here hx rfl (hb hby dh30_1) rfl kq_) ?_
    show Go p e below s _ _ _ (s₁.setTop (mkF m 2 #[.val (.ref a), .val (.int (3 : Int32)), .val (.int (0 : Int32)), .unset, .unset] [(.int (3 : Int32)), (.ref a)]))
    refine Go.st (fun _ kq_ => own_iaload X0 hx hZ e0 V_a (by decide) (by decide) (v := (.int w3)) rfl (g := (mkF m 2 #[.val (.ref a), .val (.int (3 : Int32)), .val (.int (0 : Int32)), .unset, .unset] [(.int (3 : Int32)), (.ref a)])) rfl rfl (hb hby dh30_2) _ kq_) ?_
    show Go p e below s _ _ _ (s₁.setTop (mkF m 3 #[.val (.ref a), .val (.int (3 : Int32)), .val (.int (0 : Int32)), .unset, .unset] [(.int w3)]))
    refine Go.st (fun _ kq_ => XS.istoreN X0.here hx rfl (hb hby dh30_3) rfl (l' := #[.val (.ref a), .val (.int (3 : Int32)), .val (.int (0 : Int32)), .val (.int w3), .unset]) rfl kq_) ?_
    show Go p e below s _ _ _ (s₁.setTop (mkF m 4 #[.val (.ref a), .val (.int (3 : Int32)), .val (.int (0 : Int32)), .val (.int w3), .unset] []))
    refine Go.st (fun _ kq_ => XS.aloadN X0.here hx rfl (hb hby dh30_4) rfl rfl kq_) ?_
    show Go p e below s _ _ _ (s₁.setTop (mkF m 5 #[.val (.ref a), .val (.int (3 : Int32)), .val (.int (0 : Int32)), .val (.int w3), .unset] [(.ref a)]))
    refine Go.st (fun _ kq_ => XS.iloadN X0.here hx rfl (hb hby dh30_5) rfl kq_) ?_
    show Go p e below s _ _ _ (s₁.setTop (mkF m 6 #[.val (.ref a), .val (.int (3 : Int32)), .val (.int (0 : Int32)), .val (.int w3), .unset] [(.int (0 : Int32)), (.ref a)]))
    refine Go.st (fun _ kq_ => own_iaload X0 hx hZ e0 V_a (by decide) (by decide) (v := (.int w0)) rfl (g := (mkF m 6 #[.val (.ref a), .val (.int (3 : Int32)), .val (.int (0 : Int32)), .val (.int w3), .unset] [(.int (0 : Int32)), (.ref a)])) rfl rfl (hb hby dh30_6) _ kq_) ?_
    show Go p e below s _ _ _ (s₁.setTop (mkF m 7 #[.val (.ref a), .val (.int (3 : Int32)), .val (.int (0 : Int32)), .val (.int w3), .unset] [(.int w0)]))
    refine Go.st (fun _ kq_ => XS.istore X0.here hx rfl (hb hby dh30_7) rfl (l' := #[.val (.ref a), .val (.int (3 : Int32)), .val (.int (0 : Int32)), .val (.int w3), .val (.int w0)]) rfl kq_) ?_
    show Go p e below s _ _ _ (s₁.setTop (mkF m 9 #[.val (.ref a), .val (.int (3 : Int32)), .val (.int (0 : Int32)), .val (.int w3), .val (.int w0)] []))
    refine Go.st (fun _ kq_ => XS.iloadN X0.here hx rfl (hb hby dh30_9) rfl kq_) ?_
    show Go p e below s _ _ _ (s₁.setTop (mkF m 10 #[.val (.ref a), .val (.int (3 : Int32)), .val (.int (0 : Int32)), .val (.int w3), .val (.int w0)] [(.int w3)]))
    refine Go.st (fun _ kq_ => XS.iconst X0.here hx rfl (hb hby dh30_10) kq_) ?_
    show Go p e below s _ _ _ (s₁.setTop (mkF m 11 #[.val (.ref a), .val (.int (3 : Int32)), .val (.int (0 : Int32)), .val (.int w3), .val (.int w0)] [(.int (-1 : Int32)), (.int w3)]))
    by_cases c11_1 : w3 = (-1 : Int32)
    · refine Go.st (fun _ kq_ => XS.icmpYes X0.here hx rfl (pc0 := 11) (pc' := 35) rfl (hb hby dh30_11) rfl (XT.ii_eq_t c11_1) (by decide) (by decide) kq_) ?_
      show Go p e below s _ _ _ (s₁.setTop (mkF m 35 #[.val (.ref a), .val (.int (3 : Int32)), .val (.int (0 : Int32)), .val (.int w3), .val (.int w0)] []))
      refine Go.st (fun _ kq_ => XS.iconst X0.here hx rfl (hb hby dh30_35) kq_) ?_
      show Go p e below s _ _ _ (s₁.setTop (mkF m 36 #[.val (.ref a), .val (.int (3 : Int32)), .val (.int (0 : Int32)), .val (.int w3), .val (.int w0)] [(.int (0 : Int32))]))
      exact Go.ret X0 hlk (some (.int (0 : Int32))) (fun h => by rw [Bd.returns] at h; cases h) (by rw [e0]; exact ⟨own_res (z' := (0 : Int32)) (by unfold fA30; rw [if_pos c11_1]) rfl, N0, rfl⟩) (by decide) (by decide) (fun fs hr => retI X0 hx Bd.returns (hb hby dh30_36) hr)
    · refine Go.st (fun _ kq_ => XS.icmpNo X0.here hx rfl (hb hby dh30_11) rfl (XT.ii_eq_f c11_1) kq_) ?_
      show Go p e below s _ _ _ (s₁.setTop (mkF m 14 #[.val (.ref a), .val (.int (3 : Int32)), .val (.int (0 : Int32)), .val (.int w3), .val (.int w0)] []))
      refine Go.st (fun _ kq_ => XS.iloadN X0.here hx rfl (hb hby dh30_14) rfl kq_) ?_
      show Go p e below s _ _ _ (s₁.setTop (mkF m 15 #[.val (.ref a), .val (.int (3 : Int32)), .val (.int (0 : Int32)), .val (.int w3), .val (.int w0)] [(.int w3)]))
      refine Go.st (fun _ kq_ => XS.iload X0.here hx rfl (hb hby dh30_15) rfl kq_) ?_
      show Go p e below s _ _ _ (s₁.setTop (mkF m 17 #[.val (.ref a), .val (.int (3 : Int32)), .val (.int (0 : Int32)), .val (.int w3), .val (.int w0)] [(.int w0), (.int w3)]))
      by_cases c17_2 : w3 < w0
      · refine Go.st (fun _ kq_ => XS.icmpYes X0.here hx rfl (pc0 := 17) (pc' := 31) rfl (hb hby dh30_17) rfl (XT.ii_lt_t c17_2) (by decide) (by decide) kq_) ?_
        show Go p e below s _ _ _ (s₁.setTop (mkF m 31 #[.val (.ref a), .val (.int (3 : Int32)), .val (.int (0 : Int32)), .val (.int w3), .val (.int w0)] []))
        refine Go.st (fun _ kq_ => XS.iconst X0.here hx rfl (hb hby dh30_31) kq_) ?_
        show Go p e below s _ _ _ (s₁.setTop (mkF m 32 #[.val (.ref a), .val (.int (3 : Int32)), .val (.int (0 : Int32)), .val (.int w3), .val (.int w0)] [(.int (1 : Int32))]))
        refine Go.st (fun _ kq_ => XS.goto X0.here hx rfl (pc0 := 32) (pc' := 36) rfl (hb hby dh30_32) (by decide) (by decide) kq_) ?_
        show Go p e below s _ _ _ (s₁.setTop (mkF m 36 #[.val (.ref a), .val (.int (3 : Int32)), .val (.int (0 : Int32)), .val (.int w3), .val (.int w0)] [(.int (1 : Int32))]))
        exact Go.ret X0 hlk (some (.int (1 : Int32))) (fun h => by rw [Bd.returns] at h; cases h) (by rw [e0]; exact ⟨own_res (z' := (1 : Int32)) (by unfold fA30; rw [if_neg c11_1, if_pos c17_2]) rfl, N0, rfl⟩) (by decide) (by decide) (fun fs hr => retI X0 hx Bd.returns (hb hby dh30_36) hr)
      · refine Go.st (fun _ kq_ => XS.icmpNo X0.here hx rfl (hb hby dh30_17) rfl (XT.ii_lt_f c17_2) kq_) ?_
        show Go p e below s _ _ _ (s₁.setTop (mkF m 20 #[.val (.ref a), .val (.int (3 : Int32)), .val (.int (0 : Int32)), .val (.int w3), .val (.int w0)] []))
        refine Go.st (fun _ kq_ => XS.iloadN X0.here hx rfl (hb hby dh30_20) rfl kq_) ?_
        show Go p e below s _ _ _ (s₁.setTop (mkF m 21 #[.val (.ref a), .val (.int (3 : Int32)), .val (.int (0 : Int32)), .val (.int w3), .val (.int w0)] [(.int w3)]))
        refine Go.st (fun _ kq_ => XS.iload X0.here hx rfl (hb hby dh30_21) rfl kq_) ?_
        show Go p e below s _ _ _ (s₁.setTop (mkF m 23 #[.val (.ref a), .val (.int (3 : Int32)), .val (.int (0 : Int32)), .val (.int w3), .val (.int w0)] [(.int w0), (.int w3)]))
        by_cases c23_3 : w3 = w0
        · refine Go.st (fun _ kq_ => XS.icmpNo X0.here hx rfl (hb hby dh30_23) rfl (XT.ii_ne_f c23_3) kq_) ?_
          show Go p e below s _ _ _ (s₁.setTop (mkF m 26 #[.val (.ref a), .val (.int (3 : Int32)), .val (.int (0 : Int32)), .val (.int w3), .val (.int w0)] []))
          refine Go.st (fun _ kq_ => XS.iloadN X0.here hx rfl (hb hby dh30_26) rfl kq_) ?_
          show Go p e below s _ _ _ (s₁.setTop (mkF m 27 #[.val (.ref a), .val (.int (3 : Int32)), .val (.int (0 : Int32)), .val (.int w3), .val (.int w0)] [(.int (3 : Int32))]))
          refine Go.st (fun _ kq_ => XS.iloadN X0.here hx rfl (hb hby dh30_27) rfl kq_) ?_
          show Go p e below s _ _ _ (s₁.setTop (mkF m 28 #[.val (.ref a), .val (.int (3 : Int32)), .val (.int (0 : Int32)), .val (.int w3), .val (.int w0)] [(.int (0 : Int32)), (.int (3 : Int32))]))
          refine Go.st (fun _ kq_ => XS.icmpYes X0.here hx rfl (pc0 := 28) (pc' := 35) rfl (hb hby dh30_28) rfl (by decide) (by decide) (by decide) kq_) ?_
          show Go p e below s _ _ _ (s₁.setTop (mkF m 35 #[.val (.ref a), .val (.int (3 : Int32)), .val (.int (0 : Int32)), .val (.int w3), .val (.int w0)] []))
          refine Go.st (fun _ kq_ => XS.iconst X0.here hx rfl (hb hby dh30_35) kq_) ?_
          show Go p e below s _ _ _ (s₁.setTop (mkF m 36 #[.val (.ref a), .val (.int (3 : Int32)), .val (.int (0 : Int32)), .val (.int w3), .val (.int w0)] [(.int (0 : Int32))]))
          exact Go.ret X0 hlk (some (.int (0 : Int32))) (fun h => by rw [Bd.returns] at h; cases h) (by rw [e0]; exact ⟨own_res (z' := (0 : Int32)) (by unfold fA30; rw [if_neg c11_1, if_neg c17_2, if_pos c23_3]) rfl, N0, rfl⟩) (by decide) (by decide) (fun fs hr => retI X0 hx Bd.returns (hb hby dh30_36) hr)
        · refine Go.st (fun _ kq_ => XS.icmpYes X0.here hx rfl (pc0 := 23) (pc' := 35) rfl (hb hby dh30_23) rfl (XT.ii_ne_t c23_3) (by decide) (by decide) kq_) ?_
          show Go p e below s _ _ _ (s₁.setTop (mkF m 35 #[.val (.ref a), .val (.int (3 : Int32)), .val (.int (0 : Int32)), .val (.int w3), .val (.int w0)] []))
          refine Go.st (fun _ kq_ => XS.iconst X0.here hx rfl (hb hby dh30_35) kq_) ?_
          show Go p e below s _ _ _ (s₁.setTop (mkF m 36 #[.val (.ref a), .val (.int (3 : Int32)), .val (.int (0 : Int32)), .val (.int w3), .val (.int w0)] [(.int (0 : Int32))]))
          exact Go.ret X0 hlk (some (.int (0 : Int32))) (fun h => by rw [Bd.returns] at h; cases h) (by rw [e0]; exact ⟨own_res (z' := (0 : Int32)) (by unfold fA30; rw [if_neg c11_1, if_neg c17_2, if_neg c23_3]) rfl, N0, rfl⟩) (by decide) (by decide) (fun fs hr => retI X0 hx Bd.returns (hb hby dh30_36) hr)
  obtain ⟨s2, o2, st2, r2⟩ := G
  exact ⟨s2, o2, castTop (efh30 m a (3 : Int32) (0 : Int32)) st2, r2⟩
theorem dh31_0 : decode method_6_code 0 = .ok (.aload_n 0, 1) := by decide +kernel
theorem dh31_1 : decode method_6_code 1 = .ok (.iload_n 1, 1) := by decide +kernel
theorem dh31_2 : decode method_6_code 2 = .ok (.iaload, 1) := by decide +kernel
theorem dh31_3 : decode method_6_code 3 = .ok (.istore_n 3, 1) := by decide +kernel
theorem dh31_4 : decode method_6_code 4 = .ok (.aload_n 0, 1) := by decide +kernel
theorem dh31_5 : decode method_6_code 5 = .ok (.iload_n 2, 1) := by decide +kernel
theorem dh31_6 : decode method_6_code 6 = .ok (.iaload, 1) := by decide +kernel
theorem dh31_7 : decode method_6_code 7 = .ok (.istore 4, 2) := by decide +kernel
theorem dh31_9 : decode method_6_code 9 = .ok (.iload_n 3, 1) := by decide +kernel
theorem dh31_10 : decode method_6_code 10 = .ok (.iconst (-1), 1) := by decide +kernel
theorem dh31_11 : decode method_6_code 11 = .ok (.if_icmp .eq 24, 3) := by decide +kernel
theorem dh31_14 : decode method_6_code 14 = .ok (.iload_n 3, 1) := by decide +kernel
theorem dh31_15 : decode method_6_code 15 = .ok (.iload 4, 2) := by decide +kernel
theorem dh31_17 : decode method_6_code 17 = .ok (.if_icmp .lt 14, 3) := by decide +kernel
theorem dh31_20 : decode method_6_code 20 = .ok (.iload_n 3, 1) := by decide +kernel
theorem dh31_21 : decode method_6_code 21 = .ok (.iload 4, 2) := by decide +kernel
theorem dh31_23 : decode method_6_code 23 = .ok (.if_icmp .ne 12, 3) := by decide +kernel
theorem dh31_26 : decode method_6_code 26 = .ok (.iload_n 1, 1) := by decide +kernel
theorem dh31_27 : decode method_6_code 27 = .ok (.iload_n 2, 1) := by decide +kernel
theorem dh31_28 : decode method_6_code 28 = .ok (.if_icmp .ge 7, 3) := by decide +kernel
theorem dh31_31 : decode method_6_code 31 = .ok (.iconst 1, 1) := by decide +kernel
theorem dh31_32 : decode method_6_code 32 = .ok (.goto 4, 3) := by decide +kernel
theorem dh31_35 : decode method_6_code 35 = .ok (.iconst 0, 1) := by decide +kernel
theorem dh31_36 : decode method_6_code 36 = .ok (.ireturn, 1) := by decide +kernel
theorem pnh31 : plainName "com/example/rootward/rootward/model/InstanceGroupPinLaw" = true := by first | (simp [plainName, overriddenIn]; done) | decide +kernel
theorem efh31 (m : MethodId) (x0 : Addr) (x1 : Int32) (x2 : Int32) : entryFrame m #[(.ref x0), (.int x1), (.int x2)] 5 = mkF m 0 #[.val (.ref x0), .val (.int x1), .val (.int x2), .unset, .unset] [] := by first | (simp [entryFrame, mkF, argsToLocals, Value.category, maxLocals]; done) | rfl
def fA31 (w0 : Int32) (w1 : Int32) (w2 : Int32) (w3 : Int32) : Int32 := (if w3 = (-1 : Int32) then (0 : Int32) else (if w3 < w1 then (1 : Int32) else (if w3 = w1 then (0 : Int32) else (0 : Int32))))
def Qh31 (Z : State) (a : Addr) (ka : ClassId) (w0 : Int32) (w1 : Int32) (w2 : Int32) (w3 : Int32) (h0 : Heap) (n0 : Nat) (v : Option Value) (h : Heap) (L : List Loc) : Prop := v = some (.int (fA31 w0 w1 w2 w3)) ∧ Fr n0 L ∧ h = h0
set_option maxRecDepth 65536 in
set_option maxHeartbeats 40000000 in
theorem rmh31 (l : Launch) (Z : State) (a0 : Array Value) (hw : ∀ d ∈ tables_1, d.before a0 Z = true) (ws : List Jvm.Cond) (a : Addr) (ka : ClassId) (w0 : Int32) (w1 : Int32) (w2 : Int32) (w3 : Int32) (h0 : Heap) (n0 : Nat) (O0 : Old Z n0 h0) (V_a : Arv Z h0 a ka .int (4 : Int32) [(.int w0), (.int w1), (.int w2), (.int w3)] (.int (0 : Int32))) :
    MetFree l (⟨"com/example/rootward/rootward/model/InstanceGroupPinLaw", "ahead", "([III)I"⟩ : MethodName) (head1 (Jvm.Cond.code (⟨"com/example/rootward/rootward/model/InstanceGroupPinLaw", "ahead", "([III)I"⟩ : MethodName) method_6_code 5 (some .int) :: ws) ({ frames := 0, cells := 0, slots := 0, locals := 0 } : Room)) (fun A_ U_ => A_ = #[(.ref a), (.int (3 : Int32)), (.int (1 : Int32))] ∧ Z.Warmed39 U_.vm ∧ U_.heap = h0) (fun _ _ _ _ _ => True) (fun _ U o U' => ∃ v L, o = .returned v ∧ Qh31 Z a ka w0 w1 w2 w3 h0 n0 v U'.heap L ∧ FrameEnd U o U' L ({ frames := 0, cells := 0, slots := 0, locals := 0 } : Room).cells ({ frames := 0, cells := 0, slots := 0, locals := 0 } : Room).slots) := by
  refine MetFree.of_bodySF (plainFor_of_name pnh31) hisR ?_
  intro p e s m args below meth cd s₁ Bd hml0 hP hK
  obtain ⟨rfl, hZ, hh⟩ := hP
  have hx := Bd.exec
  have hby := Bd.bytes
  have hlk : meth.locks = false := BodyLoose.notSynchronized Bd
  have hml : cd.maxLocals = 5 := hml0
  have hown : s.vm.findClass "com/example/rootward/rootward/model/InstanceGroupPinLaw" = some m.cls := findClass_of_methodNamed Bd.named
  have hnm := (name_of_methodNamed Bd.named Bd.method).1
  have X0 : Stand p l e ({ frames := 0, cells := 0, slots := 0, locals := 0 } : Room) s m #[(.ref a), (.int (3 : Int32)), (.int (1 : Int32))] below meth cd s₁ [] 0 0 := Stand.of_body Bd
  have e0 : s₁.heap = h0 := by rw [← hh, Bd.state]; rfl
  have N0 := Fr.nil n0
  have G : Go p e below s 0 0 (Qh31 Z a ka w0 w1 w2 w3 h0 n0) (s₁.setTop (mkF m 0 #[.val (.ref a), .val (.int (3 : Int32)), .val (.int (1 : Int32)), .unset, .unset] [])) := by
    show Go p e below s _ _ _ (s₁.setTop (mkF m 0 #[.val (.ref a), .val (.int (3 : Int32)), .val (.int (1 : Int32)), .unset, .unset] []))
    refine Go.st (fun _ kq_ => XS.aloadN X0.here hx rfl (hb hby dh31_0) rfl rfl kq_) ?_
    show Go p e below s _ _ _ (s₁.setTop (mkF m 1 #[.val (.ref a), .val (.int (3 : Int32)), .val (.int (1 : Int32)), .unset, .unset] [(.ref a)]))
    refine Go.st (fun _ kq_ => XS.iloadN X0.here hx rfl (hb hby dh31_1) rfl kq_) ?_
    show Go p e below s _ _ _ (s₁.setTop (mkF m 2 #[.val (.ref a), .val (.int (3 : Int32)), .val (.int (1 : Int32)), .unset, .unset] [(.int (3 : Int32)), (.ref a)]))
    refine Go.st (fun _ kq_ => own_iaload X0 hx hZ e0 V_a (by decide) (by decide) (v := (.int w3)) rfl (g := (mkF m 2 #[.val (.ref a), .val (.int (3 : Int32)), .val (.int (1 : Int32)), .unset, .unset] [(.int (3 : Int32)), (.ref a)])) rfl rfl (hb hby dh31_2) _ kq_) ?_
    show Go p e below s _ _ _ (s₁.setTop (mkF m 3 #[.val (.ref a), .val (.int (3 : Int32)), .val (.int (1 : Int32)), .unset, .unset] [(.int w3)]))
    refine Go.st (fun _ kq_ => XS.istoreN X0.here hx rfl (hb hby dh31_3) rfl (l' := #[.val (.ref a), .val (.int (3 : Int32)), .val (.int (1 : Int32)), .val (.int w3), .unset]) rfl kq_) ?_
    show Go p e below s _ _ _ (s₁.setTop (mkF m 4 #[.val (.ref a), .val (.int (3 : Int32)), .val (.int (1 : Int32)), .val (.int w3), .unset] []))
    refine Go.st (fun _ kq_ => XS.aloadN X0.here hx rfl (hb hby dh31_4) rfl rfl kq_) ?_
    show Go p e below s _ _ _ (s₁.setTop (mkF m 5 #[.val (.ref a), .val (.int (3 : Int32)), .val (.int (1 : Int32)), .val (.int w3), .unset] [(.ref a)]))
    refine Go.st (fun _ kq_ => XS.iloadN X0.here hx rfl (hb hby dh31_5) rfl kq_) ?_
    show Go p e below s _ _ _ (s₁.setTop (mkF m 6 #[.val (.ref a), .val (.int (3 : Int32)), .val (.int (1 : Int32)), .val (.int w3), .unset] [(.int (1 : Int32)), (.ref a)]))
    refine Go.st (fun _ kq_ => own_iaload X0 hx hZ e0 V_a (by decide) (by decide) (v := (.int w1)) rfl (g := (mkF m 6 #[.val (.ref a), .val (.int (3 : Int32)), .val (.int (1 : Int32)), .val (.int w3), .unset] [(.int (1 : Int32)), (.ref a)])) rfl rfl (hb hby dh31_6) _ kq_) ?_
    show Go p e below s _ _ _ (s₁.setTop (mkF m 7 #[.val (.ref a), .val (.int (3 : Int32)), .val (.int (1 : Int32)), .val (.int w3), .unset] [(.int w1)]))
    refine Go.st (fun _ kq_ => XS.istore X0.here hx rfl (hb hby dh31_7) rfl (l' := #[.val (.ref a), .val (.int (3 : Int32)), .val (.int (1 : Int32)), .val (.int w3), .val (.int w1)]) rfl kq_) ?_
    show Go p e below s _ _ _ (s₁.setTop (mkF m 9 #[.val (.ref a), .val (.int (3 : Int32)), .val (.int (1 : Int32)), .val (.int w3), .val (.int w1)] []))
    refine Go.st (fun _ kq_ => XS.iloadN X0.here hx rfl (hb hby dh31_9) rfl kq_) ?_
    show Go p e below s _ _ _ (s₁.setTop (mkF m 10 #[.val (.ref a), .val (.int (3 : Int32)), .val (.int (1 : Int32)), .val (.int w3), .val (.int w1)] [(.int w3)]))
    refine Go.st (fun _ kq_ => XS.iconst X0.here hx rfl (hb hby dh31_10) kq_) ?_
    show Go p e below s _ _ _ (s₁.setTop (mkF m 11 #[.val (.ref a), .val (.int (3 : Int32)), .val (.int (1 : Int32)), .val (.int w3), .val (.int w1)] [(.int (-1 : Int32)), (.int w3)]))
    by_cases c11_1 : w3 = (-1 : Int32)
    · refine Go.st (fun _ kq_ => XS.icmpYes X0.here hx rfl (pc0 := 11) (pc' := 35) rfl (hb hby dh31_11) rfl (XT.ii_eq_t c11_1) (by decide) (by decide) kq_) ?_
      show Go p e below s _ _ _ (s₁.setTop (mkF m 35 #[.val (.ref a), .val (.int (3 : Int32)), .val (.int (1 : Int32)), .val (.int w3), .val (.int w1)] []))
      refine Go.st (fun _ kq_ => XS.iconst X0.here hx rfl (hb hby dh31_35) kq_) ?_
      show Go p e below s _ _ _ (s₁.setTop (mkF m 36 #[.val (.ref a), .val (.int (3 : Int32)), .val (.int (1 : Int32)), .val (.int w3), .val (.int w1)] [(.int (0 : Int32))]))
      exact Go.ret X0 hlk (some (.int (0 : Int32))) (fun h => by rw [Bd.returns] at h; cases h) (by rw [e0]; exact ⟨own_res (z' := (0 : Int32)) (by unfold fA31; rw [if_pos c11_1]) rfl, N0, rfl⟩) (by decide) (by decide) (fun fs hr => retI X0 hx Bd.returns (hb hby dh31_36) hr)
    · refine Go.st (fun _ kq_ => XS.icmpNo X0.here hx rfl (hb hby dh31_11) rfl (XT.ii_eq_f c11_1) kq_) ?_
      show Go p e below s _ _ _ (s₁.setTop (mkF m 14 #[.val (.ref a), .val (.int (3 : Int32)), .val (.int (1 : Int32)), .val (.int w3), .val (.int w1)] []))
      refine Go.st (fun _ kq_ => XS.iloadN X0.here hx rfl (hb hby dh31_14) rfl kq_) ?_
      show Go p e below s _ _ _ (s₁.setTop (mkF m 15 #[.val (.ref a), .val (.int (3 : Int32)), .val (.int (1 : Int32)), .val (.int w3), .val (.int w1)] [(.int w3)]))
      refine Go.st (fun _ kq_ => XS.iload X0.here hx rfl (hb hby dh31_15) rfl kq_) ?_
      show Go p e below s _ _ _ (s₁.setTop (mkF m 17 #[.val (.ref a), .val (.int (3 : Int32)), .val (.int (1 : Int32)), .val (.int w3), .val (.int w1)] [(.int w1), (.int w3)]))
      by_cases c17_2 : w3 < w1
      · refine Go.st (fun _ kq_ => XS.icmpYes X0.here hx rfl (pc0 := 17) (pc' := 31) rfl (hb hby dh31_17) rfl (XT.ii_lt_t c17_2) (by decide) (by decide) kq_) ?_
        show Go p e below s _ _ _ (s₁.setTop (mkF m 31 #[.val (.ref a), .val (.int (3 : Int32)), .val (.int (1 : Int32)), .val (.int w3), .val (.int w1)] []))
        refine Go.st (fun _ kq_ => XS.iconst X0.here hx rfl (hb hby dh31_31) kq_) ?_
        show Go p e below s _ _ _ (s₁.setTop (mkF m 32 #[.val (.ref a), .val (.int (3 : Int32)), .val (.int (1 : Int32)), .val (.int w3), .val (.int w1)] [(.int (1 : Int32))]))
        refine Go.st (fun _ kq_ => XS.goto X0.here hx rfl (pc0 := 32) (pc' := 36) rfl (hb hby dh31_32) (by decide) (by decide) kq_) ?_
        show Go p e below s _ _ _ (s₁.setTop (mkF m 36 #[.val (.ref a), .val (.int (3 : Int32)), .val (.int (1 : Int32)), .val (.int w3), .val (.int w1)] [(.int (1 : Int32))]))
        exact Go.ret X0 hlk (some (.int (1 : Int32))) (fun h => by rw [Bd.returns] at h; cases h) (by rw [e0]; exact ⟨own_res (z' := (1 : Int32)) (by unfold fA31; rw [if_neg c11_1, if_pos c17_2]) rfl, N0, rfl⟩) (by decide) (by decide) (fun fs hr => retI X0 hx Bd.returns (hb hby dh31_36) hr)
      · refine Go.st (fun _ kq_ => XS.icmpNo X0.here hx rfl (hb hby dh31_17) rfl (XT.ii_lt_f c17_2) kq_) ?_
        show Go p e below s _ _ _ (s₁.setTop (mkF m 20 #[.val (.ref a), .val (.int (3 : Int32)), .val (.int (1 : Int32)), .val (.int w3), .val (.int w1)] []))
        refine Go.st (fun _ kq_ => XS.iloadN X0.here hx rfl (hb hby dh31_20) rfl kq_) ?_
        show Go p e below s _ _ _ (s₁.setTop (mkF m 21 #[.val (.ref a), .val (.int (3 : Int32)), .val (.int (1 : Int32)), .val (.int w3), .val (.int w1)] [(.int w3)]))
        refine Go.st (fun _ kq_ => XS.iload X0.here hx rfl (hb hby dh31_21) rfl kq_) ?_
        show Go p e below s _ _ _ (s₁.setTop (mkF m 23 #[.val (.ref a), .val (.int (3 : Int32)), .val (.int (1 : Int32)), .val (.int w3), .val (.int w1)] [(.int w1), (.int w3)]))
        by_cases c23_3 : w3 = w1
        · refine Go.st (fun _ kq_ => XS.icmpNo X0.here hx rfl (hb hby dh31_23) rfl (XT.ii_ne_f c23_3) kq_) ?_
          show Go p e below s _ _ _ (s₁.setTop (mkF m 26 #[.val (.ref a), .val (.int (3 : Int32)), .val (.int (1 : Int32)), .val (.int w3), .val (.int w1)] []))
          refine Go.st (fun _ kq_ => XS.iloadN X0.here hx rfl (hb hby dh31_26) rfl kq_) ?_
          show Go p e below s _ _ _ (s₁.setTop (mkF m 27 #[.val (.ref a), .val (.int (3 : Int32)), .val (.int (1 : Int32)), .val (.int w3), .val (.int w1)] [(.int (3 : Int32))]))
          refine Go.st (fun _ kq_ => XS.iloadN X0.here hx rfl (hb hby dh31_27) rfl kq_) ?_
          show Go p e below s _ _ _ (s₁.setTop (mkF m 28 #[.val (.ref a), .val (.int (3 : Int32)), .val (.int (1 : Int32)), .val (.int w3), .val (.int w1)] [(.int (1 : Int32)), (.int (3 : Int32))]))
          refine Go.st (fun _ kq_ => XS.icmpYes X0.here hx rfl (pc0 := 28) (pc' := 35) rfl (hb hby dh31_28) rfl (by decide) (by decide) (by decide) kq_) ?_
          show Go p e below s _ _ _ (s₁.setTop (mkF m 35 #[.val (.ref a), .val (.int (3 : Int32)), .val (.int (1 : Int32)), .val (.int w3), .val (.int w1)] []))
          refine Go.st (fun _ kq_ => XS.iconst X0.here hx rfl (hb hby dh31_35) kq_) ?_
          show Go p e below s _ _ _ (s₁.setTop (mkF m 36 #[.val (.ref a), .val (.int (3 : Int32)), .val (.int (1 : Int32)), .val (.int w3), .val (.int w1)] [(.int (0 : Int32))]))
          exact Go.ret X0 hlk (some (.int (0 : Int32))) (fun h => by rw [Bd.returns] at h; cases h) (by rw [e0]; exact ⟨own_res (z' := (0 : Int32)) (by unfold fA31; rw [if_neg c11_1, if_neg c17_2, if_pos c23_3]) rfl, N0, rfl⟩) (by decide) (by decide) (fun fs hr => retI X0 hx Bd.returns (hb hby dh31_36) hr)
        · refine Go.st (fun _ kq_ => XS.icmpYes X0.here hx rfl (pc0 := 23) (pc' := 35) rfl (hb hby dh31_23) rfl (XT.ii_ne_t c23_3) (by decide) (by decide) kq_) ?_
          show Go p e below s _ _ _ (s₁.setTop (mkF m 35 #[.val (.ref a), .val (.int (3 : Int32)), .val (.int (1 : Int32)), .val (.int w3), .val (.int w1)] []))
          refine Go.st (fun _ kq_ => XS.iconst X0.here hx rfl (hb hby dh31_35) kq_) ?_
          show Go p e below s _ _ _ (s₁.setTop (mkF m 36 #[.val (.ref a), .val (.int (3 : Int32)), .val (.int (1 : Int32)), .val (.int w3), .val (.int w1)] [(.int (0 : Int32))]))
          exact Go.ret X0 hlk (some (.int (0 : Int32))) (fun h => by rw [Bd.returns] at h; cases h) (by rw [e0]; exact ⟨own_res (z' := (0 : Int32)) (by unfold fA31; rw [if_neg c11_1, if_neg c17_2, if_neg c23_3]) rfl, N0, rfl⟩) (by decide) (by decide) (fun fs hr => retI X0 hx Bd.returns (hb hby dh31_36) hr)
  obtain ⟨s2, o2, st2, r2⟩ := G
  exact ⟨s2, o2, castTop (efh31 m a (3 : Int32) (1 : Int32)) st2, r2⟩
theorem dh32_0 : decode method_6_code 0 = .ok (.aload_n 0, 1) := by decide +kernel
theorem dh32_1 : decode method_6_code 1 = .ok (.iload_n 1, 1) := by decide +kernel
theorem dh32_2 : decode method_6_code 2 = .ok (.iaload, 1) := by decide +kernel
theorem dh32_3 : decode method_6_code 3 = .ok (.istore_n 3, 1) := by decide +kernel
theorem dh32_4 : decode method_6_code 4 = .ok (.aload_n 0, 1) := by decide +kernel
theorem dh32_5 : decode method_6_code 5 = .ok (.iload_n 2, 1) := by decide +kernel
theorem dh32_6 : decode method_6_code 6 = .ok (.iaload, 1) := by decide +kernel
theorem dh32_7 : decode method_6_code 7 = .ok (.istore 4, 2) := by decide +kernel
theorem dh32_9 : decode method_6_code 9 = .ok (.iload_n 3, 1) := by decide +kernel
theorem dh32_10 : decode method_6_code 10 = .ok (.iconst (-1), 1) := by decide +kernel
theorem dh32_11 : decode method_6_code 11 = .ok (.if_icmp .eq 24, 3) := by decide +kernel
theorem dh32_14 : decode method_6_code 14 = .ok (.iload_n 3, 1) := by decide +kernel
theorem dh32_15 : decode method_6_code 15 = .ok (.iload 4, 2) := by decide +kernel
theorem dh32_17 : decode method_6_code 17 = .ok (.if_icmp .lt 14, 3) := by decide +kernel
theorem dh32_20 : decode method_6_code 20 = .ok (.iload_n 3, 1) := by decide +kernel
theorem dh32_21 : decode method_6_code 21 = .ok (.iload 4, 2) := by decide +kernel
theorem dh32_23 : decode method_6_code 23 = .ok (.if_icmp .ne 12, 3) := by decide +kernel
theorem dh32_26 : decode method_6_code 26 = .ok (.iload_n 1, 1) := by decide +kernel
theorem dh32_27 : decode method_6_code 27 = .ok (.iload_n 2, 1) := by decide +kernel
theorem dh32_28 : decode method_6_code 28 = .ok (.if_icmp .ge 7, 3) := by decide +kernel
theorem dh32_31 : decode method_6_code 31 = .ok (.iconst 1, 1) := by decide +kernel
theorem dh32_32 : decode method_6_code 32 = .ok (.goto 4, 3) := by decide +kernel
theorem dh32_35 : decode method_6_code 35 = .ok (.iconst 0, 1) := by decide +kernel
theorem dh32_36 : decode method_6_code 36 = .ok (.ireturn, 1) := by decide +kernel
theorem pnh32 : plainName "com/example/rootward/rootward/model/InstanceGroupPinLaw" = true := by first | (simp [plainName, overriddenIn]; done) | decide +kernel
theorem efh32 (m : MethodId) (x0 : Addr) (x1 : Int32) (x2 : Int32) : entryFrame m #[(.ref x0), (.int x1), (.int x2)] 5 = mkF m 0 #[.val (.ref x0), .val (.int x1), .val (.int x2), .unset, .unset] [] := by first | (simp [entryFrame, mkF, argsToLocals, Value.category, maxLocals]; done) | rfl
def fA32 (w0 : Int32) (w1 : Int32) (w2 : Int32) (w3 : Int32) : Int32 := (if w3 = (-1 : Int32) then (0 : Int32) else (if w3 < w2 then (1 : Int32) else (if w3 = w2 then (0 : Int32) else (0 : Int32))))
def Qh32 (Z : State) (a : Addr) (ka : ClassId) (w0 : Int32) (w1 : Int32) (w2 : Int32) (w3 : Int32) (h0 : Heap) (n0 : Nat) (v : Option Value) (h : Heap) (L : List Loc) : Prop := v = some (.int (fA32 w0 w1 w2 w3)) ∧ Fr n0 L ∧ h = h0
set_option maxRecDepth 65536 in
set_option maxHeartbeats 40000000 in
theorem rmh32 (l : Launch) (Z : State) (a0 : Array Value) (hw : ∀ d ∈ tables_1, d.before a0 Z = true) (ws : List Jvm.Cond) (a : Addr) (ka : ClassId) (w0 : Int32) (w1 : Int32) (w2 : Int32) (w3 : Int32) (h0 : Heap) (n0 : Nat) (O0 : Old Z n0 h0) (V_a : Arv Z h0 a ka .int (4 : Int32) [(.int w0), (.int w1), (.int w2), (.int w3)] (.int (0 : Int32))) :
    MetFree l (⟨"com/example/rootward/rootward/model/InstanceGroupPinLaw", "ahead", "([III)I"⟩ : MethodName) (head1 (Jvm.Cond.code (⟨"com/example/rootward/rootward/model/InstanceGroupPinLaw", "ahead", "([III)I"⟩ : MethodName) method_6_code 5 (some .int) :: ws) ({ frames := 0, cells := 0, slots := 0, locals := 0 } : Room)) (fun A_ U_ => A_ = #[(.ref a), (.int (3 : Int32)), (.int (2 : Int32))] ∧ Z.Warmed39 U_.vm ∧ U_.heap = h0) (fun _ _ _ _ _ => True) (fun _ U o U' => ∃ v L, o = .returned v ∧ Qh32 Z a ka w0 w1 w2 w3 h0 n0 v U'.heap L ∧ FrameEnd U o U' L ({ frames := 0, cells := 0, slots := 0, locals := 0 } : Room).cells ({ frames := 0, cells := 0, slots := 0, locals := 0 } : Room).slots) := by
  refine MetFree.of_bodySF (plainFor_of_name pnh32) hisR ?_
  intro p e s m args below meth cd s₁ Bd hml0 hP hK
  obtain ⟨rfl, hZ, hh⟩ := hP
  have hx := Bd.exec
  have hby := Bd.bytes
  have hlk : meth.locks = false := BodyLoose.notSynchronized Bd
  have hml : cd.maxLocals = 5 := hml0
  have hown : s.vm.findClass "com/example/rootward/rootward/model/InstanceGroupPinLaw" = some m.cls := findClass_of_methodNamed Bd.named
  have hnm := (name_of_methodNamed Bd.named Bd.method).1
  have X0 : Stand p l e ({ frames := 0, cells := 0, slots := 0, locals := 0 } : Room) s m #[(.ref a), (.int (3 : Int32)), (.int (2 : Int32))] below meth cd s₁ [] 0 0 := Stand.of_body Bd
  have e0 : s₁.heap = h0 := by rw [← hh, Bd.state]; rfl
  have N0 := Fr.nil n0
  have G : Go p e below s 0 0 (Qh32 Z a ka w0 w1 w2 w3 h0 n0) (s₁.setTop (mkF m 0 #[.val (.ref a), .val (.int (3 : Int32)), .val (.int (2 : Int32)), .unset, .unset] [])) := by
    show Go p e below s _ _ _ (s₁.setTop (mkF m 0 #[.val (.ref a), .val (.int (3 : Int32)), .val (.int (2 : Int32)), .unset, .unset] []))
    refine Go.st (fun _ kq_ => XS.aloadN X0.here hx rfl (hb hby dh32_0) rfl rfl kq_) ?_
    show Go p e below s _ _ _ (s₁.setTop (mkF m 1 #[.val (.ref a), .val (.int (3 : Int32)), .val (.int (2 : Int32)), .unset, .unset] [(.ref a)]))
    refine Go.st (fun _ kq_ => XS.iloadN X0.here hx rfl (hb hby dh32_1) rfl kq_) ?_
    show Go p e below s _ _ _ (s₁.setTop (mkF m 2 #[.val (.ref a), .val (.int (3 : Int32)), .val (.int (2 : Int32)), .unset, .unset] [(.int (3 : Int32)), (.ref a)]))
    refine Go.st (fun _ kq_ => own_iaload X0 hx hZ e0 V_a (by decide) (by decide) (v := (.int w3)) rfl (g := (mkF m 2 #[.val (.ref a), .val (.int (3 : Int32)), .val (.int (2 : Int32)), .unset, .unset] [(.int (3 : Int32)), (.ref a)])) rfl rfl (hb hby dh32_2) _ kq_) ?_
    show Go p e below s _ _ _ (s₁.setTop (mkF m 3 #[.val (.ref a), .val (.int (3 : Int32)), .val (.int (2 : Int32)), .unset, .unset] [(.int w3)]))
    refine Go.st (fun _ kq_ => XS.istoreN X0.here hx rfl (hb hby dh32_3) rfl (l' := #[.val (.ref a), .val (.int (3 : Int32)), .val (.int (2 : Int32)), .val (.int w3), .unset]) rfl kq_) ?_
    show Go p e below s _ _ _ (s₁.setTop (mkF m 4 #[.val (.ref a), .val (.int (3 : Int32)), .val (.int (2 : Int32)), .val (.int w3), .unset] []))
    refine Go.st (fun _ kq_ => XS.aloadN X0.here hx rfl (hb hby dh32_4) rfl rfl kq_) ?_
    show Go p e below s _ _ _ (s₁.setTop (mkF m 5 #[.val (.ref a), .val (.int (3 : Int32)), .val (.int (2 : Int32)), .val (.int w3), .unset] [(.ref a)]))
    refine Go.st (fun _ kq_ => XS.iloadN X0.here hx rfl (hb hby dh32_5) rfl kq_) ?_
    show Go p e below s _ _ _ (s₁.setTop (mkF m 6 #[.val (.ref a), .val (.int (3 : Int32)), .val (.int (2 : Int32)), .val (.int w3), .unset] [(.int (2 : Int32)), (.ref a)]))
    refine Go.st (fun _ kq_ => own_iaload X0 hx hZ e0 V_a (by decide) (by decide) (v := (.int w2)) rfl (g := (mkF m 6 #[.val (.ref a), .val (.int (3 : Int32)), .val (.int (2 : Int32)), .val (.int w3), .unset] [(.int (2 : Int32)), (.ref a)])) rfl rfl (hb hby dh32_6) _ kq_) ?_
    show Go p e below s _ _ _ (s₁.setTop (mkF m 7 #[.val (.ref a), .val (.int (3 : Int32)), .val (.int (2 : Int32)), .val (.int w3), .unset] [(.int w2)]))
    refine Go.st (fun _ kq_ => XS.istore X0.here hx rfl (hb hby dh32_7) rfl (l' := #[.val (.ref a), .val (.int (3 : Int32)), .val (.int (2 : Int32)), .val (.int w3), .val (.int w2)]) rfl kq_) ?_
    show Go p e below s _ _ _ (s₁.setTop (mkF m 9 #[.val (.ref a), .val (.int (3 : Int32)), .val (.int (2 : Int32)), .val (.int w3), .val (.int w2)] []))
    refine Go.st (fun _ kq_ => XS.iloadN X0.here hx rfl (hb hby dh32_9) rfl kq_) ?_
    show Go p e below s _ _ _ (s₁.setTop (mkF m 10 #[.val (.ref a), .val (.int (3 : Int32)), .val (.int (2 : Int32)), .val (.int w3), .val (.int w2)] [(.int w3)]))
    refine Go.st (fun _ kq_ => XS.iconst X0.here hx rfl (hb hby dh32_10) kq_) ?_
    show Go p e below s _ _ _ (s₁.setTop (mkF m 11 #[.val (.ref a), .val (.int (3 : Int32)), .val (.int (2 : Int32)), .val (.int w3), .val (.int w2)] [(.int (-1 : Int32)), (.int w3)]))
    by_cases c11_1 : w3 = (-1 : Int32)
    · refine Go.st (fun _ kq_ => XS.icmpYes X0.here hx rfl (pc0 := 11) (pc' := 35) rfl (hb hby dh32_11) rfl (XT.ii_eq_t c11_1) (by decide) (by decide) kq_) ?_
      show Go p e below s _ _ _ (s₁.setTop (mkF m 35 #[.val (.ref a), .val (.int (3 : Int32)), .val (.int (2 : Int32)), .val (.int w3), .val (.int w2)] []))
      refine Go.st (fun _ kq_ => XS.iconst X0.here hx rfl (hb hby dh32_35) kq_) ?_
      show Go p e below s _ _ _ (s₁.setTop (mkF m 36 #[.val (.ref a), .val (.int (3 : Int32)), .val (.int (2 : Int32)), .val (.int w3), .val (.int w2)] [(.int (0 : Int32))]))
      exact Go.ret X0 hlk (some (.int (0 : Int32))) (fun h => by rw [Bd.returns] at h; cases h) (by rw [e0]; exact ⟨own_res (z' := (0 : Int32)) (by unfold fA32; rw [if_pos c11_1]) rfl, N0, rfl⟩) (by decide) (by decide) (fun fs hr => retI X0 hx Bd.returns (hb hby dh32_36) hr)
    · refine Go.st (fun _ kq_ => XS.icmpNo X0.here hx rfl (hb hby dh32_11) rfl (XT.ii_eq_f c11_1) kq_) ?_
      show Go p e below s _ _ _ (s₁.setTop (mkF m 14 #[.val (.ref a), .val (.int (3 : Int32)), .val (.int (2 : Int32)), .val (.int w3), .val (.int w2)] []))
      refine Go.st (fun _ kq_ => XS.iloadN X0.here hx rfl (hb hby dh32_14) rfl kq_) ?_
      show Go p e below s _ _ _ (s₁.setTop (mkF m 15 #[.val (.ref a), .val (.int (3 : Int32)), .val (.int (2 : Int32)), .val (.int w3), .val (.int w2)] [(.int w3)]))
      refine Go.st (fun _ kq_ => XS.iload X0.here hx rfl (hb hby dh32_15) rfl kq_) ?_
      show Go p e below s _ _ _ (s₁.setTop (mkF m 17 #[.val (.ref a), .val (.int (3 : Int32)), .val (.int (2 : Int32)), .val (.int w3), .val (.int w2)] [(.int w2), (.int w3)]))
      by_cases c17_2 : w3 < w2
      · refine Go.st (fun _ kq_ => XS.icmpYes X0.here hx rfl (pc0 := 17) (pc' := 31) rfl (hb hby dh32_17) rfl (XT.ii_lt_t c17_2) (by decide) (by decide) kq_) ?_
        show Go p e below s _ _ _ (s₁.setTop (mkF m 31 #[.val (.ref a), .val (.int (3 : Int32)), .val (.int (2 : Int32)), .val (.int w3), .val (.int w2)] []))
        refine Go.st (fun _ kq_ => XS.iconst X0.here hx rfl (hb hby dh32_31) kq_) ?_
        show Go p e below s _ _ _ (s₁.setTop (mkF m 32 #[.val (.ref a), .val (.int (3 : Int32)), .val (.int (2 : Int32)), .val (.int w3), .val (.int w2)] [(.int (1 : Int32))]))
        refine Go.st (fun _ kq_ => XS.goto X0.here hx rfl (pc0 := 32) (pc' := 36) rfl (hb hby dh32_32) (by decide) (by decide) kq_) ?_
        show Go p e below s _ _ _ (s₁.setTop (mkF m 36 #[.val (.ref a), .val (.int (3 : Int32)), .val (.int (2 : Int32)), .val (.int w3), .val (.int w2)] [(.int (1 : Int32))]))
        exact Go.ret X0 hlk (some (.int (1 : Int32))) (fun h => by rw [Bd.returns] at h; cases h) (by rw [e0]; exact ⟨own_res (z' := (1 : Int32)) (by unfold fA32; rw [if_neg c11_1, if_pos c17_2]) rfl, N0, rfl⟩) (by decide) (by decide) (fun fs hr => retI X0 hx Bd.returns (hb hby dh32_36) hr)
      · refine Go.st (fun _ kq_ => XS.icmpNo X0.here hx rfl (hb hby dh32_17) rfl (XT.ii_lt_f c17_2) kq_) ?_
        show Go p e below s _ _ _ (s₁.setTop (mkF m 20 #[.val (.ref a), .val (.int (3 : Int32)), .val (.int (2 : Int32)), .val (.int w3), .val (.int w2)] []))
        refine Go.st (fun _ kq_ => XS.iloadN X0.here hx rfl (hb hby dh32_20) rfl kq_) ?_
        show Go p e below s _ _ _ (s₁.setTop (mkF m 21 #[.val (.ref a), .val (.int (3 : Int32)), .val (.int (2 : Int32)), .val (.int w3), .val (.int w2)] [(.int w3)]))
        refine Go.st (fun _ kq_ => XS.iload X0.here hx rfl (hb hby dh32_21) rfl kq_) ?_
        show Go p e below s _ _ _ (s₁.setTop (mkF m 23 #[.val (.ref a), .val (.int (3 : Int32)), .val (.int (2 : Int32)), .val (.int w3), .val (.int w2)] [(.int w2), (.int w3)]))
        by_cases c23_3 : w3 = w2
        · refine Go.st (fun _ kq_ => XS.icmpNo X0.here hx rfl (hb hby dh32_23) rfl (XT.ii_ne_f c23_3) kq_) ?_
          show Go p e below s _ _ _ (s₁.setTop (mkF m 26 #[.val (.ref a), .val (.int (3 : Int32)), .val (.int (2 : Int32)), .val (.int w3), .val (.int w2)] []))
          refine Go.st (fun _ kq_ => XS.iloadN X0.here hx rfl (hb hby dh32_26) rfl kq_) ?_
          show Go p e below s _ _ _ (s₁.setTop (mkF m 27 #[.val (.ref a), .val (.int (3 : Int32)), .val (.int (2 : Int32)), .val (.int w3), .val (.int w2)] [(.int (3 : Int32))]))
          refine Go.st (fun _ kq_ => XS.iloadN X0.here hx rfl (hb hby dh32_27) rfl kq_) ?_
          show Go p e below s _ _ _ (s₁.setTop (mkF m 28 #[.val (.ref a), .val (.int (3 : Int32)), .val (.int (2 : Int32)), .val (.int w3), .val (.int w2)] [(.int (2 : Int32)), (.int (3 : Int32))]))
          refine Go.st (fun _ kq_ => XS.icmpYes X0.here hx rfl (pc0 := 28) (pc' := 35) rfl (hb hby dh32_28) rfl (by decide) (by decide) (by decide) kq_) ?_
          show Go p e below s _ _ _ (s₁.setTop (mkF m 35 #[.val (.ref a), .val (.int (3 : Int32)), .val (.int (2 : Int32)), .val (.int w3), .val (.int w2)] []))
          refine Go.st (fun _ kq_ => XS.iconst X0.here hx rfl (hb hby dh32_35) kq_) ?_
          show Go p e below s _ _ _ (s₁.setTop (mkF m 36 #[.val (.ref a), .val (.int (3 : Int32)), .val (.int (2 : Int32)), .val (.int w3), .val (.int w2)] [(.int (0 : Int32))]))
          exact Go.ret X0 hlk (some (.int (0 : Int32))) (fun h => by rw [Bd.returns] at h; cases h) (by rw [e0]; exact ⟨own_res (z' := (0 : Int32)) (by unfold fA32; rw [if_neg c11_1, if_neg c17_2, if_pos c23_3]) rfl, N0, rfl⟩) (by decide) (by decide) (fun fs hr => retI X0 hx Bd.returns (hb hby dh32_36) hr)
        · refine Go.st (fun _ kq_ => XS.icmpYes X0.here hx rfl (pc0 := 23) (pc' := 35) rfl (hb hby dh32_23) rfl (XT.ii_ne_t c23_3) (by decide) (by decide) kq_) ?_
          show Go p e below s _ _ _ (s₁.setTop (mkF m 35 #[.val (.ref a), .val (.int (3 : Int32)), .val (.int (2 : Int32)), .val (.int w3), .val (.int w2)] []))
          refine Go.st (fun _ kq_ => XS.iconst X0.here hx rfl (hb hby dh32_35) kq_) ?_
          show Go p e below s _ _ _ (s₁.setTop (mkF m 36 #[.val (.ref a), .val (.int (3 : Int32)), .val (.int (2 : Int32)), .val (.int w3), .val (.int w2)] [(.int (0 : Int32))]))
          exact Go.ret X0 hlk (some (.int (0 : Int32))) (fun h => by rw [Bd.returns] at h; cases h) (by rw [e0]; exact ⟨own_res (z' := (0 : Int32)) (by unfold fA32; rw [if_neg c11_1, if_neg c17_2, if_neg c23_3]) rfl, N0, rfl⟩) (by decide) (by decide) (fun fs hr => retI X0 hx Bd.returns (hb hby dh32_36) hr)
  obtain ⟨s2, o2, st2, r2⟩ := G
  exact ⟨s2, o2, castTop (efh32 m a (3 : Int32) (2 : Int32)) st2, r2⟩
theorem dh33_0 : decode method_6_code 0 = .ok (.aload_n 0, 1) := by decide +kernel
theorem dh33_1 : decode method_6_code 1 = .ok (.iload_n 1, 1) := by decide +kernel
theorem dh33_2 : decode method_6_code 2 = .ok (.iaload, 1) := by decide +kernel
theorem dh33_3 : decode method_6_code 3 = .ok (.istore_n 3, 1) := by decide +kernel
theorem dh33_4 : decode method_6_code 4 = .ok (.aload_n 0, 1) := by decide +kernel
theorem dh33_5 : decode method_6_code 5 = .ok (.iload_n 2, 1) := by decide +kernel
theorem dh33_6 : decode method_6_code 6 = .ok (.iaload, 1) := by decide +kernel
theorem dh33_7 : decode method_6_code 7 = .ok (.istore 4, 2) := by decide +kernel
theorem dh33_9 : decode method_6_code 9 = .ok (.iload_n 3, 1) := by decide +kernel
theorem dh33_10 : decode method_6_code 10 = .ok (.iconst (-1), 1) := by decide +kernel
theorem dh33_11 : decode method_6_code 11 = .ok (.if_icmp .eq 24, 3) := by decide +kernel
theorem dh33_14 : decode method_6_code 14 = .ok (.iload_n 3, 1) := by decide +kernel
theorem dh33_15 : decode method_6_code 15 = .ok (.iload 4, 2) := by decide +kernel
theorem dh33_17 : decode method_6_code 17 = .ok (.if_icmp .lt 14, 3) := by decide +kernel
theorem dh33_20 : decode method_6_code 20 = .ok (.iload_n 3, 1) := by decide +kernel
theorem dh33_21 : decode method_6_code 21 = .ok (.iload 4, 2) := by decide +kernel
theorem dh33_23 : decode method_6_code 23 = .ok (.if_icmp .ne 12, 3) := by decide +kernel
theorem dh33_26 : decode method_6_code 26 = .ok (.iload_n 1, 1) := by decide +kernel
theorem dh33_27 : decode method_6_code 27 = .ok (.iload_n 2, 1) := by decide +kernel
theorem dh33_28 : decode method_6_code 28 = .ok (.if_icmp .ge 7, 3) := by decide +kernel
theorem dh33_31 : decode method_6_code 31 = .ok (.iconst 1, 1) := by decide +kernel
theorem dh33_32 : decode method_6_code 32 = .ok (.goto 4, 3) := by decide +kernel
theorem dh33_35 : decode method_6_code 35 = .ok (.iconst 0, 1) := by decide +kernel
theorem dh33_36 : decode method_6_code 36 = .ok (.ireturn, 1) := by decide +kernel
theorem pnh33 : plainName "com/example/rootward/rootward/model/InstanceGroupPinLaw" = true := by first | (simp [plainName, overriddenIn]; done) | decide +kernel
theorem efh33 (m : MethodId) (x0 : Addr) (x1 : Int32) (x2 : Int32) : entryFrame m #[(.ref x0), (.int x1), (.int x2)] 5 = mkF m 0 #[.val (.ref x0), .val (.int x1), .val (.int x2), .unset, .unset] [] := by first | (simp [entryFrame, mkF, argsToLocals, Value.category, maxLocals]; done) | rfl
def fA33 (w0 : Int32) (w1 : Int32) (w2 : Int32) (w3 : Int32) : Int32 := (if w3 = (-1 : Int32) then (0 : Int32) else (if w3 < w3 then (1 : Int32) else (if w3 = w3 then (0 : Int32) else (0 : Int32))))
def Qh33 (Z : State) (a : Addr) (ka : ClassId) (w0 : Int32) (w1 : Int32) (w2 : Int32) (w3 : Int32) (h0 : Heap) (n0 : Nat) (v : Option Value) (h : Heap) (L : List Loc) : Prop := v = some (.int (fA33 w0 w1 w2 w3)) ∧ Fr n0 L ∧ h = h0
set_option maxRecDepth 65536 in
set_option maxHeartbeats 40000000 in
theorem rmh33 (l : Launch) (Z : State) (a0 : Array Value) (hw : ∀ d ∈ tables_1, d.before a0 Z = true) (ws : List Jvm.Cond) (a : Addr) (ka : ClassId) (w0 : Int32) (w1 : Int32) (w2 : Int32) (w3 : Int32) (h0 : Heap) (n0 : Nat) (O0 : Old Z n0 h0) (V_a : Arv Z h0 a ka .int (4 : Int32) [(.int w0), (.int w1), (.int w2), (.int w3)] (.int (0 : Int32))) :
    MetFree l (⟨"com/example/rootward/rootward/model/InstanceGroupPinLaw", "ahead", "([III)I"⟩ : MethodName) (head1 (Jvm.Cond.code (⟨"com/example/rootward/rootward/model/InstanceGroupPinLaw", "ahead", "([III)I"⟩ : MethodName) method_6_code 5 (some .int) :: ws) ({ frames := 0, cells := 0, slots := 0, locals := 0 } : Room)) (fun A_ U_ => A_ = #[(.ref a), (.int (3 : Int32)), (.int (3 : Int32))] ∧ Z.Warmed39 U_.vm ∧ U_.heap = h0) (fun _ _ _ _ _ => True) (fun _ U o U' => ∃ v L, o = .returned v ∧ Qh33 Z a ka w0 w1 w2 w3 h0 n0 v U'.heap L ∧ FrameEnd U o U' L ({ frames := 0, cells := 0, slots := 0, locals := 0 } : Room).cells ({ frames := 0, cells := 0, slots := 0, locals := 0 } : Room).slots) := by
  refine MetFree.of_bodySF (plainFor_of_name pnh33) hisR ?_
  intro p e s m args below meth cd s₁ Bd hml0 hP hK
  obtain ⟨rfl, hZ, hh⟩ := hP
  have hx := Bd.exec
  have hby := Bd.bytes
  have hlk : meth.locks = false := BodyLoose.notSynchronized Bd
  have hml : cd.maxLocals = 5 := hml0
  have hown : s.vm.findClass "com/example/rootward/rootward/model/InstanceGroupPinLaw" = some m.cls := findClass_of_methodNamed Bd.named
  have hnm := (name_of_methodNamed Bd.named Bd.method).1
  have X0 : Stand p l e ({ frames := 0, cells := 0, slots := 0, locals := 0 } : Room) s m #[(.ref a), (.int (3 : Int32)), (.int (3 : Int32))] below meth cd s₁ [] 0 0 := Stand.of_body Bd
  have e0 : s₁.heap = h0 := by rw [← hh, Bd.state]; rfl
  have N0 := Fr.nil n0
  have G : Go p e below s 0 0 (Qh33 Z a ka w0 w1 w2 w3 h0 n0) (s₁.setTop (mkF m 0 #[.val (.ref a), .val (.int (3 : Int32)), .val (.int (3 : Int32)), .unset, .unset] [])) := by
    show Go p e below s _ _ _ (s₁.setTop (mkF m 0 #[.val (.ref a), .val (.int (3 : Int32)), .val (.int (3 : Int32)), .unset, .unset] []))
    refine Go.st (fun _ kq_ => XS.aloadN X0.here hx rfl (hb hby dh33_0) rfl rfl kq_) ?_
    show Go p e below s _ _ _ (s₁.setTop (mkF m 1 #[.val (.ref a), .val (.int (3 : Int32)), .val (.int (3 : Int32)), .unset, .unset] [(.ref a)]))
    refine Go.st (fun _ kq_ => XS.iloadN X0.here hx rfl (hb hby dh33_1) rfl kq_) ?_
    show Go p e below s _ _ _ (s₁.setTop (mkF m 2 #[.val (.ref a), .val (.int (3 : Int32)), .val (.int (3 : Int32)), .unset, .unset] [(.int (3 : Int32)), (.ref a)]))
    refine Go.st (fun _ kq_ => own_iaload X0 hx hZ e0 V_a (by decide) (by decide) (v := (.int w3)) rfl (g := (mkF m 2 #[.val (.ref a), .val (.int (3 : Int32)), .val (.int (3 : Int32)), .unset, .unset] [(.int (3 : Int32)), (.ref a)])) rfl rfl (hb hby dh33_2) _ kq_) ?_
    show Go p e below s _ _ _ (s₁.setTop (mkF m 3 #[.val (.ref a), .val (.int (3 : Int32)), .val (.int (3 : Int32)), .unset, .unset] [(.int w3)]))
    refine Go.st (fun _ kq_ => XS.istoreN X0.here hx rfl (hb hby dh33_3) rfl (l' := #[.val (.ref a), .val (.int (3 : Int32)), .val (.int (3 : Int32)), .val (.int w3), .unset]) rfl kq_) ?_
    show Go p e below s _ _ _ (s₁.setTop (mkF m 4 #[.val (.ref a), .val (.int (3 : Int32)), .val (.int (3 : Int32)), .val (.int w3), .unset] []))
    refine Go.st (fun _ kq_ => XS.aloadN X0.here hx rfl (hb hby dh33_4) rfl rfl kq_) ?_
    show Go p e below s _ _ _ (s₁.setTop (mkF m 5 #[.val (.ref a), .val (.int (3 : Int32)), .val (.int (3 : Int32)), .val (.int w3), .unset] [(.ref a)]))
    refine Go.st (fun _ kq_ => XS.iloadN X0.here hx rfl (hb hby dh33_5) rfl kq_) ?_
    show Go p e below s _ _ _ (s₁.setTop (mkF m 6 #[.val (.ref a), .val (.int (3 : Int32)), .val (.int (3 : Int32)), .val (.int w3), .unset] [(.int (3 : Int32)), (.ref a)]))
    refine Go.st (fun _ kq_ => own_iaload X0 hx hZ e0 V_a (by decide) (by decide) (v := (.int w3)) rfl (g := (mkF m 6 #[.val (.ref a), .val (.int (3 : Int32)), .val (.int (3 : Int32)), .val (.int w3), .unset] [(.int (3 : Int32)), (.ref a)])) rfl rfl (hb hby dh33_6) _ kq_) ?_
    show Go p e below s _ _ _ (s₁.setTop (mkF m 7 #[.val (.ref a), .val (.int (3 : Int32)), .val (.int (3 : Int32)), .val (.int w3), .unset] [(.int w3)]))
    refine Go.st (fun _ kq_ => XS.istore X0.here hx rfl (hb hby dh33_7) rfl (l' := #[.val (.ref a), .val (.int (3 : Int32)), .val (.int (3 : Int32)), .val (.int w3), .val (.int w3)]) rfl kq_) ?_
    show Go p e below s _ _ _ (s₁.setTop (mkF m 9 #[.val (.ref a), .val (.int (3 : Int32)), .val (.int (3 : Int32)), .val (.int w3), .val (.int w3)] []))
    refine Go.st (fun _ kq_ => XS.iloadN X0.here hx rfl (hb hby dh33_9) rfl kq_) ?_
    show Go p e below s _ _ _ (s₁.setTop (mkF m 10 #[.val (.ref a), .val (.int (3 : Int32)), .val (.int (3 : Int32)), .val (.int w3), .val (.int w3)] [(.int w3)]))
    refine Go.st (fun _ kq_ => XS.iconst X0.here hx rfl (hb hby dh33_10) kq_) ?_
    show Go p e below s _ _ _ (s₁.setTop (mkF m 11 #[.val (.ref a), .val (.int (3 : Int32)), .val (.int (3 : Int32)), .val (.int w3), .val (.int w3)] [(.int (-1 : Int32)), (.int w3)]))
    by_cases c11_1 : w3 = (-1 : Int32)
    · refine Go.st (fun _ kq_ => XS.icmpYes X0.here hx rfl (pc0 := 11) (pc' := 35) rfl (hb hby dh33_11) rfl (XT.ii_eq_t c11_1) (by decide) (by decide) kq_) ?_
      show Go p e below s _ _ _ (s₁.setTop (mkF m 35 #[.val (.ref a), .val (.int (3 : Int32)), .val (.int (3 : Int32)), .val (.int w3), .val (.int w3)] []))
      refine Go.st (fun _ kq_ => XS.iconst X0.here hx rfl (hb hby dh33_35) kq_) ?_
      show Go p e below s _ _ _ (s₁.setTop (mkF m 36 #[.val (.ref a), .val (.int (3 : Int32)), .val (.int (3 : Int32)), .val (.int w3), .val (.int w3)] [(.int (0 : Int32))]))
      exact Go.ret X0 hlk (some (.int (0 : Int32))) (fun h => by rw [Bd.returns] at h; cases h) (by rw [e0]; exact ⟨own_res (z' := (0 : Int32)) (by unfold fA33; rw [if_pos c11_1]) rfl, N0, rfl⟩) (by decide) (by decide) (fun fs hr => retI X0 hx Bd.returns (hb hby dh33_36) hr)
    · refine Go.st (fun _ kq_ => XS.icmpNo X0.here hx rfl (hb hby dh33_11) rfl (XT.ii_eq_f c11_1) kq_) ?_
      show Go p e below s _ _ _ (s₁.setTop (mkF m 14 #[.val (.ref a), .val (.int (3 : Int32)), .val (.int (3 : Int32)), .val (.int w3), .val (.int w3)] []))
      refine Go.st (fun _ kq_ => XS.iloadN X0.here hx rfl (hb hby dh33_14) rfl kq_) ?_
      show Go p e below s _ _ _ (s₁.setTop (mkF m 15 #[.val (.ref a), .val (.int (3 : Int32)), .val (.int (3 : Int32)), .val (.int w3), .val (.int w3)] [(.int w3)]))
      refine Go.st (fun _ kq_ => XS.iload X0.here hx rfl (hb hby dh33_15) rfl kq_) ?_
      show Go p e below s _ _ _ (s₁.setTop (mkF m 17 #[.val (.ref a), .val (.int (3 : Int32)), .val (.int (3 : Int32)), .val (.int w3), .val (.int w3)] [(.int w3), (.int w3)]))
      by_cases c17_2 : w3 < w3
      · refine Go.st (fun _ kq_ => XS.icmpYes X0.here hx rfl (pc0 := 17) (pc' := 31) rfl (hb hby dh33_17) rfl (XT.ii_lt_t c17_2) (by decide) (by decide) kq_) ?_
        show Go p e below s _ _ _ (s₁.setTop (mkF m 31 #[.val (.ref a), .val (.int (3 : Int32)), .val (.int (3 : Int32)), .val (.int w3), .val (.int w3)] []))
        refine Go.st (fun _ kq_ => XS.iconst X0.here hx rfl (hb hby dh33_31) kq_) ?_
        show Go p e below s _ _ _ (s₁.setTop (mkF m 32 #[.val (.ref a), .val (.int (3 : Int32)), .val (.int (3 : Int32)), .val (.int w3), .val (.int w3)] [(.int (1 : Int32))]))
        refine Go.st (fun _ kq_ => XS.goto X0.here hx rfl (pc0 := 32) (pc' := 36) rfl (hb hby dh33_32) (by decide) (by decide) kq_) ?_
        show Go p e below s _ _ _ (s₁.setTop (mkF m 36 #[.val (.ref a), .val (.int (3 : Int32)), .val (.int (3 : Int32)), .val (.int w3), .val (.int w3)] [(.int (1 : Int32))]))
        exact Go.ret X0 hlk (some (.int (1 : Int32))) (fun h => by rw [Bd.returns] at h; cases h) (by rw [e0]; exact ⟨own_res (z' := (1 : Int32)) (by unfold fA33; rw [if_neg c11_1, if_pos c17_2]) rfl, N0, rfl⟩) (by decide) (by decide) (fun fs hr => retI X0 hx Bd.returns (hb hby dh33_36) hr)
      · refine Go.st (fun _ kq_ => XS.icmpNo X0.here hx rfl (hb hby dh33_17) rfl (XT.ii_lt_f c17_2) kq_) ?_
        show Go p e below s _ _ _ (s₁.setTop (mkF m 20 #[.val (.ref a), .val (.int (3 : Int32)), .val (.int (3 : Int32)), .val (.int w3), .val (.int w3)] []))
        refine Go.st (fun _ kq_ => XS.iloadN X0.here hx rfl (hb hby dh33_20) rfl kq_) ?_
        show Go p e below s _ _ _ (s₁.setTop (mkF m 21 #[.val (.ref a), .val (.int (3 : Int32)), .val (.int (3 : Int32)), .val (.int w3), .val (.int w3)] [(.int w3)]))
        refine Go.st (fun _ kq_ => XS.iload X0.here hx rfl (hb hby dh33_21) rfl kq_) ?_
        show Go p e below s _ _ _ (s₁.setTop (mkF m 23 #[.val (.ref a), .val (.int (3 : Int32)), .val (.int (3 : Int32)), .val (.int w3), .val (.int w3)] [(.int w3), (.int w3)]))
        by_cases c23_3 : w3 = w3
        · refine Go.st (fun _ kq_ => XS.icmpNo X0.here hx rfl (hb hby dh33_23) rfl (XT.ii_ne_f c23_3) kq_) ?_
          show Go p e below s _ _ _ (s₁.setTop (mkF m 26 #[.val (.ref a), .val (.int (3 : Int32)), .val (.int (3 : Int32)), .val (.int w3), .val (.int w3)] []))
          refine Go.st (fun _ kq_ => XS.iloadN X0.here hx rfl (hb hby dh33_26) rfl kq_) ?_
          show Go p e below s _ _ _ (s₁.setTop (mkF m 27 #[.val (.ref a), .val (.int (3 : Int32)), .val (.int (3 : Int32)), .val (.int w3), .val (.int w3)] [(.int (3 : Int32))]))
          refine Go.st (fun _ kq_ => XS.iloadN X0.here hx rfl (hb hby dh33_27) rfl kq_) ?_
          show Go p e below s _ _ _ (s₁.setTop (mkF m 28 #[.val (.ref a), .val (.int (3 : Int32)), .val (.int (3 : Int32)), .val (.int w3), .val (.int w3)] [(.int (3 : Int32)), (.int (3 : Int32))]))
          refine Go.st (fun _ kq_ => XS.icmpYes X0.here hx rfl (pc0 := 28) (pc' := 35) rfl (hb hby dh33_28) rfl (by decide) (by decide) (by decide) kq_) ?_
          show Go p e below s _ _ _ (s₁.setTop (mkF m 35 #[.val (.ref a), .val (.int (3 : Int32)), .val (.int (3 : Int32)), .val (.int w3), .val (.int w3)] []))
          refine Go.st (fun _ kq_ => XS.iconst X0.here hx rfl (hb hby dh33_35) kq_) ?_
          show Go p e below s _ _ _ (s₁.setTop (mkF m 36 #[.val (.ref a), .val (.int (3 : Int32)), .val (.int (3 : Int32)), .val (.int w3), .val (.int w3)] [(.int (0 : Int32))]))
          exact Go.ret X0 hlk (some (.int (0 : Int32))) (fun h => by rw [Bd.returns] at h; cases h) (by rw [e0]; exact ⟨own_res (z' := (0 : Int32)) (by unfold fA33; rw [if_neg c11_1, if_neg c17_2, if_pos c23_3]) rfl, N0, rfl⟩) (by decide) (by decide) (fun fs hr => retI X0 hx Bd.returns (hb hby dh33_36) hr)
        · refine Go.st (fun _ kq_ => XS.icmpYes X0.here hx rfl (pc0 := 23) (pc' := 35) rfl (hb hby dh33_23) rfl (XT.ii_ne_t c23_3) (by decide) (by decide) kq_) ?_
          show Go p e below s _ _ _ (s₁.setTop (mkF m 35 #[.val (.ref a), .val (.int (3 : Int32)), .val (.int (3 : Int32)), .val (.int w3), .val (.int w3)] []))
          refine Go.st (fun _ kq_ => XS.iconst X0.here hx rfl (hb hby dh33_35) kq_) ?_
          show Go p e below s _ _ _ (s₁.setTop (mkF m 36 #[.val (.ref a), .val (.int (3 : Int32)), .val (.int (3 : Int32)), .val (.int w3), .val (.int w3)] [(.int (0 : Int32))]))
          exact Go.ret X0 hlk (some (.int (0 : Int32))) (fun h => by rw [Bd.returns] at h; cases h) (by rw [e0]; exact ⟨own_res (z' := (0 : Int32)) (by unfold fA33; rw [if_neg c11_1, if_neg c17_2, if_neg c23_3]) rfl, N0, rfl⟩) (by decide) (by decide) (fun fs hr => retI X0 hx Bd.returns (hb hby dh33_36) hr)
  obtain ⟨s2, o2, st2, r2⟩ := G
  exact ⟨s2, o2, castTop (efh33 m a (3 : Int32) (3 : Int32)) st2, r2⟩
theorem dr0_0 : decode method_7_code 0 = .ok (.aload_n 0, 1) := by decide +kernel
theorem dr0_1 : decode method_7_code 1 = .ok (.iconst 0, 1) := by decide +kernel
theorem dr0_2 : decode method_7_code 2 = .ok (.iload_n 1, 1) := by decide +kernel
theorem dr0_3 : decode method_7_code 3 = .ok (.invokestatic 30, 3) := by decide +kernel
theorem dr0_6 : decode method_7_code 6 = .ok (.aload_n 0, 1) := by decide +kernel
theorem dr0_7 : decode method_7_code 7 = .ok (.iconst 1, 1) := by decide +kernel
theorem dr0_8 : decode method_7_code 8 = .ok (.iload_n 1, 1) := by decide +kernel
theorem dr0_9 : decode method_7_code 9 = .ok (.invokestatic 30, 3) := by decide +kernel
theorem dr0_12 : decode method_7_code 12 = .ok (.iadd, 1) := by decide +kernel
theorem dr0_13 : decode method_7_code 13 = .ok (.aload_n 0, 1) := by decide +kernel
theorem dr0_14 : decode method_7_code 14 = .ok (.iconst 2, 1) := by decide +kernel
theorem dr0_15 : decode method_7_code 15 = .ok (.iload_n 1, 1) := by decide +kernel
theorem dr0_16 : decode method_7_code 16 = .ok (.invokestatic 30, 3) := by decide +kernel
theorem dr0_19 : decode method_7_code 19 = .ok (.iadd, 1) := by decide +kernel
theorem dr0_20 : decode method_7_code 20 = .ok (.aload_n 0, 1) := by decide +kernel
theorem dr0_21 : decode method_7_code 21 = .ok (.iconst 3, 1) := by decide +kernel
theorem dr0_22 : decode method_7_code 22 = .ok (.iload_n 1, 1) := by decide +kernel
theorem dr0_23 : decode method_7_code 23 = .ok (.invokestatic 30, 3) := by decide +kernel
theorem dr0_26 : decode method_7_code 26 = .ok (.iadd, 1) := by decide +kernel
theorem dr0_27 : decode method_7_code 27 = .ok (.ireturn, 1) := by decide +kernel
theorem pdr0_0 : parseMethodDescriptor "([III)I" = some ⟨[(.array .int), .int, .int], some .int⟩ := by decide +kernel
theorem pnr0 : plainName "com/example/rootward/rootward/model/InstanceGroupPinLaw" = true := by first | (simp [plainName, overriddenIn]; done) | decide +kernel
theorem efr0 (m : MethodId) (x0 : Addr) (x1 : Int32) : entryFrame m #[(.ref x0), (.int x1)] 2 = mkF m 0 #[.val (.ref x0), .val (.int x1)] [] := by first | (simp [entryFrame, mkF, argsToLocals, Value.category, maxLocals]; done) | rfl
def fR0 (w0 : Int32) (w1 : Int32) (w2 : Int32) (w3 : Int32) : Int32 := ((((fA00 w0 w1 w2 w3) + (fA10 w0 w1 w2 w3)) + (fA20 w0 w1 w2 w3)) + (fA30 w0 w1 w2 w3))
def Qr0 (Z : State) (a : Addr) (ka : ClassId) (w0 : Int32) (w1 : Int32) (w2 : Int32) (w3 : Int32) (h0 : Heap) (n0 : Nat) (v : Option Value) (h : Heap) (L : List Loc) : Prop := v = some (.int (fR0 w0 w1 w2 w3)) ∧ Fr n0 L ∧ h = h0
set_option maxRecDepth 65536 in
set_option maxHeartbeats 40000000 in
theorem rmr0 (l : Launch) (Z : State) (a0 : Array Value) (hw : ∀ d ∈ tables_1, d.before a0 Z = true) (ws : List Jvm.Cond) (a : Addr) (ka : ClassId) (w0 : Int32) (w1 : Int32) (w2 : Int32) (w3 : Int32) (h0 : Heap) (n0 : Nat) (O0 : Old Z n0 h0) (V_a : Arv Z h0 a ka .int (4 : Int32) [(.int w0), (.int w1), (.int w2), (.int w3)] (.int (0 : Int32))) :
    MetFree l (⟨"com/example/rootward/rootward/model/InstanceGroupPinLaw", "rank", "([II)I"⟩ : MethodName) (head1 (Jvm.Cond.code (⟨"com/example/rootward/rootward/model/InstanceGroupPinLaw", "rank", "([II)I"⟩ : MethodName) method_7_code 2 (some .int) :: ws) ({ frames := 1, cells := 0, slots := 0, locals := 17 } : Room)) (fun A_ U_ => A_ = #[(.ref a), (.int (0 : Int32))] ∧ Z.Warmed39 U_.vm ∧ U_.heap = h0) (fun _ _ _ _ _ => True) (fun _ U o U' => ∃ v L, o = .returned v ∧ Qr0 Z a ka w0 w1 w2 w3 h0 n0 v U'.heap L ∧ FrameEnd U o U' L ({ frames := 1, cells := 0, slots := 0, locals := 17 } : Room).cells ({ frames := 1, cells := 0, slots := 0, locals := 17 } : Room).slots) := by
  refine MetFree.of_bodySF (plainFor_of_name pnr0) hisR ?_
  intro p e s m args below meth cd s₁ Bd hml0 hP hK
  obtain ⟨rfl, hZ, hh⟩ := hP
  have hx := Bd.exec
  have hby := Bd.bytes
  have hlk : meth.locks = false := BodyLoose.notSynchronized Bd
  have hml : cd.maxLocals = 2 := hml0
  have hown : s.vm.findClass "com/example/rootward/rootward/model/InstanceGroupPinLaw" = some m.cls := findClass_of_methodNamed Bd.named
  have hnm := (name_of_methodNamed Bd.named Bd.method).1
  have X0 : Stand p l e ({ frames := 1, cells := 0, slots := 0, locals := 17 } : Room) s m #[(.ref a), (.int (0 : Int32))] below meth cd s₁ [] 0 0 := Stand.of_body Bd
  have e0 : s₁.heap = h0 := by rw [← hh, Bd.state]; rfl
  have N0 := Fr.nil n0
  have G : Go p e below s 0 0 (Qr0 Z a ka w0 w1 w2 w3 h0 n0) (s₁.setTop (mkF m 0 #[.val (.ref a), .val (.int (0 : Int32))] [])) := by
    show Go p e below s _ _ _ (s₁.setTop (mkF m 0 #[.val (.ref a), .val (.int (0 : Int32))] []))
    refine Go.st (fun _ kq_ => XS.aloadN X0.here hx rfl (hb hby dr0_0) rfl rfl kq_) ?_
    show Go p e below s _ _ _ (s₁.setTop (mkF m 1 #[.val (.ref a), .val (.int (0 : Int32))] [(.ref a)]))
    refine Go.st (fun _ kq_ => XS.iconst X0.here hx rfl (hb hby dr0_1) kq_) ?_
    show Go p e below s _ _ _ (s₁.setTop (mkF m 2 #[.val (.ref a), .val (.int (0 : Int32))] [(.int (0 : Int32)), (.ref a)]))
    refine Go.st (fun _ kq_ => XS.iloadN X0.here hx rfl (hb hby dr0_2) rfl kq_) ?_
    show Go p e below s _ _ _ (s₁.setTop (mkF m 3 #[.val (.ref a), .val (.int (0 : Int32))] [(.int (0 : Int32)), (.int (0 : Int32)), (.ref a)]))
    obtain ⟨_, _, ⟨T1, L1, k1, n1⟩, -, X1, ⟨Lc1, hQ1, l1, y1, z1⟩, st1⟩ := Jvm.LawKit.callS X0 hx (y := (⟨"com/example/rootward/rootward/model/InstanceGroupPinLaw", "ahead", "([III)I"⟩ : MethodName)) hown (mvT hZ (own_w hw 30 rfl)) (mvT hZ (own_w hw 31 rfl)) (mvT hZ (own_w hw 16 rfl)) (mvT hZ (own_w hw 32 rfl)) (by decide) (backOf (W := 0) (rmh00 l Z a0 hw [] a ka w0 w1 w2 w3 h0 n0 O0 V_a) hZ (own_w hw 32 rfl) (own_w hw 16 rfl) (by decide) (by decide)) (g := (mkF m 3 #[.val (.ref a), .val (.int (0 : Int32))] [(.int (0 : Int32)), (.int (0 : Int32)), (.ref a)])) rfl (by rw [hml]; rfl) (argsL := [(.ref a), (.int (0 : Int32)), (.int (0 : Int32))]) (rest := []) (lenOf pdr0_0 rfl) rfl (by show 2 * 0 + _ ≤ _; exact Nat.le_of_eq rfl) (hb hby dr0_3) (fun _ _ => ⟨rfl, e0, (by decide : 0 + 0 ≤ _), (by decide : 0 + 0 ≤ _)⟩)
    dsimp only [Pt.U, Pt.locs, Pt.cells, Pt.slots] at X1 l1 y1 z1 st1 hQ1
    subst l1 y1 z1
    obtain ⟨rfl, Nc1, e1⟩ := hQ1
    have N1 := Fr.app N0 Nc1
    refine Go.st st1 ?_
    show Go p e below s _ _ _ (T1.setTop (mkF m 6 #[.val (.ref a), .val (.int (0 : Int32))] [(.int (fA00 w0 w1 w2 w3))]))
    refine Go.st (fun _ kq_ => XS.aloadN X1.here hx rfl (hb hby dr0_6) rfl rfl kq_) ?_
    show Go p e below s _ _ _ (T1.setTop (mkF m 7 #[.val (.ref a), .val (.int (0 : Int32))] [(.ref a), (.int (fA00 w0 w1 w2 w3))]))
    refine Go.st (fun _ kq_ => XS.iconst X1.here hx rfl (hb hby dr0_7) kq_) ?_
    show Go p e below s _ _ _ (T1.setTop (mkF m 8 #[.val (.ref a), .val (.int (0 : Int32))] [(.int (1 : Int32)), (.ref a), (.int (fA00 w0 w1 w2 w3))]))
    refine Go.st (fun _ kq_ => XS.iloadN X1.here hx rfl (hb hby dr0_8) rfl kq_) ?_
    show Go p e below s _ _ _ (T1.setTop (mkF m 9 #[.val (.ref a), .val (.int (0 : Int32))] [(.int (0 : Int32)), (.int (1 : Int32)), (.ref a), (.int (fA00 w0 w1 w2 w3))]))
    obtain ⟨_, _, ⟨T2, L2, k2, n2⟩, -, X2, ⟨Lc2, hQ2, l2, y2, z2⟩, st2⟩ := Jvm.LawKit.callS X1 hx (y := (⟨"com/example/rootward/rootward/model/InstanceGroupPinLaw", "ahead", "([III)I"⟩ : MethodName)) hown (mvT hZ (own_w hw 30 rfl)) (mvT hZ (own_w hw 31 rfl)) (mvT hZ (own_w hw 16 rfl)) (mvT hZ (own_w hw 32 rfl)) (by decide) (backOf (W := 1) (rmh10 l Z a0 hw [] a ka w0 w1 w2 w3 h0 n0 O0 V_a) hZ (own_w hw 32 rfl) (own_w hw 16 rfl) (by decide) (by decide)) (g := (mkF m 9 #[.val (.ref a), .val (.int (0 : Int32))] [(.int (0 : Int32)), (.int (1 : Int32)), (.ref a), (.int (fA00 w0 w1 w2 w3))])) rfl (by rw [hml]; rfl) (argsL := [(.ref a), (.int (1 : Int32)), (.int (0 : Int32))]) (rest := [(.int (fA00 w0 w1 w2 w3))]) (lenOf pdr0_0 rfl) rfl (by show 2 * 0 + _ ≤ _; exact Nat.le_of_eq rfl) (hb hby dr0_9) (fun _ _ => ⟨rfl, e1, (by decide : 0 + 0 ≤ _), (by decide : 0 + 0 ≤ _)⟩)
    dsimp only [Pt.U, Pt.locs, Pt.cells, Pt.slots] at X2 l2 y2 z2 st2 hQ2
    subst l2 y2 z2
    obtain ⟨rfl, Nc2, e2⟩ := hQ2
    have N2 := Fr.app N1 Nc2
    refine Go.st st2 ?_
    show Go p e below s _ _ _ (T2.setTop (mkF m 12 #[.val (.ref a), .val (.int (0 : Int32))] [(.int (fA10 w0 w1 w2 w3)), (.int (fA00 w0 w1 w2 w3))]))
    refine Go.st (fun _ kq_ => XS.iadd X2.here hx rfl (hb hby dr0_12) rfl kq_) ?_
    show Go p e below s _ _ _ (T2.setTop (mkF m 13 #[.val (.ref a), .val (.int (0 : Int32))] [(.int ((fA00 w0 w1 w2 w3) + (fA10 w0 w1 w2 w3)))]))
    refine Go.st (fun _ kq_ => XS.aloadN X2.here hx rfl (hb hby dr0_13) rfl rfl kq_) ?_
    show Go p e below s _ _ _ (T2.setTop (mkF m 14 #[.val (.ref a), .val (.int (0 : Int32))] [(.ref a), (.int ((fA00 w0 w1 w2 w3) + (fA10 w0 w1 w2 w3)))]))
    refine Go.st (fun _ kq_ => XS.iconst X2.here hx rfl (hb hby dr0_14) kq_) ?_
    show Go p e below s _ _ _ (T2.setTop (mkF m 15 #[.val (.ref a), .val (.int (0 : Int32))] [(.int (2 : Int32)), (.ref a), (.int ((fA00 w0 w1 w2 w3) + (fA10 w0 w1 w2 w3)))]))
    refine Go.st (fun _ kq_ => XS.iloadN X2.here hx rfl (hb hby dr0_15) rfl kq_) ?_
    show Go p e below s _ _ _ (T2.setTop (mkF m 16 #[.val (.ref a), .val (.int (0 : Int32))] [(.int (0 : Int32)), (.int (2 : Int32)), (.ref a), (.int ((fA00 w0 w1 w2 w3) + (fA10 w0 w1 w2 w3)))]))
    obtain ⟨_, _, ⟨T3, L3, k3, n3⟩, -, X3, ⟨Lc3, hQ3, l3, y3, z3⟩, st3⟩ := Jvm.LawKit.callS X2 hx (y := (⟨"com/example/rootward/rootward/model/InstanceGroupPinLaw", "ahead", "([III)I"⟩ : MethodName)) hown (mvT hZ (own_w hw 30 rfl)) (mvT hZ (own_w hw 31 rfl)) (mvT hZ (own_w hw 16 rfl)) (mvT hZ (own_w hw 32 rfl)) (by decide) (backOf (W := 1) (rmh20 l Z a0 hw [] a ka w0 w1 w2 w3 h0 n0 O0 V_a) hZ (own_w hw 32 rfl) (own_w hw 16 rfl) (by decide) (by decide)) (g := (mkF m 16 #[.val (.ref a), .val (.int (0 : Int32))] [(.int (0 : Int32)), (.int (2 : Int32)), (.ref a), (.int ((fA00 w0 w1 w2 w3) + (fA10 w0 w1 w2 w3)))])) rfl (by rw [hml]; rfl) (argsL := [(.ref a), (.int (2 : Int32)), (.int (0 : Int32))]) (rest := [(.int ((fA00 w0 w1 w2 w3) + (fA10 w0 w1 w2 w3)))]) (lenOf pdr0_0 rfl) rfl (by show 2 * 0 + _ ≤ _; exact Nat.le_of_eq rfl) (hb hby dr0_16) (fun _ _ => ⟨rfl, e2, (by decide : 0 + 0 ≤ _), (by decide : 0 + 0 ≤ _)⟩)
    dsimp only [Pt.U, Pt.locs, Pt.cells, Pt.slots] at X3 l3 y3 z3 st3 hQ3
    subst l3 y3 z3
    obtain ⟨rfl, Nc3, e3⟩ := hQ3
    have N3 := Fr.app N2 Nc3
    refine Go.st st3 ?_
    show Go p e below s _ _ _ (T3.setTop (mkF m 19 #[.val (.ref a), .val (.int (0 : Int32))] [(.int (fA20 w0 w1 w2 w3)), (.int ((fA00 w0 w1 w2 w3) + (fA10 w0 w1 w2 w3)))]))
    refine Go.st (fun _ kq_ => XS.iadd X3.here hx rfl (hb hby dr0_19) rfl kq_) ?_
    show Go p e below s _ _ _ (T3.setTop (mkF m 20 #[.val (.ref a), .val (.int (0 : Int32))] [(.int (((fA00 w0 w1 w2 w3) + (fA10 w0 w1 w2 w3)) + (fA20 w0 w1 w2 w3)))]))
    refine Go.st (fun _ kq_ => XS.aloadN X3.here hx rfl (hb hby dr0_20) rfl rfl kq_) ?_
    show Go p e below s _ _ _ (T3.setTop (mkF m 21 #[.val (.ref a), .val (.int (0 : Int32))] [(.ref a), (.int (((fA00 w0 w1 w2 w3) + (fA10 w0 w1 w2 w3)) + (fA20 w0 w1 w2 w3)))]))
    refine Go.st (fun _ kq_ => XS.iconst X3.here hx rfl (hb hby dr0_21) kq_) ?_
    show Go p e below s _ _ _ (T3.setTop (mkF m 22 #[.val (.ref a), .val (.int (0 : Int32))] [(.int (3 : Int32)), (.ref a), (.int (((fA00 w0 w1 w2 w3) + (fA10 w0 w1 w2 w3)) + (fA20 w0 w1 w2 w3)))]))
    refine Go.st (fun _ kq_ => XS.iloadN X3.here hx rfl (hb hby dr0_22) rfl kq_) ?_
    show Go p e below s _ _ _ (T3.setTop (mkF m 23 #[.val (.ref a), .val (.int (0 : Int32))] [(.int (0 : Int32)), (.int (3 : Int32)), (.ref a), (.int (((fA00 w0 w1 w2 w3) + (fA10 w0 w1 w2 w3)) + (fA20 w0 w1 w2 w3)))]))
    obtain ⟨_, _, ⟨T4, L4, k4, n4⟩, -, X4, ⟨Lc4, hQ4, l4, y4, z4⟩, st4⟩ := Jvm.LawKit.callS X3 hx (y := (⟨"com/example/rootward/rootward/model/InstanceGroupPinLaw", "ahead", "([III)I"⟩ : MethodName)) hown (mvT hZ (own_w hw 30 rfl)) (mvT hZ (own_w hw 31 rfl)) (mvT hZ (own_w hw 16 rfl)) (mvT hZ (own_w hw 32 rfl)) (by decide) (backOf (W := 1) (rmh30 l Z a0 hw [] a ka w0 w1 w2 w3 h0 n0 O0 V_a) hZ (own_w hw 32 rfl) (own_w hw 16 rfl) (by decide) (by decide)) (g := (mkF m 23 #[.val (.ref a), .val (.int (0 : Int32))] [(.int (0 : Int32)), (.int (3 : Int32)), (.ref a), (.int (((fA00 w0 w1 w2 w3) + (fA10 w0 w1 w2 w3)) + (fA20 w0 w1 w2 w3)))])) rfl (by rw [hml]; rfl) (argsL := [(.ref a), (.int (3 : Int32)), (.int (0 : Int32))]) (rest := [(.int (((fA00 w0 w1 w2 w3) + (fA10 w0 w1 w2 w3)) + (fA20 w0 w1 w2 w3)))]) (lenOf pdr0_0 rfl) rfl (by show 2 * 0 + _ ≤ _; exact Nat.le_of_eq rfl) (hb hby dr0_23) (fun _ _ => ⟨rfl, e3, (by decide : 0 + 0 ≤ _), (by decide : 0 + 0 ≤ _)⟩)
    dsimp only [Pt.U, Pt.locs, Pt.cells, Pt.slots] at X4 l4 y4 z4 st4 hQ4
    subst l4 y4 z4
    obtain ⟨rfl, Nc4, e4⟩ := hQ4
    have N4 := Fr.app N3 Nc4
    refine Go.st st4 ?_
    show Go p e below s _ _ _ (T4.setTop (mkF m 26 #[.val (.ref a), .val (.int (0 : Int32))] [(.int (fA30 w0 w1 w2 w3)), (.int (((fA00 w0 w1 w2 w3) + (fA10 w0 w1 w2 w3)) + (fA20 w0 w1 w2 w3)))]))
    refine Go.st (fun _ kq_ => XS.iadd X4.here hx rfl (hb hby dr0_26) rfl kq_) ?_
    show Go p e below s _ _ _ (T4.setTop (mkF m 27 #[.val (.ref a), .val (.int (0 : Int32))] [(.int ((((fA00 w0 w1 w2 w3) + (fA10 w0 w1 w2 w3)) + (fA20 w0 w1 w2 w3)) + (fA30 w0 w1 w2 w3)))]))
    exact Go.ret X4 hlk (some (.int ((((fA00 w0 w1 w2 w3) + (fA10 w0 w1 w2 w3)) + (fA20 w0 w1 w2 w3)) + (fA30 w0 w1 w2 w3)))) (fun h => by rw [Bd.returns] at h; cases h) (by rw [e4]; exact ⟨own_res (z' := ((((fA00 w0 w1 w2 w3) + (fA10 w0 w1 w2 w3)) + (fA20 w0 w1 w2 w3)) + (fA30 w0 w1 w2 w3))) rfl rfl, N4, rfl⟩) (by decide) (by decide) (fun fs hr => retI X4 hx Bd.returns (hb hby dr0_27) hr)
  obtain ⟨s2, o2, st2, r2⟩ := G
  exact ⟨s2, o2, castTop (efr0 m a (0 : Int32)) st2, r2⟩
theorem dr1_0 : decode method_7_code 0 = .ok (.aload_n 0, 1) := by decide +kernel
theorem dr1_1 : decode method_7_code 1 = .ok (.iconst 0, 1) := by decide +kernel
theorem dr1_2 : decode method_7_code 2 = .ok (.iload_n 1, 1) := by decide +kernel
theorem dr1_3 : decode method_7_code 3 = .ok (.invokestatic 30, 3) := by decide +kernel
theorem dr1_6 : decode method_7_code 6 = .ok (.aload_n 0, 1) := by decide +kernel
theorem dr1_7 : decode method_7_code 7 = .ok (.iconst 1, 1) := by decide +kernel
theorem dr1_8 : decode method_7_code 8 = .ok (.iload_n 1, 1) := by decide +kernel
theorem dr1_9 : decode method_7_code 9 = .ok (.invokestatic 30, 3) := by decide +kernel
theorem dr1_12 : decode method_7_code 12 = .ok (.iadd, 1) := by decide +kernel
theorem dr1_13 : decode method_7_code 13 = .ok (.aload_n 0, 1) := by decide +kernel
theorem dr1_14 : decode method_7_code 14 = .ok (.iconst 2, 1) := by decide +kernel
theorem dr1_15 : decode method_7_code 15 = .ok (.iload_n 1, 1) := by decide +kernel
theorem dr1_16 : decode method_7_code 16 = .ok (.invokestatic 30, 3) := by decide +kernel
theorem dr1_19 : decode method_7_code 19 = .ok (.iadd, 1) := by decide +kernel
theorem dr1_20 : decode method_7_code 20 = .ok (.aload_n 0, 1) := by decide +kernel
theorem dr1_21 : decode method_7_code 21 = .ok (.iconst 3, 1) := by decide +kernel
theorem dr1_22 : decode method_7_code 22 = .ok (.iload_n 1, 1) := by decide +kernel
theorem dr1_23 : decode method_7_code 23 = .ok (.invokestatic 30, 3) := by decide +kernel
theorem dr1_26 : decode method_7_code 26 = .ok (.iadd, 1) := by decide +kernel
theorem dr1_27 : decode method_7_code 27 = .ok (.ireturn, 1) := by decide +kernel
theorem pdr1_0 : parseMethodDescriptor "([III)I" = some ⟨[(.array .int), .int, .int], some .int⟩ := by decide +kernel
theorem pnr1 : plainName "com/example/rootward/rootward/model/InstanceGroupPinLaw" = true := by first | (simp [plainName, overriddenIn]; done) | decide +kernel
theorem efr1 (m : MethodId) (x0 : Addr) (x1 : Int32) : entryFrame m #[(.ref x0), (.int x1)] 2 = mkF m 0 #[.val (.ref x0), .val (.int x1)] [] := by first | (simp [entryFrame, mkF, argsToLocals, Value.category, maxLocals]; done) | rfl
def fR1 (w0 : Int32) (w1 : Int32) (w2 : Int32) (w3 : Int32) : Int32 := ((((fA01 w0 w1 w2 w3) + (fA11 w0 w1 w2 w3)) + (fA21 w0 w1 w2 w3)) + (fA31 w0 w1 w2 w3))
def Qr1 (Z : State) (a : Addr) (ka : ClassId) (w0 : Int32) (w1 : Int32) (w2 : Int32) (w3 : Int32) (h0 : Heap) (n0 : Nat) (v : Option Value) (h : Heap) (L : List Loc) : Prop := v = some (.int (fR1 w0 w1 w2 w3)) ∧ Fr n0 L ∧ h = h0
set_option maxRecDepth 65536 in
set_option maxHeartbeats 40000000 in
theorem rmr1 (l : Launch) (Z : State) (a0 : Array Value) (hw : ∀ d ∈ tables_1, d.before a0 Z = true) (ws : List Jvm.Cond) (a : Addr) (ka : ClassId) (w0 : Int32) (w1 : Int32) (w2 : Int32) (w3 : Int32) (h0 : Heap) (n0 : Nat) (O0 : Old Z n0 h0) (V_a : Arv Z h0 a ka .int (4 : Int32) [(.int w0), (.int w1), (.int w2), (.int w3)] (.int (0 : Int32))) :
    MetFree l (⟨"com/example/rootward/rootward/model/InstanceGroupPinLaw", "rank", "([II)I"⟩ : MethodName) (head1 (Jvm.Cond.code (⟨"com/example/rootward/rootward/model/InstanceGroupPinLaw", "rank", "([II)I"⟩ : MethodName) method_7_code 2 (some .int) :: ws) ({ frames := 1, cells := 0, slots := 0, locals := 17 } : Room)) (fun A_ U_ => A_ = #[(.ref a), (.int (1 : Int32))] ∧ Z.Warmed39 U_.vm ∧ U_.heap = h0) (fun _ _ _ _ _ => True) (fun _ U o U' => ∃ v L, o = .returned v ∧ Qr1 Z a ka w0 w1 w2 w3 h0 n0 v U'.heap L ∧ FrameEnd U o U' L ({ frames := 1, cells := 0, slots := 0, locals := 17 } : Room).cells ({ frames := 1, cells := 0, slots := 0, locals := 17 } : Room).slots) := by
  refine MetFree.of_bodySF (plainFor_of_name pnr1) hisR ?_
  intro p e s m args below meth cd s₁ Bd hml0 hP hK
  obtain ⟨rfl, hZ, hh⟩ := hP
  have hx := Bd.exec
  have hby := Bd.bytes
  have hlk : meth.locks = false := BodyLoose.notSynchronized Bd
  have hml : cd.maxLocals = 2 := hml0
  have hown : s.vm.findClass "com/example/rootward/rootward/model/InstanceGroupPinLaw" = some m.cls := findClass_of_methodNamed Bd.named
  have hnm := (name_of_methodNamed Bd.named Bd.method).1
  have X0 : Stand p l e ({ frames := 1, cells := 0, slots := 0, locals := 17 } : Room) s m #[(.ref a), (.int (1 : Int32))] below meth cd s₁ [] 0 0 := Stand.of_body Bd
  have e0 : s₁.heap = h0 := by rw [← hh, Bd.state]; rfl
  have N0 := Fr.nil n0
  have G : Go p e below s 0 0 (Qr1 Z a ka w0 w1 w2 w3 h0 n0) (s₁.setTop (mkF m 0 #[.val (.ref a), .val (.int (1 : Int32))] [])) := by
    show Go p e below s _ _ _ (s₁.setTop (mkF m 0 #[.val (.ref a), .val (.int (1 : Int32))] []))
    refine Go.st (fun _ kq_ => XS.aloadN X0.here hx rfl (hb hby dr1_0) rfl rfl kq_) ?_
    show Go p e below s _ _ _ (s₁.setTop (mkF m 1 #[.val (.ref a), .val (.int (1 : Int32))] [(.ref a)]))
    refine Go.st (fun _ kq_ => XS.iconst X0.here hx rfl (hb hby dr1_1) kq_) ?_
    show Go p e below s _ _ _ (s₁.setTop (mkF m 2 #[.val (.ref a), .val (.int (1 : Int32))] [(.int (0 : Int32)), (.ref a)]))
    refine Go.st (fun _ kq_ => XS.iloadN X0.here hx rfl (hb hby dr1_2) rfl kq_) ?_
    show Go p e below s _ _ _ (s₁.setTop (mkF m 3 #[.val (.ref a), .val (.int (1 : Int32))] [(.int (1 : Int32)), (.int (0 : Int32)), (.ref a)]))
    obtain ⟨_, _, ⟨T1, L1, k1, n1⟩, -, X1, ⟨Lc1, hQ1, l1, y1, z1⟩, st1⟩ := Jvm.LawKit.callS X0 hx (y := (⟨"com/example/rootward/rootward/model/InstanceGroupPinLaw", "ahead", "([III)I"⟩ : MethodName)) hown (mvT hZ (own_w hw 30 rfl)) (mvT hZ (own_w hw 31 rfl)) (mvT hZ (own_w hw 16 rfl)) (mvT hZ (own_w hw 32 rfl)) (by decide) (backOf (W := 0) (rmh01 l Z a0 hw [] a ka w0 w1 w2 w3 h0 n0 O0 V_a) hZ (own_w hw 32 rfl) (own_w hw 16 rfl) (by decide) (by decide)) (g := (mkF m 3 #[.val (.ref a), .val (.int (1 : Int32))] [(.int (1 : Int32)), (.int (0 : Int32)), (.ref a)])) rfl (by rw [hml]; rfl) (argsL := [(.ref a), (.int (0 : Int32)), (.int (1 : Int32))]) (rest := []) (lenOf pdr1_0 rfl) rfl (by show 2 * 0 + _ ≤ _; exact Nat.le_of_eq rfl) (hb hby dr1_3) (fun _ _ => ⟨rfl, e0, (by decide : 0 + 0 ≤ _), (by decide : 0 + 0 ≤ _)⟩)
    dsimp only [Pt.U, Pt.locs, Pt.cells, Pt.slots] at X1 l1 y1 z1 st1 hQ1
    subst l1 y1 z1
    obtain ⟨rfl, Nc1, e1⟩ := hQ1
    have N1 := Fr.app N0 Nc1
    refine Go.st st1 ?_
    show Go p e below s _ _ _ (T1.setTop (mkF m 6 #[.val (.ref a), .val (.int (1 : Int32))] [(.int (fA01 w0 w1 w2 w3))]))
    refine Go.st (fun _ kq_ => XS.aloadN X1.here hx rfl (hb hby dr1_6) rfl rfl kq_) ?_
    show Go p e below s _ _ _ (T1.setTop (mkF m 7 #[.val (.ref a), .val (.int (1 : Int32))] [(.ref a), (.int (fA01 w0 w1 w2 w3))]))
    refine Go.st (fun _ kq_ => XS.iconst X1.here hx rfl (hb hby dr1_7) kq_) ?_
    show Go p e below s _ _ _ (T1.setTop (mkF m 8 #[.val (.ref a), .val (.int (1 : Int32))] [(.int (1 : Int32)), (.ref a), (.int (fA01 w0 w1 w2 w3))]))
    refine Go.st (fun _ kq_ => XS.iloadN X1.here hx rfl (hb hby dr1_8) rfl kq_) ?_
    show Go p e below s _ _ _ (T1.setTop (mkF m 9 #[.val (.ref a), .val (.int (1 : Int32))] [(.int (1 : Int32)), (.int (1 : Int32)), (.ref a), (.int (fA01 w0 w1 w2 w3))]))
    obtain ⟨_, _, ⟨T2, L2, k2, n2⟩, -, X2, ⟨Lc2, hQ2, l2, y2, z2⟩, st2⟩ := Jvm.LawKit.callS X1 hx (y := (⟨"com/example/rootward/rootward/model/InstanceGroupPinLaw", "ahead", "([III)I"⟩ : MethodName)) hown (mvT hZ (own_w hw 30 rfl)) (mvT hZ (own_w hw 31 rfl)) (mvT hZ (own_w hw 16 rfl)) (mvT hZ (own_w hw 32 rfl)) (by decide) (backOf (W := 1) (rmh11 l Z a0 hw [] a ka w0 w1 w2 w3 h0 n0 O0 V_a) hZ (own_w hw 32 rfl) (own_w hw 16 rfl) (by decide) (by decide)) (g := (mkF m 9 #[.val (.ref a), .val (.int (1 : Int32))] [(.int (1 : Int32)), (.int (1 : Int32)), (.ref a), (.int (fA01 w0 w1 w2 w3))])) rfl (by rw [hml]; rfl) (argsL := [(.ref a), (.int (1 : Int32)), (.int (1 : Int32))]) (rest := [(.int (fA01 w0 w1 w2 w3))]) (lenOf pdr1_0 rfl) rfl (by show 2 * 0 + _ ≤ _; exact Nat.le_of_eq rfl) (hb hby dr1_9) (fun _ _ => ⟨rfl, e1, (by decide : 0 + 0 ≤ _), (by decide : 0 + 0 ≤ _)⟩)
    dsimp only [Pt.U, Pt.locs, Pt.cells, Pt.slots] at X2 l2 y2 z2 st2 hQ2
    subst l2 y2 z2
    obtain ⟨rfl, Nc2, e2⟩ := hQ2
    have N2 := Fr.app N1 Nc2
    refine Go.st st2 ?_
    show Go p e below s _ _ _ (T2.setTop (mkF m 12 #[.val (.ref a), .val (.int (1 : Int32))] [(.int (fA11 w0 w1 w2 w3)), (.int (fA01 w0 w1 w2 w3))]))
    refine Go.st (fun _ kq_ => XS.iadd X2.here hx rfl (hb hby dr1_12) rfl kq_) ?_
    show Go p e below s _ _ _ (T2.setTop (mkF m 13 #[.val (.ref a), .val (.int (1 : Int32))] [(.int ((fA01 w0 w1 w2 w3) + (fA11 w0 w1 w2 w3)))]))
    refine Go.st (fun _ kq_ => XS.aloadN X2.here hx rfl (hb hby dr1_13) rfl rfl kq_) ?_
    show Go p e below s _ _ _ (T2.setTop (mkF m 14 #[.val (.ref a), .val (.int (1 : Int32))] [(.ref a), (.int ((fA01 w0 w1 w2 w3) + (fA11 w0 w1 w2 w3)))]))
    refine Go.st (fun _ kq_ => XS.iconst X2.here hx rfl (hb hby dr1_14) kq_) ?_
    show Go p e below s _ _ _ (T2.setTop (mkF m 15 #[.val (.ref a), .val (.int (1 : Int32))] [(.int (2 : Int32)), (.ref a), (.int ((fA01 w0 w1 w2 w3) + (fA11 w0 w1 w2 w3)))]))
    refine Go.st (fun _ kq_ => XS.iloadN X2.here hx rfl (hb hby dr1_15) rfl kq_) ?_
    show Go p e below s _ _ _ (T2.setTop (mkF m 16 #[.val (.ref a), .val (.int (1 : Int32))] [(.int (1 : Int32)), (.int (2 : Int32)), (.ref a), (.int ((fA01 w0 w1 w2 w3) + (fA11 w0 w1 w2 w3)))]))
    obtain ⟨_, _, ⟨T3, L3, k3, n3⟩, -, X3, ⟨Lc3, hQ3, l3, y3, z3⟩, st3⟩ := Jvm.LawKit.callS X2 hx (y := (⟨"com/example/rootward/rootward/model/InstanceGroupPinLaw", "ahead", "([III)I"⟩ : MethodName)) hown (mvT hZ (own_w hw 30 rfl)) (mvT hZ (own_w hw 31 rfl)) (mvT hZ (own_w hw 16 rfl)) (mvT hZ (own_w hw 32 rfl)) (by decide) (backOf (W := 1) (rmh21 l Z a0 hw [] a ka w0 w1 w2 w3 h0 n0 O0 V_a) hZ (own_w hw 32 rfl) (own_w hw 16 rfl) (by decide) (by decide)) (g := (mkF m 16 #[.val (.ref a), .val (.int (1 : Int32))] [(.int (1 : Int32)), (.int (2 : Int32)), (.ref a), (.int ((fA01 w0 w1 w2 w3) + (fA11 w0 w1 w2 w3)))])) rfl (by rw [hml]; rfl) (argsL := [(.ref a), (.int (2 : Int32)), (.int (1 : Int32))]) (rest := [(.int ((fA01 w0 w1 w2 w3) + (fA11 w0 w1 w2 w3)))]) (lenOf pdr1_0 rfl) rfl (by show 2 * 0 + _ ≤ _; exact Nat.le_of_eq rfl) (hb hby dr1_16) (fun _ _ => ⟨rfl, e2, (by decide : 0 + 0 ≤ _), (by decide : 0 + 0 ≤ _)⟩)
    dsimp only [Pt.U, Pt.locs, Pt.cells, Pt.slots] at X3 l3 y3 z3 st3 hQ3
    subst l3 y3 z3
    obtain ⟨rfl, Nc3, e3⟩ := hQ3
    have N3 := Fr.app N2 Nc3
    refine Go.st st3 ?_
    show Go p e below s _ _ _ (T3.setTop (mkF m 19 #[.val (.ref a), .val (.int (1 : Int32))] [(.int (fA21 w0 w1 w2 w3)), (.int ((fA01 w0 w1 w2 w3) + (fA11 w0 w1 w2 w3)))]))
    refine Go.st (fun _ kq_ => XS.iadd X3.here hx rfl (hb hby dr1_19) rfl kq_) ?_
    show Go p e below s _ _ _ (T3.setTop (mkF m 20 #[.val (.ref a), .val (.int (1 : Int32))] [(.int (((fA01 w0 w1 w2 w3) + (fA11 w0 w1 w2 w3)) + (fA21 w0 w1 w2 w3)))]))
    refine Go.st (fun _ kq_ => XS.aloadN X3.here hx rfl (hb hby dr1_20) rfl rfl kq_) ?_
    show Go p e below s _ _ _ (T3.setTop (mkF m 21 #[.val (.ref a), .val (.int (1 : Int32))] [(.ref a), (.int (((fA01 w0 w1 w2 w3) + (fA11 w0 w1 w2 w3)) + (fA21 w0 w1 w2 w3)))]))
    refine Go.st (fun _ kq_ => XS.iconst X3.here hx rfl (hb hby dr1_21) kq_) ?_
    show Go p e below s _ _ _ (T3.setTop (mkF m 22 #[.val (.ref a), .val (.int (1 : Int32))] [(.int (3 : Int32)), (.ref a), (.int (((fA01 w0 w1 w2 w3) + (fA11 w0 w1 w2 w3)) + (fA21 w0 w1 w2 w3)))]))
    refine Go.st (fun _ kq_ => XS.iloadN X3.here hx rfl (hb hby dr1_22) rfl kq_) ?_
    show Go p e below s _ _ _ (T3.setTop (mkF m 23 #[.val (.ref a), .val (.int (1 : Int32))] [(.int (1 : Int32)), (.int (3 : Int32)), (.ref a), (.int (((fA01 w0 w1 w2 w3) + (fA11 w0 w1 w2 w3)) + (fA21 w0 w1 w2 w3)))]))
    obtain ⟨_, _, ⟨T4, L4, k4, n4⟩, -, X4, ⟨Lc4, hQ4, l4, y4, z4⟩, st4⟩ := Jvm.LawKit.callS X3 hx (y := (⟨"com/example/rootward/rootward/model/InstanceGroupPinLaw", "ahead", "([III)I"⟩ : MethodName)) hown (mvT hZ (own_w hw 30 rfl)) (mvT hZ (own_w hw 31 rfl)) (mvT hZ (own_w hw 16 rfl)) (mvT hZ (own_w hw 32 rfl)) (by decide) (backOf (W := 1) (rmh31 l Z a0 hw [] a ka w0 w1 w2 w3 h0 n0 O0 V_a) hZ (own_w hw 32 rfl) (own_w hw 16 rfl) (by decide) (by decide)) (g := (mkF m 23 #[.val (.ref a), .val (.int (1 : Int32))] [(.int (1 : Int32)), (.int (3 : Int32)), (.ref a), (.int (((fA01 w0 w1 w2 w3) + (fA11 w0 w1 w2 w3)) + (fA21 w0 w1 w2 w3)))])) rfl (by rw [hml]; rfl) (argsL := [(.ref a), (.int (3 : Int32)), (.int (1 : Int32))]) (rest := [(.int (((fA01 w0 w1 w2 w3) + (fA11 w0 w1 w2 w3)) + (fA21 w0 w1 w2 w3)))]) (lenOf pdr1_0 rfl) rfl (by show 2 * 0 + _ ≤ _; exact Nat.le_of_eq rfl) (hb hby dr1_23) (fun _ _ => ⟨rfl, e3, (by decide : 0 + 0 ≤ _), (by decide : 0 + 0 ≤ _)⟩)
    dsimp only [Pt.U, Pt.locs, Pt.cells, Pt.slots] at X4 l4 y4 z4 st4 hQ4
    subst l4 y4 z4
    obtain ⟨rfl, Nc4, e4⟩ := hQ4
    have N4 := Fr.app N3 Nc4
    refine Go.st st4 ?_
    show Go p e below s _ _ _ (T4.setTop (mkF m 26 #[.val (.ref a), .val (.int (1 : Int32))] [(.int (fA31 w0 w1 w2 w3)), (.int (((fA01 w0 w1 w2 w3) + (fA11 w0 w1 w2 w3)) + (fA21 w0 w1 w2 w3)))]))
    refine Go.st (fun _ kq_ => XS.iadd X4.here hx rfl (hb hby dr1_26) rfl kq_) ?_
    show Go p e below s _ _ _ (T4.setTop (mkF m 27 #[.val (.ref a), .val (.int (1 : Int32))] [(.int ((((fA01 w0 w1 w2 w3) + (fA11 w0 w1 w2 w3)) + (fA21 w0 w1 w2 w3)) + (fA31 w0 w1 w2 w3)))]))
    exact Go.ret X4 hlk (some (.int ((((fA01 w0 w1 w2 w3) + (fA11 w0 w1 w2 w3)) + (fA21 w0 w1 w2 w3)) + (fA31 w0 w1 w2 w3)))) (fun h => by rw [Bd.returns] at h; cases h) (by rw [e4]; exact ⟨own_res (z' := ((((fA01 w0 w1 w2 w3) + (fA11 w0 w1 w2 w3)) + (fA21 w0 w1 w2 w3)) + (fA31 w0 w1 w2 w3))) rfl rfl, N4, rfl⟩) (by decide) (by decide) (fun fs hr => retI X4 hx Bd.returns (hb hby dr1_27) hr)
  obtain ⟨s2, o2, st2, r2⟩ := G
  exact ⟨s2, o2, castTop (efr1 m a (1 : Int32)) st2, r2⟩
theorem dr2_0 : decode method_7_code 0 = .ok (.aload_n 0, 1) := by decide +kernel
theorem dr2_1 : decode method_7_code 1 = .ok (.iconst 0, 1) := by decide +kernel
theorem dr2_2 : decode method_7_code 2 = .ok (.iload_n 1, 1) := by decide +kernel
theorem dr2_3 : decode method_7_code 3 = .ok (.invokestatic 30, 3) := by decide +kernel
theorem dr2_6 : decode method_7_code 6 = .ok (.aload_n 0, 1) := by decide +kernel
theorem dr2_7 : decode method_7_code 7 = .ok (.iconst 1, 1) := by decide +kernel
theorem dr2_8 : decode method_7_code 8 = .ok (.iload_n 1, 1) := by decide +kernel
theorem dr2_9 : decode method_7_code 9 = .ok (.invokestatic 30, 3) := by decide +kernel
theorem dr2_12 : decode method_7_code 12 = .ok (.iadd, 1) := by decide +kernel
theorem dr2_13 : decode method_7_code 13 = .ok (.aload_n 0, 1) := by decide +kernel
theorem dr2_14 : decode method_7_code 14 = .ok (.iconst 2, 1) := by decide +kernel
theorem dr2_15 : decode method_7_code 15 = .ok (.iload_n 1, 1) := by decide +kernel
theorem dr2_16 : decode method_7_code 16 = .ok (.invokestatic 30, 3) := by decide +kernel
theorem dr2_19 : decode method_7_code 19 = .ok (.iadd, 1) := by decide +kernel
theorem dr2_20 : decode method_7_code 20 = .ok (.aload_n 0, 1) := by decide +kernel
theorem dr2_21 : decode method_7_code 21 = .ok (.iconst 3, 1) := by decide +kernel
theorem dr2_22 : decode method_7_code 22 = .ok (.iload_n 1, 1) := by decide +kernel
theorem dr2_23 : decode method_7_code 23 = .ok (.invokestatic 30, 3) := by decide +kernel
theorem dr2_26 : decode method_7_code 26 = .ok (.iadd, 1) := by decide +kernel
theorem dr2_27 : decode method_7_code 27 = .ok (.ireturn, 1) := by decide +kernel
theorem pdr2_0 : parseMethodDescriptor "([III)I" = some ⟨[(.array .int), .int, .int], some .int⟩ := by decide +kernel
theorem pnr2 : plainName "com/example/rootward/rootward/model/InstanceGroupPinLaw" = true := by first | (simp [plainName, overriddenIn]; done) | decide +kernel
theorem efr2 (m : MethodId) (x0 : Addr) (x1 : Int32) : entryFrame m #[(.ref x0), (.int x1)] 2 = mkF m 0 #[.val (.ref x0), .val (.int x1)] [] := by first | (simp [entryFrame, mkF, argsToLocals, Value.category, maxLocals]; done) | rfl
def fR2 (w0 : Int32) (w1 : Int32) (w2 : Int32) (w3 : Int32) : Int32 := ((((fA02 w0 w1 w2 w3) + (fA12 w0 w1 w2 w3)) + (fA22 w0 w1 w2 w3)) + (fA32 w0 w1 w2 w3))
def Qr2 (Z : State) (a : Addr) (ka : ClassId) (w0 : Int32) (w1 : Int32) (w2 : Int32) (w3 : Int32) (h0 : Heap) (n0 : Nat) (v : Option Value) (h : Heap) (L : List Loc) : Prop := v = some (.int (fR2 w0 w1 w2 w3)) ∧ Fr n0 L ∧ h = h0
set_option maxRecDepth 65536 in
set_option maxHeartbeats 40000000 in
theorem rmr2 (l : Launch) (Z : State) (a0 : Array Value) (hw : ∀ d ∈ tables_1, d.before a0 Z = true) (ws : List Jvm.Cond) (a : Addr) (ka : ClassId) (w0 : Int32) (w1 : Int32) (w2 : Int32) (w3 : Int32) (h0 : Heap) (n0 : Nat) (O0 : Old Z n0 h0) (V_a : Arv Z h0 a ka .int (4 : Int32) [(.int w0), (.int w1), (.int w2), (.int w3)] (.int (0 : Int32))) :
    MetFree l (⟨"com/example/rootward/rootward/model/InstanceGroupPinLaw", "rank", "([II)I"⟩ : MethodName) (head1 (Jvm.Cond.code (⟨"com/example/rootward/rootward/model/InstanceGroupPinLaw", "rank", "([II)I"⟩ : MethodName) method_7_code 2 (some .int) :: ws) ({ frames := 1, cells := 0, slots := 0, locals := 17 } : Room)) (fun A_ U_ => A_ = #[(.ref a), (.int (2 : Int32))] ∧ Z.Warmed39 U_.vm ∧ U_.heap = h0) (fun _ _ _ _ _ => True) (fun _ U o U' => ∃ v L, o = .returned v ∧ Qr2 Z a ka w0 w1 w2 w3 h0 n0 v U'.heap L ∧ FrameEnd U o U' L ({ frames := 1, cells := 0, slots := 0, locals := 17 } : Room).cells ({ frames := 1, cells := 0, slots := 0, locals := 17 } : Room).slots) := by
  refine MetFree.of_bodySF (plainFor_of_name pnr2) hisR ?_
  intro p e s m args below meth cd s₁ Bd hml0 hP hK
  obtain ⟨rfl, hZ, hh⟩ := hP
  have hx := Bd.exec
  have hby := Bd.bytes
  have hlk : meth.locks = false := BodyLoose.notSynchronized Bd
  have hml : cd.maxLocals = 2 := hml0
  have hown : s.vm.findClass "com/example/rootward/rootward/model/InstanceGroupPinLaw" = some m.cls := findClass_of_methodNamed Bd.named
  have hnm := (name_of_methodNamed Bd.named Bd.method).1
  have X0 : Stand p l e ({ frames := 1, cells := 0, slots := 0, locals := 17 } : Room) s m #[(.ref a), (.int (2 : Int32))] below meth cd s₁ [] 0 0 := Stand.of_body Bd
  have e0 : s₁.heap = h0 := by rw [← hh, Bd.state]; rfl
  have N0 := Fr.nil n0
  have G : Go p e below s 0 0 (Qr2 Z a ka w0 w1 w2 w3 h0 n0) (s₁.setTop (mkF m 0 #[.val (.ref a), .val (.int (2 : Int32))] [])) := by
    show Go p e below s _ _ _ (s₁.setTop (mkF m 0 #[.val (.ref a), .val (.int (2 : Int32))] []))
    refine Go.st (fun _ kq_ => XS.aloadN X0.here hx rfl (hb hby dr2_0) rfl rfl kq_) ?_
    show Go p e below s _ _ _ (s₁.setTop (mkF m 1 #[.val (.ref a), .val (.int (2 : Int32))] [(.ref a)]))
    refine Go.st (fun _ kq_ => XS.iconst X0.here hx rfl (hb hby dr2_1) kq_) ?_
    show Go p e below s _ _ _ (s₁.setTop (mkF m 2 #[.val (.ref a), .val (.int (2 : Int32))] [(.int (0 : Int32)), (.ref a)]))
    refine Go.st (fun _ kq_ => XS.iloadN X0.here hx rfl (hb hby dr2_2) rfl kq_) ?_
    show Go p e below s _ _ _ (s₁.setTop (mkF m 3 #[.val (.ref a), .val (.int (2 : Int32))] [(.int (2 : Int32)), (.int (0 : Int32)), (.ref a)]))
    obtain ⟨_, _, ⟨T1, L1, k1, n1⟩, -, X1, ⟨Lc1, hQ1, l1, y1, z1⟩, st1⟩ := Jvm.LawKit.callS X0 hx (y := (⟨"com/example/rootward/rootward/model/InstanceGroupPinLaw", "ahead", "([III)I"⟩ : MethodName)) hown (mvT hZ (own_w hw 30 rfl)) (mvT hZ (own_w hw 31 rfl)) (mvT hZ (own_w hw 16 rfl)) (mvT hZ (own_w hw 32 rfl)) (by decide) (backOf (W := 0) (rmh02 l Z a0 hw [] a ka w0 w1 w2 w3 h0 n0 O0 V_a) hZ (own_w hw 32 rfl) (own_w hw 16 rfl) (by decide) (by decide)) (g := (mkF m 3 #[.val (.ref a), .val (.int (2 : Int32))] [(.int (2 : Int32)), (.int (0 : Int32)), (.ref a)])) rfl (by rw [hml]; rfl) (argsL := [(.ref a), (.int (0 : Int32)), (.int (2 : Int32))]) (rest := []) (lenOf pdr2_0 rfl) rfl (by show 2 * 0 + _ ≤ _; exact Nat.le_of_eq rfl) (hb hby dr2_3) (fun _ _ => ⟨rfl, e0, (by decide : 0 + 0 ≤ _), (by decide : 0 + 0 ≤ _)⟩)
    dsimp only [Pt.U, Pt.locs, Pt.cells, Pt.slots] at X1 l1 y1 z1 st1 hQ1
    subst l1 y1 z1
    obtain ⟨rfl, Nc1, e1⟩ := hQ1
    have N1 := Fr.app N0 Nc1
    refine Go.st st1 ?_
    show Go p e below s _ _ _ (T1.setTop (mkF m 6 #[.val (.ref a), .val (.int (2 : Int32))] [(.int (fA02 w0 w1 w2 w3))]))
    refine Go.st (fun _ kq_ => XS.aloadN X1.here hx rfl (hb hby dr2_6) rfl rfl kq_) ?_
    show Go p e below s _ _ _ (T1.setTop (mkF m 7 #[.val (.ref a), .val (.int (2 : Int32))] [(.ref a), (.int (fA02 w0 w1 w2 w3))]))
    refine Go.st (fun _ kq_ => XS.iconst X1.here hx rfl (hb hby dr2_7) kq_) ?_
    show Go p e below s _ _ _ (T1.setTop (mkF m 8 #[.val (.ref a), .val (.int (2 : Int32))] [(.int (1 : Int32)), (.ref a), (.int (fA02 w0 w1 w2 w3))]))
    refine Go.st (fun _ kq_ => XS.iloadN X1.here hx rfl (hb hby dr2_8) rfl kq_) ?_
    show Go p e below s _ _ _ (T1.setTop (mkF m 9 #[.val (.ref a), .val (.int (2 : Int32))] [(.int (2 : Int32)), (.int (1 : Int32)), (.ref a), (.int (fA02 w0 w1 w2 w3))]))
    obtain ⟨_, _, ⟨T2, L2, k2, n2⟩, -, X2, ⟨Lc2, hQ2, l2, y2, z2⟩, st2⟩ := Jvm.LawKit.callS X1 hx (y := (⟨"com/example/rootward/rootward/model/InstanceGroupPinLaw", "ahead", "([III)I"⟩ : MethodName)) hown (mvT hZ (own_w hw 30 rfl)) (mvT hZ (own_w hw 31 rfl)) (mvT hZ (own_w hw 16 rfl)) (mvT hZ (own_w hw 32 rfl)) (by decide) (backOf (W := 1) (rmh12 l Z a0 hw [] a ka w0 w1 w2 w3 h0 n0 O0 V_a) hZ (own_w hw 32 rfl) (own_w hw 16 rfl) (by decide) (by decide)) (g := (mkF m 9 #[.val (.ref a), .val (.int (2 : Int32))] [(.int (2 : Int32)), (.int (1 : Int32)), (.ref a), (.int (fA02 w0 w1 w2 w3))])) rfl (by rw [hml]; rfl) (argsL := [(.ref a), (.int (1 : Int32)), (.int (2 : Int32))]) (rest := [(.int (fA02 w0 w1 w2 w3))]) (lenOf pdr2_0 rfl) rfl (by show 2 * 0 + _ ≤ _; exact Nat.le_of_eq rfl) (hb hby dr2_9) (fun _ _ => ⟨rfl, e1, (by decide : 0 + 0 ≤ _), (by decide : 0 + 0 ≤ _)⟩)
    dsimp only [Pt.U, Pt.locs, Pt.cells, Pt.slots] at X2 l2 y2 z2 st2 hQ2
    subst l2 y2 z2
    obtain ⟨rfl, Nc2, e2⟩ := hQ2
    have N2 := Fr.app N1 Nc2
    refine Go.st st2 ?_
    show Go p e below s _ _ _ (T2.setTop (mkF m 12 #[.val (.ref a), .val (.int (2 : Int32))] [(.int (fA12 w0 w1 w2 w3)), (.int (fA02 w0 w1 w2 w3))]))
    refine Go.st (fun _ kq_ => XS.iadd X2.here hx rfl (hb hby dr2_12) rfl kq_) ?_
    show Go p e below s _ _ _ (T2.setTop (mkF m 13 #[.val (.ref a), .val (.int (2 : Int32))] [(.int ((fA02 w0 w1 w2 w3) + (fA12 w0 w1 w2 w3)))]))
    refine Go.st (fun _ kq_ => XS.aloadN X2.here hx rfl (hb hby dr2_13) rfl rfl kq_) ?_
    show Go p e below s _ _ _ (T2.setTop (mkF m 14 #[.val (.ref a), .val (.int (2 : Int32))] [(.ref a), (.int ((fA02 w0 w1 w2 w3) + (fA12 w0 w1 w2 w3)))]))
    refine Go.st (fun _ kq_ => XS.iconst X2.here hx rfl (hb hby dr2_14) kq_) ?_
    show Go p e below s _ _ _ (T2.setTop (mkF m 15 #[.val (.ref a), .val (.int (2 : Int32))] [(.int (2 : Int32)), (.ref a), (.int ((fA02 w0 w1 w2 w3) + (fA12 w0 w1 w2 w3)))]))
    refine Go.st (fun _ kq_ => XS.iloadN X2.here hx rfl (hb hby dr2_15) rfl kq_) ?_
    show Go p e below s _ _ _ (T2.setTop (mkF m 16 #[.val (.ref a), .val (.int (2 : Int32))] [(.int (2 : Int32)), (.int (2 : Int32)), (.ref a), (.int ((fA02 w0 w1 w2 w3) + (fA12 w0 w1 w2 w3)))]))
    obtain ⟨_, _, ⟨T3, L3, k3, n3⟩, -, X3, ⟨Lc3, hQ3, l3, y3, z3⟩, st3⟩ := Jvm.LawKit.callS X2 hx (y := (⟨"com/example/rootward/rootward/model/InstanceGroupPinLaw", "ahead", "([III)I"⟩ : MethodName)) hown (mvT hZ (own_w hw 30 rfl)) (mvT hZ (own_w hw 31 rfl)) (mvT hZ (own_w hw 16 rfl)) (mvT hZ (own_w hw 32 rfl)) (by decide) (backOf (W := 1) (rmh22 l Z a0 hw [] a ka w0 w1 w2 w3 h0 n0 O0 V_a) hZ (own_w hw 32 rfl) (own_w hw 16 rfl) (by decide) (by decide)) (g := (mkF m 16 #[.val (.ref a), .val (.int (2 : Int32))] [(.int (2 : Int32)), (.int (2 : Int32)), (.ref a), (.int ((fA02 w0 w1 w2 w3) + (fA12 w0 w1 w2 w3)))])) rfl (by rw [hml]; rfl) (argsL := [(.ref a), (.int (2 : Int32)), (.int (2 : Int32))]) (rest := [(.int ((fA02 w0 w1 w2 w3) + (fA12 w0 w1 w2 w3)))]) (lenOf pdr2_0 rfl) rfl (by show 2 * 0 + _ ≤ _; exact Nat.le_of_eq rfl) (hb hby dr2_16) (fun _ _ => ⟨rfl, e2, (by decide : 0 + 0 ≤ _), (by decide : 0 + 0 ≤ _)⟩)
    dsimp only [Pt.U, Pt.locs, Pt.cells, Pt.slots] at X3 l3 y3 z3 st3 hQ3
    subst l3 y3 z3
    obtain ⟨rfl, Nc3, e3⟩ := hQ3
    have N3 := Fr.app N2 Nc3
    refine Go.st st3 ?_
    show Go p e below s _ _ _ (T3.setTop (mkF m 19 #[.val (.ref a), .val (.int (2 : Int32))] [(.int (fA22 w0 w1 w2 w3)), (.int ((fA02 w0 w1 w2 w3) + (fA12 w0 w1 w2 w3)))]))
    refine Go.st (fun _ kq_ => XS.iadd X3.here hx rfl (hb hby dr2_19) rfl kq_) ?_
    show Go p e below s _ _ _ (T3.setTop (mkF m 20 #[.val (.ref a), .val (.int (2 : Int32))] [(.int (((fA02 w0 w1 w2 w3) + (fA12 w0 w1 w2 w3)) + (fA22 w0 w1 w2 w3)))]))
    refine Go.st (fun _ kq_ => XS.aloadN X3.here hx rfl (hb hby dr2_20) rfl rfl kq_) ?_
    show Go p e below s _ _ _ (T3.setTop (mkF m 21 #[.val (.ref a), .val (.int (2 : Int32))] [(.ref a), (.int (((fA02 w0 w1 w2 w3) + (fA12 w0 w1 w2 w3)) + (fA22 w0 w1 w2 w3)))]))
    refine Go.st (fun _ kq_ => XS.iconst X3.here hx rfl (hb hby dr2_21) kq_) ?_
    show Go p e below s _ _ _ (T3.setTop (mkF m 22 #[.val (.ref a), .val (.int (2 : Int32))] [(.int (3 : Int32)), (.ref a), (.int (((fA02 w0 w1 w2 w3) + (fA12 w0 w1 w2 w3)) + (fA22 w0 w1 w2 w3)))]))
    refine Go.st (fun _ kq_ => XS.iloadN X3.here hx rfl (hb hby dr2_22) rfl kq_) ?_
    show Go p e below s _ _ _ (T3.setTop (mkF m 23 #[.val (.ref a), .val (.int (2 : Int32))] [(.int (2 : Int32)), (.int (3 : Int32)), (.ref a), (.int (((fA02 w0 w1 w2 w3) + (fA12 w0 w1 w2 w3)) + (fA22 w0 w1 w2 w3)))]))
    obtain ⟨_, _, ⟨T4, L4, k4, n4⟩, -, X4, ⟨Lc4, hQ4, l4, y4, z4⟩, st4⟩ := Jvm.LawKit.callS X3 hx (y := (⟨"com/example/rootward/rootward/model/InstanceGroupPinLaw", "ahead", "([III)I"⟩ : MethodName)) hown (mvT hZ (own_w hw 30 rfl)) (mvT hZ (own_w hw 31 rfl)) (mvT hZ (own_w hw 16 rfl)) (mvT hZ (own_w hw 32 rfl)) (by decide) (backOf (W := 1) (rmh32 l Z a0 hw [] a ka w0 w1 w2 w3 h0 n0 O0 V_a) hZ (own_w hw 32 rfl) (own_w hw 16 rfl) (by decide) (by decide)) (g := (mkF m 23 #[.val (.ref a), .val (.int (2 : Int32))] [(.int (2 : Int32)), (.int (3 : Int32)), (.ref a), (.int (((fA02 w0 w1 w2 w3) + (fA12 w0 w1 w2 w3)) + (fA22 w0 w1 w2 w3)))])) rfl (by rw [hml]; rfl) (argsL := [(.ref a), (.int (3 : Int32)), (.int (2 : Int32))]) (rest := [(.int (((fA02 w0 w1 w2 w3) + (fA12 w0 w1 w2 w3)) + (fA22 w0 w1 w2 w3)))]) (lenOf pdr2_0 rfl) rfl (by show 2 * 0 + _ ≤ _; exact Nat.le_of_eq rfl) (hb hby dr2_23) (fun _ _ => ⟨rfl, e3, (by decide : 0 + 0 ≤ _), (by decide : 0 + 0 ≤ _)⟩)
    dsimp only [Pt.U, Pt.locs, Pt.cells, Pt.slots] at X4 l4 y4 z4 st4 hQ4
    subst l4 y4 z4
    obtain ⟨rfl, Nc4, e4⟩ := hQ4
    have N4 := Fr.app N3 Nc4
    refine Go.st st4 ?_
    show Go p e below s _ _ _ (T4.setTop (mkF m 26 #[.val (.ref a), .val (.int (2 : Int32))] [(.int (fA32 w0 w1 w2 w3)), (.int (((fA02 w0 w1 w2 w3) + (fA12 w0 w1 w2 w3)) + (fA22 w0 w1 w2 w3)))]))
    refine Go.st (fun _ kq_ => XS.iadd X4.here hx rfl (hb hby dr2_26) rfl kq_) ?_
    show Go p e below s _ _ _ (T4.setTop (mkF m 27 #[.val (.ref a), .val (.int (2 : Int32))] [(.int ((((fA02 w0 w1 w2 w3) + (fA12 w0 w1 w2 w3)) + (fA22 w0 w1 w2 w3)) + (fA32 w0 w1 w2 w3)))]))
    exact Go.ret X4 hlk (some (.int ((((fA02 w0 w1 w2 w3) + (fA12 w0 w1 w2 w3)) + (fA22 w0 w1 w2 w3)) + (fA32 w0 w1 w2 w3)))) (fun h => by rw [Bd.returns] at h; cases h) (by rw [e4]; exact ⟨own_res (z' := ((((fA02 w0 w1 w2 w3) + (fA12 w0 w1 w2 w3)) + (fA22 w0 w1 w2 w3)) + (fA32 w0 w1 w2 w3))) rfl rfl, N4, rfl⟩) (by decide) (by decide) (fun fs hr => retI X4 hx Bd.returns (hb hby dr2_27) hr)
  obtain ⟨s2, o2, st2, r2⟩ := G
  exact ⟨s2, o2, castTop (efr2 m a (2 : Int32)) st2, r2⟩
theorem dr3_0 : decode method_7_code 0 = .ok (.aload_n 0, 1) := by decide +kernel
theorem dr3_1 : decode method_7_code 1 = .ok (.iconst 0, 1) := by decide +kernel
theorem dr3_2 : decode method_7_code 2 = .ok (.iload_n 1, 1) := by decide +kernel
theorem dr3_3 : decode method_7_code 3 = .ok (.invokestatic 30, 3) := by decide +kernel
theorem dr3_6 : decode method_7_code 6 = .ok (.aload_n 0, 1) := by decide +kernel
theorem dr3_7 : decode method_7_code 7 = .ok (.iconst 1, 1) := by decide +kernel
theorem dr3_8 : decode method_7_code 8 = .ok (.iload_n 1, 1) := by decide +kernel
theorem dr3_9 : decode method_7_code 9 = .ok (.invokestatic 30, 3) := by decide +kernel
theorem dr3_12 : decode method_7_code 12 = .ok (.iadd, 1) := by decide +kernel
theorem dr3_13 : decode method_7_code 13 = .ok (.aload_n 0, 1) := by decide +kernel
theorem dr3_14 : decode method_7_code 14 = .ok (.iconst 2, 1) := by decide +kernel
theorem dr3_15 : decode method_7_code 15 = .ok (.iload_n 1, 1) := by decide +kernel
theorem dr3_16 : decode method_7_code 16 = .ok (.invokestatic 30, 3) := by decide +kernel
theorem dr3_19 : decode method_7_code 19 = .ok (.iadd, 1) := by decide +kernel
theorem dr3_20 : decode method_7_code 20 = .ok (.aload_n 0, 1) := by decide +kernel
theorem dr3_21 : decode method_7_code 21 = .ok (.iconst 3, 1) := by decide +kernel
theorem dr3_22 : decode method_7_code 22 = .ok (.iload_n 1, 1) := by decide +kernel
theorem dr3_23 : decode method_7_code 23 = .ok (.invokestatic 30, 3) := by decide +kernel
theorem dr3_26 : decode method_7_code 26 = .ok (.iadd, 1) := by decide +kernel
theorem dr3_27 : decode method_7_code 27 = .ok (.ireturn, 1) := by decide +kernel
theorem pdr3_0 : parseMethodDescriptor "([III)I" = some ⟨[(.array .int), .int, .int], some .int⟩ := by decide +kernel
theorem pnr3 : plainName "com/example/rootward/rootward/model/InstanceGroupPinLaw" = true := by first | (simp [plainName, overriddenIn]; done) | decide +kernel
theorem efr3 (m : MethodId) (x0 : Addr) (x1 : Int32) : entryFrame m #[(.ref x0), (.int x1)] 2 = mkF m 0 #[.val (.ref x0), .val (.int x1)] [] := by first | (simp [entryFrame, mkF, argsToLocals, Value.category, maxLocals]; done) | rfl
def fR3 (w0 : Int32) (w1 : Int32) (w2 : Int32) (w3 : Int32) : Int32 := ((((fA03 w0 w1 w2 w3) + (fA13 w0 w1 w2 w3)) + (fA23 w0 w1 w2 w3)) + (fA33 w0 w1 w2 w3))
def Qr3 (Z : State) (a : Addr) (ka : ClassId) (w0 : Int32) (w1 : Int32) (w2 : Int32) (w3 : Int32) (h0 : Heap) (n0 : Nat) (v : Option Value) (h : Heap) (L : List Loc) : Prop := v = some (.int (fR3 w0 w1 w2 w3)) ∧ Fr n0 L ∧ h = h0
set_option maxRecDepth 65536 in
set_option maxHeartbeats 40000000 in
theorem rmr3 (l : Launch) (Z : State) (a0 : Array Value) (hw : ∀ d ∈ tables_1, d.before a0 Z = true) (ws : List Jvm.Cond) (a : Addr) (ka : ClassId) (w0 : Int32) (w1 : Int32) (w2 : Int32) (w3 : Int32) (h0 : Heap) (n0 : Nat) (O0 : Old Z n0 h0) (V_a : Arv Z h0 a ka .int (4 : Int32) [(.int w0), (.int w1), (.int w2), (.int w3)] (.int (0 : Int32))) :
    MetFree l (⟨"com/example/rootward/rootward/model/InstanceGroupPinLaw", "rank", "([II)I"⟩ : MethodName) (head1 (Jvm.Cond.code (⟨"com/example/rootward/rootward/model/InstanceGroupPinLaw", "rank", "([II)I"⟩ : MethodName) method_7_code 2 (some .int) :: ws) ({ frames := 1, cells := 0, slots := 0, locals := 17 } : Room)) (fun A_ U_ => A_ = #[(.ref a), (.int (3 : Int32))] ∧ Z.Warmed39 U_.vm ∧ U_.heap = h0) (fun _ _ _ _ _ => True) (fun _ U o U' => ∃ v L, o = .returned v ∧ Qr3 Z a ka w0 w1 w2 w3 h0 n0 v U'.heap L ∧ FrameEnd U o U' L ({ frames := 1, cells := 0, slots := 0, locals := 17 } : Room).cells ({ frames := 1, cells := 0, slots := 0, locals := 17 } : Room).slots) := by
  refine MetFree.of_bodySF (plainFor_of_name pnr3) hisR ?_
  intro p e s m args below meth cd s₁ Bd hml0 hP hK
  obtain ⟨rfl, hZ, hh⟩ := hP
  have hx := Bd.exec
  have hby := Bd.bytes
  have hlk : meth.locks = false := BodyLoose.notSynchronized Bd
  have hml : cd.maxLocals = 2 := hml0
  have hown : s.vm.findClass "com/example/rootward/rootward/model/InstanceGroupPinLaw" = some m.cls := findClass_of_methodNamed Bd.named
  have hnm := (name_of_methodNamed Bd.named Bd.method).1
  have X0 : Stand p l e ({ frames := 1, cells := 0, slots := 0, locals := 17 } : Room) s m #[(.ref a), (.int (3 : Int32))] below meth cd s₁ [] 0 0 := Stand.of_body Bd
  have e0 : s₁.heap = h0 := by rw [← hh, Bd.state]; rfl
  have N0 := Fr.nil n0
  have G : Go p e below s 0 0 (Qr3 Z a ka w0 w1 w2 w3 h0 n0) (s₁.setTop (mkF m 0 #[.val (.ref a), .val (.int (3 : Int32))] [])) := by
    show Go p e below s _ _ _ (s₁.setTop (mkF m 0 #[.val (.ref a), .val (.int (3 : Int32))] []))
    refine Go.st (fun _ kq_ => XS.aloadN X0.here hx rfl (hb hby dr3_0) rfl rfl kq_) ?_
    show Go p e below s _ _ _ (s₁.setTop (mkF m 1 #[.val (.ref a), .val (.int (3 : Int32))] [(.ref a)]))
    refine Go.st (fun _ kq_ => XS.iconst X0.here hx rfl (hb hby dr3_1) kq_) ?_
    show Go p e below s _ _ _ (s₁.setTop (mkF m 2 #[.val (.ref a), .val (.int (3 : Int32))] [(.int (0 : Int32)), (.ref a)]))
    refine Go.st (fun _ kq_ => XS.iloadN X0.here hx rfl (hb hby dr3_2) rfl kq_) ?_
    show Go p e below s _ _ _ (s₁.setTop (mkF m 3 #[.val (.ref a), .val (.int (3 : Int32))] [(.int (3 : Int32)), (.int (0 : Int32)), (.ref a)]))
    obtain ⟨_, _, ⟨T1, L1, k1, n1⟩, -, X1, ⟨Lc1, hQ1, l1, y1, z1⟩, st1⟩ := Jvm.LawKit.callS X0 hx (y := (⟨"com/example/rootward/rootward/model/InstanceGroupPinLaw", "ahead", "([III)I"⟩ : MethodName)) hown (mvT hZ (own_w hw 30 rfl)) (mvT hZ (own_w hw 31 rfl)) (mvT hZ (own_w hw 16 rfl)) (mvT hZ (own_w hw 32 rfl)) (by decide) (backOf (W := 0) (rmh03 l Z a0 hw [] a ka w0 w1 w2 w3 h0 n0 O0 V_a) hZ (own_w hw 32 rfl) (own_w hw 16 rfl) (by decide) (by decide)) (g := (mkF m 3 #[.val (.ref a), .val (.int (3 : Int32))] [(.int (3 : Int32)), (.int (0 : Int32)), (.ref a)])) rfl (by rw [hml]; rfl) (argsL := [(.ref a), (.int (0 : Int32)), (.int (3 : Int32))]) (rest := []) (lenOf pdr3_0 rfl) rfl (by show 2 * 0 + _ ≤ _; exact Nat.le_of_eq rfl) (hb hby dr3_3) (fun _ _ => ⟨rfl, e0, (by decide : 0 + 0 ≤ _), (by decide : 0 + 0 ≤ _)⟩)
    dsimp only [Pt.U, Pt.locs, Pt.cells, Pt.slots] at X1 l1 y1 z1 st1 hQ1
    subst l1 y1 z1
    obtain ⟨rfl, Nc1, e1⟩ := hQ1
    have N1 := Fr.app N0 Nc1
    refine Go.st st1 ?_
    show Go p e below s _ _ _ (T1.setTop (mkF m 6 #[.val (.ref a), .val (.int (3 : Int32))] [(.int (fA03 w0 w1 w2 w3))]))
    refine Go.st (fun _ kq_ => XS.aloadN X1.here hx rfl (hb hby dr3_6) rfl rfl kq_) ?_
    show Go p e below s _ _ _ (T1.setTop (mkF m 7 #[.val (.ref a), .val (.int (3 : Int32))] [(.ref a), (.int (fA03 w0 w1 w2 w3))]))
    refine Go.st (fun _ kq_ => XS.iconst X1.here hx rfl (hb hby dr3_7) kq_) ?_
    show Go p e below s _ _ _ (T1.setTop (mkF m 8 #[.val (.ref a), .val (.int (3 : Int32))] [(.int (1 : Int32)), (.ref a), (.int (fA03 w0 w1 w2 w3))]))
    refine Go.st (fun _ kq_ => XS.iloadN X1.here hx rfl (hb hby dr3_8) rfl kq_) ?_
    show Go p e below s _ _ _ (T1.setTop (mkF m 9 #[.val (.ref a), .val (.int (3 : Int32))] [(.int (3 : Int32)), (.int (1 : Int32)), (.ref a), (.int (fA03 w0 w1 w2 w3))]))
    obtain ⟨_, _, ⟨T2, L2, k2, n2⟩, -, X2, ⟨Lc2, hQ2, l2, y2, z2⟩, st2⟩ := Jvm.LawKit.callS X1 hx (y := (⟨"com/example/rootward/rootward/model/InstanceGroupPinLaw", "ahead", "([III)I"⟩ : MethodName)) hown (mvT hZ (own_w hw 30 rfl)) (mvT hZ (own_w hw 31 rfl)) (mvT hZ (own_w hw 16 rfl)) (mvT hZ (own_w hw 32 rfl)) (by decide) (backOf (W := 1) (rmh13 l Z a0 hw [] a ka w0 w1 w2 w3 h0 n0 O0 V_a) hZ (own_w hw 32 rfl) (own_w hw 16 rfl) (by decide) (by decide)) (g := (mkF m 9 #[.val (.ref a), .val (.int (3 : Int32))] [(.int (3 : Int32)), (.int (1 : Int32)), (.ref a), (.int (fA03 w0 w1 w2 w3))])) rfl (by rw [hml]; rfl) (argsL := [(.ref a), (.int (1 : Int32)), (.int (3 : Int32))]) (rest := [(.int (fA03 w0 w1 w2 w3))]) (lenOf pdr3_0 rfl) rfl (by show 2 * 0 + _ ≤ _; exact Nat.le_of_eq rfl) (hb hby dr3_9) (fun _ _ => ⟨rfl, e1, (by decide : 0 + 0 ≤ _), (by decide : 0 + 0 ≤ _)⟩)
    dsimp only [Pt.U, Pt.locs, Pt.cells, Pt.slots] at X2 l2 y2 z2 st2 hQ2
    subst l2 y2 z2
    obtain ⟨rfl, Nc2, e2⟩ := hQ2
    have N2 := Fr.app N1 Nc2
    refine Go.st st2 ?_
    show Go p e below s _ _ _ (T2.setTop (mkF m 12 #[.val (.ref a), .val (.int (3 : Int32))] [(.int (fA13 w0 w1 w2 w3)), (.int (fA03 w0 w1 w2 w3))]))
    refine Go.st (fun _ kq_ => XS.iadd X2.here hx rfl (hb hby dr3_12) rfl kq_) ?_
    show Go p e below s _ _ _ (T2.setTop (mkF m 13 #[.val (.ref a), .val (.int (3 : Int32))] [(.int ((fA03 w0 w1 w2 w3) + (fA13 w0 w1 w2 w3)))]))
    refine Go.st (fun _ kq_ => XS.aloadN X2.here hx rfl (hb hby dr3_13) rfl rfl kq_) ?_
    show Go p e below s _ _ _ (T2.setTop (mkF m 14 #[.val (.ref a), .val (.int (3 : Int32))] [(.ref a), (.int ((fA03 w0 w1 w2 w3) + (fA13 w0 w1 w2 w3)))]))
    refine Go.st (fun _ kq_ => XS.iconst X2.here hx rfl (hb hby dr3_14) kq_) ?_
    show Go p e below s _ _ _ (T2.setTop (mkF m 15 #[.val (.ref a), .val (.int (3 : Int32))] [(.int (2 : Int32)), (.ref a), (.int ((fA03 w0 w1 w2 w3) + (fA13 w0 w1 w2 w3)))]))
    refine Go.st (fun _ kq_ => XS.iloadN X2.here hx rfl (hb hby dr3_15) rfl kq_) ?_
    show Go p e below s _ _ _ (T2.setTop (mkF m 16 #[.val (.ref a), .val (.int (3 : Int32))] [(.int (3 : Int32)), (.int (2 : Int32)), (.ref a), (.int ((fA03 w0 w1 w2 w3) + (fA13 w0 w1 w2 w3)))]))
    obtain ⟨_, _, ⟨T3, L3, k3, n3⟩, -, X3, ⟨Lc3, hQ3, l3, y3, z3⟩, st3⟩ := Jvm.LawKit.callS X2 hx (y := (⟨"com/example/rootward/rootward/model/InstanceGroupPinLaw", "ahead", "([III)I"⟩ : MethodName)) hown (mvT hZ (own_w hw 30 rfl)) (mvT hZ (own_w hw 31 rfl)) (mvT hZ (own_w hw 16 rfl)) (mvT hZ (own_w hw 32 rfl)) (by decide) (backOf (W := 1) (rmh23 l Z a0 hw [] a ka w0 w1 w2 w3 h0 n0 O0 V_a) hZ (own_w hw 32 rfl) (own_w hw 16 rfl) (by decide) (by decide)) (g := (mkF m 16 #[.val (.ref a), .val (.int (3 : Int32))] [(.int (3 : Int32)), (.int (2 : Int32)), (.ref a), (.int ((fA03 w0 w1 w2 w3) + (fA13 w0 w1 w2 w3)))])) rfl (by rw [hml]; rfl) (argsL := [(.ref a), (.int (2 : Int32)), (.int (3 : Int32))]) (rest := [(.int ((fA03 w0 w1 w2 w3) + (fA13 w0 w1 w2 w3)))]) (lenOf pdr3_0 rfl) rfl (by show 2 * 0 + _ ≤ _; exact Nat.le_of_eq rfl) (hb hby dr3_16) (fun _ _ => ⟨rfl, e2, (by decide : 0 + 0 ≤ _), (by decide : 0 + 0 ≤ _)⟩)
    dsimp only [Pt.U, Pt.locs, Pt.cells, Pt.slots] at X3 l3 y3 z3 st3 hQ3
    subst l3 y3 z3
    obtain ⟨rfl, Nc3, e3⟩ := hQ3
    have N3 := Fr.app N2 Nc3
    refine Go.st st3 ?_
    show Go p e below s _ _ _ (T3.setTop (mkF m 19 #[.val (.ref a), .val (.int (3 : Int32))] [(.int (fA23 w0 w1 w2 w3)), (.int ((fA03 w0 w1 w2 w3) + (fA13 w0 w1 w2 w3)))]))
    refine Go.st (fun _ kq_ => XS.iadd X3.here hx rfl (hb hby dr3_19) rfl kq_) ?_
    show Go p e below s _ _ _ (T3.setTop (mkF m 20 #[.val (.ref a), .val (.int (3 : Int32))] [(.int (((fA03 w0 w1 w2 w3) + (fA13 w0 w1 w2 w3)) + (fA23 w0 w1 w2 w3)))]))
    refine Go.st (fun _ kq_ => XS.aloadN X3.here hx rfl (hb hby dr3_20) rfl rfl kq_) ?_
    show Go p e below s _ _ _ (T3.setTop (mkF m 21 #[.val (.ref a), .val (.int (3 : Int32))] [(.ref a), (.int (((fA03 w0 w1 w2 w3) + (fA13 w0 w1 w2 w3)) + (fA23 w0 w1 w2 w3)))]))
    refine Go.st (fun _ kq_ => XS.iconst X3.here hx rfl (hb hby dr3_21) kq_) ?_
    show Go p e below s _ _ _ (T3.setTop (mkF m 22 #[.val (.ref a), .val (.int (3 : Int32))] [(.int (3 : Int32)), (.ref a), (.int (((fA03 w0 w1 w2 w3) + (fA13 w0 w1 w2 w3)) + (fA23 w0 w1 w2 w3)))]))
    refine Go.st (fun _ kq_ => XS.iloadN X3.here hx rfl (hb hby dr3_22) rfl kq_) ?_
    show Go p e below s _ _ _ (T3.setTop (mkF m 23 #[.val (.ref a), .val (.int (3 : Int32))] [(.int (3 : Int32)), (.int (3 : Int32)), (.ref a), (.int (((fA03 w0 w1 w2 w3) + (fA13 w0 w1 w2 w3)) + (fA23 w0 w1 w2 w3)))]))
    obtain ⟨_, _, ⟨T4, L4, k4, n4⟩, -, X4, ⟨Lc4, hQ4, l4, y4, z4⟩, st4⟩ := Jvm.LawKit.callS X3 hx (y := (⟨"com/example/rootward/rootward/model/InstanceGroupPinLaw", "ahead", "([III)I"⟩ : MethodName)) hown (mvT hZ (own_w hw 30 rfl)) (mvT hZ (own_w hw 31 rfl)) (mvT hZ (own_w hw 16 rfl)) (mvT hZ (own_w hw 32 rfl)) (by decide) (backOf (W := 1) (rmh33 l Z a0 hw [] a ka w0 w1 w2 w3 h0 n0 O0 V_a) hZ (own_w hw 32 rfl) (own_w hw 16 rfl) (by decide) (by decide)) (g := (mkF m 23 #[.val (.ref a), .val (.int (3 : Int32))] [(.int (3 : Int32)), (.int (3 : Int32)), (.ref a), (.int (((fA03 w0 w1 w2 w3) + (fA13 w0 w1 w2 w3)) + (fA23 w0 w1 w2 w3)))])) rfl (by rw [hml]; rfl) (argsL := [(.ref a), (.int (3 : Int32)), (.int (3 : Int32))]) (rest := [(.int (((fA03 w0 w1 w2 w3) + (fA13 w0 w1 w2 w3)) + (fA23 w0 w1 w2 w3)))]) (lenOf pdr3_0 rfl) rfl (by show 2 * 0 + _ ≤ _; exact Nat.le_of_eq rfl) (hb hby dr3_23) (fun _ _ => ⟨rfl, e3, (by decide : 0 + 0 ≤ _), (by decide : 0 + 0 ≤ _)⟩)
    dsimp only [Pt.U, Pt.locs, Pt.cells, Pt.slots] at X4 l4 y4 z4 st4 hQ4
    subst l4 y4 z4
    obtain ⟨rfl, Nc4, e4⟩ := hQ4
    have N4 := Fr.app N3 Nc4
    refine Go.st st4 ?_
    show Go p e below s _ _ _ (T4.setTop (mkF m 26 #[.val (.ref a), .val (.int (3 : Int32))] [(.int (fA33 w0 w1 w2 w3)), (.int (((fA03 w0 w1 w2 w3) + (fA13 w0 w1 w2 w3)) + (fA23 w0 w1 w2 w3)))]))
    refine Go.st (fun _ kq_ => XS.iadd X4.here hx rfl (hb hby dr3_26) rfl kq_) ?_
    show Go p e below s _ _ _ (T4.setTop (mkF m 27 #[.val (.ref a), .val (.int (3 : Int32))] [(.int ((((fA03 w0 w1 w2 w3) + (fA13 w0 w1 w2 w3)) + (fA23 w0 w1 w2 w3)) + (fA33 w0 w1 w2 w3)))]))
    exact Go.ret X4 hlk (some (.int ((((fA03 w0 w1 w2 w3) + (fA13 w0 w1 w2 w3)) + (fA23 w0 w1 w2 w3)) + (fA33 w0 w1 w2 w3)))) (fun h => by rw [Bd.returns] at h; cases h) (by rw [e4]; exact ⟨own_res (z' := ((((fA03 w0 w1 w2 w3) + (fA13 w0 w1 w2 w3)) + (fA23 w0 w1 w2 w3)) + (fA33 w0 w1 w2 w3))) rfl rfl, N4, rfl⟩) (by decide) (by decide) (fun fs hr => retI X4 hx Bd.returns (hb hby dr3_27) hr)
  obtain ⟨s2, o2, st2, r2⟩ := G
  exact ⟨s2, o2, castTop (efr3 m a (3 : Int32)) st2, r2⟩
theorem dp0_0 : decode method_8_code 0 = .ok (.aload_n 0, 1) := by decide +kernel
theorem dp0_1 : decode method_8_code 1 = .ok (.iload_n 2, 1) := by decide +kernel
theorem dp0_2 : decode method_8_code 2 = .ok (.iaload, 1) := by decide +kernel
theorem dp0_3 : decode method_8_code 3 = .ok (.iconst (-1), 1) := by decide +kernel
theorem dp0_4 : decode method_8_code 4 = .ok (.if_icmp .ne 5, 3) := by decide +kernel
theorem dp0_7 : decode method_8_code 7 = .ok (.iconst 1, 1) := by decide +kernel
theorem dp0_8 : decode method_8_code 8 = .ok (.ireturn, 1) := by decide +kernel
theorem dp0_9 : decode method_8_code 9 = .ok (.aload_n 0, 1) := by decide +kernel
theorem dp0_10 : decode method_8_code 10 = .ok (.iload_n 2, 1) := by decide +kernel
theorem dp0_11 : decode method_8_code 11 = .ok (.invokestatic 34, 3) := by decide +kernel
theorem dp0_14 : decode method_8_code 14 = .ok (.istore_n 3, 1) := by decide +kernel
theorem dp0_15 : decode method_8_code 15 = .ok (.iload_n 3, 1) := by decide +kernel
theorem dp0_16 : decode method_8_code 16 = .ok (.ifCond .lt 20, 3) := by decide +kernel
theorem dp0_19 : decode method_8_code 19 = .ok (.iload_n 3, 1) := by decide +kernel
theorem dp0_20 : decode method_8_code 20 = .ok (.aload_n 1, 1) := by decide +kernel
theorem dp0_21 : decode method_8_code 21 = .ok (.arraylength, 1) := by decide +kernel
theorem dp0_22 : decode method_8_code 22 = .ok (.if_icmp .ge 14, 3) := by decide +kernel
theorem dp0_25 : decode method_8_code 25 = .ok (.aload_n 1, 1) := by decide +kernel
theorem dp0_26 : decode method_8_code 26 = .ok (.iload_n 3, 1) := by decide +kernel
theorem dp0_27 : decode method_8_code 27 = .ok (.iaload, 1) := by decide +kernel
theorem dp0_28 : decode method_8_code 28 = .ok (.iload_n 2, 1) := by decide +kernel
theorem dp0_29 : decode method_8_code 29 = .ok (.if_icmp .ne 7, 3) := by decide +kernel
theorem dp0_32 : decode method_8_code 32 = .ok (.iconst 1, 1) := by decide +kernel
theorem dp0_33 : decode method_8_code 33 = .ok (.goto 4, 3) := by decide +kernel
theorem dp0_36 : decode method_8_code 36 = .ok (.iconst 0, 1) := by decide +kernel
theorem dp0_37 : decode method_8_code 37 = .ok (.ireturn, 1) := by decide +kernel
theorem pdp0_0 : parseMethodDescriptor "([II)I" = some ⟨[(.array .int), .int], some .int⟩ := by decide +kernel
theorem pnp0 : plainName "com/example/rootward/rootward/model/InstanceGroupPinLaw" = true := by first | (simp [plainName, overriddenIn]; done) | decide +kernel
theorem efp0 (m : MethodId) (x0 : Addr) (x1 : Addr) (x2 : Int32) : entryFrame m #[(.ref x0), (.ref x1), (.int x2)] 4 = mkF m 0 #[.val (.ref x0), .val (.ref x1), .val (.int x2), .unset] [] := by first | (simp [entryFrame, mkF, argsToLocals, Value.category, maxLocals]; done) | rfl
def fP0 (w0 : Int32) (w1 : Int32) (w2 : Int32) (w3 : Int32) (n : Int32) (G : List Int32) : Int32 := (if w0 = (-1 : Int32) then (1 : Int32) else (if (fR0 w0 w1 w2 w3) < (0 : Int32) then (0 : Int32) else (if (fR0 w0 w1 w2 w3) < n then (if (List.getD G ((fR0 w0 w1 w2 w3)).toNatClampNeg 0) = (0 : Int32) then (1 : Int32) else (0 : Int32)) else (0 : Int32))))
def Qp0 (Z : State) (a : Addr) (ka : ClassId) (w0 : Int32) (w1 : Int32) (w2 : Int32) (w3 : Int32) (g : Addr) (kg : ClassId) (n : Int32) (G : List Int32) (h0 : Heap) (n0 : Nat) (v : Option Value) (h : Heap) (L : List Loc) : Prop := v = some (.int (fP0 w0 w1 w2 w3 n G)) ∧ Fr n0 L ∧ h = h0
set_option maxRecDepth 65536 in
set_option maxHeartbeats 40000000 in
theorem rmp0 (l : Launch) (Z : State) (a0 : Array Value) (hw : ∀ d ∈ tables_1, d.before a0 Z = true) (ws : List Jvm.Cond) (a : Addr) (ka : ClassId) (w0 : Int32) (w1 : Int32) (w2 : Int32) (w3 : Int32) (g : Addr) (kg : ClassId) (n : Int32) (G : List Int32) (h0 : Heap) (n0 : Nat) (O0 : Old Z n0 h0) (V_a : Arv Z h0 a ka .int (4 : Int32) [(.int w0), (.int w1), (.int w2), (.int w3)] (.int (0 : Int32))) (V_g : Arv Z h0 g kg .int n (G.map Value.int) (.int (0 : Int32))) :
    MetFree l (⟨"com/example/rootward/rootward/model/InstanceGroupPinLaw", "placed", "([I[II)Z"⟩ : MethodName) (head1 (Jvm.Cond.code (⟨"com/example/rootward/rootward/model/InstanceGroupPinLaw", "placed", "([I[II)Z"⟩ : MethodName) method_8_code 4 (some .boolean) :: ws) ({ frames := 2, cells := 0, slots := 0, locals := 30 } : Room)) (fun A_ U_ => A_ = #[(.ref a), (.ref g), (.int (0 : Int32))] ∧ Z.Warmed39 U_.vm ∧ U_.heap = h0) (fun _ _ _ _ _ => True) (fun _ U o U' => ∃ v L, o = .returned v ∧ Qp0 Z a ka w0 w1 w2 w3 g kg n G h0 n0 v U'.heap L ∧ FrameEnd U o U' L ({ frames := 2, cells := 0, slots := 0, locals := 30 } : Room).cells ({ frames := 2, cells := 0, slots := 0, locals := 30 } : Room).slots) := by
  refine MetFree.of_bodySF (plainFor_of_name pnp0) hisR ?_
  intro p e s m args below meth cd s₁ Bd hml0 hP hK
  obtain ⟨rfl, hZ, hh⟩ := hP
  have hx := Bd.exec
  have hby := Bd.bytes
  have hlk : meth.locks = false := BodyLoose.notSynchronized Bd
  have hml : cd.maxLocals = 4 := hml0
  have hown : s.vm.findClass "com/example/rootward/rootward/model/InstanceGroupPinLaw" = some m.cls := findClass_of_methodNamed Bd.named
  have hnm := (name_of_methodNamed Bd.named Bd.method).1
  have X0 : Stand p l e ({ frames := 2, cells := 0, slots := 0, locals := 30 } : Room) s m #[(.ref a), (.ref g), (.int (0 : Int32))] below meth cd s₁ [] 0 0 := Stand.of_body Bd
  have e0 : s₁.heap = h0 := by rw [← hh, Bd.state]; rfl
  have N0 := Fr.nil n0
  have G : Go p e below s 0 0 (Qp0 Z a ka w0 w1 w2 w3 g kg n G h0 n0) (s₁.setTop (mkF m 0 #[.val (.ref a), .val (.ref g), .val (.int (0 : Int32)), .unset] [])) := by
    show Go p e below s _ _ _ (s₁.setTop (mkF m 0 #[.val (.ref a), .val (.ref g), .val (.int (0 : Int32)), .unset] []))
    refine Go.st (fun _ kq_ => XS.aloadN X0.here hx rfl (hb hby dp0_0) rfl rfl kq_) ?_
    show Go p e below s _ _ _ (s₁.setTop (mkF m 1 #[.val (.ref a), .val (.ref g), .val (.int (0 : Int32)), .unset] [(.ref a)]))
    refine Go.st (fun _ kq_ => XS.iloadN X0.here hx rfl (hb hby dp0_1) rfl kq_) ?_
    show Go p e below s _ _ _ (s₁.setTop (mkF m 2 #[.val (.ref a), .val (.ref g), .val (.int (0 : Int32)), .unset] [(.int (0 : Int32)), (.ref a)]))
    refine Go.st (fun _ kq_ => own_iaload X0 hx hZ e0 V_a (by decide) (by decide) (v := (.int w0)) rfl (g := (mkF m 2 #[.val (.ref a), .val (.ref g), .val (.int (0 : Int32)), .unset] [(.int (0 : Int32)), (.ref a)])) rfl rfl (hb hby dp0_2) _ kq_) ?_
    show Go p e below s _ _ _ (s₁.setTop (mkF m 3 #[.val (.ref a), .val (.ref g), .val (.int (0 : Int32)), .unset] [(.int w0)]))
    refine Go.st (fun _ kq_ => XS.iconst X0.here hx rfl (hb hby dp0_3) kq_) ?_
    show Go p e below s _ _ _ (s₁.setTop (mkF m 4 #[.val (.ref a), .val (.ref g), .val (.int (0 : Int32)), .unset] [(.int (-1 : Int32)), (.int w0)]))
    by_cases c4_1 : w0 = (-1 : Int32)
    · refine Go.st (fun _ kq_ => XS.icmpNo X0.here hx rfl (hb hby dp0_4) rfl (XT.ii_ne_f c4_1) kq_) ?_
      show Go p e below s _ _ _ (s₁.setTop (mkF m 7 #[.val (.ref a), .val (.ref g), .val (.int (0 : Int32)), .unset] []))
      refine Go.st (fun _ kq_ => XS.iconst X0.here hx rfl (hb hby dp0_7) kq_) ?_
      show Go p e below s _ _ _ (s₁.setTop (mkF m 8 #[.val (.ref a), .val (.ref g), .val (.int (0 : Int32)), .unset] [(.int (1 : Int32))]))
      exact Go.ret X0 hlk (some (.int (nar .boolean (1 : Int32)))) (fun h => by rw [Bd.returns] at h; cases h) (by rw [e0]; exact ⟨own_res (z' := (1 : Int32)) (by unfold fP0; rw [if_pos c4_1]) rfl, N0, rfl⟩) (by decide) (by decide) (fun fs hr => retN X0 hx (t := .boolean) Bd.returns (by simp) (hb hby dp0_8) hr)
    · refine Go.st (fun _ kq_ => XS.icmpYes X0.here hx rfl (pc0 := 4) (pc' := 9) rfl (hb hby dp0_4) rfl (XT.ii_ne_t c4_1) (by decide) (by decide) kq_) ?_
      show Go p e below s _ _ _ (s₁.setTop (mkF m 9 #[.val (.ref a), .val (.ref g), .val (.int (0 : Int32)), .unset] []))
      refine Go.st (fun _ kq_ => XS.aloadN X0.here hx rfl (hb hby dp0_9) rfl rfl kq_) ?_
      show Go p e below s _ _ _ (s₁.setTop (mkF m 10 #[.val (.ref a), .val (.ref g), .val (.int (0 : Int32)), .unset] [(.ref a)]))
      refine Go.st (fun _ kq_ => XS.iloadN X0.here hx rfl (hb hby dp0_10) rfl kq_) ?_
      show Go p e below s _ _ _ (s₁.setTop (mkF m 11 #[.val (.ref a), .val (.ref g), .val (.int (0 : Int32)), .unset] [(.int (0 : Int32)), (.ref a)]))
      obtain ⟨_, _, ⟨T2, L2, k2, n2⟩, -, X2, ⟨Lc2, hQ2, l2, y2, z2⟩, st2⟩ := Jvm.LawKit.callS X0 hx (y := (⟨"com/example/rootward/rootward/model/InstanceGroupPinLaw", "rank", "([II)I"⟩ : MethodName)) hown (mvT hZ (own_w hw 27 rfl)) (mvT hZ (own_w hw 28 rfl)) (mvT hZ (own_w hw 16 rfl)) (mvT hZ (own_w hw 29 rfl)) (by decide) (backOf (W := 0) (rmr0 l Z a0 hw [] a ka w0 w1 w2 w3 h0 n0 O0 V_a) hZ (own_w hw 29 rfl) (own_w hw 16 rfl) (by decide) (by decide)) (g := (mkF m 11 #[.val (.ref a), .val (.ref g), .val (.int (0 : Int32)), .unset] [(.int (0 : Int32)), (.ref a)])) rfl (by rw [hml]; rfl) (argsL := [(.ref a), (.int (0 : Int32))]) (rest := []) (lenOf pdp0_0 rfl) rfl (by show 2 * 0 + _ ≤ _; exact Nat.le_of_eq rfl) (hb hby dp0_11) (fun _ _ => ⟨rfl, e0, (by decide : 0 + 0 ≤ _), (by decide : 0 + 0 ≤ _)⟩)
      dsimp only [Pt.U, Pt.locs, Pt.cells, Pt.slots] at X2 l2 y2 z2 st2 hQ2
      subst l2 y2 z2
      obtain ⟨rfl, Nc2, e2⟩ := hQ2
      have N2 := Fr.app N0 Nc2
      refine Go.st st2 ?_
      show Go p e below s _ _ _ (T2.setTop (mkF m 14 #[.val (.ref a), .val (.ref g), .val (.int (0 : Int32)), .unset] [(.int (fR0 w0 w1 w2 w3))]))
      refine Go.st (fun _ kq_ => XS.istoreN X2.here hx rfl (hb hby dp0_14) rfl (l' := #[.val (.ref a), .val (.ref g), .val (.int (0 : Int32)), .val (.int (fR0 w0 w1 w2 w3))]) rfl kq_) ?_
      show Go p e below s _ _ _ (T2.setTop (mkF m 15 #[.val (.ref a), .val (.ref g), .val (.int (0 : Int32)), .val (.int (fR0 w0 w1 w2 w3))] []))
      refine Go.st (fun _ kq_ => XS.iloadN X2.here hx rfl (hb hby dp0_15) rfl kq_) ?_
      show Go p e below s _ _ _ (T2.setTop (mkF m 16 #[.val (.ref a), .val (.ref g), .val (.int (0 : Int32)), .val (.int (fR0 w0 w1 w2 w3))] [(.int (fR0 w0 w1 w2 w3))]))
      by_cases c16_3 : (fR0 w0 w1 w2 w3) < (0 : Int32)
      · refine Go.st (fun _ kq_ => XS.ifYes X2.here hx rfl (pc0 := 16) (pc' := 36) rfl (hb hby dp0_16) rfl (XT.i0_lt_t c16_3) (by decide) (by decide) kq_) ?_
        show Go p e below s _ _ _ (T2.setTop (mkF m 36 #[.val (.ref a), .val (.ref g), .val (.int (0 : Int32)), .val (.int (fR0 w0 w1 w2 w3))] []))
        refine Go.st (fun _ kq_ => XS.iconst X2.here hx rfl (hb hby dp0_36) kq_) ?_
        show Go p e below s _ _ _ (T2.setTop (mkF m 37 #[.val (.ref a), .val (.ref g), .val (.int (0 : Int32)), .val (.int (fR0 w0 w1 w2 w3))] [(.int (0 : Int32))]))
        exact Go.ret X2 hlk (some (.int (nar .boolean (0 : Int32)))) (fun h => by rw [Bd.returns] at h; cases h) (by rw [e2]; exact ⟨own_res (z' := (0 : Int32)) (by unfold fP0; rw [if_neg c4_1, if_pos c16_3]) rfl, N2, rfl⟩) (by decide) (by decide) (fun fs hr => retN X2 hx (t := .boolean) Bd.returns (by simp) (hb hby dp0_37) hr)
      · refine Go.st (fun _ kq_ => XS.ifNo X2.here hx rfl (hb hby dp0_16) rfl (XT.i0_lt_f c16_3) kq_) ?_
        show Go p e below s _ _ _ (T2.setTop (mkF m 19 #[.val (.ref a), .val (.ref g), .val (.int (0 : Int32)), .val (.int (fR0 w0 w1 w2 w3))] []))
        refine Go.st (fun _ kq_ => XS.iloadN X2.here hx rfl (hb hby dp0_19) rfl kq_) ?_
        show Go p e below s _ _ _ (T2.setTop (mkF m 20 #[.val (.ref a), .val (.ref g), .val (.int (0 : Int32)), .val (.int (fR0 w0 w1 w2 w3))] [(.int (fR0 w0 w1 w2 w3))]))
        refine Go.st (fun _ kq_ => XS.aloadN X2.here hx rfl (hb hby dp0_20) rfl rfl kq_) ?_
        show Go p e below s _ _ _ (T2.setTop (mkF m 21 #[.val (.ref a), .val (.ref g), .val (.int (0 : Int32)), .val (.int (fR0 w0 w1 w2 w3))] [(.ref g), (.int (fR0 w0 w1 w2 w3))]))
        refine Go.st (fun _ kq_ => own_len X2 hx hZ e2 V_g (g := (mkF m 21 #[.val (.ref a), .val (.ref g), .val (.int (0 : Int32)), .val (.int (fR0 w0 w1 w2 w3))] [(.ref g), (.int (fR0 w0 w1 w2 w3))])) rfl rfl (hb hby dp0_21) _ kq_) ?_
        show Go p e below s _ _ _ (T2.setTop (mkF m 22 #[.val (.ref a), .val (.ref g), .val (.int (0 : Int32)), .val (.int (fR0 w0 w1 w2 w3))] [(.int n), (.int (fR0 w0 w1 w2 w3))]))
        by_cases c22_4 : (fR0 w0 w1 w2 w3) < n
        · refine Go.st (fun _ kq_ => XS.icmpNo X2.here hx rfl (hb hby dp0_22) rfl (XT.ii_ge_f c22_4) kq_) ?_
          show Go p e below s _ _ _ (T2.setTop (mkF m 25 #[.val (.ref a), .val (.ref g), .val (.int (0 : Int32)), .val (.int (fR0 w0 w1 w2 w3))] []))
          refine Go.st (fun _ kq_ => XS.aloadN X2.here hx rfl (hb hby dp0_25) rfl rfl kq_) ?_
          show Go p e below s _ _ _ (T2.setTop (mkF m 26 #[.val (.ref a), .val (.ref g), .val (.int (0 : Int32)), .val (.int (fR0 w0 w1 w2 w3))] [(.ref g)]))
          refine Go.st (fun _ kq_ => XS.iloadN X2.here hx rfl (hb hby dp0_26) rfl kq_) ?_
          show Go p e below s _ _ _ (T2.setTop (mkF m 27 #[.val (.ref a), .val (.ref g), .val (.int (0 : Int32)), .val (.int (fR0 w0 w1 w2 w3))] [(.int (fR0 w0 w1 w2 w3)), (.ref g)]))
          refine Go.st (fun _ kq_ => own_iaload X2 hx hZ e2 V_g c16_3 c22_4 (v := .int (List.getD G ((fR0 w0 w1 w2 w3)).toNatClampNeg 0)) (own_getI G 0 _) (g := (mkF m 27 #[.val (.ref a), .val (.ref g), .val (.int (0 : Int32)), .val (.int (fR0 w0 w1 w2 w3))] [(.int (fR0 w0 w1 w2 w3)), (.ref g)])) rfl rfl (hb hby dp0_27) _ kq_) ?_
          show Go p e below s _ _ _ (T2.setTop (mkF m 28 #[.val (.ref a), .val (.ref g), .val (.int (0 : Int32)), .val (.int (fR0 w0 w1 w2 w3))] [(.int (List.getD G ((fR0 w0 w1 w2 w3)).toNatClampNeg 0))]))
          refine Go.st (fun _ kq_ => XS.iloadN X2.here hx rfl (hb hby dp0_28) rfl kq_) ?_
          show Go p e below s _ _ _ (T2.setTop (mkF m 29 #[.val (.ref a), .val (.ref g), .val (.int (0 : Int32)), .val (.int (fR0 w0 w1 w2 w3))] [(.int (0 : Int32)), (.int (List.getD G ((fR0 w0 w1 w2 w3)).toNatClampNeg 0))]))
          by_cases c29_5 : (List.getD G ((fR0 w0 w1 w2 w3)).toNatClampNeg 0) = (0 : Int32)
          · refine Go.st (fun _ kq_ => XS.icmpNo X2.here hx rfl (hb hby dp0_29) rfl (XT.ii_ne_f c29_5) kq_) ?_
            show Go p e below s _ _ _ (T2.setTop (mkF m 32 #[.val (.ref a), .val (.ref g), .val (.int (0 : Int32)), .val (.int (fR0 w0 w1 w2 w3))] []))
            refine Go.st (fun _ kq_ => XS.iconst X2.here hx rfl (hb hby dp0_32) kq_) ?_
            show Go p e below s _ _ _ (T2.setTop (mkF m 33 #[.val (.ref a), .val (.ref g), .val (.int (0 : Int32)), .val (.int (fR0 w0 w1 w2 w3))] [(.int (1 : Int32))]))
            refine Go.st (fun _ kq_ => XS.goto X2.here hx rfl (pc0 := 33) (pc' := 37) rfl (hb hby dp0_33) (by decide) (by decide) kq_) ?_
            show Go p e below s _ _ _ (T2.setTop (mkF m 37 #[.val (.ref a), .val (.ref g), .val (.int (0 : Int32)), .val (.int (fR0 w0 w1 w2 w3))] [(.int (1 : Int32))]))
            exact Go.ret X2 hlk (some (.int (nar .boolean (1 : Int32)))) (fun h => by rw [Bd.returns] at h; cases h) (by rw [e2]; exact ⟨own_res (z' := (1 : Int32)) (by unfold fP0; rw [if_neg c4_1, if_neg c16_3, if_pos c22_4, if_pos c29_5]) rfl, N2, rfl⟩) (by decide) (by decide) (fun fs hr => retN X2 hx (t := .boolean) Bd.returns (by simp) (hb hby dp0_37) hr)
          · refine Go.st (fun _ kq_ => XS.icmpYes X2.here hx rfl (pc0 := 29) (pc' := 36) rfl (hb hby dp0_29) rfl (XT.ii_ne_t c29_5) (by decide) (by decide) kq_) ?_
            show Go p e below s _ _ _ (T2.setTop (mkF m 36 #[.val (.ref a), .val (.ref g), .val (.int (0 : Int32)), .val (.int (fR0 w0 w1 w2 w3))] []))
            refine Go.st (fun _ kq_ => XS.iconst X2.here hx rfl (hb hby dp0_36) kq_) ?_
            show Go p e below s _ _ _ (T2.setTop (mkF m 37 #[.val (.ref a), .val (.ref g), .val (.int (0 : Int32)), .val (.int (fR0 w0 w1 w2 w3))] [(.int (0 : Int32))]))
            exact Go.ret X2 hlk (some (.int (nar .boolean (0 : Int32)))) (fun h => by rw [Bd.returns] at h; cases h) (by rw [e2]; exact ⟨own_res (z' := (0 : Int32)) (by unfold fP0; rw [if_neg c4_1, if_neg c16_3, if_pos c22_4, if_neg c29_5]) rfl, N2, rfl⟩) (by decide) (by decide) (fun fs hr => retN X2 hx (t := .boolean) Bd.returns (by simp) (hb hby dp0_37) hr)
        · refine Go.st (fun _ kq_ => XS.icmpYes X2.here hx rfl (pc0 := 22) (pc' := 36) rfl (hb hby dp0_22) rfl (XT.ii_ge_t c22_4) (by decide) (by decide) kq_) ?_
          show Go p e below s _ _ _ (T2.setTop (mkF m 36 #[.val (.ref a), .val (.ref g), .val (.int (0 : Int32)), .val (.int (fR0 w0 w1 w2 w3))] []))
          refine Go.st (fun _ kq_ => XS.iconst X2.here hx rfl (hb hby dp0_36) kq_) ?_
          show Go p e below s _ _ _ (T2.setTop (mkF m 37 #[.val (.ref a), .val (.ref g), .val (.int (0 : Int32)), .val (.int (fR0 w0 w1 w2 w3))] [(.int (0 : Int32))]))
          exact Go.ret X2 hlk (some (.int (nar .boolean (0 : Int32)))) (fun h => by rw [Bd.returns] at h; cases h) (by rw [e2]; exact ⟨own_res (z' := (0 : Int32)) (by unfold fP0; rw [if_neg c4_1, if_neg c16_3, if_neg c22_4]) rfl, N2, rfl⟩) (by decide) (by decide) (fun fs hr => retN X2 hx (t := .boolean) Bd.returns (by simp) (hb hby dp0_37) hr)
  obtain ⟨s2, o2, st2, r2⟩ := G
  exact ⟨s2, o2, castTop (efp0 m a g (0 : Int32)) st2, r2⟩
theorem dp1_0 : decode method_8_code 0 = .ok (.aload_n 0, 1) := by decide +kernel
theorem dp1_1 : decode method_8_code 1 = .ok (.iload_n 2, 1) := by decide +kernel
theorem dp1_2 : decode method_8_code 2 = .ok (.iaload, 1) := by decide +kernel
theorem dp1_3 : decode method_8_code 3 = .ok (.iconst (-1), 1) := by decide +kernel
theorem dp1_4 : decode method_8_code 4 = .ok (.if_icmp .ne 5, 3) := by decide +kernel
theorem dp1_7 : decode method_8_code 7 = .ok (.iconst 1, 1) := by decide +kernel
theorem dp1_8 : decode method_8_code 8 = .ok (.ireturn, 1) := by decide +kernel
theorem dp1_9 : decode method_8_code 9 = .ok (.aload_n 0, 1) := by decide +kernel
theorem dp1_10 : decode method_8_code 10 = .ok (.iload_n 2, 1) := by decide +kernel
theorem dp1_11 : decode method_8_code 11 = .ok (.invokestatic 34, 3) := by decide +kernel
theorem dp1_14 : decode method_8_code 14 = .ok (.istore_n 3, 1) := by decide +kernel
theorem dp1_15 : decode method_8_code 15 = .ok (.iload_n 3, 1) := by decide +kernel
theorem dp1_16 : decode method_8_code 16 = .ok (.ifCond .lt 20, 3) := by decide +kernel
theorem dp1_19 : decode method_8_code 19 = .ok (.iload_n 3, 1) := by decide +kernel
theorem dp1_20 : decode method_8_code 20 = .ok (.aload_n 1, 1) := by decide +kernel
theorem dp1_21 : decode method_8_code 21 = .ok (.arraylength, 1) := by decide +kernel
theorem dp1_22 : decode method_8_code 22 = .ok (.if_icmp .ge 14, 3) := by decide +kernel
theorem dp1_25 : decode method_8_code 25 = .ok (.aload_n 1, 1) := by decide +kernel
theorem dp1_26 : decode method_8_code 26 = .ok (.iload_n 3, 1) := by decide +kernel
theorem dp1_27 : decode method_8_code 27 = .ok (.iaload, 1) := by decide +kernel
theorem dp1_28 : decode method_8_code 28 = .ok (.iload_n 2, 1) := by decide +kernel
theorem dp1_29 : decode method_8_code 29 = .ok (.if_icmp .ne 7, 3) := by decide +kernel
theorem dp1_32 : decode method_8_code 32 = .ok (.iconst 1, 1) := by decide +kernel
theorem dp1_33 : decode method_8_code 33 = .ok (.goto 4, 3) := by decide +kernel
theorem dp1_36 : decode method_8_code 36 = .ok (.iconst 0, 1) := by decide +kernel
theorem dp1_37 : decode method_8_code 37 = .ok (.ireturn, 1) := by decide +kernel
theorem pdp1_0 : parseMethodDescriptor "([II)I" = some ⟨[(.array .int), .int], some .int⟩ := by decide +kernel
theorem pnp1 : plainName "com/example/rootward/rootward/model/InstanceGroupPinLaw" = true := by first | (simp [plainName, overriddenIn]; done) | decide +kernel
theorem efp1 (m : MethodId) (x0 : Addr) (x1 : Addr) (x2 : Int32) : entryFrame m #[(.ref x0), (.ref x1), (.int x2)] 4 = mkF m 0 #[.val (.ref x0), .val (.ref x1), .val (.int x2), .unset] [] := by first | (simp [entryFrame, mkF, argsToLocals, Value.category, maxLocals]; done) | rfl
def fP1 (w0 : Int32) (w1 : Int32) (w2 : Int32) (w3 : Int32) (n : Int32) (G : List Int32) : Int32 := (if w1 = (-1 : Int32) then (1 : Int32) else (if (fR1 w0 w1 w2 w3) < (0 : Int32) then (0 : Int32) else (if (fR1 w0 w1 w2 w3) < n then (if (List.getD G ((fR1 w0 w1 w2 w3)).toNatClampNeg 0) = (1 : Int32) then (1 : Int32) else (0 : Int32)) else (0 : Int32))))
def Qp1 (Z : State) (a : Addr) (ka : ClassId) (w0 : Int32) (w1 : Int32) (w2 : Int32) (w3 : Int32) (g : Addr) (kg : ClassId) (n : Int32) (G : List Int32) (h0 : Heap) (n0 : Nat) (v : Option Value) (h : Heap) (L : List Loc) : Prop := v = some (.int (fP1 w0 w1 w2 w3 n G)) ∧ Fr n0 L ∧ h = h0
set_option maxRecDepth 65536 in
set_option maxHeartbeats 40000000 in
theorem rmp1 (l : Launch) (Z : State) (a0 : Array Value) (hw : ∀ d ∈ tables_1, d.before a0 Z = true) (ws : List Jvm.Cond) (a : Addr) (ka : ClassId) (w0 : Int32) (w1 : Int32) (w2 : Int32) (w3 : Int32) (g : Addr) (kg : ClassId) (n : Int32) (G : List Int32) (h0 : Heap) (n0 : Nat) (O0 : Old Z n0 h0) (V_a : Arv Z h0 a ka .int (4 : Int32) [(.int w0), (.int w1), (.int w2), (.int w3)] (.int (0 : Int32))) (V_g : Arv Z h0 g kg .int n (G.map Value.int) (.int (0 : Int32))) :
    MetFree l (⟨"com/example/rootward/rootward/model/InstanceGroupPinLaw", "placed", "([I[II)Z"⟩ : MethodName) (head1 (Jvm.Cond.code (⟨"com/example/rootward/rootward/model/InstanceGroupPinLaw", "placed", "([I[II)Z"⟩ : MethodName) method_8_code 4 (some .boolean) :: ws) ({ frames := 2, cells := 0, slots := 0, locals := 30 } : Room)) (fun A_ U_ => A_ = #[(.ref a), (.ref g), (.int (1 : Int32))] ∧ Z.Warmed39 U_.vm ∧ U_.heap = h0) (fun _ _ _ _ _ => True) (fun _ U o U' => ∃ v L, o = .returned v ∧ Qp1 Z a ka w0 w1 w2 w3 g kg n G h0 n0 v U'.heap L ∧ FrameEnd U o U' L ({ frames := 2, cells := 0, slots := 0, locals := 30 } : Room).cells ({ frames := 2, cells := 0, slots := 0, locals := 30 } : Room).slots) := by
  refine MetFree.of_bodySF (plainFor_of_name pnp1) hisR ?_
  intro p e s m args below meth cd s₁ Bd hml0 hP hK
  obtain ⟨rfl, hZ, hh⟩ := hP
  have hx := Bd.exec
  have hby := Bd.bytes
  have hlk : meth.locks = false := BodyLoose.notSynchronized Bd
  have hml : cd.maxLocals = 4 := hml0
  have hown : s.vm.findClass "com/example/rootward/rootward/model/InstanceGroupPinLaw" = some m.cls := findClass_of_methodNamed Bd.named
  have hnm := (name_of_methodNamed Bd.named Bd.method).1
  have X0 : Stand p l e ({ frames := 2, cells := 0, slots := 0, locals := 30 } : Room) s m #[(.ref a), (.ref g), (.int (1 : Int32))] below meth cd s₁ [] 0 0 := Stand.of_body Bd
  have e0 : s₁.heap = h0 := by rw [← hh, Bd.state]; rfl
  have N0 := Fr.nil n0
  have G : Go p e below s 0 0 (Qp1 Z a ka w0 w1 w2 w3 g kg n G h0 n0) (s₁.setTop (mkF m 0 #[.val (.ref a), .val (.ref g), .val (.int (1 : Int32)), .unset] [])) := by
    show Go p e below s _ _ _ (s₁.setTop (mkF m 0 #[.val (.ref a), .val (.ref g), .val (.int (1 : Int32)), .unset] []))
    refine Go.st (fun _ kq_ => XS.aloadN X0.here hx rfl (hb hby dp1_0) rfl rfl kq_) ?_
    show Go p e below s _ _ _ (s₁.setTop (mkF m 1 #[.val (.ref a), .val (.ref g), .val (.int (1 : Int32)), .unset] [(.ref a)]))
    refine Go.st (fun _ kq_ => XS.iloadN X0.here hx rfl (hb hby dp1_1) rfl kq_) ?_
    show Go p e below s _ _ _ (s₁.setTop (mkF m 2 #[.val (.ref a), .val (.ref g), .val (.int (1 : Int32)), .unset] [(.int (1 : Int32)), (.ref a)]))
    refine Go.st (fun _ kq_ => own_iaload X0 hx hZ e0 V_a (by decide) (by decide) (v := (.int w1)) rfl (g := (mkF m 2 #[.val (.ref a), .val (.ref g), .val (.int (1 : Int32)), .unset] [(.int (1 : Int32)), (.ref a)])) rfl rfl (hb hby dp1_2) _ kq_) ?_
    show Go p e below s _ _ _ (s₁.setTop (mkF m 3 #[.val (.ref a), .val (.ref g), .val (.int (1 : Int32)), .unset] [(.int w1)]))
    refine Go.st (fun _ kq_ => XS.iconst X0.here hx rfl (hb hby dp1_3) kq_) ?_
    show Go p e below s _ _ _ (s₁.setTop (mkF m 4 #[.val (.ref a), .val (.ref g), .val (.int (1 : Int32)), .unset] [(.int (-1 : Int32)), (.int w1)]))
    by_cases c4_1 : w1 = (-1 : Int32)
    · refine Go.st (fun _ kq_ => XS.icmpNo X0.here hx rfl (hb hby dp1_4) rfl (XT.ii_ne_f c4_1) kq_) ?_
      show Go p e below s _ _ _ (s₁.setTop (mkF m 7 #[.val (.ref a), .val (.ref g), .val (.int (1 : Int32)), .unset] []))
      refine Go.st (fun _ kq_ => XS.iconst X0.here hx rfl (hb hby dp1_7) kq_) ?_
      show Go p e below s _ _ _ (s₁.setTop (mkF m 8 #[.val (.ref a), .val (.ref g), .val (.int (1 : Int32)), .unset] [(.int (1 : Int32))]))
      exact Go.ret X0 hlk (some (.int (nar .boolean (1 : Int32)))) (fun h => by rw [Bd.returns] at h; cases h) (by rw [e0]; exact ⟨own_res (z' := (1 : Int32)) (by unfold fP1; rw [if_pos c4_1]) rfl, N0, rfl⟩) (by decide) (by decide) (fun fs hr => retN X0 hx (t := .boolean) Bd.returns (by simp) (hb hby dp1_8) hr)
    · refine Go.st (fun _ kq_ => XS.icmpYes X0.here hx rfl (pc0 := 4) (pc' := 9) rfl (hb hby dp1_4) rfl (XT.ii_ne_t c4_1) (by decide) (by decide) kq_) ?_
      show Go p e below s _ _ _ (s₁.setTop (mkF m 9 #[.val (.ref a), .val (.ref g), .val (.int (1 : Int32)), .unset] []))
      refine Go.st (fun _ kq_ => XS.aloadN X0.here hx rfl (hb hby dp1_9) rfl rfl kq_) ?_
      show Go p e below s _ _ _ (s₁.setTop (mkF m 10 #[.val (.ref a), .val (.ref g), .val (.int (1 : Int32)), .unset] [(.ref a)]))
      refine Go.st (fun _ kq_ => XS.iloadN X0.here hx rfl (hb hby dp1_10) rfl kq_) ?_
      show Go p e below s _ _ _ (s₁.setTop (mkF m 11 #[.val (.ref a), .val (.ref g), .val (.int (1 : Int32)), .unset] [(.int (1 : Int32)), (.ref a)]))
      obtain ⟨_, _, ⟨T2, L2, k2, n2⟩, -, X2, ⟨Lc2, hQ2, l2, y2, z2⟩, st2⟩ := Jvm.LawKit.callS X0 hx (y := (⟨"com/example/rootward/rootward/model/InstanceGroupPinLaw", "rank", "([II)I"⟩ : MethodName)) hown (mvT hZ (own_w hw 27 rfl)) (mvT hZ (own_w hw 28 rfl)) (mvT hZ (own_w hw 16 rfl)) (mvT hZ (own_w hw 29 rfl)) (by decide) (backOf (W := 0) (rmr1 l Z a0 hw [] a ka w0 w1 w2 w3 h0 n0 O0 V_a) hZ (own_w hw 29 rfl) (own_w hw 16 rfl) (by decide) (by decide)) (g := (mkF m 11 #[.val (.ref a), .val (.ref g), .val (.int (1 : Int32)), .unset] [(.int (1 : Int32)), (.ref a)])) rfl (by rw [hml]; rfl) (argsL := [(.ref a), (.int (1 : Int32))]) (rest := []) (lenOf pdp1_0 rfl) rfl (by show 2 * 0 + _ ≤ _; exact Nat.le_of_eq rfl) (hb hby dp1_11) (fun _ _ => ⟨rfl, e0, (by decide : 0 + 0 ≤ _), (by decide : 0 + 0 ≤ _)⟩)
      dsimp only [Pt.U, Pt.locs, Pt.cells, Pt.slots] at X2 l2 y2 z2 st2 hQ2
      subst l2 y2 z2
      obtain ⟨rfl, Nc2, e2⟩ := hQ2
      have N2 := Fr.app N0 Nc2
      refine Go.st st2 ?_
      show Go p e below s _ _ _ (T2.setTop (mkF m 14 #[.val (.ref a), .val (.ref g), .val (.int (1 : Int32)), .unset] [(.int (fR1 w0 w1 w2 w3))]))
      refine Go.st (fun _ kq_ => XS.istoreN X2.here hx rfl (hb hby dp1_14) rfl (l' := #[.val (.ref a), .val (.ref g), .val (.int (1 : Int32)), .val (.int (fR1 w0 w1 w2 w3))]) rfl kq_) ?_
      show Go p e below s _ _ _ (T2.setTop (mkF m 15 #[.val (.ref a), .val (.ref g), .val (.int (1 : Int32)), .val (.int (fR1 w0 w1 w2 w3))] []))
      refine Go.st (fun _ kq_ => XS.iloadN X2.here hx rfl (hb hby dp1_15) rfl kq_) ?_
      show Go p e below s _ _ _ (T2.setTop (mkF m 16 #[.val (.ref a), .val (.ref g), .val (.int (1 : Int32)), .val (.int (fR1 w0 w1 w2 w3))] [(.int (fR1 w0 w1 w2 w3))]))
      by_cases c16_3 : (fR1 w0 w1 w2 w3) < (0 : Int32)
      · refine Go.st (fun _ kq_ => XS.ifYes X2.here hx rfl (pc0 := 16) (pc' := 36) rfl (hb hby dp1_16) rfl (XT.i0_lt_t c16_3) (by decide) (by decide) kq_) ?_
        show Go p e below s _ _ _ (T2.setTop (mkF m 36 #[.val (.ref a), .val (.ref g), .val (.int (1 : Int32)), .val (.int (fR1 w0 w1 w2 w3))] []))
        refine Go.st (fun _ kq_ => XS.iconst X2.here hx rfl (hb hby dp1_36) kq_) ?_
        show Go p e below s _ _ _ (T2.setTop (mkF m 37 #[.val (.ref a), .val (.ref g), .val (.int (1 : Int32)), .val (.int (fR1 w0 w1 w2 w3))] [(.int (0 : Int32))]))
        exact Go.ret X2 hlk (some (.int (nar .boolean (0 : Int32)))) (fun h => by rw [Bd.returns] at h; cases h) (by rw [e2]; exact ⟨own_res (z' := (0 : Int32)) (by unfold fP1; rw [if_neg c4_1, if_pos c16_3]) rfl, N2, rfl⟩) (by decide) (by decide) (fun fs hr => retN X2 hx (t := .boolean) Bd.returns (by simp) (hb hby dp1_37) hr)
      · refine Go.st (fun _ kq_ => XS.ifNo X2.here hx rfl (hb hby dp1_16) rfl (XT.i0_lt_f c16_3) kq_) ?_
        show Go p e below s _ _ _ (T2.setTop (mkF m 19 #[.val (.ref a), .val (.ref g), .val (.int (1 : Int32)), .val (.int (fR1 w0 w1 w2 w3))] []))
        refine Go.st (fun _ kq_ => XS.iloadN X2.here hx rfl (hb hby dp1_19) rfl kq_) ?_
        show Go p e below s _ _ _ (T2.setTop (mkF m 20 #[.val (.ref a), .val (.ref g), .val (.int (1 : Int32)), .val (.int (fR1 w0 w1 w2 w3))] [(.int (fR1 w0 w1 w2 w3))]))
        refine Go.st (fun _ kq_ => XS.aloadN X2.here hx rfl (hb hby dp1_20) rfl rfl kq_) ?_
        show Go p e below s _ _ _ (T2.setTop (mkF m 21 #[.val (.ref a), .val (.ref g), .val (.int (1 : Int32)), .val (.int (fR1 w0 w1 w2 w3))] [(.ref g), (.int (fR1 w0 w1 w2 w3))]))
        refine Go.st (fun _ kq_ => own_len X2 hx hZ e2 V_g (g := (mkF m 21 #[.val (.ref a), .val (.ref g), .val (.int (1 : Int32)), .val (.int (fR1 w0 w1 w2 w3))] [(.ref g), (.int (fR1 w0 w1 w2 w3))])) rfl rfl (hb hby dp1_21) _ kq_) ?_
        show Go p e below s _ _ _ (T2.setTop (mkF m 22 #[.val (.ref a), .val (.ref g), .val (.int (1 : Int32)), .val (.int (fR1 w0 w1 w2 w3))] [(.int n), (.int (fR1 w0 w1 w2 w3))]))
        by_cases c22_4 : (fR1 w0 w1 w2 w3) < n
        · refine Go.st (fun _ kq_ => XS.icmpNo X2.here hx rfl (hb hby dp1_22) rfl (XT.ii_ge_f c22_4) kq_) ?_
          show Go p e below s _ _ _ (T2.setTop (mkF m 25 #[.val (.ref a), .val (.ref g), .val (.int (1 : Int32)), .val (.int (fR1 w0 w1 w2 w3))] []))
          refine Go.st (fun _ kq_ => XS.aloadN X2.here hx rfl (hb hby dp1_25) rfl rfl kq_) ?_
          show Go p e below s _ _ _ (T2.setTop (mkF m 26 #[.val (.ref a), .val (.ref g), .val (.int (1 : Int32)), .val (.int (fR1 w0 w1 w2 w3))] [(.ref g)]))
          refine Go.st (fun _ kq_ => XS.iloadN X2.here hx rfl (hb hby dp1_26) rfl kq_) ?_
          show Go p e below s _ _ _ (T2.setTop (mkF m 27 #[.val (.ref a), .val (.ref g), .val (.int (1 : Int32)), .val (.int (fR1 w0 w1 w2 w3))] [(.int (fR1 w0 w1 w2 w3)), (.ref g)]))
          refine Go.st (fun _ kq_ => own_iaload X2 hx hZ e2 V_g c16_3 c22_4 (v := .int (List.getD G ((fR1 w0 w1 w2 w3)).toNatClampNeg 0)) (own_getI G 0 _) (g := (mkF m 27 #[.val (.ref a), .val (.ref g), .val (.int (1 : Int32)), .val (.int (fR1 w0 w1 w2 w3))] [(.int (fR1 w0 w1 w2 w3)), (.ref g)])) rfl rfl (hb hby dp1_27) _ kq_) ?_
          show Go p e below s _ _ _ (T2.setTop (mkF m 28 #[.val (.ref a), .val (.ref g), .val (.int (1 : Int32)), .val (.int (fR1 w0 w1 w2 w3))] [(.int (List.getD G ((fR1 w0 w1 w2 w3)).toNatClampNeg 0))]))
          refine Go.st (fun _ kq_ => XS.iloadN X2.here hx rfl (hb hby dp1_28) rfl kq_) ?_
          show Go p e below s _ _ _ (T2.setTop (mkF m 29 #[.val (.ref a), .val (.ref g), .val (.int (1 : Int32)), .val (.int (fR1 w0 w1 w2 w3))] [(.int (1 : Int32)), (.int (List.getD G ((fR1 w0 w1 w2 w3)).toNatClampNeg 0))]))
          by_cases c29_5 : (List.getD G ((fR1 w0 w1 w2 w3)).toNatClampNeg 0) = (1 : Int32)
          · refine Go.st (fun _ kq_ => XS.icmpNo X2.here hx rfl (hb hby dp1_29) rfl (XT.ii_ne_f c29_5) kq_) ?_
            show Go p e below s _ _ _ (T2.setTop (mkF m 32 #[.val (.ref a), .val (.ref g), .val (.int (1 : Int32)), .val (.int (fR1 w0 w1 w2 w3))] []))
            refine Go.st (fun _ kq_ => XS.iconst X2.here hx rfl (hb hby dp1_32) kq_) ?_
            show Go p e below s _ _ _ (T2.setTop (mkF m 33 #[.val (.ref a), .val (.ref g), .val (.int (1 : Int32)), .val (.int (fR1 w0 w1 w2 w3))] [(.int (1 : Int32))]))
            refine Go.st (fun _ kq_ => XS.goto X2.here hx rfl (pc0 := 33) (pc' := 37) rfl (hb hby dp1_33) (by decide) (by decide) kq_) ?_
            show Go p e below s _ _ _ (T2.setTop (mkF m 37 #[.val (.ref a), .val (.ref g), .val (.int (1 : Int32)), .val (.int (fR1 w0 w1 w2 w3))] [(.int (1 : Int32))]))
            exact Go.ret X2 hlk (some (.int (nar .boolean (1 : Int32)))) (fun h => by rw [Bd.returns] at h; cases h) (by rw [e2]; exact ⟨own_res (z' := (1 : Int32)) (by unfold fP1; rw [if_neg c4_1, if_neg c16_3, if_pos c22_4, if_pos c29_5]) rfl, N2, rfl⟩) (by decide) (by decide) (fun fs hr => retN X2 hx (t := .boolean) Bd.returns (by simp) (hb hby dp1_37) hr)
          · refine Go.st (fun _ kq_ => XS.icmpYes X2.here hx rfl (pc0 := 29) (pc' := 36) rfl (hb hby dp1_29) rfl (XT.ii_ne_t c29_5) (by decide) (by decide) kq_) ?_
            show Go p e below s _ _ _ (T2.setTop (mkF m 36 #[.val (.ref a), .val (.ref g), .val (.int (1 : Int32)), .val (.int (fR1 w0 w1 w2 w3))] []))
            refine Go.st (fun _ kq_ => XS.iconst X2.here hx rfl (hb hby dp1_36) kq_) ?_
            show Go p e below s _ _ _ (T2.setTop (mkF m 37 #[.val (.ref a), .val (.ref g), .val (.int (1 : Int32)), .val (.int (fR1 w0 w1 w2 w3))] [(.int (0 : Int32))]))
            exact Go.ret X2 hlk (some (.int (nar .boolean (0 : Int32)))) (fun h => by rw [Bd.returns] at h; cases h) (by rw [e2]; exact ⟨own_res (z' := (0 : Int32)) (by unfold fP1; rw [if_neg c4_1, if_neg c16_3, if_pos c22_4, if_neg c29_5]) rfl, N2, rfl⟩) (by decide) (by decide) (fun fs hr => retN X2 hx (t := .boolean) Bd.returns (by simp) (hb hby dp1_37) hr)
        · refine Go.st (fun _ kq_ => XS.icmpYes X2.here hx rfl (pc0 := 22) (pc' := 36) rfl (hb hby dp1_22) rfl (XT.ii_ge_t c22_4) (by decide) (by decide) kq_) ?_
          show Go p e below s _ _ _ (T2.setTop (mkF m 36 #[.val (.ref a), .val (.ref g), .val (.int (1 : Int32)), .val (.int (fR1 w0 w1 w2 w3))] []))
          refine Go.st (fun _ kq_ => XS.iconst X2.here hx rfl (hb hby dp1_36) kq_) ?_
          show Go p e below s _ _ _ (T2.setTop (mkF m 37 #[.val (.ref a), .val (.ref g), .val (.int (1 : Int32)), .val (.int (fR1 w0 w1 w2 w3))] [(.int (0 : Int32))]))
          exact Go.ret X2 hlk (some (.int (nar .boolean (0 : Int32)))) (fun h => by rw [Bd.returns] at h; cases h) (by rw [e2]; exact ⟨own_res (z' := (0 : Int32)) (by unfold fP1; rw [if_neg c4_1, if_neg c16_3, if_neg c22_4]) rfl, N2, rfl⟩) (by decide) (by decide) (fun fs hr => retN X2 hx (t := .boolean) Bd.returns (by simp) (hb hby dp1_37) hr)
  obtain ⟨s2, o2, st2, r2⟩ := G
  exact ⟨s2, o2, castTop (efp1 m a g (1 : Int32)) st2, r2⟩
theorem dp2_0 : decode method_8_code 0 = .ok (.aload_n 0, 1) := by decide +kernel
theorem dp2_1 : decode method_8_code 1 = .ok (.iload_n 2, 1) := by decide +kernel
theorem dp2_2 : decode method_8_code 2 = .ok (.iaload, 1) := by decide +kernel
theorem dp2_3 : decode method_8_code 3 = .ok (.iconst (-1), 1) := by decide +kernel
theorem dp2_4 : decode method_8_code 4 = .ok (.if_icmp .ne 5, 3) := by decide +kernel
theorem dp2_7 : decode method_8_code 7 = .ok (.iconst 1, 1) := by decide +kernel
theorem dp2_8 : decode method_8_code 8 = .ok (.ireturn, 1) := by decide +kernel
theorem dp2_9 : decode method_8_code 9 = .ok (.aload_n 0, 1) := by decide +kernel
theorem dp2_10 : decode method_8_code 10 = .ok (.iload_n 2, 1) := by decide +kernel
theorem dp2_11 : decode method_8_code 11 = .ok (.invokestatic 34, 3) := by decide +kernel
theorem dp2_14 : decode method_8_code 14 = .ok (.istore_n 3, 1) := by decide +kernel
theorem dp2_15 : decode method_8_code 15 = .ok (.iload_n 3, 1) := by decide +kernel
theorem dp2_16 : decode method_8_code 16 = .ok (.ifCond .lt 20, 3) := by decide +kernel
theorem dp2_19 : decode method_8_code 19 = .ok (.iload_n 3, 1) := by decide +kernel
theorem dp2_20 : decode method_8_code 20 = .ok (.aload_n 1, 1) := by decide +kernel
theorem dp2_21 : decode method_8_code 21 = .ok (.arraylength, 1) := by decide +kernel
theorem dp2_22 : decode method_8_code 22 = .ok (.if_icmp .ge 14, 3) := by decide +kernel
theorem dp2_25 : decode method_8_code 25 = .ok (.aload_n 1, 1) := by decide +kernel
theorem dp2_26 : decode method_8_code 26 = .ok (.iload_n 3, 1) := by decide +kernel
theorem dp2_27 : decode method_8_code 27 = .ok (.iaload, 1) := by decide +kernel
theorem dp2_28 : decode method_8_code 28 = .ok (.iload_n 2, 1) := by decide +kernel
theorem dp2_29 : decode method_8_code 29 = .ok (.if_icmp .ne 7, 3) := by decide +kernel
theorem dp2_32 : decode method_8_code 32 = .ok (.iconst 1, 1) := by decide +kernel
theorem dp2_33 : decode method_8_code 33 = .ok (.goto 4, 3) := by decide +kernel
theorem dp2_36 : decode method_8_code 36 = .ok (.iconst 0, 1) := by decide +kernel
theorem dp2_37 : decode method_8_code 37 = .ok (.ireturn, 1) := by decide +kernel
theorem pdp2_0 : parseMethodDescriptor "([II)I" = some ⟨[(.array .int), .int], some .int⟩ := by decide +kernel
theorem pnp2 : plainName "com/example/rootward/rootward/model/InstanceGroupPinLaw" = true := by first | (simp [plainName, overriddenIn]; done) | decide +kernel
theorem efp2 (m : MethodId) (x0 : Addr) (x1 : Addr) (x2 : Int32) : entryFrame m #[(.ref x0), (.ref x1), (.int x2)] 4 = mkF m 0 #[.val (.ref x0), .val (.ref x1), .val (.int x2), .unset] [] := by first | (simp [entryFrame, mkF, argsToLocals, Value.category, maxLocals]; done) | rfl
def fP2 (w0 : Int32) (w1 : Int32) (w2 : Int32) (w3 : Int32) (n : Int32) (G : List Int32) : Int32 := (if w2 = (-1 : Int32) then (1 : Int32) else (if (fR2 w0 w1 w2 w3) < (0 : Int32) then (0 : Int32) else (if (fR2 w0 w1 w2 w3) < n then (if (List.getD G ((fR2 w0 w1 w2 w3)).toNatClampNeg 0) = (2 : Int32) then (1 : Int32) else (0 : Int32)) else (0 : Int32))))
def Qp2 (Z : State) (a : Addr) (ka : ClassId) (w0 : Int32) (w1 : Int32) (w2 : Int32) (w3 : Int32) (g : Addr) (kg : ClassId) (n : Int32) (G : List Int32) (h0 : Heap) (n0 : Nat) (v : Option Value) (h : Heap) (L : List Loc) : Prop := v = some (.int (fP2 w0 w1 w2 w3 n G)) ∧ Fr n0 L ∧ h = h0
set_option maxRecDepth 65536 in
set_option maxHeartbeats 40000000 in
theorem rmp2 (l : Launch) (Z : State) (a0 : Array Value) (hw : ∀ d ∈ tables_1, d.before a0 Z = true) (ws : List Jvm.Cond) (a : Addr) (ka : ClassId) (w0 : Int32) (w1 : Int32) (w2 : Int32) (w3 : Int32) (g : Addr) (kg : ClassId) (n : Int32) (G : List Int32) (h0 : Heap) (n0 : Nat) (O0 : Old Z n0 h0) (V_a : Arv Z h0 a ka .int (4 : Int32) [(.int w0), (.int w1), (.int w2), (.int w3)] (.int (0 : Int32))) (V_g : Arv Z h0 g kg .int n (G.map Value.int) (.int (0 : Int32))) :
    MetFree l (⟨"com/example/rootward/rootward/model/InstanceGroupPinLaw", "placed", "([I[II)Z"⟩ : MethodName) (head1 (Jvm.Cond.code (⟨"com/example/rootward/rootward/model/InstanceGroupPinLaw", "placed", "([I[II)Z"⟩ : MethodName) method_8_code 4 (some .boolean) :: ws) ({ frames := 2, cells := 0, slots := 0, locals := 30 } : Room)) (fun A_ U_ => A_ = #[(.ref a), (.ref g), (.int (2 : Int32))] ∧ Z.Warmed39 U_.vm ∧ U_.heap = h0) (fun _ _ _ _ _ => True) (fun _ U o U' => ∃ v L, o = .returned v ∧ Qp2 Z a ka w0 w1 w2 w3 g kg n G h0 n0 v U'.heap L ∧ FrameEnd U o U' L ({ frames := 2, cells := 0, slots := 0, locals := 30 } : Room).cells ({ frames := 2, cells := 0, slots := 0, locals := 30 } : Room).slots) := by
  refine MetFree.of_bodySF (plainFor_of_name pnp2) hisR ?_
  intro p e s m args below meth cd s₁ Bd hml0 hP hK
  obtain ⟨rfl, hZ, hh⟩ := hP
  have hx := Bd.exec
  have hby := Bd.bytes
  have hlk : meth.locks = false := BodyLoose.notSynchronized Bd
  have hml : cd.maxLocals = 4 := hml0
  have hown : s.vm.findClass "com/example/rootward/rootward/model/InstanceGroupPinLaw" = some m.cls := findClass_of_methodNamed Bd.named
  have hnm := (name_of_methodNamed Bd.named Bd.method).1
  have X0 : Stand p l e ({ frames := 2, cells := 0, slots := 0, locals := 30 } : Room) s m #[(.ref a), (.ref g), (.int (2 : Int32))] below meth cd s₁ [] 0 0 := Stand.of_body Bd
  have e0 : s₁.heap = h0 := by rw [← hh, Bd.state]; rfl
  have N0 := Fr.nil n0
  have G : Go p e below s 0 0 (Qp2 Z a ka w0 w1 w2 w3 g kg n G h0 n0) (s₁.setTop (mkF m 0 #[.val (.ref a), .val (.ref g), .val (.int (2 : Int32)), .unset] [])) := by
    show Go p e below s _ _ _ (s₁.setTop (mkF m 0 #[.val (.ref a), .val (.ref g), .val (.int (2 : Int32)), .unset] []))
    refine Go.st (fun _ kq_ => XS.aloadN X0.here hx rfl (hb hby dp2_0) rfl rfl kq_) ?_
    show Go p e below s _ _ _ (s₁.setTop (mkF m 1 #[.val (.ref a), .val (.ref g), .val (.int (2 : Int32)), .unset] [(.ref a)]))
    refine Go.st (fun _ kq_ => XS.iloadN X0.here hx rfl (hb hby dp2_1) rfl kq_) ?_
    show Go p e below s _ _ _ (s₁.setTop (mkF m 2 #[.val (.ref a), .val (.ref g), .val (.int (2 : Int32)), .unset] [(.int (2 : Int32)), (.ref a)]))
    refine Go.st (fun _ kq_ => own_iaload X0 hx hZ e0 V_a (by decide) (by decide) (v := (.int w2)) rfl (g := (mkF m 2 #[.val (.ref a), .val (.ref g), .val (.int (2 : Int32)), .unset] [(.int (2 : Int32)), (.ref a)])) rfl rfl (hb hby dp2_2) _ kq_) ?_
    show Go p e below s _ _ _ (s₁.setTop (mkF m 3 #[.val (.ref a), .val (.ref g), .val (.int (2 : Int32)), .unset] [(.int w2)]))
    refine Go.st (fun _ kq_ => XS.iconst X0.here hx rfl (hb hby dp2_3) kq_) ?_
    show Go p e below s _ _ _ (s₁.setTop (mkF m 4 #[.val (.ref a), .val (.ref g), .val (.int (2 : Int32)), .unset] [(.int (-1 : Int32)), (.int w2)]))
    by_cases c4_1 : w2 = (-1 : Int32)
    · refine Go.st (fun _ kq_ => XS.icmpNo X0.here hx rfl (hb hby dp2_4) rfl (XT.ii_ne_f c4_1) kq_) ?_
      show Go p e below s _ _ _ (s₁.setTop (mkF m 7 #[.val (.ref a), .val (.ref g), .val (.int (2 : Int32)), .unset] []))
      refine Go.st (fun _ kq_ => XS.iconst X0.here hx rfl (hb hby dp2_7) kq_) ?_
      show Go p e below s _ _ _ (s₁.setTop (mkF m 8 #[.val (.ref a), .val (.ref g), .val (.int (2 : Int32)), .unset] [(.int (1 : Int32))]))
      exact Go.ret X0 hlk (some (.int (nar .boolean (1 : Int32)))) (fun h => by rw [Bd.returns] at h; cases h) (by rw [e0]; exact ⟨own_res (z' := (1 : Int32)) (by unfold fP2; rw [if_pos c4_1]) rfl, N0, rfl⟩) (by decide) (by decide) (fun fs hr => retN X0 hx (t := .boolean) Bd.returns (by simp) (hb hby dp2_8) hr)
    · refine Go.st (fun _ kq_ => XS.icmpYes X0.here hx rfl (pc0 := 4) (pc' := 9) rfl (hb hby dp2_4) rfl (XT.ii_ne_t c4_1) (by decide) (by decide) kq_) ?_
      show Go p e below s _ _ _ (s₁.setTop (mkF m 9 #[.val (.ref a), .val (.ref g), .val (.int (2 : Int32)), .unset] []))
      refine Go.st (fun _ kq_ => XS.aloadN X0.here hx rfl (hb hby dp2_9) rfl rfl kq_) ?_
      show Go p e below s _ _ _ (s₁.setTop (mkF m 10 #[.val (.ref a), .val (.ref g), .val (.int (2 : Int32)), .unset] [(.ref a)]))
      refine Go.st (fun _ kq_ => XS.iloadN X0.here hx rfl (hb hby dp2_10) rfl kq_) ?_
      show Go p e below s _ _ _ (s₁.setTop (mkF m 11 #[.val (.ref a), .val (.ref g), .val (.int (2 : Int32)), .unset] [(.int (2 : Int32)), (.ref a)]))
      obtain ⟨_, _, ⟨T2, L2, k2, n2⟩, -, X2, ⟨Lc2, hQ2, l2, y2, z2⟩, st2⟩ := Jvm.LawKit.callS X0 hx (y := (⟨"com/example/rootward/rootward/model/InstanceGroupPinLaw", "rank", "([II)I"⟩ : MethodName)) hown (mvT hZ (own_w hw 27 rfl)) (mvT hZ (own_w hw 28 rfl)) (mvT hZ (own_w hw 16 rfl)) (mvT hZ (own_w hw 29 rfl)) (by decide) (backOf (W := 0) (rmr2 l Z a0 hw [] a ka w0 w1 w2 w3 h0 n0 O0 V_a) hZ (own_w hw 29 rfl) (own_w hw 16 rfl) (by decide) (by decide)) (g := (mkF m 11 #[.val (.ref a), .val (.ref g), .val (.int (2 : Int32)), .unset] [(.int (2 : Int32)), (.ref a)])) rfl (by rw [hml]; rfl) (argsL := [(.ref a), (.int (2 : Int32))]) (rest := []) (lenOf pdp2_0 rfl) rfl (by show 2 * 0 + _ ≤ _; exact Nat.le_of_eq rfl) (hb hby dp2_11) (fun _ _ => ⟨rfl, e0, (by decide : 0 + 0 ≤ _), (by decide : 0 + 0 ≤ _)⟩)
      dsimp only [Pt.U, Pt.locs, Pt.cells, Pt.slots] at X2 l2 y2 z2 st2 hQ2
      subst l2 y2 z2
      obtain ⟨rfl, Nc2, e2⟩ := hQ2
      have N2 := Fr.app N0 Nc2
      refine Go.st st2 ?_
      show Go p e below s _ _ _ (T2.setTop (mkF m 14 #[.val (.ref a), .val (.ref g), .val (.int (2 : Int32)), .unset] [(.int (fR2 w0 w1 w2 w3))]))
      refine Go.st (fun _ kq_ => XS.istoreN X2.here hx rfl (hb hby dp2_14) rfl (l' := #[.val (.ref a), .val (.ref g), .val (.int (2 : Int32)), .val (.int (fR2 w0 w1 w2 w3))]) rfl kq_) ?_
      show Go p e below s _ _ _ (T2.setTop (mkF m 15 #[.val (.ref a), .val (.ref g), .val (.int (2 : Int32)), .val (.int (fR2 w0 w1 w2 w3))] []))
      refine Go.st (fun _ kq_ => XS.iloadN X2.here hx rfl (hb hby dp2_15) rfl kq_) ?_
      show Go p e below s _ _ _ (T2.setTop (mkF m 16 #[.val (.ref a), .val (.ref g), .val (.int (2 : Int32)), .val (.int (fR2 w0 w1 w2 w3))] [(.int (fR2 w0 w1 w2 w3))]))
      by_cases c16_3 : (fR2 w0 w1 w2 w3) < (0 : Int32)
      · refine Go.st (fun _ kq_ => XS.ifYes X2.here hx rfl (pc0 := 16) (pc' := 36) rfl (hb hby dp2_16) rfl (XT.i0_lt_t c16_3) (by decide) (by decide) kq_) ?_
        show Go p e below s _ _ _ (T2.setTop (mkF m 36 #[.val (.ref a), .val (.ref g), .val (.int (2 : Int32)), .val (.int (fR2 w0 w1 w2 w3))] []))
        refine Go.st (fun _ kq_ => XS.iconst X2.here hx rfl (hb hby dp2_36) kq_) ?_
        show Go p e below s _ _ _ (T2.setTop (mkF m 37 #[.val (.ref a), .val (.ref g), .val (.int (2 : Int32)), .val (.int (fR2 w0 w1 w2 w3))] [(.int (0 : Int32))]))
        exact Go.ret X2 hlk (some (.int (nar .boolean (0 : Int32)))) (fun h => by rw [Bd.returns] at h; cases h) (by rw [e2]; exact ⟨own_res (z' := (0 : Int32)) (by unfold fP2; rw [if_neg c4_1, if_pos c16_3]) rfl, N2, rfl⟩) (by decide) (by decide) (fun fs hr => retN X2 hx (t := .boolean) Bd.returns (by simp) (hb hby dp2_37) hr)
      · refine Go.st (fun _ kq_ => XS.ifNo X2.here hx rfl (hb hby dp2_16) rfl (XT.i0_lt_f c16_3) kq_) ?_
        show Go p e below s _ _ _ (T2.setTop (mkF m 19 #[.val (.ref a), .val (.ref g), .val (.int (2 : Int32)), .val (.int (fR2 w0 w1 w2 w3))] []))
        refine Go.st (fun _ kq_ => XS.iloadN X2.here hx rfl (hb hby dp2_19) rfl kq_) ?_
        show Go p e below s _ _ _ (T2.setTop (mkF m 20 #[.val (.ref a), .val (.ref g), .val (.int (2 : Int32)), .val (.int (fR2 w0 w1 w2 w3))] [(.int (fR2 w0 w1 w2 w3))]))
        refine Go.st (fun _ kq_ => XS.aloadN X2.here hx rfl (hb hby dp2_20) rfl rfl kq_) ?_
        show Go p e below s _ _ _ (T2.setTop (mkF m 21 #[.val (.ref a), .val (.ref g), .val (.int (2 : Int32)), .val (.int (fR2 w0 w1 w2 w3))] [(.ref g), (.int (fR2 w0 w1 w2 w3))]))
        refine Go.st (fun _ kq_ => own_len X2 hx hZ e2 V_g (g := (mkF m 21 #[.val (.ref a), .val (.ref g), .val (.int (2 : Int32)), .val (.int (fR2 w0 w1 w2 w3))] [(.ref g), (.int (fR2 w0 w1 w2 w3))])) rfl rfl (hb hby dp2_21) _ kq_) ?_
        show Go p e below s _ _ _ (T2.setTop (mkF m 22 #[.val (.ref a), .val (.ref g), .val (.int (2 : Int32)), .val (.int (fR2 w0 w1 w2 w3))] [(.int n), (.int (fR2 w0 w1 w2 w3))]))
        by_cases c22_4 : (fR2 w0 w1 w2 w3) < n
        · refine Go.st (fun _ kq_ => XS.icmpNo X2.here hx rfl (hb hby dp2_22) rfl (XT.ii_ge_f c22_4) kq_) ?_
          show Go p e below s _ _ _ (T2.setTop (mkF m 25 #[.val (.ref a), .val (.ref g), .val (.int (2 : Int32)), .val (.int (fR2 w0 w1 w2 w3))] []))
          refine Go.st (fun _ kq_ => XS.aloadN X2.here hx rfl (hb hby dp2_25) rfl rfl kq_) ?_
          show Go p e below s _ _ _ (T2.setTop (mkF m 26 #[.val (.ref a), .val (.ref g), .val (.int (2 : Int32)), .val (.int (fR2 w0 w1 w2 w3))] [(.ref g)]))
          refine Go.st (fun _ kq_ => XS.iloadN X2.here hx rfl (hb hby dp2_26) rfl kq_) ?_
          show Go p e below s _ _ _ (T2.setTop (mkF m 27 #[.val (.ref a), .val (.ref g), .val (.int (2 : Int32)), .val (.int (fR2 w0 w1 w2 w3))] [(.int (fR2 w0 w1 w2 w3)), (.ref g)]))
          refine Go.st (fun _ kq_ => own_iaload X2 hx hZ e2 V_g c16_3 c22_4 (v := .int (List.getD G ((fR2 w0 w1 w2 w3)).toNatClampNeg 0)) (own_getI G 0 _) (g := (mkF m 27 #[.val (.ref a), .val (.ref g), .val (.int (2 : Int32)), .val (.int (fR2 w0 w1 w2 w3))] [(.int (fR2 w0 w1 w2 w3)), (.ref g)])) rfl rfl (hb hby dp2_27) _ kq_) ?_
          show Go p e below s _ _ _ (T2.setTop (mkF m 28 #[.val (.ref a), .val (.ref g), .val (.int (2 : Int32)), .val (.int (fR2 w0 w1 w2 w3))] [(.int (List.getD G ((fR2 w0 w1 w2 w3)).toNatClampNeg 0))]))
          refine Go.st (fun _ kq_ => XS.iloadN X2.here hx rfl (hb hby dp2_28) rfl kq_) ?_
          show Go p e below s _ _ _ (T2.setTop (mkF m 29 #[.val (.ref a), .val (.ref g), .val (.int (2 : Int32)), .val (.int (fR2 w0 w1 w2 w3))] [(.int (2 : Int32)), (.int (List.getD G ((fR2 w0 w1 w2 w3)).toNatClampNeg 0))]))
          by_cases c29_5 : (List.getD G ((fR2 w0 w1 w2 w3)).toNatClampNeg 0) = (2 : Int32)
          · refine Go.st (fun _ kq_ => XS.icmpNo X2.here hx rfl (hb hby dp2_29) rfl (XT.ii_ne_f c29_5) kq_) ?_
            show Go p e below s _ _ _ (T2.setTop (mkF m 32 #[.val (.ref a), .val (.ref g), .val (.int (2 : Int32)), .val (.int (fR2 w0 w1 w2 w3))] []))
            refine Go.st (fun _ kq_ => XS.iconst X2.here hx rfl (hb hby dp2_32) kq_) ?_
            show Go p e below s _ _ _ (T2.setTop (mkF m 33 #[.val (.ref a), .val (.ref g), .val (.int (2 : Int32)), .val (.int (fR2 w0 w1 w2 w3))] [(.int (1 : Int32))]))
            refine Go.st (fun _ kq_ => XS.goto X2.here hx rfl (pc0 := 33) (pc' := 37) rfl (hb hby dp2_33) (by decide) (by decide) kq_) ?_
            show Go p e below s _ _ _ (T2.setTop (mkF m 37 #[.val (.ref a), .val (.ref g), .val (.int (2 : Int32)), .val (.int (fR2 w0 w1 w2 w3))] [(.int (1 : Int32))]))
            exact Go.ret X2 hlk (some (.int (nar .boolean (1 : Int32)))) (fun h => by rw [Bd.returns] at h; cases h) (by rw [e2]; exact ⟨own_res (z' := (1 : Int32)) (by unfold fP2; rw [if_neg c4_1, if_neg c16_3, if_pos c22_4, if_pos c29_5]) rfl, N2, rfl⟩) (by decide) (by decide) (fun fs hr => retN X2 hx (t := .boolean) Bd.returns (by simp) (hb hby dp2_37) hr)
          · refine Go.st (fun _ kq_ => XS.icmpYes X2.here hx rfl (pc0 := 29) (pc' := 36) rfl (hb hby dp2_29) rfl (XT.ii_ne_t c29_5) (by decide) (by decide) kq_) ?_
            show Go p e below s _ _ _ (T2.setTop (mkF m 36 #[.val (.ref a), .val (.ref g), .val (.int (2 : Int32)), .val (.int (fR2 w0 w1 w2 w3))] []))
            refine Go.st (fun _ kq_ => XS.iconst X2.here hx rfl (hb hby dp2_36) kq_) ?_
            show Go p e below s _ _ _ (T2.setTop (mkF m 37 #[.val (.ref a), .val (.ref g), .val (.int (2 : Int32)), .val (.int (fR2 w0 w1 w2 w3))] [(.int (0 : Int32))]))
            exact Go.ret X2 hlk (some (.int (nar .boolean (0 : Int32)))) (fun h => by rw [Bd.returns] at h; cases h) (by rw [e2]; exact ⟨own_res (z' := (0 : Int32)) (by unfold fP2; rw [if_neg c4_1, if_neg c16_3, if_pos c22_4, if_neg c29_5]) rfl, N2, rfl⟩) (by decide) (by decide) (fun fs hr => retN X2 hx (t := .boolean) Bd.returns (by simp) (hb hby dp2_37) hr)
        · refine Go.st (fun _ kq_ => XS.icmpYes X2.here hx rfl (pc0 := 22) (pc' := 36) rfl (hb hby dp2_22) rfl (XT.ii_ge_t c22_4) (by decide) (by decide) kq_) ?_
          show Go p e below s _ _ _ (T2.setTop (mkF m 36 #[.val (.ref a), .val (.ref g), .val (.int (2 : Int32)), .val (.int (fR2 w0 w1 w2 w3))] []))
          refine Go.st (fun _ kq_ => XS.iconst X2.here hx rfl (hb hby dp2_36) kq_) ?_
          show Go p e below s _ _ _ (T2.setTop (mkF m 37 #[.val (.ref a), .val (.ref g), .val (.int (2 : Int32)), .val (.int (fR2 w0 w1 w2 w3))] [(.int (0 : Int32))]))
          exact Go.ret X2 hlk (some (.int (nar .boolean (0 : Int32)))) (fun h => by rw [Bd.returns] at h; cases h) (by rw [e2]; exact ⟨own_res (z' := (0 : Int32)) (by unfold fP2; rw [if_neg c4_1, if_neg c16_3, if_neg c22_4]) rfl, N2, rfl⟩) (by decide) (by decide) (fun fs hr => retN X2 hx (t := .boolean) Bd.returns (by simp) (hb hby dp2_37) hr)
  obtain ⟨s2, o2, st2, r2⟩ := G
  exact ⟨s2, o2, castTop (efp2 m a g (2 : Int32)) st2, r2⟩
theorem dp3_0 : decode method_8_code 0 = .ok (.aload_n 0, 1) := by decide +kernel
theorem dp3_1 : decode method_8_code 1 = .ok (.iload_n 2, 1) := by decide +kernel
theorem dp3_2 : decode method_8_code 2 = .ok (.iaload, 1) := by decide +kernel
theorem dp3_3 : decode method_8_code 3 = .ok (.iconst (-1), 1) := by decide +kernel
theorem dp3_4 : decode method_8_code 4 = .ok (.if_icmp .ne 5, 3) := by decide +kernel
theorem dp3_7 : decode method_8_code 7 = .ok (.iconst 1, 1) := by decide +kernel
theorem dp3_8 : decode method_8_code 8 = .ok (.ireturn, 1) := by decide +kernel
theorem dp3_9 : decode method_8_code 9 = .ok (.aload_n 0, 1) := by decide +kernel
theorem dp3_10 : decode method_8_code 10 = .ok (.iload_n 2, 1) := by decide +kernel
theorem dp3_11 : decode method_8_code 11 = .ok (.invokestatic 34, 3) := by decide +kernel
theorem dp3_14 : decode method_8_code 14 = .ok (.istore_n 3, 1) := by decide +kernel
theorem dp3_15 : decode method_8_code 15 = .ok (.iload_n 3, 1) := by decide +kernel
theorem dp3_16 : decode method_8_code 16 = .ok (.ifCond .lt 20, 3) := by decide +kernel
theorem dp3_19 : decode method_8_code 19 = .ok (.iload_n 3, 1) := by decide +kernel
theorem dp3_20 : decode method_8_code 20 = .ok (.aload_n 1, 1) := by decide +kernel
theorem dp3_21 : decode method_8_code 21 = .ok (.arraylength, 1) := by decide +kernel
theorem dp3_22 : decode method_8_code 22 = .ok (.if_icmp .ge 14, 3) := by decide +kernel
theorem dp3_25 : decode method_8_code 25 = .ok (.aload_n 1, 1) := by decide +kernel
theorem dp3_26 : decode method_8_code 26 = .ok (.iload_n 3, 1) := by decide +kernel
theorem dp3_27 : decode method_8_code 27 = .ok (.iaload, 1) := by decide +kernel
theorem dp3_28 : decode method_8_code 28 = .ok (.iload_n 2, 1) := by decide +kernel
theorem dp3_29 : decode method_8_code 29 = .ok (.if_icmp .ne 7, 3) := by decide +kernel
theorem dp3_32 : decode method_8_code 32 = .ok (.iconst 1, 1) := by decide +kernel
theorem dp3_33 : decode method_8_code 33 = .ok (.goto 4, 3) := by decide +kernel
theorem dp3_36 : decode method_8_code 36 = .ok (.iconst 0, 1) := by decide +kernel
theorem dp3_37 : decode method_8_code 37 = .ok (.ireturn, 1) := by decide +kernel
theorem pdp3_0 : parseMethodDescriptor "([II)I" = some ⟨[(.array .int), .int], some .int⟩ := by decide +kernel
theorem pnp3 : plainName "com/example/rootward/rootward/model/InstanceGroupPinLaw" = true := by first | (simp [plainName, overriddenIn]; done) | decide +kernel
theorem efp3 (m : MethodId) (x0 : Addr) (x1 : Addr) (x2 : Int32) : entryFrame m #[(.ref x0), (.ref x1), (.int x2)] 4 = mkF m 0 #[.val (.ref x0), .val (.ref x1), .val (.int x2), .unset] [] := by first | (simp [entryFrame, mkF, argsToLocals, Value.category, maxLocals]; done) | rfl
def fP3 (w0 : Int32) (w1 : Int32) (w2 : Int32) (w3 : Int32) (n : Int32) (G : List Int32) : Int32 := (if w3 = (-1 : Int32) then (1 : Int32) else (if (fR3 w0 w1 w2 w3) < (0 : Int32) then (0 : Int32) else (if (fR3 w0 w1 w2 w3) < n then (if (List.getD G ((fR3 w0 w1 w2 w3)).toNatClampNeg 0) = (3 : Int32) then (1 : Int32) else (0 : Int32)) else (0 : Int32))))
def Qp3 (Z : State) (a : Addr) (ka : ClassId) (w0 : Int32) (w1 : Int32) (w2 : Int32) (w3 : Int32) (g : Addr) (kg : ClassId) (n : Int32) (G : List Int32) (h0 : Heap) (n0 : Nat) (v : Option Value) (h : Heap) (L : List Loc) : Prop := v = some (.int (fP3 w0 w1 w2 w3 n G)) ∧ Fr n0 L ∧ h = h0
set_option maxRecDepth 65536 in
set_option maxHeartbeats 40000000 in
theorem rmp3 (l : Launch) (Z : State) (a0 : Array Value) (hw : ∀ d ∈ tables_1, d.before a0 Z = true) (ws : List Jvm.Cond) (a : Addr) (ka : ClassId) (w0 : Int32) (w1 : Int32) (w2 : Int32) (w3 : Int32) (g : Addr) (kg : ClassId) (n : Int32) (G : List Int32) (h0 : Heap) (n0 : Nat) (O0 : Old Z n0 h0) (V_a : Arv Z h0 a ka .int (4 : Int32) [(.int w0), (.int w1), (.int w2), (.int w3)] (.int (0 : Int32))) (V_g : Arv Z h0 g kg .int n (G.map Value.int) (.int (0 : Int32))) :
    MetFree l (⟨"com/example/rootward/rootward/model/InstanceGroupPinLaw", "placed", "([I[II)Z"⟩ : MethodName) (head1 (Jvm.Cond.code (⟨"com/example/rootward/rootward/model/InstanceGroupPinLaw", "placed", "([I[II)Z"⟩ : MethodName) method_8_code 4 (some .boolean) :: ws) ({ frames := 2, cells := 0, slots := 0, locals := 30 } : Room)) (fun A_ U_ => A_ = #[(.ref a), (.ref g), (.int (3 : Int32))] ∧ Z.Warmed39 U_.vm ∧ U_.heap = h0) (fun _ _ _ _ _ => True) (fun _ U o U' => ∃ v L, o = .returned v ∧ Qp3 Z a ka w0 w1 w2 w3 g kg n G h0 n0 v U'.heap L ∧ FrameEnd U o U' L ({ frames := 2, cells := 0, slots := 0, locals := 30 } : Room).cells ({ frames := 2, cells := 0, slots := 0, locals := 30 } : Room).slots) := by
  refine MetFree.of_bodySF (plainFor_of_name pnp3) hisR ?_
  intro p e s m args below meth cd s₁ Bd hml0 hP hK
  obtain ⟨rfl, hZ, hh⟩ := hP
  have hx := Bd.exec
  have hby := Bd.bytes
  have hlk : meth.locks = false := BodyLoose.notSynchronized Bd
  have hml : cd.maxLocals = 4 := hml0
  have hown : s.vm.findClass "com/example/rootward/rootward/model/InstanceGroupPinLaw" = some m.cls := findClass_of_methodNamed Bd.named
  have hnm := (name_of_methodNamed Bd.named Bd.method).1
  have X0 : Stand p l e ({ frames := 2, cells := 0, slots := 0, locals := 30 } : Room) s m #[(.ref a), (.ref g), (.int (3 : Int32))] below meth cd s₁ [] 0 0 := Stand.of_body Bd
  have e0 : s₁.heap = h0 := by rw [← hh, Bd.state]; rfl
  have N0 := Fr.nil n0
  have G : Go p e below s 0 0 (Qp3 Z a ka w0 w1 w2 w3 g kg n G h0 n0) (s₁.setTop (mkF m 0 #[.val (.ref a), .val (.ref g), .val (.int (3 : Int32)), .unset] [])) := by
    show Go p e below s _ _ _ (s₁.setTop (mkF m 0 #[.val (.ref a), .val (.ref g), .val (.int (3 : Int32)), .unset] []))
    refine Go.st (fun _ kq_ => XS.aloadN X0.here hx rfl (hb hby dp3_0) rfl rfl kq_) ?_
    show Go p e below s _ _ _ (s₁.setTop (mkF m 1 #[.val (.ref a), .val (.ref g), .val (.int (3 : Int32)), .unset] [(.ref a)]))
    refine Go.st (fun _ kq_ => XS.iloadN X0.here hx rfl (hb hby dp3_1) rfl kq_) ?_
    show Go p e below s _ _ _ (s₁.setTop (mkF m 2 #[.val (.ref a), .val (.ref g), .val (.int (3 : Int32)), .unset] [(.int (3 : Int32)), (.ref a)]))
    refine Go.st (fun _ kq_ => own_iaload X0 hx hZ e0 V_a (by decide) (by decide) (v := (.int w3)) rfl (g := (mkF m 2 #[.val (.ref a), .val (.ref g), .val (.int (3 : Int32)), .unset] [(.int (3 : Int32)), (.ref a)])) rfl rfl (hb hby dp3_2) _ kq_) ?_
    show Go p e below s _ _ _ (s₁.setTop (mkF m 3 #[.val (.ref a), .val (.ref g), .val (.int (3 : Int32)), .unset] [(.int w3)]))
    refine Go.st (fun _ kq_ => XS.iconst X0.here hx rfl (hb hby dp3_3) kq_) ?_
    show Go p e below s _ _ _ (s₁.setTop (mkF m 4 #[.val (.ref a), .val (.ref g), .val (.int (3 : Int32)), .unset] [(.int (-1 : Int32)), (.int w3)]))
    by_cases c4_1 : w3 = (-1 : Int32)
    · refine Go.st (fun _ kq_ => XS.icmpNo X0.here hx rfl (hb hby dp3_4) rfl (XT.ii_ne_f c4_1) kq_) ?_
      show Go p e below s _ _ _ (s₁.setTop (mkF m 7 #[.val (.ref a), .val (.ref g), .val (.int (3 : Int32)), .unset] []))
      refine Go.st (fun _ kq_ => XS.iconst X0.here hx rfl (hb hby dp3_7) kq_) ?_
      show Go p e below s _ _ _ (s₁.setTop (mkF m 8 #[.val (.ref a), .val (.ref g), .val (.int (3 : Int32)), .unset] [(.int (1 : Int32))]))
      exact Go.ret X0 hlk (some (.int (nar .boolean (1 : Int32)))) (fun h => by rw [Bd.returns] at h; cases h) (by rw [e0]; exact ⟨own_res (z' := (1 : Int32)) (by unfold fP3; rw [if_pos c4_1]) rfl, N0, rfl⟩) (by decide) (by decide) (fun fs hr => retN X0 hx (t := .boolean) Bd.returns (by simp) (hb hby dp3_8) hr)
    · refine Go.st (fun _ kq_ => XS.icmpYes X0.here hx rfl (pc0 := 4) (pc' := 9) rfl (hb hby dp3_4) rfl (XT.ii_ne_t c4_1) (by decide) (by decide) kq_) ?_
      show Go p e below s _ _ _ (s₁.setTop (mkF m 9 #[.val (.ref a), .val (.ref g), .val (.int (3 : Int32)), .unset] []))
      refine Go.st (fun _ kq_ => XS.aloadN X0.here hx rfl (hb hby dp3_9) rfl rfl kq_) ?_
      show Go p e below s _ _ _ (s₁.setTop (mkF m 10 #[.val (.ref a), .val (.ref g), .val (.int (3 : Int32)), .unset] [(.ref a)]))
      refine Go.st (fun _ kq_ => XS.iloadN X0.here hx rfl (hb hby dp3_10) rfl kq_) ?_
      show Go p e below s _ _ _ (s₁.setTop (mkF m 11 #[.val (.ref a), .val (.ref g), .val (.int (3 : Int32)), .unset] [(.int (3 : Int32)), (.ref a)]))
      obtain ⟨_, _, ⟨T2, L2, k2, n2⟩, -, X2, ⟨Lc2, hQ2, l2, y2, z2⟩, st2⟩ := Jvm.LawKit.callS X0 hx (y := (⟨"com/example/rootward/rootward/model/InstanceGroupPinLaw", "rank", "([II)I"⟩ : MethodName)) hown (mvT hZ (own_w hw 27 rfl)) (mvT hZ (own_w hw 28 rfl)) (mvT hZ (own_w hw 16 rfl)) (mvT hZ (own_w hw 29 rfl)) (by decide) (backOf (W := 0) (rmr3 l Z a0 hw [] a ka w0 w1 w2 w3 h0 n0 O0 V_a) hZ (own_w hw 29 rfl) (own_w hw 16 rfl) (by decide) (by decide)) (g := (mkF m 11 #[.val (.ref a), .val (.ref g), .val (.int (3 : Int32)), .unset] [(.int (3 : Int32)), (.ref a)])) rfl (by rw [hml]; rfl) (argsL := [(.ref a), (.int (3 : Int32))]) (rest := []) (lenOf pdp3_0 rfl) rfl (by show 2 * 0 + _ ≤ _; exact Nat.le_of_eq rfl) (hb hby dp3_11) (fun _ _ => ⟨rfl, e0, (by decide : 0 + 0 ≤ _), (by decide : 0 + 0 ≤ _)⟩)
      dsimp only [Pt.U, Pt.locs, Pt.cells, Pt.slots] at X2 l2 y2 z2 st2 hQ2
      subst l2 y2 z2
      obtain ⟨rfl, Nc2, e2⟩ := hQ2
      have N2 := Fr.app N0 Nc2
      refine Go.st st2 ?_
      show Go p e below s _ _ _ (T2.setTop (mkF m 14 #[.val (.ref a), .val (.ref g), .val (.int (3 : Int32)), .unset] [(.int (fR3 w0 w1 w2 w3))]))
      refine Go.st (fun _ kq_ => XS.istoreN X2.here hx rfl (hb hby dp3_14) rfl (l' := #[.val (.ref a), .val (.ref g), .val (.int (3 : Int32)), .val (.int (fR3 w0 w1 w2 w3))]) rfl kq_) ?_
      show Go p e below s _ _ _ (T2.setTop (mkF m 15 #[.val (.ref a), .val (.ref g), .val (.int (3 : Int32)), .val (.int (fR3 w0 w1 w2 w3))] []))
      refine Go.st (fun _ kq_ => XS.iloadN X2.here hx rfl (hb hby dp3_15) rfl kq_) ?_
      show Go p e below s _ _ _ (T2.setTop (mkF m 16 #[.val (.ref a), .val (.ref g), .val (.int (3 : Int32)), .val (.int (fR3 w0 w1 w2 w3))] [(.int (fR3 w0 w1 w2 w3))]))
      by_cases c16_3 : (fR3 w0 w1 w2 w3) < (0 : Int32)
      · refine Go.st (fun _ kq_ => XS.ifYes X2.here hx rfl (pc0 := 16) (pc' := 36) rfl (hb hby dp3_16) rfl (XT.i0_lt_t c16_3) (by decide) (by decide) kq_) ?_
        show Go p e below s _ _ _ (T2.setTop (mkF m 36 #[.val (.ref a), .val (.ref g), .val (.int (3 : Int32)), .val (.int (fR3 w0 w1 w2 w3))] []))
        refine Go.st (fun _ kq_ => XS.iconst X2.here hx rfl (hb hby dp3_36) kq_) ?_
        show Go p e below s _ _ _ (T2.setTop (mkF m 37 #[.val (.ref a), .val (.ref g), .val (.int (3 : Int32)), .val (.int (fR3 w0 w1 w2 w3))] [(.int (0 : Int32))]))
        exact Go.ret X2 hlk (some (.int (nar .boolean (0 : Int32)))) (fun h => by rw [Bd.returns] at h; cases h) (by rw [e2]; exact ⟨own_res (z' := (0 : Int32)) (by unfold fP3; rw [if_neg c4_1, if_pos c16_3]) rfl, N2, rfl⟩) (by decide) (by decide) (fun fs hr => retN X2 hx (t := .boolean) Bd.returns (by simp) (hb hby dp3_37) hr)
      · refine Go.st (fun _ kq_ => XS.ifNo X2.here hx rfl (hb hby dp3_16) rfl (XT.i0_lt_f c16_3) kq_) ?_
        show Go p e below s _ _ _ (T2.setTop (mkF m 19 #[.val (.ref a), .val (.ref g), .val (.int (3 : Int32)), .val (.int (fR3 w0 w1 w2 w3))] []))
        refine Go.st (fun _ kq_ => XS.iloadN X2.here hx rfl (hb hby dp3_19) rfl kq_) ?_
        show Go p e below s _ _ _ (T2.setTop (mkF m 20 #[.val (.ref a), .val (.ref g), .val (.int (3 : Int32)), .val (.int (fR3 w0 w1 w2 w3))] [(.int (fR3 w0 w1 w2 w3))]))
        refine Go.st (fun _ kq_ => XS.aloadN X2.here hx rfl (hb hby dp3_20) rfl rfl kq_) ?_
        show Go p e below s _ _ _ (T2.setTop (mkF m 21 #[.val (.ref a), .val (.ref g), .val (.int (3 : Int32)), .val (.int (fR3 w0 w1 w2 w3))] [(.ref g), (.int (fR3 w0 w1 w2 w3))]))
        refine Go.st (fun _ kq_ => own_len X2 hx hZ e2 V_g (g := (mkF m 21 #[.val (.ref a), .val (.ref g), .val (.int (3 : Int32)), .val (.int (fR3 w0 w1 w2 w3))] [(.ref g), (.int (fR3 w0 w1 w2 w3))])) rfl rfl (hb hby dp3_21) _ kq_) ?_
        show Go p e below s _ _ _ (T2.setTop (mkF m 22 #[.val (.ref a), .val (.ref g), .val (.int (3 : Int32)), .val (.int (fR3 w0 w1 w2 w3))] [(.int n), (.int (fR3 w0 w1 w2 w3))]))
        by_cases c22_4 : (fR3 w0 w1 w2 w3) < n
        · refine Go.st (fun _ kq_ => XS.icmpNo X2.here hx rfl (hb hby dp3_22) rfl (XT.ii_ge_f c22_4) kq_) ?_
          show Go p e below s _ _ _ (T2.setTop (mkF m 25 #[.val (.ref a), .val (.ref g), .val (.int (3 : Int32)), .val (.int (fR3 w0 w1 w2 w3))] []))
          refine Go.st (fun _ kq_ => XS.aloadN X2.here hx rfl (hb hby dp3_25) rfl rfl kq_) ?_
          show Go p e below s _ _ _ (T2.setTop (mkF m 26 #[.val (.ref a), .val (.ref g), .val (.int (3 : Int32)), .val (.int (fR3 w0 w1 w2 w3))] [(.ref g)]))
          refine Go.st (fun _ kq_ => XS.iloadN X2.here hx rfl (hb hby dp3_26) rfl kq_) ?_
          show Go p e below s _ _ _ (T2.setTop (mkF m 27 #[.val (.ref a), .val (.ref g), .val (.int (3 : Int32)), .val (.int (fR3 w0 w1 w2 w3))] [(.int (fR3 w0 w1 w2 w3)), (.ref g)]))
          refine Go.st (fun _ kq_ => own_iaload X2 hx hZ e2 V_g c16_3 c22_4 (v := .int (List.getD G ((fR3 w0 w1 w2 w3)).toNatClampNeg 0)) (own_getI G 0 _) (g := (mkF m 27 #[.val (.ref a), .val (.ref g), .val (.int (3 : Int32)), .val (.int (fR3 w0 w1 w2 w3))] [(.int (fR3 w0 w1 w2 w3)), (.ref g)])) rfl rfl (hb hby dp3_27) _ kq_) ?_
          show Go p e below s _ _ _ (T2.setTop (mkF m 28 #[.val (.ref a), .val (.ref g), .val (.int (3 : Int32)), .val (.int (fR3 w0 w1 w2 w3))] [(.int (List.getD G ((fR3 w0 w1 w2 w3)).toNatClampNeg 0))]))
          refine Go.st (fun _ kq_ => XS.iloadN X2.here hx rfl (hb hby dp3_28) rfl kq_) ?_
          show Go p e below s _ _ _ (T2.setTop (mkF m 29 #[.val (.ref a), .val (.ref g), .val (.int (3 : Int32)), .val (.int (fR3 w0 w1 w2 w3))] [(.int (3 : Int32)), (.int (List.getD G ((fR3 w0 w1 w2 w3)).toNatClampNeg 0))]))
          by_cases c29_5 : (List.getD G ((fR3 w0 w1 w2 w3)).toNatClampNeg 0) = (3 : Int32)
          · refine Go.st (fun _ kq_ => XS.icmpNo X2.here hx rfl (hb hby dp3_29) rfl (XT.ii_ne_f c29_5) kq_) ?_
            show Go p e below s _ _ _ (T2.setTop (mkF m 32 #[.val (.ref a), .val (.ref g), .val (.int (3 : Int32)), .val (.int (fR3 w0 w1 w2 w3))] []))
            refine Go.st (fun _ kq_ => XS.iconst X2.here hx rfl (hb hby dp3_32) kq_) ?_
            show Go p e below s _ _ _ (T2.setTop (mkF m 33 #[.val (.ref a), .val (.ref g), .val (.int (3 : Int32)), .val (.int (fR3 w0 w1 w2 w3))] [(.int (1 : Int32))]))
            refine Go.st (fun _ kq_ => XS.goto X2.here hx rfl (pc0 := 33) (pc' := 37) rfl (hb hby dp3_33) (by decide) (by decide) kq_) ?_
            show Go p e below s _ _ _ (T2.setTop (mkF m 37 #[.val (.ref a), .val (.ref g), .val (.int (3 : Int32)), .val (.int (fR3 w0 w1 w2 w3))] [(.int (1 : Int32))]))
            exact Go.ret X2 hlk (some (.int (nar .boolean (1 : Int32)))) (fun h => by rw [Bd.returns] at h; cases h) (by rw [e2]; exact ⟨own_res (z' := (1 : Int32)) (by unfold fP3; rw [if_neg c4_1, if_neg c16_3, if_pos c22_4, if_pos c29_5]) rfl, N2, rfl⟩) (by decide) (by decide) (fun fs hr => retN X2 hx (t := .boolean) Bd.returns (by simp) (hb hby dp3_37) hr)
          · refine Go.st (fun _ kq_ => XS.icmpYes X2.here hx rfl (pc0 := 29) (pc' := 36) rfl (hb hby dp3_29) rfl (XT.ii_ne_t c29_5) (by decide) (by decide) kq_) ?_
            show Go p e below s _ _ _ (T2.setTop (mkF m 36 #[.val (.ref a), .val (.ref g), .val (.int (3 : Int32)), .val (.int (fR3 w0 w1 w2 w3))] []))
            refine Go.st (fun _ kq_ => XS.iconst X2.here hx rfl (hb hby dp3_36) kq_) ?_
            show Go p e below s _ _ _ (T2.setTop (mkF m 37 #[.val (.ref a), .val (.ref g), .val (.int (3 : Int32)), .val (.int (fR3 w0 w1 w2 w3))] [(.int (0 : Int32))]))
            exact Go.ret X2 hlk (some (.int (nar .boolean (0 : Int32)))) (fun h => by rw [Bd.returns] at h; cases h) (by rw [e2]; exact ⟨own_res (z' := (0 : Int32)) (by unfold fP3; rw [if_neg c4_1, if_neg c16_3, if_pos c22_4, if_neg c29_5]) rfl, N2, rfl⟩) (by decide) (by decide) (fun fs hr => retN X2 hx (t := .boolean) Bd.returns (by simp) (hb hby dp3_37) hr)
        · refine Go.st (fun _ kq_ => XS.icmpYes X2.here hx rfl (pc0 := 22) (pc' := 36) rfl (hb hby dp3_22) rfl (XT.ii_ge_t c22_4) (by decide) (by decide) kq_) ?_
          show Go p e below s _ _ _ (T2.setTop (mkF m 36 #[.val (.ref a), .val (.ref g), .val (.int (3 : Int32)), .val (.int (fR3 w0 w1 w2 w3))] []))
          refine Go.st (fun _ kq_ => XS.iconst X2.here hx rfl (hb hby dp3_36) kq_) ?_
          show Go p e below s _ _ _ (T2.setTop (mkF m 37 #[.val (.ref a), .val (.ref g), .val (.int (3 : Int32)), .val (.int (fR3 w0 w1 w2 w3))] [(.int (0 : Int32))]))
          exact Go.ret X2 hlk (some (.int (nar .boolean (0 : Int32)))) (fun h => by rw [Bd.returns] at h; cases h) (by rw [e2]; exact ⟨own_res (z' := (0 : Int32)) (by unfold fP3; rw [if_neg c4_1, if_neg c16_3, if_neg c22_4]) rfl, N2, rfl⟩) (by decide) (by decide) (fun fs hr => retN X2 hx (t := .boolean) Bd.returns (by simp) (hb hby dp3_37) hr)
  obtain ⟨s2, o2, st2, r2⟩ := G
  exact ⟨s2, o2, castTop (efp3 m a g (3 : Int32)) st2, r2⟩
theorem own_tot {w0 w1 w2 w3 : Int32} (m0 : w0 ∈ oD) (m1 : w1 ∈ oD) (m2 : w2 ∈ oD) (m3 : w3 ∈ oD) : oN w0 w1 w2 w3 = (((fM0 w0 w1 w2 w3 + fM1 w0 w1 w2 w3) + fM2 w0 w1 w2 w3) + fM3 w0 w1 w2 w3) :=
  of_decide_eq_true (own_all (fun w0 w1 w2 w3 => decide (oN w0 w1 w2 w3 = (((fM0 w0 w1 w2 w3 + fM1 w0 w1 w2 w3) + fM2 w0 w1 w2 w3) + fM3 w0 w1 w2 w3))) (by decide +kernel) m0 m1 m2 m3)
theorem own_bel0 {w0 w1 w2 w3 : Int32} (m0 : w0 ∈ oD) (m1 : w1 ∈ oD) (m2 : w2 ∈ oD) (m3 : w3 ∈ oD) : List.getD (oP w0 w1 w2 w3) 0 0 = fB0 w0 w1 w2 w3 :=
  of_decide_eq_true (own_all (fun w0 w1 w2 w3 => decide (List.getD (oP w0 w1 w2 w3) 0 0 = fB0 w0 w1 w2 w3)) (by decide +kernel) m0 m1 m2 m3)
theorem own_bel1 {w0 w1 w2 w3 : Int32} (m0 : w0 ∈ oD) (m1 : w1 ∈ oD) (m2 : w2 ∈ oD) (m3 : w3 ∈ oD) : List.getD (oP w0 w1 w2 w3) 1 0 = fB1 w0 w1 w2 w3 :=
  of_decide_eq_true (own_all (fun w0 w1 w2 w3 => decide (List.getD (oP w0 w1 w2 w3) 1 0 = fB1 w0 w1 w2 w3)) (by decide +kernel) m0 m1 m2 m3)
theorem own_bel2 {w0 w1 w2 w3 : Int32} (m0 : w0 ∈ oD) (m1 : w1 ∈ oD) (m2 : w2 ∈ oD) (m3 : w3 ∈ oD) : List.getD (oP w0 w1 w2 w3) 2 0 = fB2 w0 w1 w2 w3 :=
  of_decide_eq_true (own_all (fun w0 w1 w2 w3 => decide (List.getD (oP w0 w1 w2 w3) 2 0 = fB2 w0 w1 w2 w3)) (by decide +kernel) m0 m1 m2 m3)
theorem own_bel3 {w0 w1 w2 w3 : Int32} (m0 : w0 ∈ oD) (m1 : w1 ∈ oD) (m2 : w2 ∈ oD) (m3 : w3 ∈ oD) : List.getD (oP w0 w1 w2 w3) 3 0 = fB3 w0 w1 w2 w3 :=
  of_decide_eq_true (own_all (fun w0 w1 w2 w3 => decide (List.getD (oP w0 w1 w2 w3) 3 0 = fB3 w0 w1 w2 w3)) (by decide +kernel) m0 m1 m2 m3)
theorem own_pl0 {w0 w1 w2 w3 : Int32} (m0 : w0 ∈ oD) (m1 : w1 ∈ oD) (m2 : w2 ∈ oD) (m3 : w3 ∈ oD) : ¬ fP0 w0 w1 w2 w3 (oN w0 w1 w2 w3) (oG4 w0 w1 w2 w3) = 0 :=
  of_decide_eq_true (own_all (fun w0 w1 w2 w3 => decide (¬ fP0 w0 w1 w2 w3 (oN w0 w1 w2 w3) (oG4 w0 w1 w2 w3) = 0)) (by decide +kernel) m0 m1 m2 m3)
theorem own_pl1 {w0 w1 w2 w3 : Int32} (m0 : w0 ∈ oD) (m1 : w1 ∈ oD) (m2 : w2 ∈ oD) (m3 : w3 ∈ oD) : ¬ fP1 w0 w1 w2 w3 (oN w0 w1 w2 w3) (oG4 w0 w1 w2 w3) = 0 :=
  of_decide_eq_true (own_all (fun w0 w1 w2 w3 => decide (¬ fP1 w0 w1 w2 w3 (oN w0 w1 w2 w3) (oG4 w0 w1 w2 w3) = 0)) (by decide +kernel) m0 m1 m2 m3)
theorem own_pl2 {w0 w1 w2 w3 : Int32} (m0 : w0 ∈ oD) (m1 : w1 ∈ oD) (m2 : w2 ∈ oD) (m3 : w3 ∈ oD) : ¬ fP2 w0 w1 w2 w3 (oN w0 w1 w2 w3) (oG4 w0 w1 w2 w3) = 0 :=
  of_decide_eq_true (own_all (fun w0 w1 w2 w3 => decide (¬ fP2 w0 w1 w2 w3 (oN w0 w1 w2 w3) (oG4 w0 w1 w2 w3) = 0)) (by decide +kernel) m0 m1 m2 m3)
theorem own_pl3 {w0 w1 w2 w3 : Int32} (m0 : w0 ∈ oD) (m1 : w1 ∈ oD) (m2 : w2 ∈ oD) (m3 : w3 ∈ oD) : ¬ fP3 w0 w1 w2 w3 (oN w0 w1 w2 w3) (oG4 w0 w1 w2 w3) = 0 :=
  of_decide_eq_true (own_all (fun w0 w1 w2 w3 => decide (¬ fP3 w0 w1 w2 w3 (oN w0 w1 w2 w3) (oG4 w0 w1 w2 w3) = 0)) (by decide +kernel) m0 m1 m2 m3)
theorem own_mem (x : Int32) : (x &&& 3) - 1 ∈ oD := by
  have h1 := c_mask x 3 2 (by decide) (by decide)
  have h2 := c_isub (x &&& 3) 1
  have h3 := rng32 ((x &&& 3) - 1)
  have h4 : (1 : Int32).toInt = 1 := rfl
  have h5 : (x &&& 3) - 1 = -1 ∨ (x &&& 3) - 1 = 0 ∨ (x &&& 3) - 1 = 1 ∨ (x &&& 3) - 1 = 2 := by
    simp only [own_eq]
    have e1 : (-1 : Int32).toInt = -1 := rfl
    have e2 : (0 : Int32).toInt = 0 := rfl
    have e3 : (2 : Int32).toInt = 2 := rfl
    omega
  rcases h5 with h | h | h | h <;> rw [h] <;> decide
theorem pd0_0 : parseMethodDescriptor "([I[I)[I" = some ⟨[(.array .int), (.array .int)], some (.array .int)⟩ := by decide +kernel
theorem pd0_1 : parseMethodDescriptor "([II)I" = some ⟨[(.array .int), .int], some .int⟩ := by decide +kernel
theorem pd0_2 : parseMethodDescriptor "([I[II)Z" = some ⟨[(.array .int), (.array .int), .int], some .boolean⟩ := by decide +kernel
theorem pn0 : plainName "com/example/rootward/rootward/model/InstanceGroupPinLaw" = true := by first | (simp [plainName, overriddenIn]; done) | decide +kernel
theorem ef0 (m : MethodId) (x0 : Int32) (x1 : Int32) (x2 : Int32) (x3 : Int32) : entryFrame m #[(.int x0), (.int x1), (.int x2), (.int x3)] maxLocals = mkF m 0 #[.val (.int x0), .val (.int x1), .val (.int x2), .val (.int x3), .unset, .unset, .unset, .unset] [] := by first | (simp [entryFrame, mkF, argsToLocals, Value.category, maxLocals]; done) | rfl
def Q0 (Z : State) (p0 : Int32) (p1 : Int32) (p2 : Int32) (p3 : Int32) (h0 : Heap) (n0 : Nat) (v : Option Value) (h : Heap) (L : List Loc) : Prop := v = some (.int 1) ∧ Fr n0 L
set_option maxRecDepth 65536 in
set_option maxHeartbeats 40000000 in
theorem rm0 (l : Launch) (Z : State) (a0 : Array Value) (hw : ∀ d ∈ tables_1, d.before a0 Z = true) (ws : List Jvm.Cond) (p0 : Int32) (p1 : Int32) (p2 : Int32) (p3 : Int32) (h0 : Heap) (n0 : Nat) (O0 : Old Z n0 h0)  :
    MetFree l x (head1 (Jvm.Cond.code x code maxLocals ret :: ws) room_1) (fun A_ U_ => A_ = #[(.int p0), (.int p1), (.int p2), (.int p3)] ∧ Z.Warmed39 U_.vm ∧ U_.heap = h0) (fun _ _ _ _ _ => True) (fun _ U o U' => ∃ v L, o = .returned v ∧ Q0 Z p0 p1 p2 p3 h0 n0 v U'.heap L ∧ FrameEnd U o U' L room_1.cells room_1.slots) := by
  refine MetFree.of_bodySF (plainFor_of_name pn0) hisR ?_
  intro p e s m args below meth cd s₁ Bd hml0 hP hK
  obtain ⟨rfl, hZ, hh⟩ := hP
  have hx := Bd.exec
  have hby := Bd.bytes
  have hlk : meth.locks = false := BodyLoose.notSynchronized Bd
  have hml : cd.maxLocals = 8 := hml0
  have hown : s.vm.findClass "com/example/rootward/rootward/model/InstanceGroupPinLaw" = some m.cls := findClass_of_methodNamed Bd.named
  have hnm := (name_of_methodNamed Bd.named Bd.method).1
  have X0 : Stand p l e room_1 s m #[(.int p0), (.int p1), (.int p2), (.int p3)] below meth cd s₁ [] 0 0 := Stand.of_body Bd
  have e0 : s₁.heap = h0 := by rw [← hh, Bd.state]; rfl
  have N0 := Fr.nil n0
  have G : Go p e below s room_1.cells room_1.slots (Q0 Z p0 p1 p2 p3 h0 n0) (s₁.setTop (mkF m 0 #[.val (.int p0), .val (.int p1), .val (.int p2), .val (.int p3), .unset, .unset, .unset, .unset] [])) := by
    show Go p e below s _ _ _ (s₁.setTop (mkF m 0 #[.val (.int p0), .val (.int p1), .val (.int p2), .val (.int p3), .unset, .unset, .unset, .unset] []))
    refine Go.st (fun _ kq_ => XS.iconst X0.here hx rfl (hb hby at_0) kq_) ?_
    show Go p e below s _ _ _ (s₁.setTop (mkF m 1 #[.val (.int p0), .val (.int p1), .val (.int p2), .val (.int p3), .unset, .unset, .unset, .unset] [(.int (4 : Int32))]))
    obtain ⟨T1, h1, k1, X1, e1, E1, A1, st1⟩ := newP X0 hx hZ (own_w hw 0 rfl) e0 (g := (mkF m 1 #[.val (.int p0), .val (.int p1), .val (.int p2), .val (.int p3), .unset, .unset, .unset, .unset] [(.int (4 : Int32))])) rfl (hb hby at_1) rfl (by decide) (cap := 4) (by decide) (by decide) (by decide) (by decide)
    obtain ⟨b1, g1⟩ : ∃ z, z = h0.size := ⟨_, rfl⟩
    rw [← g1] at A1 st1
    have g_b1 : n0 ≤ b1 := Nat.le_trans (own_old O0) (Nat.le_of_eq g1.symm)
    have O1 := O0.ext E1
    have V_b1 : Arv Z h1 b1 k1 .int (4 : Int32) [(.int (0 : Int32)), (.int (0 : Int32)), (.int (0 : Int32)), (.int (0 : Int32))] (.int (0 : Int32)) := (Arv.new A1 (by decide)).pad (pad_rep [] (.int (0 : Int32)) 4)
    refine Go.st st1 ?_
    show Go p e below s _ _ _ (T1.setTop (mkF m 3 #[.val (.int p0), .val (.int p1), .val (.int p2), .val (.int p3), .unset, .unset, .unset, .unset] [(.ref b1)]))
    refine Go.st (fun _ kq_ => XS.astore X1.here hx rfl (hb hby at_3) rfl rfl (l' := #[.val (.int p0), .val (.int p1), .val (.int p2), .val (.int p3), .val (.ref b1), .unset, .unset, .unset]) rfl kq_) ?_
    show Go p e below s _ _ _ (T1.setTop (mkF m 5 #[.val (.int p0), .val (.int p1), .val (.int p2), .val (.int p3), .val (.ref b1), .unset, .unset, .unset] []))
    refine Go.st (fun _ kq_ => XS.aload X1.here hx rfl (hb hby at_5) rfl rfl kq_) ?_
    show Go p e below s _ _ _ (T1.setTop (mkF m 7 #[.val (.int p0), .val (.int p1), .val (.int p2), .val (.int p3), .val (.ref b1), .unset, .unset, .unset] [(.ref b1)]))
    refine Go.st (fun _ kq_ => XS.iconst X1.here hx rfl (hb hby at_7) kq_) ?_
    show Go p e below s _ _ _ (T1.setTop (mkF m 8 #[.val (.int p0), .val (.int p1), .val (.int p2), .val (.int p3), .val (.ref b1), .unset, .unset, .unset] [(.int (0 : Int32)), (.ref b1)]))
    refine Go.st (fun _ kq_ => XS.iloadN X1.here hx rfl (hb hby at_8) rfl kq_) ?_
    show Go p e below s _ _ _ (T1.setTop (mkF m 9 #[.val (.int p0), .val (.int p1), .val (.int p2), .val (.int p3), .val (.ref b1), .unset, .unset, .unset] [(.int p0), (.int (0 : Int32)), (.ref b1)]))
    refine Go.st (fun _ kq_ => XS.iconst X1.here hx rfl (hb hby at_9) kq_) ?_
    show Go p e below s _ _ _ (T1.setTop (mkF m 10 #[.val (.int p0), .val (.int p1), .val (.int p2), .val (.int p3), .val (.ref b1), .unset, .unset, .unset] [(.int (3 : Int32)), (.int p0), (.int (0 : Int32)), (.ref b1)]))
    refine Go.st (fun _ kq_ => XS.iand X1.here hx rfl (hb hby at_10) rfl kq_) ?_
    show Go p e below s _ _ _ (T1.setTop (mkF m 11 #[.val (.int p0), .val (.int p1), .val (.int p2), .val (.int p3), .val (.ref b1), .unset, .unset, .unset] [(.int (p0 &&& (3 : Int32))), (.int (0 : Int32)), (.ref b1)]))
    refine Go.st (fun _ kq_ => XS.iconst X1.here hx rfl (hb hby at_11) kq_) ?_
    show Go p e below s _ _ _ (T1.setTop (mkF m 12 #[.val (.int p0), .val (.int p1), .val (.int p2), .val (.int p3), .val (.ref b1), .unset, .unset, .unset] [(.int (1 : Int32)), (.int (p0 &&& (3 : Int32))), (.int (0 : Int32)), (.ref b1)]))
    refine Go.st (fun _ kq_ => XS.isub X1.here hx rfl (hb hby at_12) rfl kq_) ?_
    show Go p e below s _ _ _ (T1.setTop (mkF m 13 #[.val (.int p0), .val (.int p1), .val (.int p2), .val (.int p3), .val (.ref b1), .unset, .unset, .unset] [(.int ((p0 &&& (3 : Int32)) - (1 : Int32))), (.int (0 : Int32)), (.ref b1)]))
    obtain ⟨w0, hw0⟩ : ∃ z, ((p0 &&& (3 : Int32)) - (1 : Int32)) = z := ⟨_, rfl⟩
    have m0 : w0 ∈ oD := hw0 ▸ own_mem p0
    rw [hw0]
    show Go p e below s _ _ _ (T1.setTop (mkF m 13 #[.val (.int p0), .val (.int p1), .val (.int p2), .val (.int p3), .val (.ref b1), .unset, .unset, .unset] [(.int w0), (.int (0 : Int32)), (.ref b1)]))
    obtain ⟨T2, h2, X2, e2, W2, V2, st2⟩ := own_stI X1 hx hZ e1 V_b1 (j := (0 : Int32)) (by decide) (by decide) 0 rfl (Nat.le_of_ble_eq_true rfl) (g := (mkF m 13 #[.val (.int p0), .val (.int p1), .val (.int p2), .val (.int p3), .val (.ref b1), .unset, .unset, .unset] [(.int w0), (.int (0 : Int32)), (.ref b1)])) rfl rfl (hb hby at_13)
    have N2 := Fr.snoc X2 N0 g_b1
    have O2 := O1.wr W2 g_b1
    have V_b1 : Arv Z h2 b1 k1 .int (4 : Int32) [(.int w0), (.int (0 : Int32)), (.int (0 : Int32)), (.int (0 : Int32))] (.int (0 : Int32)) := V2
    refine Go.st st2 ?_
    show Go p e below s _ _ _ (T2.setTop (mkF m 14 #[.val (.int p0), .val (.int p1), .val (.int p2), .val (.int p3), .val (.ref b1), .unset, .unset, .unset] []))
    refine Go.st (fun _ kq_ => XS.aload X2.here hx rfl (hb hby at_14) rfl rfl kq_) ?_
    show Go p e below s _ _ _ (T2.setTop (mkF m 16 #[.val (.int p0), .val (.int p1), .val (.int p2), .val (.int p3), .val (.ref b1), .unset, .unset, .unset] [(.ref b1)]))
    refine Go.st (fun _ kq_ => XS.iconst X2.here hx rfl (hb hby at_16) kq_) ?_
    show Go p e below s _ _ _ (T2.setTop (mkF m 17 #[.val (.int p0), .val (.int p1), .val (.int p2), .val (.int p3), .val (.ref b1), .unset, .unset, .unset] [(.int (1 : Int32)), (.ref b1)]))
    refine Go.st (fun _ kq_ => XS.iloadN X2.here hx rfl (hb hby at_17) rfl kq_) ?_
    show Go p e below s _ _ _ (T2.setTop (mkF m 18 #[.val (.int p0), .val (.int p1), .val (.int p2), .val (.int p3), .val (.ref b1), .unset, .unset, .unset] [(.int p1), (.int (1 : Int32)), (.ref b1)]))
    refine Go.st (fun _ kq_ => XS.iconst X2.here hx rfl (hb hby at_18) kq_) ?_
    show Go p e below s _ _ _ (T2.setTop (mkF m 19 #[.val (.int p0), .val (.int p1), .val (.int p2), .val (.int p3), .val (.ref b1), .unset, .unset, .unset] [(.int (3 : Int32)), (.int p1), (.int (1 : Int32)), (.ref b1)]))
    refine Go.st (fun _ kq_ => XS.iand X2.here hx rfl (hb hby at_19) rfl kq_) ?_
    show Go p e below s _ _ _ (T2.setTop (mkF m 20 #[.val (.int p0), .val (.int p1), .val (.int p2), .val (.int p3), .val (.ref b1), .unset, .unset, .unset] [(.int (p1 &&& (3 : Int32))), (.int (1 : Int32)), (.ref b1)]))
    refine Go.st (fun _ kq_ => XS.iconst X2.here hx rfl (hb hby at_20) kq_) ?_
    show Go p e below s _ _ _ (T2.setTop (mkF m 21 #[.val (.int p0), .val (.int p1), .val (.int p2), .val (.int p3), .val (.ref b1), .unset, .unset, .unset] [(.int (1 : Int32)), (.int (p1 &&& (3 : Int32))), (.int (1 : Int32)), (.ref b1)]))
    refine Go.st (fun _ kq_ => XS.isub X2.here hx rfl (hb hby at_21) rfl kq_) ?_
    show Go p e below s _ _ _ (T2.setTop (mkF m 22 #[.val (.int p0), .val (.int p1), .val (.int p2), .val (.int p3), .val (.ref b1), .unset, .unset, .unset] [(.int ((p1 &&& (3 : Int32)) - (1 : Int32))), (.int (1 : Int32)), (.ref b1)]))
    obtain ⟨w1, hw1⟩ : ∃ z, ((p1 &&& (3 : Int32)) - (1 : Int32)) = z := ⟨_, rfl⟩
    have m1 : w1 ∈ oD := hw1 ▸ own_mem p1
    rw [hw1]
    show Go p e below s _ _ _ (T2.setTop (mkF m 22 #[.val (.int p0), .val (.int p1), .val (.int p2), .val (.int p3), .val (.ref b1), .unset, .unset, .unset] [(.int w1), (.int (1 : Int32)), (.ref b1)]))
    obtain ⟨T3, h3, X3, e3, W3, V3, st3⟩ := own_stI X2 hx hZ e2 V_b1 (j := (1 : Int32)) (by decide) (by decide) 1 rfl (Nat.le_of_ble_eq_true rfl) (g := (mkF m 22 #[.val (.int p0), .val (.int p1), .val (.int p2), .val (.int p3), .val (.ref b1), .unset, .unset, .unset] [(.int w1), (.int (1 : Int32)), (.ref b1)])) rfl rfl (hb hby at_22)
    have N3 := Fr.snoc X3 N2 g_b1
    have O3 := O2.wr W3 g_b1
    have V_b1 : Arv Z h3 b1 k1 .int (4 : Int32) [(.int w0), (.int w1), (.int (0 : Int32)), (.int (0 : Int32))] (.int (0 : Int32)) := V3
    refine Go.st st3 ?_
    show Go p e below s _ _ _ (T3.setTop (mkF m 23 #[.val (.int p0), .val (.int p1), .val (.int p2), .val (.int p3), .val (.ref b1), .unset, .unset, .unset] []))
    refine Go.st (fun _ kq_ => XS.aload X3.here hx rfl (hb hby at_23) rfl rfl kq_) ?_
    show Go p e below s _ _ _ (T3.setTop (mkF m 25 #[.val (.int p0), .val (.int p1), .val (.int p2), .val (.int p3), .val (.ref b1), .unset, .unset, .unset] [(.ref b1)]))
    refine Go.st (fun _ kq_ => XS.iconst X3.here hx rfl (hb hby at_25) kq_) ?_
    show Go p e below s _ _ _ (T3.setTop (mkF m 26 #[.val (.int p0), .val (.int p1), .val (.int p2), .val (.int p3), .val (.ref b1), .unset, .unset, .unset] [(.int (2 : Int32)), (.ref b1)]))
    refine Go.st (fun _ kq_ => XS.iloadN X3.here hx rfl (hb hby at_26) rfl kq_) ?_
    show Go p e below s _ _ _ (T3.setTop (mkF m 27 #[.val (.int p0), .val (.int p1), .val (.int p2), .val (.int p3), .val (.ref b1), .unset, .unset, .unset] [(.int p2), (.int (2 : Int32)), (.ref b1)]))
    refine Go.st (fun _ kq_ => XS.iconst X3.here hx rfl (hb hby at_27) kq_) ?_
    show Go p e below s _ _ _ (T3.setTop (mkF m 28 #[.val (.int p0), .val (.int p1), .val (.int p2), .val (.int p3), .val (.ref b1), .unset, .unset, .unset] [(.int (3 : Int32)), (.int p2), (.int (2 : Int32)), (.ref b1)]))
    refine Go.st (fun _ kq_ => XS.iand X3.here hx rfl (hb hby at_28) rfl kq_) ?_
    show Go p e below s _ _ _ (T3.setTop (mkF m 29 #[.val (.int p0), .val (.int p1), .val (.int p2), .val (.int p3), .val (.ref b1), .unset, .unset, .unset] [(.int (p2 &&& (3 : Int32))), (.int (2 : Int32)), (.ref b1)]))
    refine Go.st (fun _ kq_ => XS.iconst X3.here hx rfl (hb hby at_29) kq_) ?_
    show Go p e below s _ _ _ (T3.setTop (mkF m 30 #[.val (.int p0), .val (.int p1), .val (.int p2), .val (.int p3), .val (.ref b1), .unset, .unset, .unset] [(.int (1 : Int32)), (.int (p2 &&& (3 : Int32))), (.int (2 : Int32)), (.ref b1)]))
    refine Go.st (fun _ kq_ => XS.isub X3.here hx rfl (hb hby at_30) rfl kq_) ?_
    show Go p e below s _ _ _ (T3.setTop (mkF m 31 #[.val (.int p0), .val (.int p1), .val (.int p2), .val (.int p3), .val (.ref b1), .unset, .unset, .unset] [(.int ((p2 &&& (3 : Int32)) - (1 : Int32))), (.int (2 : Int32)), (.ref b1)]))
    obtain ⟨w2, hw2⟩ : ∃ z, ((p2 &&& (3 : Int32)) - (1 : Int32)) = z := ⟨_, rfl⟩
    have m2 : w2 ∈ oD := hw2 ▸ own_mem p2
    rw [hw2]
    show Go p e below s _ _ _ (T3.setTop (mkF m 31 #[.val (.int p0), .val (.int p1), .val (.int p2), .val (.int p3), .val (.ref b1), .unset, .unset, .unset] [(.int w2), (.int (2 : Int32)), (.ref b1)]))
    obtain ⟨T4, h4, X4, e4, W4, V4, st4⟩ := own_stI X3 hx hZ e3 V_b1 (j := (2 : Int32)) (by decide) (by decide) 2 rfl (Nat.le_of_ble_eq_true rfl) (g := (mkF m 31 #[.val (.int p0), .val (.int p1), .val (.int p2), .val (.int p3), .val (.ref b1), .unset, .unset, .unset] [(.int w2), (.int (2 : Int32)), (.ref b1)])) rfl rfl (hb hby at_31)
    have N4 := Fr.snoc X4 N3 g_b1
    have O4 := O3.wr W4 g_b1
    have V_b1 : Arv Z h4 b1 k1 .int (4 : Int32) [(.int w0), (.int w1), (.int w2), (.int (0 : Int32))] (.int (0 : Int32)) := V4
    refine Go.st st4 ?_
    show Go p e below s _ _ _ (T4.setTop (mkF m 32 #[.val (.int p0), .val (.int p1), .val (.int p2), .val (.int p3), .val (.ref b1), .unset, .unset, .unset] []))
    refine Go.st (fun _ kq_ => XS.aload X4.here hx rfl (hb hby at_32) rfl rfl kq_) ?_
    show Go p e below s _ _ _ (T4.setTop (mkF m 34 #[.val (.int p0), .val (.int p1), .val (.int p2), .val (.int p3), .val (.ref b1), .unset, .unset, .unset] [(.ref b1)]))
    refine Go.st (fun _ kq_ => XS.iconst X4.here hx rfl (hb hby at_34) kq_) ?_
    show Go p e below s _ _ _ (T4.setTop (mkF m 35 #[.val (.int p0), .val (.int p1), .val (.int p2), .val (.int p3), .val (.ref b1), .unset, .unset, .unset] [(.int (3 : Int32)), (.ref b1)]))
    refine Go.st (fun _ kq_ => XS.iloadN X4.here hx rfl (hb hby at_35) rfl kq_) ?_
    show Go p e below s _ _ _ (T4.setTop (mkF m 36 #[.val (.int p0), .val (.int p1), .val (.int p2), .val (.int p3), .val (.ref b1), .unset, .unset, .unset] [(.int p3), (.int (3 : Int32)), (.ref b1)]))
    refine Go.st (fun _ kq_ => XS.iconst X4.here hx rfl (hb hby at_36) kq_) ?_
    show Go p e below s _ _ _ (T4.setTop (mkF m 37 #[.val (.int p0), .val (.int p1), .val (.int p2), .val (.int p3), .val (.ref b1), .unset, .unset, .unset] [(.int (3 : Int32)), (.int p3), (.int (3 : Int32)), (.ref b1)]))
    refine Go.st (fun _ kq_ => XS.iand X4.here hx rfl (hb hby at_37) rfl kq_) ?_
    show Go p e below s _ _ _ (T4.setTop (mkF m 38 #[.val (.int p0), .val (.int p1), .val (.int p2), .val (.int p3), .val (.ref b1), .unset, .unset, .unset] [(.int (p3 &&& (3 : Int32))), (.int (3 : Int32)), (.ref b1)]))
    refine Go.st (fun _ kq_ => XS.iconst X4.here hx rfl (hb hby at_38) kq_) ?_
    show Go p e below s _ _ _ (T4.setTop (mkF m 39 #[.val (.int p0), .val (.int p1), .val (.int p2), .val (.int p3), .val (.ref b1), .unset, .unset, .unset] [(.int (1 : Int32)), (.int (p3 &&& (3 : Int32))), (.int (3 : Int32)), (.ref b1)]))
    refine Go.st (fun _ kq_ => XS.isub X4.here hx rfl (hb hby at_39) rfl kq_) ?_
    show Go p e below s _ _ _ (T4.setTop (mkF m 40 #[.val (.int p0), .val (.int p1), .val (.int p2), .val (.int p3), .val (.ref b1), .unset, .unset, .unset] [(.int ((p3 &&& (3 : Int32)) - (1 : Int32))), (.int (3 : Int32)), (.ref b1)]))
    obtain ⟨w3, hw3⟩ : ∃ z, ((p3 &&& (3 : Int32)) - (1 : Int32)) = z := ⟨_, rfl⟩
    have m3 : w3 ∈ oD := hw3 ▸ own_mem p3
    rw [hw3]
    show Go p e below s _ _ _ (T4.setTop (mkF m 40 #[.val (.int p0), .val (.int p1), .val (.int p2), .val (.int p3), .val (.ref b1), .unset, .unset, .unset] [(.int w3), (.int (3 : Int32)), (.ref b1)]))
    obtain ⟨T5, h5, X5, e5, W5, V5, st5⟩ := own_stI X4 hx hZ e4 V_b1 (j := (3 : Int32)) (by decide) (by decide) 3 rfl (Nat.le_of_ble_eq_true rfl) (g := (mkF m 40 #[.val (.int p0), .val (.int p1), .val (.int p2), .val (.int p3), .val (.ref b1), .unset, .unset, .unset] [(.int w3), (.int (3 : Int32)), (.ref b1)])) rfl rfl (hb hby at_40)
    have N5 := Fr.snoc X5 N4 g_b1
    have O5 := O4.wr W5 g_b1
    have V_b1 : Arv Z h5 b1 k1 .int (4 : Int32) [(.int w0), (.int w1), (.int w2), (.int w3)] (.int (0 : Int32)) := V5
    refine Go.st st5 ?_
    show Go p e below s _ _ _ (T5.setTop (mkF m 41 #[.val (.int p0), .val (.int p1), .val (.int p2), .val (.int p3), .val (.ref b1), .unset, .unset, .unset] []))
    refine Go.st (fun _ kq_ => XS.iconst X5.here hx rfl (hb hby at_41) kq_) ?_
    show Go p e below s _ _ _ (T5.setTop (mkF m 42 #[.val (.int p0), .val (.int p1), .val (.int p2), .val (.int p3), .val (.ref b1), .unset, .unset, .unset] [(.int (4 : Int32))]))
    obtain ⟨T6, h6, k6, X6, e6, E6, A6, Ex6, st6⟩ := newPE X5 hx hZ (own_w hw 0 rfl) e5 (g := (mkF m 42 #[.val (.int p0), .val (.int p1), .val (.int p2), .val (.int p3), .val (.ref b1), .unset, .unset, .unset] [(.int (4 : Int32))])) rfl (hb hby at_42) rfl (by decide) (cap := 4) (by decide) (by decide) (by decide) (by decide) (ad := "[I") (by decide)
    obtain ⟨b6, g6⟩ : ∃ z, z = h5.size := ⟨_, rfl⟩
    rw [← g6] at A6 Ex6 st6
    have g_b6 : n0 ≤ b6 := Nat.le_trans (own_old O5) (Nat.le_of_eq g6.symm)
    have ne_b1_b6 : b1 ≠ b6 := by rw [g6]; exact Nat.ne_of_lt V_b1.lt
    have V_b1 := V_b1.ext E6
    have O6 := O5.ext E6
    have E_b6 : Exa Z h6 b6 "[I" := Ex6
    have V_b6 : Arv Z h6 b6 k6 .int (4 : Int32) [(.int (0 : Int32)), (.int (0 : Int32)), (.int (0 : Int32)), (.int (0 : Int32))] (.int (0 : Int32)) := (Arv.new A6 (by decide)).pad (pad_rep [] (.int (0 : Int32)) 4)
    refine Go.st st6 ?_
    show Go p e below s _ _ _ (T6.setTop (mkF m 44 #[.val (.int p0), .val (.int p1), .val (.int p2), .val (.int p3), .val (.ref b1), .unset, .unset, .unset] [(.ref b6)]))
    refine Go.st (fun _ kq_ => XS.astore X6.here hx rfl (hb hby at_44) rfl rfl (l' := #[.val (.int p0), .val (.int p1), .val (.int p2), .val (.int p3), .val (.ref b1), .val (.ref b6), .unset, .unset]) rfl kq_) ?_
    show Go p e below s _ _ _ (T6.setTop (mkF m 46 #[.val (.int p0), .val (.int p1), .val (.int p2), .val (.int p3), .val (.ref b1), .val (.ref b6), .unset, .unset] []))
    refine Go.st (fun _ kq_ => XS.aload X6.here hx rfl (hb hby at_46) rfl rfl kq_) ?_
    show Go p e below s _ _ _ (T6.setTop (mkF m 48 #[.val (.int p0), .val (.int p1), .val (.int p2), .val (.int p3), .val (.ref b1), .val (.ref b6), .unset, .unset] [(.ref b1)]))
    refine Go.st (fun _ kq_ => XS.aload X6.here hx rfl (hb hby at_48) rfl rfl kq_) ?_
    show Go p e below s _ _ _ (T6.setTop (mkF m 50 #[.val (.int p0), .val (.int p1), .val (.int p2), .val (.int p3), .val (.ref b1), .val (.ref b6), .unset, .unset] [(.ref b6), (.ref b1)]))
    obtain ⟨_, _, ⟨T7, L7, k7, n7⟩, -, X7, ⟨Lc7, hQ7, l7, y7, z7⟩, st7⟩ := Jvm.LawKit.callS X6 hx (y := (⟨"com/example/rootward/rootward/model/Instance", "group", "([I[I)[I"⟩ : MethodName)) hown (mvT hZ (own_w hw 1 rfl)) (mvT hZ (own_w hw 2 rfl)) (mvT hZ (own_w hw 3 rfl)) (mvT hZ (own_w hw 4 rfl)) (by decide) (backOf (W := 0) (rmg l Z a0 hw [] b1 k1 b6 k6 w0 w1 w2 w3 h6 n0 O6 V_b1 V_b6 E_b6 g_b6 ne_b1_b6 m0 m1 m2 m3) hZ (own_w hw 4 rfl) (own_w hw 3 rfl) (by decide) (by decide)) (g := (mkF m 50 #[.val (.int p0), .val (.int p1), .val (.int p2), .val (.int p3), .val (.ref b1), .val (.ref b6), .unset, .unset] [(.ref b6), (.ref b1)])) rfl (by rw [hml]; rfl) (argsL := [(.ref b1), (.ref b6)]) (rest := []) (lenOf pd0_0 rfl) rfl (by show 2 * 0 + _ ≤ _; exact Nat.le_of_eq rfl) (hb hby at_50) (fun _ _ => ⟨rfl, e6, (by decide : 2 + 2 ≤ _), (by decide : 8 + 8 ≤ _)⟩)
    dsimp only [Pt.U, Pt.locs, Pt.cells, Pt.slots] at X7 l7 y7 z7 st7 hQ7
    subst l7 y7 z7
    obtain ⟨g_7, kg7, rfl, Nc7, Kc7, gg7, szg7, NVb, V_g_7⟩ := hQ7
    have N7 := Fr.app N5 Nc7
    have g_g_7 : n0 ≤ g_7 := gg7
    have ne_b1_g_7 : b1 ≠ g_7 := Nat.ne_of_lt (Nat.lt_of_lt_of_le V_b1.lt szg7)
    have ne_b6_g_7 : b6 ≠ g_7 := Nat.ne_of_lt (Nat.lt_of_lt_of_le E_b6.lt szg7)
    have V_b1 := V_b1.keep Kc7 (ninS ne_b1_b6 nin0)
    have E_b6 := E_b6.keep Kc7
    have O7 := O6.keep Kc7 (allS g_b6 all0)
    have V_b6 := NVb
    refine Go.st st7 ?_
    show Go p e below s _ _ _ (T7.setTop (mkF m 53 #[.val (.int p0), .val (.int p1), .val (.int p2), .val (.int p3), .val (.ref b1), .val (.ref b6), .unset, .unset] [(.ref g_7)]))
    refine Go.st (fun _ kq_ => XS.astore X7.here hx rfl (hb hby at_53) rfl rfl (l' := #[.val (.int p0), .val (.int p1), .val (.int p2), .val (.int p3), .val (.ref b1), .val (.ref b6), .val (.ref g_7), .unset]) rfl kq_) ?_
    show Go p e below s _ _ _ (T7.setTop (mkF m 55 #[.val (.int p0), .val (.int p1), .val (.int p2), .val (.int p3), .val (.ref b1), .val (.ref b6), .val (.ref g_7), .unset] []))
    refine Go.st (fun _ kq_ => XS.aload X7.here hx rfl (hb hby at_55) rfl rfl kq_) ?_
    show Go p e below s _ _ _ (T7.setTop (mkF m 57 #[.val (.int p0), .val (.int p1), .val (.int p2), .val (.int p3), .val (.ref b1), .val (.ref b6), .val (.ref g_7), .unset] [(.ref b1)]))
    refine Go.st (fun _ kq_ => XS.iconst X7.here hx rfl (hb hby at_57) kq_) ?_
    show Go p e below s _ _ _ (T7.setTop (mkF m 58 #[.val (.int p0), .val (.int p1), .val (.int p2), .val (.int p3), .val (.ref b1), .val (.ref b6), .val (.ref g_7), .unset] [(.int (0 : Int32)), (.ref b1)]))
    obtain ⟨_, _, ⟨T8, L8, k8, n8⟩, -, X8, ⟨Lc8, hQ8, l8, y8, z8⟩, st8⟩ := Jvm.LawKit.callS X7 hx (y := (⟨"com/example/rootward/rootward/model/InstanceGroupPinLaw", "member", "([II)I"⟩ : MethodName)) hown (mvT hZ (own_w hw 14 rfl)) (mvT hZ (own_w hw 15 rfl)) (mvT hZ (own_w hw 16 rfl)) (mvT hZ (own_w hw 17 rfl)) (by decide) (backOf (W := 0) (rmm0 l Z a0 hw [] b1 k1 w0 w1 w2 w3 T7.heap n0 O7 V_b1) hZ (own_w hw 17 rfl) (own_w hw 16 rfl) (by decide) (by decide)) (g := (mkF m 58 #[.val (.int p0), .val (.int p1), .val (.int p2), .val (.int p3), .val (.ref b1), .val (.ref b6), .val (.ref g_7), .unset] [(.int (0 : Int32)), (.ref b1)])) rfl (by rw [hml]; rfl) (argsL := [(.ref b1), (.int (0 : Int32))]) (rest := []) (lenOf pd0_1 rfl) rfl (by show 2 * 0 + _ ≤ _; exact Nat.le_of_eq rfl) (hb hby at_58) (fun _ _ => ⟨rfl, rfl, (by decide : 4 + 0 ≤ _), (by decide : 16 + 0 ≤ _)⟩)
    dsimp only [Pt.U, Pt.locs, Pt.cells, Pt.slots] at X8 l8 y8 z8 st8 hQ8
    subst l8 y8 z8
    obtain ⟨rfl, Nc8, e8⟩ := hQ8
    have N8 := Fr.app N7 Nc8
    refine Go.st st8 ?_
    show Go p e below s _ _ _ (T8.setTop (mkF m 61 #[.val (.int p0), .val (.int p1), .val (.int p2), .val (.int p3), .val (.ref b1), .val (.ref b6), .val (.ref g_7), .unset] [(.int (fM0 w0 w1 w2 w3))]))
    refine Go.st (fun _ kq_ => XS.aload X8.here hx rfl (hb hby at_61) rfl rfl kq_) ?_
    show Go p e below s _ _ _ (T8.setTop (mkF m 63 #[.val (.int p0), .val (.int p1), .val (.int p2), .val (.int p3), .val (.ref b1), .val (.ref b6), .val (.ref g_7), .unset] [(.ref b1), (.int (fM0 w0 w1 w2 w3))]))
    refine Go.st (fun _ kq_ => XS.iconst X8.here hx rfl (hb hby at_63) kq_) ?_
    show Go p e below s _ _ _ (T8.setTop (mkF m 64 #[.val (.int p0), .val (.int p1), .val (.int p2), .val (.int p3), .val (.ref b1), .val (.ref b6), .val (.ref g_7), .unset] [(.int (1 : Int32)), (.ref b1), (.int (fM0 w0 w1 w2 w3))]))
    obtain ⟨_, _, ⟨T9, L9, k9, n9⟩, -, X9, ⟨Lc9, hQ9, l9, y9, z9⟩, st9⟩ := Jvm.LawKit.callS X8 hx (y := (⟨"com/example/rootward/rootward/model/InstanceGroupPinLaw", "member", "([II)I"⟩ : MethodName)) hown (mvT hZ (own_w hw 14 rfl)) (mvT hZ (own_w hw 15 rfl)) (mvT hZ (own_w hw 16 rfl)) (mvT hZ (own_w hw 17 rfl)) (by decide) (backOf (W := 1) (rmm1 l Z a0 hw [] b1 k1 w0 w1 w2 w3 T7.heap n0 O7 V_b1) hZ (own_w hw 17 rfl) (own_w hw 16 rfl) (by decide) (by decide)) (g := (mkF m 64 #[.val (.int p0), .val (.int p1), .val (.int p2), .val (.int p3), .val (.ref b1), .val (.ref b6), .val (.ref g_7), .unset] [(.int (1 : Int32)), (.ref b1), (.int (fM0 w0 w1 w2 w3))])) rfl (by rw [hml]; rfl) (argsL := [(.ref b1), (.int (1 : Int32))]) (rest := [(.int (fM0 w0 w1 w2 w3))]) (lenOf pd0_1 rfl) rfl (by show 2 * 0 + _ ≤ _; exact Nat.le_of_eq rfl) (hb hby at_64) (fun _ _ => ⟨rfl, e8, (by decide : 4 + 0 ≤ _), (by decide : 16 + 0 ≤ _)⟩)
    dsimp only [Pt.U, Pt.locs, Pt.cells, Pt.slots] at X9 l9 y9 z9 st9 hQ9
    subst l9 y9 z9
    obtain ⟨rfl, Nc9, e9⟩ := hQ9
    have N9 := Fr.app N8 Nc9
    refine Go.st st9 ?_
    show Go p e below s _ _ _ (T9.setTop (mkF m 67 #[.val (.int p0), .val (.int p1), .val (.int p2), .val (.int p3), .val (.ref b1), .val (.ref b6), .val (.ref g_7), .unset] [(.int (fM1 w0 w1 w2 w3)), (.int (fM0 w0 w1 w2 w3))]))
    refine Go.st (fun _ kq_ => XS.iadd X9.here hx rfl (hb hby at_67) rfl kq_) ?_
    show Go p e below s _ _ _ (T9.setTop (mkF m 68 #[.val (.int p0), .val (.int p1), .val (.int p2), .val (.int p3), .val (.ref b1), .val (.ref b6), .val (.ref g_7), .unset] [(.int ((fM0 w0 w1 w2 w3) + (fM1 w0 w1 w2 w3)))]))
    refine Go.st (fun _ kq_ => XS.aload X9.here hx rfl (hb hby at_68) rfl rfl kq_) ?_
    show Go p e below s _ _ _ (T9.setTop (mkF m 70 #[.val (.int p0), .val (.int p1), .val (.int p2), .val (.int p3), .val (.ref b1), .val (.ref b6), .val (.ref g_7), .unset] [(.ref b1), (.int ((fM0 w0 w1 w2 w3) + (fM1 w0 w1 w2 w3)))]))
    refine Go.st (fun _ kq_ => XS.iconst X9.here hx rfl (hb hby at_70) kq_) ?_
    show Go p e below s _ _ _ (T9.setTop (mkF m 71 #[.val (.int p0), .val (.int p1), .val (.int p2), .val (.int p3), .val (.ref b1), .val (.ref b6), .val (.ref g_7), .unset] [(.int (2 : Int32)), (.ref b1), (.int ((fM0 w0 w1 w2 w3) + (fM1 w0 w1 w2 w3)))]))
    obtain ⟨_, _, ⟨T10, L10, k10, n10⟩, -, X10, ⟨Lc10, hQ10, l10, y10, z10⟩, st10⟩ := Jvm.LawKit.callS X9 hx (y := (⟨"com/example/rootward/rootward/model/InstanceGroupPinLaw", "member", "([II)I"⟩ : MethodName)) hown (mvT hZ (own_w hw 14 rfl)) (mvT hZ (own_w hw 15 rfl)) (mvT hZ (own_w hw 16 rfl)) (mvT hZ (own_w hw 17 rfl)) (by decide) (backOf (W := 1) (rmm2 l Z a0 hw [] b1 k1 w0 w1 w2 w3 T7.heap n0 O7 V_b1) hZ (own_w hw 17 rfl) (own_w hw 16 rfl) (by decide) (by decide)) (g := (mkF m 71 #[.val (.int p0), .val (.int p1), .val (.int p2), .val (.int p3), .val (.ref b1), .val (.ref b6), .val (.ref g_7), .unset] [(.int (2 : Int32)), (.ref b1), (.int ((fM0 w0 w1 w2 w3) + (fM1 w0 w1 w2 w3)))])) rfl (by rw [hml]; rfl) (argsL := [(.ref b1), (.int (2 : Int32))]) (rest := [(.int ((fM0 w0 w1 w2 w3) + (fM1 w0 w1 w2 w3)))]) (lenOf pd0_1 rfl) rfl (by show 2 * 0 + _ ≤ _; exact Nat.le_of_eq rfl) (hb hby at_71) (fun _ _ => ⟨rfl, e9, (by decide : 4 + 0 ≤ _), (by decide : 16 + 0 ≤ _)⟩)
    dsimp only [Pt.U, Pt.locs, Pt.cells, Pt.slots] at X10 l10 y10 z10 st10 hQ10
    subst l10 y10 z10
    obtain ⟨rfl, Nc10, e10⟩ := hQ10
    have N10 := Fr.app N9 Nc10
    refine Go.st st10 ?_
    show Go p e below s _ _ _ (T10.setTop (mkF m 74 #[.val (.int p0), .val (.int p1), .val (.int p2), .val (.int p3), .val (.ref b1), .val (.ref b6), .val (.ref g_7), .unset] [(.int (fM2 w0 w1 w2 w3)), (.int ((fM0 w0 w1 w2 w3) + (fM1 w0 w1 w2 w3)))]))
    refine Go.st (fun _ kq_ => XS.iadd X10.here hx rfl (hb hby at_74) rfl kq_) ?_
    show Go p e below s _ _ _ (T10.setTop (mkF m 75 #[.val (.int p0), .val (.int p1), .val (.int p2), .val (.int p3), .val (.ref b1), .val (.ref b6), .val (.ref g_7), .unset] [(.int (((fM0 w0 w1 w2 w3) + (fM1 w0 w1 w2 w3)) + (fM2 w0 w1 w2 w3)))]))
    refine Go.st (fun _ kq_ => XS.aload X10.here hx rfl (hb hby at_75) rfl rfl kq_) ?_
    show Go p e below s _ _ _ (T10.setTop (mkF m 77 #[.val (.int p0), .val (.int p1), .val (.int p2), .val (.int p3), .val (.ref b1), .val (.ref b6), .val (.ref g_7), .unset] [(.ref b1), (.int (((fM0 w0 w1 w2 w3) + (fM1 w0 w1 w2 w3)) + (fM2 w0 w1 w2 w3)))]))
    refine Go.st (fun _ kq_ => XS.iconst X10.here hx rfl (hb hby at_77) kq_) ?_
    show Go p e below s _ _ _ (T10.setTop (mkF m 78 #[.val (.int p0), .val (.int p1), .val (.int p2), .val (.int p3), .val (.ref b1), .val (.ref b6), .val (.ref g_7), .unset] [(.int (3 : Int32)), (.ref b1), (.int (((fM0 w0 w1 w2 w3) + (fM1 w0 w1 w2 w3)) + (fM2 w0 w1 w2 w3)))]))
    obtain ⟨_, _, ⟨T11, L11, k11, n11⟩, -, X11, ⟨Lc11, hQ11, l11, y11, z11⟩, st11⟩ := Jvm.LawKit.callS X10 hx (y := (⟨"com/example/rootward/rootward/model/InstanceGroupPinLaw", "member", "([II)I"⟩ : MethodName)) hown (mvT hZ (own_w hw 14 rfl)) (mvT hZ (own_w hw 15 rfl)) (mvT hZ (own_w hw 16 rfl)) (mvT hZ (own_w hw 17 rfl)) (by decide) (backOf (W := 1) (rmm3 l Z a0 hw [] b1 k1 w0 w1 w2 w3 T7.heap n0 O7 V_b1) hZ (own_w hw 17 rfl) (own_w hw 16 rfl) (by decide) (by decide)) (g := (mkF m 78 #[.val (.int p0), .val (.int p1), .val (.int p2), .val (.int p3), .val (.ref b1), .val (.ref b6), .val (.ref g_7), .unset] [(.int (3 : Int32)), (.ref b1), (.int (((fM0 w0 w1 w2 w3) + (fM1 w0 w1 w2 w3)) + (fM2 w0 w1 w2 w3)))])) rfl (by rw [hml]; rfl) (argsL := [(.ref b1), (.int (3 : Int32))]) (rest := [(.int (((fM0 w0 w1 w2 w3) + (fM1 w0 w1 w2 w3)) + (fM2 w0 w1 w2 w3)))]) (lenOf pd0_1 rfl) rfl (by show 2 * 0 + _ ≤ _; exact Nat.le_of_eq rfl) (hb hby at_78) (fun _ _ => ⟨rfl, e10, (by decide : 4 + 0 ≤ _), (by decide : 16 + 0 ≤ _)⟩)
    dsimp only [Pt.U, Pt.locs, Pt.cells, Pt.slots] at X11 l11 y11 z11 st11 hQ11
    subst l11 y11 z11
    obtain ⟨rfl, Nc11, e11⟩ := hQ11
    have N11 := Fr.app N10 Nc11
    refine Go.st st11 ?_
    show Go p e below s _ _ _ (T11.setTop (mkF m 81 #[.val (.int p0), .val (.int p1), .val (.int p2), .val (.int p3), .val (.ref b1), .val (.ref b6), .val (.ref g_7), .unset] [(.int (fM3 w0 w1 w2 w3)), (.int (((fM0 w0 w1 w2 w3) + (fM1 w0 w1 w2 w3)) + (fM2 w0 w1 w2 w3)))]))
    refine Go.st (fun _ kq_ => XS.iadd X11.here hx rfl (hb hby at_81) rfl kq_) ?_
    show Go p e below s _ _ _ (T11.setTop (mkF m 82 #[.val (.int p0), .val (.int p1), .val (.int p2), .val (.int p3), .val (.ref b1), .val (.ref b6), .val (.ref g_7), .unset] [(.int ((((fM0 w0 w1 w2 w3) + (fM1 w0 w1 w2 w3)) + (fM2 w0 w1 w2 w3)) + (fM3 w0 w1 w2 w3)))]))
    refine Go.st (fun _ kq_ => XS.istore X11.here hx rfl (hb hby at_82) rfl (l' := #[.val (.int p0), .val (.int p1), .val (.int p2), .val (.int p3), .val (.ref b1), .val (.ref b6), .val (.ref g_7), .val (.int ((((fM0 w0 w1 w2 w3) + (fM1 w0 w1 w2 w3)) + (fM2 w0 w1 w2 w3)) + (fM3 w0 w1 w2 w3)))]) rfl kq_) ?_
    show Go p e below s _ _ _ (T11.setTop (mkF m 84 #[.val (.int p0), .val (.int p1), .val (.int p2), .val (.int p3), .val (.ref b1), .val (.ref b6), .val (.ref g_7), .val (.int ((((fM0 w0 w1 w2 w3) + (fM1 w0 w1 w2 w3)) + (fM2 w0 w1 w2 w3)) + (fM3 w0 w1 w2 w3)))] []))
    refine Go.st (fun _ kq_ => XS.aload X11.here hx rfl (hb hby at_84) rfl rfl kq_) ?_
    show Go p e below s _ _ _ (T11.setTop (mkF m 86 #[.val (.int p0), .val (.int p1), .val (.int p2), .val (.int p3), .val (.ref b1), .val (.ref b6), .val (.ref g_7), .val (.int ((((fM0 w0 w1 w2 w3) + (fM1 w0 w1 w2 w3)) + (fM2 w0 w1 w2 w3)) + (fM3 w0 w1 w2 w3)))] [(.ref g_7)]))
    refine Go.st (fun _ kq_ => own_len X11 hx hZ e11 V_g_7 (g := (mkF m 86 #[.val (.int p0), .val (.int p1), .val (.int p2), .val (.int p3), .val (.ref b1), .val (.ref b6), .val (.ref g_7), .val (.int ((((fM0 w0 w1 w2 w3) + (fM1 w0 w1 w2 w3)) + (fM2 w0 w1 w2 w3)) + (fM3 w0 w1 w2 w3)))] [(.ref g_7)])) rfl rfl (hb hby at_86) _ kq_) ?_
    show Go p e below s _ _ _ (T11.setTop (mkF m 87 #[.val (.int p0), .val (.int p1), .val (.int p2), .val (.int p3), .val (.ref b1), .val (.ref b6), .val (.ref g_7), .val (.int ((((fM0 w0 w1 w2 w3) + (fM1 w0 w1 w2 w3)) + (fM2 w0 w1 w2 w3)) + (fM3 w0 w1 w2 w3)))] [(.int (oN w0 w1 w2 w3))]))
    refine Go.st (fun _ kq_ => XS.iload X11.here hx rfl (hb hby at_87) rfl kq_) ?_
    show Go p e below s _ _ _ (T11.setTop (mkF m 89 #[.val (.int p0), .val (.int p1), .val (.int p2), .val (.int p3), .val (.ref b1), .val (.ref b6), .val (.ref g_7), .val (.int ((((fM0 w0 w1 w2 w3) + (fM1 w0 w1 w2 w3)) + (fM2 w0 w1 w2 w3)) + (fM3 w0 w1 w2 w3)))] [(.int ((((fM0 w0 w1 w2 w3) + (fM1 w0 w1 w2 w3)) + (fM2 w0 w1 w2 w3)) + (fM3 w0 w1 w2 w3))), (.int (oN w0 w1 w2 w3))]))
    refine Go.st (fun _ kq_ => XS.icmpYes X11.here hx rfl (pc0 := 89) (pc' := 94) rfl (hb hby at_89) rfl (XT.ii_eq_t (own_tot m0 m1 m2 m3)) (by decide) (by decide) kq_) ?_
    show Go p e below s _ _ _ (T11.setTop (mkF m 94 #[.val (.int p0), .val (.int p1), .val (.int p2), .val (.int p3), .val (.ref b1), .val (.ref b6), .val (.ref g_7), .val (.int ((((fM0 w0 w1 w2 w3) + (fM1 w0 w1 w2 w3)) + (fM2 w0 w1 w2 w3)) + (fM3 w0 w1 w2 w3)))] []))
    refine Go.st (fun _ kq_ => XS.aload X11.here hx rfl (hb hby at_94) rfl rfl kq_) ?_
    show Go p e below s _ _ _ (T11.setTop (mkF m 96 #[.val (.int p0), .val (.int p1), .val (.int p2), .val (.int p3), .val (.ref b1), .val (.ref b6), .val (.ref g_7), .val (.int ((((fM0 w0 w1 w2 w3) + (fM1 w0 w1 w2 w3)) + (fM2 w0 w1 w2 w3)) + (fM3 w0 w1 w2 w3)))] [(.ref b6)]))
    refine Go.st (fun _ kq_ => XS.iconst X11.here hx rfl (hb hby at_96) kq_) ?_
    show Go p e below s _ _ _ (T11.setTop (mkF m 97 #[.val (.int p0), .val (.int p1), .val (.int p2), .val (.int p3), .val (.ref b1), .val (.ref b6), .val (.ref g_7), .val (.int ((((fM0 w0 w1 w2 w3) + (fM1 w0 w1 w2 w3)) + (fM2 w0 w1 w2 w3)) + (fM3 w0 w1 w2 w3)))] [(.int (0 : Int32)), (.ref b6)]))
    refine Go.st (fun _ kq_ => own_iaload X11 hx hZ e11 V_b6 (by decide) (by decide) (v := .int (List.getD (oP w0 w1 w2 w3) 0 0)) (own_getI (oP w0 w1 w2 w3) 0 _) (g := (mkF m 97 #[.val (.int p0), .val (.int p1), .val (.int p2), .val (.int p3), .val (.ref b1), .val (.ref b6), .val (.ref g_7), .val (.int ((((fM0 w0 w1 w2 w3) + (fM1 w0 w1 w2 w3)) + (fM2 w0 w1 w2 w3)) + (fM3 w0 w1 w2 w3)))] [(.int (0 : Int32)), (.ref b6)])) rfl rfl (hb hby at_97) _ kq_) ?_
    show Go p e below s _ _ _ (T11.setTop (mkF m 98 #[.val (.int p0), .val (.int p1), .val (.int p2), .val (.int p3), .val (.ref b1), .val (.ref b6), .val (.ref g_7), .val (.int ((((fM0 w0 w1 w2 w3) + (fM1 w0 w1 w2 w3)) + (fM2 w0 w1 w2 w3)) + (fM3 w0 w1 w2 w3)))] [(.int (List.getD (oP w0 w1 w2 w3) 0 0))]))
    refine Go.st (fun _ kq_ => XS.aload X11.here hx rfl (hb hby at_98) rfl rfl kq_) ?_
    show Go p e below s _ _ _ (T11.setTop (mkF m 100 #[.val (.int p0), .val (.int p1), .val (.int p2), .val (.int p3), .val (.ref b1), .val (.ref b6), .val (.ref g_7), .val (.int ((((fM0 w0 w1 w2 w3) + (fM1 w0 w1 w2 w3)) + (fM2 w0 w1 w2 w3)) + (fM3 w0 w1 w2 w3)))] [(.ref b1), (.int (List.getD (oP w0 w1 w2 w3) 0 0))]))
    refine Go.st (fun _ kq_ => XS.iconst X11.here hx rfl (hb hby at_100) kq_) ?_
    show Go p e below s _ _ _ (T11.setTop (mkF m 101 #[.val (.int p0), .val (.int p1), .val (.int p2), .val (.int p3), .val (.ref b1), .val (.ref b6), .val (.ref g_7), .val (.int ((((fM0 w0 w1 w2 w3) + (fM1 w0 w1 w2 w3)) + (fM2 w0 w1 w2 w3)) + (fM3 w0 w1 w2 w3)))] [(.int (0 : Int32)), (.ref b1), (.int (List.getD (oP w0 w1 w2 w3) 0 0))]))
    obtain ⟨_, _, ⟨T12, L12, k12, n12⟩, -, X12, ⟨Lc12, hQ12, l12, y12, z12⟩, st12⟩ := Jvm.LawKit.callS X11 hx (y := (⟨"com/example/rootward/rootward/model/InstanceGroupPinLaw", "below", "([II)I"⟩ : MethodName)) hown (mvT hZ (own_w hw 18 rfl)) (mvT hZ (own_w hw 19 rfl)) (mvT hZ (own_w hw 16 rfl)) (mvT hZ (own_w hw 20 rfl)) (by decide) (backOf (W := 1) (rmb0 l Z a0 hw [] b1 k1 w0 w1 w2 w3 T7.heap n0 O7 V_b1) hZ (own_w hw 20 rfl) (own_w hw 16 rfl) (by decide) (by decide)) (g := (mkF m 101 #[.val (.int p0), .val (.int p1), .val (.int p2), .val (.int p3), .val (.ref b1), .val (.ref b6), .val (.ref g_7), .val (.int ((((fM0 w0 w1 w2 w3) + (fM1 w0 w1 w2 w3)) + (fM2 w0 w1 w2 w3)) + (fM3 w0 w1 w2 w3)))] [(.int (0 : Int32)), (.ref b1), (.int (List.getD (oP w0 w1 w2 w3) 0 0))])) rfl (by rw [hml]; rfl) (argsL := [(.ref b1), (.int (0 : Int32))]) (rest := [(.int (List.getD (oP w0 w1 w2 w3) 0 0))]) (lenOf pd0_1 rfl) rfl (by show 2 * 0 + _ ≤ _; exact Nat.le_of_eq rfl) (hb hby at_101) (fun _ _ => ⟨rfl, e11, (by decide : 4 + 0 ≤ _), (by decide : 16 + 0 ≤ _)⟩)
    dsimp only [Pt.U, Pt.locs, Pt.cells, Pt.slots] at X12 l12 y12 z12 st12 hQ12
    subst l12 y12 z12
    obtain ⟨rfl, Nc12, e12⟩ := hQ12
    have N12 := Fr.app N11 Nc12
    refine Go.st st12 ?_
    show Go p e below s _ _ _ (T12.setTop (mkF m 104 #[.val (.int p0), .val (.int p1), .val (.int p2), .val (.int p3), .val (.ref b1), .val (.ref b6), .val (.ref g_7), .val (.int ((((fM0 w0 w1 w2 w3) + (fM1 w0 w1 w2 w3)) + (fM2 w0 w1 w2 w3)) + (fM3 w0 w1 w2 w3)))] [(.int (fB0 w0 w1 w2 w3)), (.int (List.getD (oP w0 w1 w2 w3) 0 0))]))
    refine Go.st (fun _ kq_ => XS.icmpNo X12.here hx rfl (hb hby at_104) rfl (XT.ii_ne_f (own_bel0 m0 m1 m2 m3)) kq_) ?_
    show Go p e below s _ _ _ (T12.setTop (mkF m 107 #[.val (.int p0), .val (.int p1), .val (.int p2), .val (.int p3), .val (.ref b1), .val (.ref b6), .val (.ref g_7), .val (.int ((((fM0 w0 w1 w2 w3) + (fM1 w0 w1 w2 w3)) + (fM2 w0 w1 w2 w3)) + (fM3 w0 w1 w2 w3)))] []))
    refine Go.st (fun _ kq_ => XS.aload X12.here hx rfl (hb hby at_107) rfl rfl kq_) ?_
    show Go p e below s _ _ _ (T12.setTop (mkF m 109 #[.val (.int p0), .val (.int p1), .val (.int p2), .val (.int p3), .val (.ref b1), .val (.ref b6), .val (.ref g_7), .val (.int ((((fM0 w0 w1 w2 w3) + (fM1 w0 w1 w2 w3)) + (fM2 w0 w1 w2 w3)) + (fM3 w0 w1 w2 w3)))] [(.ref b6)]))
    refine Go.st (fun _ kq_ => XS.iconst X12.here hx rfl (hb hby at_109) kq_) ?_
    show Go p e below s _ _ _ (T12.setTop (mkF m 110 #[.val (.int p0), .val (.int p1), .val (.int p2), .val (.int p3), .val (.ref b1), .val (.ref b6), .val (.ref g_7), .val (.int ((((fM0 w0 w1 w2 w3) + (fM1 w0 w1 w2 w3)) + (fM2 w0 w1 w2 w3)) + (fM3 w0 w1 w2 w3)))] [(.int (1 : Int32)), (.ref b6)]))
    refine Go.st (fun _ kq_ => own_iaload X12 hx hZ e12 V_b6 (by decide) (by decide) (v := .int (List.getD (oP w0 w1 w2 w3) 1 0)) (own_getI (oP w0 w1 w2 w3) 0 _) (g := (mkF m 110 #[.val (.int p0), .val (.int p1), .val (.int p2), .val (.int p3), .val (.ref b1), .val (.ref b6), .val (.ref g_7), .val (.int ((((fM0 w0 w1 w2 w3) + (fM1 w0 w1 w2 w3)) + (fM2 w0 w1 w2 w3)) + (fM3 w0 w1 w2 w3)))] [(.int (1 : Int32)), (.ref b6)])) rfl rfl (hb hby at_110) _ kq_) ?_
    show Go p e below s _ _ _ (T12.setTop (mkF m 111 #[.val (.int p0), .val (.int p1), .val (.int p2), .val (.int p3), .val (.ref b1), .val (.ref b6), .val (.ref g_7), .val (.int ((((fM0 w0 w1 w2 w3) + (fM1 w0 w1 w2 w3)) + (fM2 w0 w1 w2 w3)) + (fM3 w0 w1 w2 w3)))] [(.int (List.getD (oP w0 w1 w2 w3) 1 0))]))
    refine Go.st (fun _ kq_ => XS.aload X12.here hx rfl (hb hby at_111) rfl rfl kq_) ?_
    show Go p e below s _ _ _ (T12.setTop (mkF m 113 #[.val (.int p0), .val (.int p1), .val (.int p2), .val (.int p3), .val (.ref b1), .val (.ref b6), .val (.ref g_7), .val (.int ((((fM0 w0 w1 w2 w3) + (fM1 w0 w1 w2 w3)) + (fM2 w0 w1 w2 w3)) + (fM3 w0 w1 w2 w3)))] [(.ref b1), (.int (List.getD (oP w0 w1 w2 w3) 1 0))]))
    refine Go.st (fun _ kq_ => XS.iconst X12.here hx rfl (hb hby at_113) kq_) ?_
    show Go p e below s _ _ _ (T12.setTop (mkF m 114 #[.val (.int p0), .val (.int p1), .val (.int p2), .val (.int p3), .val (.ref b1), .val (.ref b6), .val (.ref g_7), .val (.int ((((fM0 w0 w1 w2 w3) + (fM1 w0 w1 w2 w3)) + (fM2 w0 w1 w2 w3)) + (fM3 w0 w1 w2 w3)))] [(.int (1 : Int32)), (.ref b1), (.int (List.getD (oP w0 w1 w2 w3) 1 0))]))
    obtain ⟨_, _, ⟨T13, L13, k13, n13⟩, -, X13, ⟨Lc13, hQ13, l13, y13, z13⟩, st13⟩ := Jvm.LawKit.callS X12 hx (y := (⟨"com/example/rootward/rootward/model/InstanceGroupPinLaw", "below", "([II)I"⟩ : MethodName)) hown (mvT hZ (own_w hw 18 rfl)) (mvT hZ (own_w hw 19 rfl)) (mvT hZ (own_w hw 16 rfl)) (mvT hZ (own_w hw 20 rfl)) (by decide) (backOf (W := 1) (rmb1 l Z a0 hw [] b1 k1 w0 w1 w2 w3 T7.heap n0 O7 V_b1) hZ (own_w hw 20 rfl) (own_w hw 16 rfl) (by decide) (by decide)) (g := (mkF m 114 #[.val (.int p0), .val (.int p1), .val (.int p2), .val (.int p3), .val (.ref b1), .val (.ref b6), .val (.ref g_7), .val (.int ((((fM0 w0 w1 w2 w3) + (fM1 w0 w1 w2 w3)) + (fM2 w0 w1 w2 w3)) + (fM3 w0 w1 w2 w3)))] [(.int (1 : Int32)), (.ref b1), (.int (List.getD (oP w0 w1 w2 w3) 1 0))])) rfl (by rw [hml]; rfl) (argsL := [(.ref b1), (.int (1 : Int32))]) (rest := [(.int (List.getD (oP w0 w1 w2 w3) 1 0))]) (lenOf pd0_1 rfl) rfl (by show 2 * 0 + _ ≤ _; exact Nat.le_of_eq rfl) (hb hby at_114) (fun _ _ => ⟨rfl, e12, (by decide : 4 + 0 ≤ _), (by decide : 16 + 0 ≤ _)⟩)
    dsimp only [Pt.U, Pt.locs, Pt.cells, Pt.slots] at X13 l13 y13 z13 st13 hQ13
    subst l13 y13 z13
    obtain ⟨rfl, Nc13, e13⟩ := hQ13
    have N13 := Fr.app N12 Nc13
    refine Go.st st13 ?_
    show Go p e below s _ _ _ (T13.setTop (mkF m 117 #[.val (.int p0), .val (.int p1), .val (.int p2), .val (.int p3), .val (.ref b1), .val (.ref b6), .val (.ref g_7), .val (.int ((((fM0 w0 w1 w2 w3) + (fM1 w0 w1 w2 w3)) + (fM2 w0 w1 w2 w3)) + (fM3 w0 w1 w2 w3)))] [(.int (fB1 w0 w1 w2 w3)), (.int (List.getD (oP w0 w1 w2 w3) 1 0))]))
    refine Go.st (fun _ kq_ => XS.icmpNo X13.here hx rfl (hb hby at_117) rfl (XT.ii_ne_f (own_bel1 m0 m1 m2 m3)) kq_) ?_
    show Go p e below s _ _ _ (T13.setTop (mkF m 120 #[.val (.int p0), .val (.int p1), .val (.int p2), .val (.int p3), .val (.ref b1), .val (.ref b6), .val (.ref g_7), .val (.int ((((fM0 w0 w1 w2 w3) + (fM1 w0 w1 w2 w3)) + (fM2 w0 w1 w2 w3)) + (fM3 w0 w1 w2 w3)))] []))
    refine Go.st (fun _ kq_ => XS.aload X13.here hx rfl (hb hby at_120) rfl rfl kq_) ?_
    show Go p e below s _ _ _ (T13.setTop (mkF m 122 #[.val (.int p0), .val (.int p1), .val (.int p2), .val (.int p3), .val (.ref b1), .val (.ref b6), .val (.ref g_7), .val (.int ((((fM0 w0 w1 w2 w3) + (fM1 w0 w1 w2 w3)) + (fM2 w0 w1 w2 w3)) + (fM3 w0 w1 w2 w3)))] [(.ref b6)]))
    refine Go.st (fun _ kq_ => XS.iconst X13.here hx rfl (hb hby at_122) kq_) ?_
    show Go p e below s _ _ _ (T13.setTop (mkF m 123 #[.val (.int p0), .val (.int p1), .val (.int p2), .val (.int p3), .val (.ref b1), .val (.ref b6), .val (.ref g_7), .val (.int ((((fM0 w0 w1 w2 w3) + (fM1 w0 w1 w2 w3)) + (fM2 w0 w1 w2 w3)) + (fM3 w0 w1 w2 w3)))] [(.int (2 : Int32)), (.ref b6)]))
    refine Go.st (fun _ kq_ => own_iaload X13 hx hZ e13 V_b6 (by decide) (by decide) (v := .int (List.getD (oP w0 w1 w2 w3) 2 0)) (own_getI (oP w0 w1 w2 w3) 0 _) (g := (mkF m 123 #[.val (.int p0), .val (.int p1), .val (.int p2), .val (.int p3), .val (.ref b1), .val (.ref b6), .val (.ref g_7), .val (.int ((((fM0 w0 w1 w2 w3) + (fM1 w0 w1 w2 w3)) + (fM2 w0 w1 w2 w3)) + (fM3 w0 w1 w2 w3)))] [(.int (2 : Int32)), (.ref b6)])) rfl rfl (hb hby at_123) _ kq_) ?_
    show Go p e below s _ _ _ (T13.setTop (mkF m 124 #[.val (.int p0), .val (.int p1), .val (.int p2), .val (.int p3), .val (.ref b1), .val (.ref b6), .val (.ref g_7), .val (.int ((((fM0 w0 w1 w2 w3) + (fM1 w0 w1 w2 w3)) + (fM2 w0 w1 w2 w3)) + (fM3 w0 w1 w2 w3)))] [(.int (List.getD (oP w0 w1 w2 w3) 2 0))]))
    refine Go.st (fun _ kq_ => XS.aload X13.here hx rfl (hb hby at_124) rfl rfl kq_) ?_
    show Go p e below s _ _ _ (T13.setTop (mkF m 126 #[.val (.int p0), .val (.int p1), .val (.int p2), .val (.int p3), .val (.ref b1), .val (.ref b6), .val (.ref g_7), .val (.int ((((fM0 w0 w1 w2 w3) + (fM1 w0 w1 w2 w3)) + (fM2 w0 w1 w2 w3)) + (fM3 w0 w1 w2 w3)))] [(.ref b1), (.int (List.getD (oP w0 w1 w2 w3) 2 0))]))
    refine Go.st (fun _ kq_ => XS.iconst X13.here hx rfl (hb hby at_126) kq_) ?_
    show Go p e below s _ _ _ (T13.setTop (mkF m 127 #[.val (.int p0), .val (.int p1), .val (.int p2), .val (.int p3), .val (.ref b1), .val (.ref b6), .val (.ref g_7), .val (.int ((((fM0 w0 w1 w2 w3) + (fM1 w0 w1 w2 w3)) + (fM2 w0 w1 w2 w3)) + (fM3 w0 w1 w2 w3)))] [(.int (2 : Int32)), (.ref b1), (.int (List.getD (oP w0 w1 w2 w3) 2 0))]))
    obtain ⟨_, _, ⟨T14, L14, k14, n14⟩, -, X14, ⟨Lc14, hQ14, l14, y14, z14⟩, st14⟩ := Jvm.LawKit.callS X13 hx (y := (⟨"com/example/rootward/rootward/model/InstanceGroupPinLaw", "below", "([II)I"⟩ : MethodName)) hown (mvT hZ (own_w hw 18 rfl)) (mvT hZ (own_w hw 19 rfl)) (mvT hZ (own_w hw 16 rfl)) (mvT hZ (own_w hw 20 rfl)) (by decide) (backOf (W := 1) (rmb2 l Z a0 hw [] b1 k1 w0 w1 w2 w3 T7.heap n0 O7 V_b1) hZ (own_w hw 20 rfl) (own_w hw 16 rfl) (by decide) (by decide)) (g := (mkF m 127 #[.val (.int p0), .val (.int p1), .val (.int p2), .val (.int p3), .val (.ref b1), .val (.ref b6), .val (.ref g_7), .val (.int ((((fM0 w0 w1 w2 w3) + (fM1 w0 w1 w2 w3)) + (fM2 w0 w1 w2 w3)) + (fM3 w0 w1 w2 w3)))] [(.int (2 : Int32)), (.ref b1), (.int (List.getD (oP w0 w1 w2 w3) 2 0))])) rfl (by rw [hml]; rfl) (argsL := [(.ref b1), (.int (2 : Int32))]) (rest := [(.int (List.getD (oP w0 w1 w2 w3) 2 0))]) (lenOf pd0_1 rfl) rfl (by show 2 * 0 + _ ≤ _; exact Nat.le_of_eq rfl) (hb hby at_127) (fun _ _ => ⟨rfl, e13, (by decide : 4 + 0 ≤ _), (by decide : 16 + 0 ≤ _)⟩)
    dsimp only [Pt.U, Pt.locs, Pt.cells, Pt.slots] at X14 l14 y14 z14 st14 hQ14
    subst l14 y14 z14
    obtain ⟨rfl, Nc14, e14⟩ := hQ14
    have N14 := Fr.app N13 Nc14
    refine Go.st st14 ?_
    show Go p e below s _ _ _ (T14.setTop (mkF m 130 #[.val (.int p0), .val (.int p1), .val (.int p2), .val (.int p3), .val (.ref b1), .val (.ref b6), .val (.ref g_7), .val (.int ((((fM0 w0 w1 w2 w3) + (fM1 w0 w1 w2 w3)) + (fM2 w0 w1 w2 w3)) + (fM3 w0 w1 w2 w3)))] [(.int (fB2 w0 w1 w2 w3)), (.int (List.getD (oP w0 w1 w2 w3) 2 0))]))
    refine Go.st (fun _ kq_ => XS.icmpNo X14.here hx rfl (hb hby at_130) rfl (XT.ii_ne_f (own_bel2 m0 m1 m2 m3)) kq_) ?_
    show Go p e below s _ _ _ (T14.setTop (mkF m 133 #[.val (.int p0), .val (.int p1), .val (.int p2), .val (.int p3), .val (.ref b1), .val (.ref b6), .val (.ref g_7), .val (.int ((((fM0 w0 w1 w2 w3) + (fM1 w0 w1 w2 w3)) + (fM2 w0 w1 w2 w3)) + (fM3 w0 w1 w2 w3)))] []))
    refine Go.st (fun _ kq_ => XS.aload X14.here hx rfl (hb hby at_133) rfl rfl kq_) ?_
    show Go p e below s _ _ _ (T14.setTop (mkF m 135 #[.val (.int p0), .val (.int p1), .val (.int p2), .val (.int p3), .val (.ref b1), .val (.ref b6), .val (.ref g_7), .val (.int ((((fM0 w0 w1 w2 w3) + (fM1 w0 w1 w2 w3)) + (fM2 w0 w1 w2 w3)) + (fM3 w0 w1 w2 w3)))] [(.ref b6)]))
    refine Go.st (fun _ kq_ => XS.iconst X14.here hx rfl (hb hby at_135) kq_) ?_
    show Go p e below s _ _ _ (T14.setTop (mkF m 136 #[.val (.int p0), .val (.int p1), .val (.int p2), .val (.int p3), .val (.ref b1), .val (.ref b6), .val (.ref g_7), .val (.int ((((fM0 w0 w1 w2 w3) + (fM1 w0 w1 w2 w3)) + (fM2 w0 w1 w2 w3)) + (fM3 w0 w1 w2 w3)))] [(.int (3 : Int32)), (.ref b6)]))
    refine Go.st (fun _ kq_ => own_iaload X14 hx hZ e14 V_b6 (by decide) (by decide) (v := .int (List.getD (oP w0 w1 w2 w3) 3 0)) (own_getI (oP w0 w1 w2 w3) 0 _) (g := (mkF m 136 #[.val (.int p0), .val (.int p1), .val (.int p2), .val (.int p3), .val (.ref b1), .val (.ref b6), .val (.ref g_7), .val (.int ((((fM0 w0 w1 w2 w3) + (fM1 w0 w1 w2 w3)) + (fM2 w0 w1 w2 w3)) + (fM3 w0 w1 w2 w3)))] [(.int (3 : Int32)), (.ref b6)])) rfl rfl (hb hby at_136) _ kq_) ?_
    show Go p e below s _ _ _ (T14.setTop (mkF m 137 #[.val (.int p0), .val (.int p1), .val (.int p2), .val (.int p3), .val (.ref b1), .val (.ref b6), .val (.ref g_7), .val (.int ((((fM0 w0 w1 w2 w3) + (fM1 w0 w1 w2 w3)) + (fM2 w0 w1 w2 w3)) + (fM3 w0 w1 w2 w3)))] [(.int (List.getD (oP w0 w1 w2 w3) 3 0))]))
    refine Go.st (fun _ kq_ => XS.aload X14.here hx rfl (hb hby at_137) rfl rfl kq_) ?_
    show Go p e below s _ _ _ (T14.setTop (mkF m 139 #[.val (.int p0), .val (.int p1), .val (.int p2), .val (.int p3), .val (.ref b1), .val (.ref b6), .val (.ref g_7), .val (.int ((((fM0 w0 w1 w2 w3) + (fM1 w0 w1 w2 w3)) + (fM2 w0 w1 w2 w3)) + (fM3 w0 w1 w2 w3)))] [(.ref b1), (.int (List.getD (oP w0 w1 w2 w3) 3 0))]))
    refine Go.st (fun _ kq_ => XS.iconst X14.here hx rfl (hb hby at_139) kq_) ?_
    show Go p e below s _ _ _ (T14.setTop (mkF m 140 #[.val (.int p0), .val (.int p1), .val (.int p2), .val (.int p3), .val (.ref b1), .val (.ref b6), .val (.ref g_7), .val (.int ((((fM0 w0 w1 w2 w3) + (fM1 w0 w1 w2 w3)) + (fM2 w0 w1 w2 w3)) + (fM3 w0 w1 w2 w3)))] [(.int (3 : Int32)), (.ref b1), (.int (List.getD (oP w0 w1 w2 w3) 3 0))]))
    obtain ⟨_, _, ⟨T15, L15, k15, n15⟩, -, X15, ⟨Lc15, hQ15, l15, y15, z15⟩, st15⟩ := Jvm.LawKit.callS X14 hx (y := (⟨"com/example/rootward/rootward/model/InstanceGroupPinLaw", "below", "([II)I"⟩ : MethodName)) hown (mvT hZ (own_w hw 18 rfl)) (mvT hZ (own_w hw 19 rfl)) (mvT hZ (own_w hw 16 rfl)) (mvT hZ (own_w hw 20 rfl)) (by decide) (backOf (W := 1) (rmb3 l Z a0 hw [] b1 k1 w0 w1 w2 w3 T7.heap n0 O7 V_b1) hZ (own_w hw 20 rfl) (own_w hw 16 rfl) (by decide) (by decide)) (g := (mkF m 140 #[.val (.int p0), .val (.int p1), .val (.int p2), .val (.int p3), .val (.ref b1), .val (.ref b6), .val (.ref g_7), .val (.int ((((fM0 w0 w1 w2 w3) + (fM1 w0 w1 w2 w3)) + (fM2 w0 w1 w2 w3)) + (fM3 w0 w1 w2 w3)))] [(.int (3 : Int32)), (.ref b1), (.int (List.getD (oP w0 w1 w2 w3) 3 0))])) rfl (by rw [hml]; rfl) (argsL := [(.ref b1), (.int (3 : Int32))]) (rest := [(.int (List.getD (oP w0 w1 w2 w3) 3 0))]) (lenOf pd0_1 rfl) rfl (by show 2 * 0 + _ ≤ _; exact Nat.le_of_eq rfl) (hb hby at_140) (fun _ _ => ⟨rfl, e14, (by decide : 4 + 0 ≤ _), (by decide : 16 + 0 ≤ _)⟩)
    dsimp only [Pt.U, Pt.locs, Pt.cells, Pt.slots] at X15 l15 y15 z15 st15 hQ15
    subst l15 y15 z15
    obtain ⟨rfl, Nc15, e15⟩ := hQ15
    have N15 := Fr.app N14 Nc15
    refine Go.st st15 ?_
    show Go p e below s _ _ _ (T15.setTop (mkF m 143 #[.val (.int p0), .val (.int p1), .val (.int p2), .val (.int p3), .val (.ref b1), .val (.ref b6), .val (.ref g_7), .val (.int ((((fM0 w0 w1 w2 w3) + (fM1 w0 w1 w2 w3)) + (fM2 w0 w1 w2 w3)) + (fM3 w0 w1 w2 w3)))] [(.int (fB3 w0 w1 w2 w3)), (.int (List.getD (oP w0 w1 w2 w3) 3 0))]))
    refine Go.st (fun _ kq_ => XS.icmpYes X15.here hx rfl (pc0 := 143) (pc' := 148) rfl (hb hby at_143) rfl (XT.ii_eq_t (own_bel3 m0 m1 m2 m3)) (by decide) (by decide) kq_) ?_
    show Go p e below s _ _ _ (T15.setTop (mkF m 148 #[.val (.int p0), .val (.int p1), .val (.int p2), .val (.int p3), .val (.ref b1), .val (.ref b6), .val (.ref g_7), .val (.int ((((fM0 w0 w1 w2 w3) + (fM1 w0 w1 w2 w3)) + (fM2 w0 w1 w2 w3)) + (fM3 w0 w1 w2 w3)))] []))
    refine Go.st (fun _ kq_ => XS.aload X15.here hx rfl (hb hby at_148) rfl rfl kq_) ?_
    show Go p e below s _ _ _ (T15.setTop (mkF m 150 #[.val (.int p0), .val (.int p1), .val (.int p2), .val (.int p3), .val (.ref b1), .val (.ref b6), .val (.ref g_7), .val (.int ((((fM0 w0 w1 w2 w3) + (fM1 w0 w1 w2 w3)) + (fM2 w0 w1 w2 w3)) + (fM3 w0 w1 w2 w3)))] [(.ref b1)]))
    refine Go.st (fun _ kq_ => XS.aload X15.here hx rfl (hb hby at_150) rfl rfl kq_) ?_
    show Go p e below s _ _ _ (T15.setTop (mkF m 152 #[.val (.int p0), .val (.int p1), .val (.int p2), .val (.int p3), .val (.ref b1), .val (.ref b6), .val (.ref g_7), .val (.int ((((fM0 w0 w1 w2 w3) + (fM1 w0 w1 w2 w3)) + (fM2 w0 w1 w2 w3)) + (fM3 w0 w1 w2 w3)))] [(.ref g_7), (.ref b1)]))
    refine Go.st (fun _ kq_ => XS.iconst X15.here hx rfl (hb hby at_152) kq_) ?_
    show Go p e below s _ _ _ (T15.setTop (mkF m 153 #[.val (.int p0), .val (.int p1), .val (.int p2), .val (.int p3), .val (.ref b1), .val (.ref b6), .val (.ref g_7), .val (.int ((((fM0 w0 w1 w2 w3) + (fM1 w0 w1 w2 w3)) + (fM2 w0 w1 w2 w3)) + (fM3 w0 w1 w2 w3)))] [(.int (0 : Int32)), (.ref g_7), (.ref b1)]))
    obtain ⟨_, _, ⟨T16, L16, k16, n16⟩, -, X16, ⟨Lc16, hQ16, l16, y16, z16⟩, st16⟩ := Jvm.LawKit.callS X15 hx (y := (⟨"com/example/rootward/rootward/model/InstanceGroupPinLaw", "placed", "([I[II)Z"⟩ : MethodName)) hown (mvT hZ (own_w hw 24 rfl)) (mvT hZ (own_w hw 25 rfl)) (mvT hZ (own_w hw 16 rfl)) (mvT hZ (own_w hw 26 rfl)) (by decide) (backOf (W := 0) (rmp0 l Z a0 hw [] b1 k1 w0 w1 w2 w3 g_7 kg7 (oN w0 w1 w2 w3) (oG4 w0 w1 w2 w3) T7.heap n0 O7 V_b1 V_g_7) hZ (own_w hw 26 rfl) (own_w hw 16 rfl) (by decide) (by decide)) (g := (mkF m 153 #[.val (.int p0), .val (.int p1), .val (.int p2), .val (.int p3), .val (.ref b1), .val (.ref b6), .val (.ref g_7), .val (.int ((((fM0 w0 w1 w2 w3) + (fM1 w0 w1 w2 w3)) + (fM2 w0 w1 w2 w3)) + (fM3 w0 w1 w2 w3)))] [(.int (0 : Int32)), (.ref g_7), (.ref b1)])) rfl (by rw [hml]; rfl) (argsL := [(.ref b1), (.ref g_7), (.int (0 : Int32))]) (rest := []) (lenOf pd0_2 rfl) rfl (by show 2 * 0 + _ ≤ _; exact Nat.le_of_eq rfl) (hb hby at_153) (fun _ _ => ⟨rfl, e15, (by decide : 4 + 0 ≤ _), (by decide : 16 + 0 ≤ _)⟩)
    dsimp only [Pt.U, Pt.locs, Pt.cells, Pt.slots] at X16 l16 y16 z16 st16 hQ16
    subst l16 y16 z16
    obtain ⟨rfl, Nc16, e16⟩ := hQ16
    have N16 := Fr.app N15 Nc16
    refine Go.st st16 ?_
    show Go p e below s _ _ _ (T16.setTop (mkF m 156 #[.val (.int p0), .val (.int p1), .val (.int p2), .val (.int p3), .val (.ref b1), .val (.ref b6), .val (.ref g_7), .val (.int ((((fM0 w0 w1 w2 w3) + (fM1 w0 w1 w2 w3)) + (fM2 w0 w1 w2 w3)) + (fM3 w0 w1 w2 w3)))] [(.int (fP0 w0 w1 w2 w3 (oN w0 w1 w2 w3) (oG4 w0 w1 w2 w3)))]))
    refine Go.st (fun _ kq_ => XS.ifNo X16.here hx rfl (hb hby at_156) rfl (XT.i0_eq_f (own_pl0 m0 m1 m2 m3)) kq_) ?_
    show Go p e below s _ _ _ (T16.setTop (mkF m 159 #[.val (.int p0), .val (.int p1), .val (.int p2), .val (.int p3), .val (.ref b1), .val (.ref b6), .val (.ref g_7), .val (.int ((((fM0 w0 w1 w2 w3) + (fM1 w0 w1 w2 w3)) + (fM2 w0 w1 w2 w3)) + (fM3 w0 w1 w2 w3)))] []))
    refine Go.st (fun _ kq_ => XS.aload X16.here hx rfl (hb hby at_159) rfl rfl kq_) ?_
    show Go p e below s _ _ _ (T16.setTop (mkF m 161 #[.val (.int p0), .val (.int p1), .val (.int p2), .val (.int p3), .val (.ref b1), .val (.ref b6), .val (.ref g_7), .val (.int ((((fM0 w0 w1 w2 w3) + (fM1 w0 w1 w2 w3)) + (fM2 w0 w1 w2 w3)) + (fM3 w0 w1 w2 w3)))] [(.ref b1)]))
    refine Go.st (fun _ kq_ => XS.aload X16.here hx rfl (hb hby at_161) rfl rfl kq_) ?_
    show Go p e below s _ _ _ (T16.setTop (mkF m 163 #[.val (.int p0), .val (.int p1), .val (.int p2), .val (.int p3), .val (.ref b1), .val (.ref b6), .val (.ref g_7), .val (.int ((((fM0 w0 w1 w2 w3) + (fM1 w0 w1 w2 w3)) + (fM2 w0 w1 w2 w3)) + (fM3 w0 w1 w2 w3)))] [(.ref g_7), (.ref b1)]))
    refine Go.st (fun _ kq_ => XS.iconst X16.here hx rfl (hb hby at_163) kq_) ?_
    show Go p e below s _ _ _ (T16.setTop (mkF m 164 #[.val (.int p0), .val (.int p1), .val (.int p2), .val (.int p3), .val (.ref b1), .val (.ref b6), .val (.ref g_7), .val (.int ((((fM0 w0 w1 w2 w3) + (fM1 w0 w1 w2 w3)) + (fM2 w0 w1 w2 w3)) + (fM3 w0 w1 w2 w3)))] [(.int (1 : Int32)), (.ref g_7), (.ref b1)]))
    obtain ⟨_, _, ⟨T17, L17, k17, n17⟩, -, X17, ⟨Lc17, hQ17, l17, y17, z17⟩, st17⟩ := Jvm.LawKit.callS X16 hx (y := (⟨"com/example/rootward/rootward/model/InstanceGroupPinLaw", "placed", "([I[II)Z"⟩ : MethodName)) hown (mvT hZ (own_w hw 24 rfl)) (mvT hZ (own_w hw 25 rfl)) (mvT hZ (own_w hw 16 rfl)) (mvT hZ (own_w hw 26 rfl)) (by decide) (backOf (W := 0) (rmp1 l Z a0 hw [] b1 k1 w0 w1 w2 w3 g_7 kg7 (oN w0 w1 w2 w3) (oG4 w0 w1 w2 w3) T7.heap n0 O7 V_b1 V_g_7) hZ (own_w hw 26 rfl) (own_w hw 16 rfl) (by decide) (by decide)) (g := (mkF m 164 #[.val (.int p0), .val (.int p1), .val (.int p2), .val (.int p3), .val (.ref b1), .val (.ref b6), .val (.ref g_7), .val (.int ((((fM0 w0 w1 w2 w3) + (fM1 w0 w1 w2 w3)) + (fM2 w0 w1 w2 w3)) + (fM3 w0 w1 w2 w3)))] [(.int (1 : Int32)), (.ref g_7), (.ref b1)])) rfl (by rw [hml]; rfl) (argsL := [(.ref b1), (.ref g_7), (.int (1 : Int32))]) (rest := []) (lenOf pd0_2 rfl) rfl (by show 2 * 0 + _ ≤ _; exact Nat.le_of_eq rfl) (hb hby at_164) (fun _ _ => ⟨rfl, e16, (by decide : 4 + 0 ≤ _), (by decide : 16 + 0 ≤ _)⟩)
    dsimp only [Pt.U, Pt.locs, Pt.cells, Pt.slots] at X17 l17 y17 z17 st17 hQ17
    subst l17 y17 z17
    obtain ⟨rfl, Nc17, e17⟩ := hQ17
    have N17 := Fr.app N16 Nc17
    refine Go.st st17 ?_
    show Go p e below s _ _ _ (T17.setTop (mkF m 167 #[.val (.int p0), .val (.int p1), .val (.int p2), .val (.int p3), .val (.ref b1), .val (.ref b6), .val (.ref g_7), .val (.int ((((fM0 w0 w1 w2 w3) + (fM1 w0 w1 w2 w3)) + (fM2 w0 w1 w2 w3)) + (fM3 w0 w1 w2 w3)))] [(.int (fP1 w0 w1 w2 w3 (oN w0 w1 w2 w3) (oG4 w0 w1 w2 w3)))]))
    refine Go.st (fun _ kq_ => XS.ifNo X17.here hx rfl (hb hby at_167) rfl (XT.i0_eq_f (own_pl1 m0 m1 m2 m3)) kq_) ?_
    show Go p e below s _ _ _ (T17.setTop (mkF m 170 #[.val (.int p0), .val (.int p1), .val (.int p2), .val (.int p3), .val (.ref b1), .val (.ref b6), .val (.ref g_7), .val (.int ((((fM0 w0 w1 w2 w3) + (fM1 w0 w1 w2 w3)) + (fM2 w0 w1 w2 w3)) + (fM3 w0 w1 w2 w3)))] []))
    refine Go.st (fun _ kq_ => XS.aload X17.here hx rfl (hb hby at_170) rfl rfl kq_) ?_
    show Go p e below s _ _ _ (T17.setTop (mkF m 172 #[.val (.int p0), .val (.int p1), .val (.int p2), .val (.int p3), .val (.ref b1), .val (.ref b6), .val (.ref g_7), .val (.int ((((fM0 w0 w1 w2 w3) + (fM1 w0 w1 w2 w3)) + (fM2 w0 w1 w2 w3)) + (fM3 w0 w1 w2 w3)))] [(.ref b1)]))
    refine Go.st (fun _ kq_ => XS.aload X17.here hx rfl (hb hby at_172) rfl rfl kq_) ?_
    show Go p e below s _ _ _ (T17.setTop (mkF m 174 #[.val (.int p0), .val (.int p1), .val (.int p2), .val (.int p3), .val (.ref b1), .val (.ref b6), .val (.ref g_7), .val (.int ((((fM0 w0 w1 w2 w3) + (fM1 w0 w1 w2 w3)) + (fM2 w0 w1 w2 w3)) + (fM3 w0 w1 w2 w3)))] [(.ref g_7), (.ref b1)]))
    refine Go.st (fun _ kq_ => XS.iconst X17.here hx rfl (hb hby at_174) kq_) ?_
    show Go p e below s _ _ _ (T17.setTop (mkF m 175 #[.val (.int p0), .val (.int p1), .val (.int p2), .val (.int p3), .val (.ref b1), .val (.ref b6), .val (.ref g_7), .val (.int ((((fM0 w0 w1 w2 w3) + (fM1 w0 w1 w2 w3)) + (fM2 w0 w1 w2 w3)) + (fM3 w0 w1 w2 w3)))] [(.int (2 : Int32)), (.ref g_7), (.ref b1)]))
    obtain ⟨_, _, ⟨T18, L18, k18, n18⟩, -, X18, ⟨Lc18, hQ18, l18, y18, z18⟩, st18⟩ := Jvm.LawKit.callS X17 hx (y := (⟨"com/example/rootward/rootward/model/InstanceGroupPinLaw", "placed", "([I[II)Z"⟩ : MethodName)) hown (mvT hZ (own_w hw 24 rfl)) (mvT hZ (own_w hw 25 rfl)) (mvT hZ (own_w hw 16 rfl)) (mvT hZ (own_w hw 26 rfl)) (by decide) (backOf (W := 0) (rmp2 l Z a0 hw [] b1 k1 w0 w1 w2 w3 g_7 kg7 (oN w0 w1 w2 w3) (oG4 w0 w1 w2 w3) T7.heap n0 O7 V_b1 V_g_7) hZ (own_w hw 26 rfl) (own_w hw 16 rfl) (by decide) (by decide)) (g := (mkF m 175 #[.val (.int p0), .val (.int p1), .val (.int p2), .val (.int p3), .val (.ref b1), .val (.ref b6), .val (.ref g_7), .val (.int ((((fM0 w0 w1 w2 w3) + (fM1 w0 w1 w2 w3)) + (fM2 w0 w1 w2 w3)) + (fM3 w0 w1 w2 w3)))] [(.int (2 : Int32)), (.ref g_7), (.ref b1)])) rfl (by rw [hml]; rfl) (argsL := [(.ref b1), (.ref g_7), (.int (2 : Int32))]) (rest := []) (lenOf pd0_2 rfl) rfl (by show 2 * 0 + _ ≤ _; exact Nat.le_of_eq rfl) (hb hby at_175) (fun _ _ => ⟨rfl, e17, (by decide : 4 + 0 ≤ _), (by decide : 16 + 0 ≤ _)⟩)
    dsimp only [Pt.U, Pt.locs, Pt.cells, Pt.slots] at X18 l18 y18 z18 st18 hQ18
    subst l18 y18 z18
    obtain ⟨rfl, Nc18, e18⟩ := hQ18
    have N18 := Fr.app N17 Nc18
    refine Go.st st18 ?_
    show Go p e below s _ _ _ (T18.setTop (mkF m 178 #[.val (.int p0), .val (.int p1), .val (.int p2), .val (.int p3), .val (.ref b1), .val (.ref b6), .val (.ref g_7), .val (.int ((((fM0 w0 w1 w2 w3) + (fM1 w0 w1 w2 w3)) + (fM2 w0 w1 w2 w3)) + (fM3 w0 w1 w2 w3)))] [(.int (fP2 w0 w1 w2 w3 (oN w0 w1 w2 w3) (oG4 w0 w1 w2 w3)))]))
    refine Go.st (fun _ kq_ => XS.ifNo X18.here hx rfl (hb hby at_178) rfl (XT.i0_eq_f (own_pl2 m0 m1 m2 m3)) kq_) ?_
    show Go p e below s _ _ _ (T18.setTop (mkF m 181 #[.val (.int p0), .val (.int p1), .val (.int p2), .val (.int p3), .val (.ref b1), .val (.ref b6), .val (.ref g_7), .val (.int ((((fM0 w0 w1 w2 w3) + (fM1 w0 w1 w2 w3)) + (fM2 w0 w1 w2 w3)) + (fM3 w0 w1 w2 w3)))] []))
    refine Go.st (fun _ kq_ => XS.aload X18.here hx rfl (hb hby at_181) rfl rfl kq_) ?_
    show Go p e below s _ _ _ (T18.setTop (mkF m 183 #[.val (.int p0), .val (.int p1), .val (.int p2), .val (.int p3), .val (.ref b1), .val (.ref b6), .val (.ref g_7), .val (.int ((((fM0 w0 w1 w2 w3) + (fM1 w0 w1 w2 w3)) + (fM2 w0 w1 w2 w3)) + (fM3 w0 w1 w2 w3)))] [(.ref b1)]))
    refine Go.st (fun _ kq_ => XS.aload X18.here hx rfl (hb hby at_183) rfl rfl kq_) ?_
    show Go p e below s _ _ _ (T18.setTop (mkF m 185 #[.val (.int p0), .val (.int p1), .val (.int p2), .val (.int p3), .val (.ref b1), .val (.ref b6), .val (.ref g_7), .val (.int ((((fM0 w0 w1 w2 w3) + (fM1 w0 w1 w2 w3)) + (fM2 w0 w1 w2 w3)) + (fM3 w0 w1 w2 w3)))] [(.ref g_7), (.ref b1)]))
    refine Go.st (fun _ kq_ => XS.iconst X18.here hx rfl (hb hby at_185) kq_) ?_
    show Go p e below s _ _ _ (T18.setTop (mkF m 186 #[.val (.int p0), .val (.int p1), .val (.int p2), .val (.int p3), .val (.ref b1), .val (.ref b6), .val (.ref g_7), .val (.int ((((fM0 w0 w1 w2 w3) + (fM1 w0 w1 w2 w3)) + (fM2 w0 w1 w2 w3)) + (fM3 w0 w1 w2 w3)))] [(.int (3 : Int32)), (.ref g_7), (.ref b1)]))
    obtain ⟨_, _, ⟨T19, L19, k19, n19⟩, -, X19, ⟨Lc19, hQ19, l19, y19, z19⟩, st19⟩ := Jvm.LawKit.callS X18 hx (y := (⟨"com/example/rootward/rootward/model/InstanceGroupPinLaw", "placed", "([I[II)Z"⟩ : MethodName)) hown (mvT hZ (own_w hw 24 rfl)) (mvT hZ (own_w hw 25 rfl)) (mvT hZ (own_w hw 16 rfl)) (mvT hZ (own_w hw 26 rfl)) (by decide) (backOf (W := 0) (rmp3 l Z a0 hw [] b1 k1 w0 w1 w2 w3 g_7 kg7 (oN w0 w1 w2 w3) (oG4 w0 w1 w2 w3) T7.heap n0 O7 V_b1 V_g_7) hZ (own_w hw 26 rfl) (own_w hw 16 rfl) (by decide) (by decide)) (g := (mkF m 186 #[.val (.int p0), .val (.int p1), .val (.int p2), .val (.int p3), .val (.ref b1), .val (.ref b6), .val (.ref g_7), .val (.int ((((fM0 w0 w1 w2 w3) + (fM1 w0 w1 w2 w3)) + (fM2 w0 w1 w2 w3)) + (fM3 w0 w1 w2 w3)))] [(.int (3 : Int32)), (.ref g_7), (.ref b1)])) rfl (by rw [hml]; rfl) (argsL := [(.ref b1), (.ref g_7), (.int (3 : Int32))]) (rest := []) (lenOf pd0_2 rfl) rfl (by show 2 * 0 + _ ≤ _; exact Nat.le_of_eq rfl) (hb hby at_186) (fun _ _ => ⟨rfl, e18, (by decide : 4 + 0 ≤ _), (by decide : 16 + 0 ≤ _)⟩)
    dsimp only [Pt.U, Pt.locs, Pt.cells, Pt.slots] at X19 l19 y19 z19 st19 hQ19
    subst l19 y19 z19
    obtain ⟨rfl, Nc19, e19⟩ := hQ19
    have N19 := Fr.app N18 Nc19
    refine Go.st st19 ?_
    show Go p e below s _ _ _ (T19.setTop (mkF m 189 #[.val (.int p0), .val (.int p1), .val (.int p2), .val (.int p3), .val (.ref b1), .val (.ref b6), .val (.ref g_7), .val (.int ((((fM0 w0 w1 w2 w3) + (fM1 w0 w1 w2 w3)) + (fM2 w0 w1 w2 w3)) + (fM3 w0 w1 w2 w3)))] [(.int (fP3 w0 w1 w2 w3 (oN w0 w1 w2 w3) (oG4 w0 w1 w2 w3)))]))
    refine Go.st (fun _ kq_ => XS.ifNo X19.here hx rfl (hb hby at_189) rfl (XT.i0_eq_f (own_pl3 m0 m1 m2 m3)) kq_) ?_
    show Go p e below s _ _ _ (T19.setTop (mkF m 192 #[.val (.int p0), .val (.int p1), .val (.int p2), .val (.int p3), .val (.ref b1), .val (.ref b6), .val (.ref g_7), .val (.int ((((fM0 w0 w1 w2 w3) + (fM1 w0 w1 w2 w3)) + (fM2 w0 w1 w2 w3)) + (fM3 w0 w1 w2 w3)))] []))
    refine Go.st (fun _ kq_ => XS.iconst X19.here hx rfl (hb hby at_192) kq_) ?_
    show Go p e below s _ _ _ (T19.setTop (mkF m 193 #[.val (.int p0), .val (.int p1), .val (.int p2), .val (.int p3), .val (.ref b1), .val (.ref b6), .val (.ref g_7), .val (.int ((((fM0 w0 w1 w2 w3) + (fM1 w0 w1 w2 w3)) + (fM2 w0 w1 w2 w3)) + (fM3 w0 w1 w2 w3)))] [(.int (1 : Int32))]))
    refine Go.st (fun _ kq_ => XS.goto X19.here hx rfl (pc0 := 193) (pc' := 197) rfl (hb hby at_193) (by decide) (by decide) kq_) ?_
    show Go p e below s _ _ _ (T19.setTop (mkF m 197 #[.val (.int p0), .val (.int p1), .val (.int p2), .val (.int p3), .val (.ref b1), .val (.ref b6), .val (.ref g_7), .val (.int ((((fM0 w0 w1 w2 w3) + (fM1 w0 w1 w2 w3)) + (fM2 w0 w1 w2 w3)) + (fM3 w0 w1 w2 w3)))] [(.int (1 : Int32))]))
    exact Go.ret X19 hlk (some (.int (nar .boolean (1 : Int32)))) (fun h => by rw [Bd.returns] at h; cases h) (by rw [e19]; exact ⟨rfl, N19⟩) (by decide) (by decide) (fun fs hr => retN X19 hx (t := .boolean) Bd.returns (by simp) (hb hby at_197) hr)
  obtain ⟨s2, o2, st2, r2⟩ := G
  exact ⟨s2, o2, castTop (ef0 m p0 p1 p2 p3) st2, r2⟩
set_option maxRecDepth 65536 in
set_option maxHeartbeats 40000000 in
theorem comes_1 {Post : Tables → Env → Array Value → State → Outcome → State → Prop} (hpost : ∀ tb e args s v u, (limb_1_1.after args s (.returned v) u = true ∧ limb_1_2.after args s (.returned v) u = true ∧ True) → FrameEnd s (.returned v) u (Jvm.fieldLocs frame_1_writes args s ++ Jvm.arrayLocs frame_1_arrays args s ++ Jvm.staticLocs frame_1_statics s) 16 128 → Post tb e args s (.returned v) u) :
    ArmFor flags0 classFile x code maxLocals ret World_1 tables_1 room_1 Calls_1 rest_1 Pre_1 Post := by
  intro l hfl _ _ p e ha hc hk s m args below hf hA hF happ hP
  obtain ⟨hcalls, hrest, hpre⟩ := hP
  obtain ⟨-, -, -, hnamed, -, -, -, hat⟩ := (Spec.applies_iff hf).mp happ
  obtain ⟨hg, hn⟩ := and_e (Cond.before_iff.mp (show (Jvm.Cond.and given_1 narrow_1).before args s = true from hpre))
  obtain ⟨h1, r1⟩ := and_e hg
  obtain ⟨a0, r2⟩ := and_e r1
  obtain ⟨a1, r3⟩ := and_e r2
  obtain ⟨a2, r4⟩ := and_e r3
  obtain ⟨w0, w1, w2, w3, rfl⟩ : ∃ w0 w1 w2 w3 : Value, args = #[w0, w1, w2, w3] := by
    have hs : args.size = 4 := by simpa [Cond.value, given_1] using h1
    obtain ⟨L⟩ := args
    match L, hs with
    | [w0, w1, w2, w3], _ => exact ⟨w0, w1, w2, w3, rfl⟩
  have hw := fun d (hd : d ∈ tables_1) => atoms_spec (ws := Jvm.Cond.code x code maxLocals ret :: tables_1) hat d (List.mem_cons_of_mem _ hd)
  have hfit : Fit s := fun {y c} hc i hi => by
    obtain ⟨ha, rfl⟩ := Array.getElem?_eq_some_iff.mp hc
    have q := List.all_eq_true.mp ((Array.all_eq_true_iff_forall_mem.mp hF) _ (Array.getElem_mem ha)) i (List.mem_range.mpr hi)
    simpa [Array.getElem?_eq_getElem hi] using q
  obtain ⟨i0, ei0⟩ := is_v a0
  obtain rfl : w0 = (.int i0) := Option.some.inj ei0
  obtain ⟨i1, ei1⟩ := is_v a1
  obtain rfl : w1 = (.int i1) := Option.some.inj ei1
  obtain ⟨i2, ei2⟩ := is_v a2
  obtain rfl : w2 = (.int i2) := Option.some.inj ei2
  obtain ⟨i3, ei3⟩ := is_v r4
  obtain rfl : w3 = (.int i3) := Option.some.inj ei3
  obtain ⟨n, o, h1, h2, h3, _, L, rfl, ⟨rfl, N⟩, hq⟩ := rm0 l s _ hw tables_1 i0 i1 i2 i3 s.heap s.heap.size (Old.start s) p e ha hc hk s m _ below hf ((Spec.applies_iff_loose hf).mp happ).1 ⟨rfl, State.Warmed39.refl s, rfl⟩ trivial
  refine ⟨n, _, h1, h2, h3, hpost _ _ _ _ _ _ ⟨Cond.after_iff.mpr rfl, Cond.after_iff.mpr (eq_i res_at (Term.int_eval (1)) rfl), trivial⟩ ⟨hq.1, hq.2.1, (hq.2.2.sift fun y hy => Or.inr (N y hy)).mono (by decide) (by decide)⟩⟩
theorem main_1_1 : Claimed_1_1 := comes_1 fun _ _ _ _ _ _ h hF => ⟨h.1, hF⟩
theorem main_1_2 : Claimed_1_2 := comes_1 fun _ _ _ _ _ _ h hF => ⟨h.2.1, hF⟩
end Jvm.Pilot.@@N@@
namespace Jvm.Pilot.@@N@@
open Jvm Jvm.ClassFile Sem Op Lib Jvm.Free Jvm.Stand Jvm.Pilot.@@N@@.Jvm.D
/-! MADE BY PROGRAM (witnessworld.py) out of the Statement's table words and the real class files: 9 classes; the members and pool entries that the words name. The judged class is class 1, her method 1. -/
namespace start1
open Jvm.ClassFile
def u (s : String) : CpInfo := .utf8 (stringToUtf16 s)
/-- a pool by its gaps: so many unusable entries, then the entry; so many at the end -/
def gap : Nat → List CpInfo → List CpInfo
  | 0, r => r
  | n + 1, r => .unusable :: gap n r
def poolList (es : List (Nat × CpInfo)) (last : Nat) : List CpInfo := es.foldr (fun e r => gap e.1 (e.2 :: r)) (gap last [])
def pool (es : List (Nat × CpInfo)) (last : Nat) : Array CpInfo := ⟨poolList es last⟩
def fileOf (pool : Array CpInfo) (this : Nat) (attrs : Array Attribute := #[]) (ms : Array MethodInfo := #[]) (fl : Nat := 33) (sup : Nat := 0) (ifs : Array Nat := #[]) (fds : Array FieldInfo := #[]) : ClassFile where
  minorVersion := 0
  majorVersion := 65
  constantPool := pool
  accessFlags := fl
  thisClass := this
  superClass := sup
  interfaces := ifs
  fields := fds
  methods := ms
  attributes := attrs
def plain (name : String) (sup : Option ClassId) : Class where
  name := name
  kind := .ordinary
  loader := none
  accessFlags := 33
  super := sup
  interfaces := #[]
  cf := none
  fields := #[]
  methods := #[]
  instanceTypes := #[]
  staticTypes := #[]
  resolved := #[]
  callSites := []
  init := .initialized
  statics := none
  mirror := none

def pool0 : Array CpInfo := pool [(5, u "<init>"), (0, u "()V"), (1, .class_ 10), (1, u "java/lang/Object"), (85, u "clone"), (0, u "()Ljava/lang/Object;")] 26

def k0m0 : Method := { name := "<init>", desc := "()V", sig := { parameters := [], returnType := none }, accessFlags := 1, code := none }
def k0m1 : Method := { name := "clone", desc := "()Ljava/lang/Object;", sig := { parameters := [], returnType := some (.object "java/lang/Object") }, accessFlags := 260, code := none }
/-- java/lang/Object -/
def k0 : Class := { plain "java/lang/Object" none with
  accessFlags := 33
  interfaces := #[]
  cf := some (fileOf pool0 8 #[] #[{ accessFlags := 1, nameIndex := 5, descriptorIndex := 6, attributes := #[] }, { accessFlags := 260, nameIndex := 96, descriptorIndex := 97, attributes := #[] }] 33 0 #[] #[])
  fields := #[]
  methods := #[k0m0, k0m1]
  instanceTypes := #[]
  staticTypes := #[]
  resolved := Array.replicate 124 none
  statics := none }

def pool1 : Array CpInfo := pool [(2, .class_ 4), (1, u "java/lang/Object"), (0, u "<init>"), (0, u "()V"), (0, .methodref 8 9), (0, .class_ 10), (0, .nameAndType 11 12), (0, u "com/example/rootward/rootward/model/Instance"), (0, u "group"), (0, u "([I[I)[I"), (0, .methodref 14 15), (0, .class_ 16), (0, .nameAndType 17 18), (0, u "com/example/rootward/rootward/model/InstanceGroupPinLaw"), (0, u "member"), (0, u "([II)I"), (0, .methodref 14 20), (0, .nameAndType 21 18), (0, u "below"), (0, .methodref 14 23), (0, .nameAndType 24 25), (0, u "placed"), (0, u "([I[II)Z"), (0, .methodref 14 27), (0, .nameAndType 28 29), (0, u "lt"), (0, u "(II)I"), (0, .methodref 14 31), (0, .nameAndType 32 33), (0, u "ahead"), (0, u "([III)I"), (0, .methodref 14 35), (0, .nameAndType 36 18), (0, u "rank"), (2, u "law"), (0, u "(IIII)Z")] 5

def k1m0 : Method := { name := "<init>", desc := "()V", sig := { parameters := [], returnType := none }, accessFlags := 1, code := none }
def k1c1 : Code := { maxStack := 4, maxLocals := 8, code := code, exceptionTable := #[], attributes := #[] }
def k1m1 : Method := { name := "law", desc := "(IIII)Z", sig := { parameters := [.int, .int, .int, .int], returnType := some .boolean }, accessFlags := 9, code := some k1c1 }
def k1c2 : Code := { maxStack := 2, maxLocals := 2, code := method_3_code, exceptionTable := #[], attributes := #[] }
def k1m2 : Method := { name := "member", desc := "([II)I", sig := { parameters := [(.array .int), .int], returnType := some .int }, accessFlags := 10, code := some k1c2 }
def k1c3 : Code := { maxStack := 2, maxLocals := 2, code := method_4_code, exceptionTable := #[], attributes := #[] }
def k1m3 : Method := { name := "lt", desc := "(II)I", sig := { parameters := [.int, .int], returnType := some .int }, accessFlags := 10, code := some k1c3 }
def k1c4 : Code := { maxStack := 3, maxLocals := 2, code := method_5_code, exceptionTable := #[], attributes := #[] }
def k1m4 : Method := { name := "below", desc := "([II)I", sig := { parameters := [(.array .int), .int], returnType := some .int }, accessFlags := 10, code := some k1c4 }
def k1c5 : Code := { maxStack := 2, maxLocals := 5, code := method_6_code, exceptionTable := #[], attributes := #[] }
def k1m5 : Method := { name := "ahead", desc := "([III)I", sig := { parameters := [(.array .int), .int, .int], returnType := some .int }, accessFlags := 10, code := some k1c5 }
def k1c6 : Code := { maxStack := 4, maxLocals := 2, code := method_7_code, exceptionTable := #[], attributes := #[] }
def k1m6 : Method := { name := "rank", desc := "([II)I", sig := { parameters := [(.array .int), .int], returnType := some .int }, accessFlags := 10, code := some k1c6 }
def k1c7 : Code := { maxStack := 2, maxLocals := 4, code := method_8_code, exceptionTable := #[], attributes := #[] }
def k1m7 : Method := { name := "placed", desc := "([I[II)Z", sig := { parameters := [(.array .int), (.array .int), .int], returnType := some .boolean }, accessFlags := 10, code := some k1c7 }
/-- com/example/rootward/rootward/model/InstanceGroupPinLaw -/
def k1 : Class := { plain "com/example/rootward/rootward/model/InstanceGroupPinLaw" (some 0) with
  accessFlags := 49
  interfaces := #[]
  cf := some (fileOf pool1 14 #[] #[{ accessFlags := 1, nameIndex := 5, descriptorIndex := 6, attributes := #[] }, { accessFlags := 9, nameIndex := 39, descriptorIndex := 40, attributes := #[] }, { accessFlags := 10, nameIndex := 17, descriptorIndex := 18, attributes := #[] }, { accessFlags := 10, nameIndex := 28, descriptorIndex := 29, attributes := #[] }, { accessFlags := 10, nameIndex := 21, descriptorIndex := 18, attributes := #[] }, { accessFlags := 10, nameIndex := 32, descriptorIndex := 33, attributes := #[] }, { accessFlags := 10, nameIndex := 36, descriptorIndex := 18, attributes := #[] }, { accessFlags := 10, nameIndex := 24, descriptorIndex := 25, attributes := #[] }] 49 2 #[] #[])
  fields := #[]
  methods := #[k1m0, k1m1, k1m2, k1m3, k1m4, k1m5, k1m6, k1m7]
  instanceTypes := #[]
  staticTypes := #[]
  resolved := Array.replicate 46 none
  statics := none }

def pool2 : Array CpInfo := pool [(2, .class_ 4), (1, u "java/lang/Object"), (3, .class_ 10), (1, u "com/example/rootward/rootward/model/Instance"), (0, u "capacity"), (0, u "J"), (2, u "dmax"), (0, u "Lcom/example/rootward/rootward/model/Distance;"), (2, u "nodes"), (0, u "Ljava/util/List;"), (2, u "clients"), (2, u "root"), (0, u "I"), (2, u "parents"), (0, u "[I"), (2, u "clientNodes"), (8, u "childStart"), (2, u "group"), (0, u "([I[I)[I"), (2, u "childNodes"), (2, u "clientStart"), (2, u "attachedClients"), (2, u "topDownOrder"), (22, .class_ 83), (0, u "com/example/rootward/rootward/model/Instance$Node"), (46, .class_ 131), (0, u "com/example/rootward/rootward/model/Instance$Client"), (40, .methodref 173 174), (0, .class_ 31), (0, .nameAndType 175 176), (0, u "clone"), (0, u "()Ljava/lang/Object;"), (18, u "MAX_REQUESTS"), (1, u "NONE")] 77

def k2c0 : Code := { maxStack := 6, maxLocals := 6, code := prog_5_method_4_code, exceptionTable := #[], attributes := #[] }
def k2m0 : Method := { name := "group", desc := "([I[I)[I", sig := { parameters := [(.array .int), (.array .int)], returnType := some (.array .int) }, accessFlags := 8, code := some k2c0 }
/-- com/example/rootward/rootward/model/Instance -/
def k2 : Class := { plain "com/example/rootward/rootward/model/Instance" (some 0) with
  accessFlags := 49
  interfaces := #[]
  cf := some (fileOf pool2 8 #[.nestMembers #[130, 82]] #[{ accessFlags := 8, nameIndex := 46, descriptorIndex := 47, attributes := #[] }] 49 2 #[] #[{ accessFlags := 25, nameIndex := 195, descriptorIndex := 12, attributes := #[] }, { accessFlags := 26, nameIndex := 197, descriptorIndex := 27, attributes := #[] }, { accessFlags := 18, nameIndex := 11, descriptorIndex := 12, attributes := #[] }, { accessFlags := 18, nameIndex := 15, descriptorIndex := 16, attributes := #[] }, { accessFlags := 18, nameIndex := 19, descriptorIndex := 20, attributes := #[] }, { accessFlags := 18, nameIndex := 23, descriptorIndex := 20, attributes := #[] }, { accessFlags := 18, nameIndex := 26, descriptorIndex := 27, attributes := #[] }, { accessFlags := 18, nameIndex := 30, descriptorIndex := 31, attributes := #[] }, { accessFlags := 18, nameIndex := 34, descriptorIndex := 31, attributes := #[] }, { accessFlags := 18, nameIndex := 43, descriptorIndex := 31, attributes := #[] }, { accessFlags := 18, nameIndex := 50, descriptorIndex := 31, attributes := #[] }, { accessFlags := 18, nameIndex := 53, descriptorIndex := 31, attributes := #[] }, { accessFlags := 18, nameIndex := 56, descriptorIndex := 31, attributes := #[] }, { accessFlags := 18, nameIndex := 59, descriptorIndex := 31, attributes := #[] }])
  fields := #[{ name := "MAX_REQUESTS", type := .long, accessFlags := 25, slot := 0, constantValue := 0 }, { name := "NONE", type := .int, accessFlags := 26, slot := 1, constantValue := 0 }, { name := "capacity", type := .long, accessFlags := 18, slot := 0, constantValue := 0 }, { name := "dmax", type := (.object "com/example/rootward/rootward/model/Distance"), accessFlags := 18, slot := 1, constantValue := 0 }, { name := "nodes", type := (.object "java/util/List"), accessFlags := 18, slot := 2, constantValue := 0 }, { name := "clients", type := (.object "java/util/List"), accessFlags := 18, slot := 3, constantValue := 0 }, { name := "root", type := .int, accessFlags := 18, slot := 4, constantValue := 0 }, { name := "parents", type := (.array .int), accessFlags := 18, slot := 5, constantValue := 0 }, { name := "clientNodes", type := (.array .int), accessFlags := 18, slot := 6, constantValue := 0 }, { name := "childStart", type := (.array .int), accessFlags := 18, slot := 7, constantValue := 0 }, { name := "childNodes", type := (.array .int), accessFlags := 18, slot := 8, constantValue := 0 }, { name := "clientStart", type := (.array .int), accessFlags := 18, slot := 9, constantValue := 0 }, { name := "attachedClients", type := (.array .int), accessFlags := 18, slot := 10, constantValue := 0 }, { name := "topDownOrder", type := (.array .int), accessFlags := 18, slot := 11, constantValue := 0 }]
  methods := #[k2m0]
  instanceTypes := #[.long, (.object "com/example/rootward/rootward/model/Distance"), (.object "java/util/List"), (.object "java/util/List"), .int, (.array .int), (.array .int), (.array .int), (.array .int), (.array .int), (.array .int), (.array .int)]
  staticTypes := #[.long, .int]
  resolved := Array.replicate 275 none
  statics := none }

def pool3 : Array CpInfo := pool [(1, .class_ 2), (0, u "java/lang/Cloneable"), (0, .class_ 4), (0, u "java/lang/Object")] 2

/-- java/lang/Cloneable -/
def k3 : Class := { plain "java/lang/Cloneable" (some 0) with
  accessFlags := 1537
  interfaces := #[]
  cf := some (fileOf pool3 1 #[] #[] 1537 3 #[] #[])
  fields := #[]
  methods := #[]
  instanceTypes := #[]
  staticTypes := #[]
  resolved := Array.replicate 7 none
  statics := none }

def pool4 : Array CpInfo := pool [(1, u "java/io/Serializable"), (0, .class_ 1), (0, u "java/lang/Object"), (0, .class_ 3)] 3

/-- java/io/Serializable -/
def k4 : Class := { plain "java/io/Serializable" (some 0) with
  accessFlags := 1537
  interfaces := #[]
  cf := some (fileOf pool4 2 #[] #[] 1537 4 #[] #[])
  fields := #[]
  methods := #[]
  instanceTypes := #[]
  staticTypes := #[]
  resolved := Array.replicate 8 none
  statics := none }

/-- the primitive byte -/
def k5 : Class := { plain "byte" none with kind := .primitive 'B', accessFlags := 0x411 }
/-- [B -/
def k6 : Class := { plain "[B" (some 0) with kind := .array 5 .byte, interfaces := #[3, 4], accessFlags := 1041 }

/-- the primitive int -/
def k7 : Class := { plain "int" none with kind := .primitive 'I', accessFlags := 0x411 }
/-- [I -/
def k8 : Class := { plain "[I" (some 0) with kind := .array 7 .int, interfaces := #[3, 4], accessFlags := 1041 }

def heap : Heap := #[]
def classes : Array Class := #[k0, k1, k2, k3, k4, k5, k6, k7, k8]
def interned : List (Array UInt16 × Addr) := []
def slotsUsed : Nat := 0
def theMethod : MethodId := ⟨1, 1⟩
def args0 : Array Value := #[.int 7, .int 1, .int 2, .int 3]
def aboutOver (below : List Frame) : State where
  vm := { classes := classes, interned := interned.toArray }
  heap := heap
  slotsUsed := slotsUsed
  threads := #[{ frames := .invoking theMethod args0 :: below }]
def below0 : List Frame := [.native { method := ⟨0, 0⟩, args := #[] }]
def about1 : State := aboutOver below0
def p0 : Program := .bare "" "" ""
def e0 : Env := launch0.env 0 0 0
theorem w_frames : about1.frames = Frame.invoking theMethod args0 :: below0 := rfl
set_option maxRecDepth 65536 in
theorem w_args : argsFit about1.vm theMethod args0 = true := by decide +kernel
set_option maxRecDepth 65536 in
theorem w_heap : heapFits about1 = true := by decide +kernel
set_option maxRecDepth 65536 in
theorem w_runnable : about1.curStatus? = some .runnable := by decide +kernel
set_option maxRecDepth 65536 in
theorem w_alone : about1.alone = true := by decide +kernel
set_option maxRecDepth 65536 in
theorem w_named : about1.methodNamed? x = some theMethod := by decide +kernel
set_option maxRecDepth 65536 in
theorem w_hears : about1.hears theMethod below0 = true := by decide +kernel
set_option maxRecDepth 65536 in
theorem w_ripe : about1.ripe theMethod args0 below0 = true := by decide +kernel
theorem w_running : about1.status = .running := rfl
set_option maxRecDepth 65536 in
theorem w_room : about1.hasRoom e0.platform room_1 = true :=
  launch0.hasRoom_least _ room_1 (by decide +kernel) (by decide +kernel) (by decide +kernel) (by decide +kernel) (by decide +kernel) (by decide +kernel)
theorem allAtoms_all (ts : List Jvm.Cond) (a : Array Jvm.Value) (st : Jvm.State) : (allAtoms ts).before a st = ts.all (fun c => c.before a st) := by
  induction ts with
  | nil => rfl
  | cons c t ih =>
    show (Jvm.Cond.and c (allAtoms t)).before a st = _
    rw [Jvm.Cond.before_and, ih, List.all_cons]
def words1 : List Jvm.Cond := Jvm.Cond.code x code maxLocals ret :: tables_1
/-- a 'code' word, met by the world's own term for the bytes: nothing is compared byte by byte -/
theorem code_word {y : MethodName} {bytes : ByteArray} {mx : Nat} {rt : Option FieldType} {a : Array Value} {s : State} {m : MethodId} {meth : Method} {c : Code} (h1 : s.methodNamed? y = some m) (h2 : s.vm.method? m = some meth) (h3 : meth.code = some c) (h4 : c.code = bytes)
    (h5 : (c.maxLocals == mx && c.exceptionTable.isEmpty && decide (c.maxStack ≤ mostOperands) && decide (meth.sig.returnType = rt) && !meth.locks && decide (parseMethodDescriptor y.desc = some meth.sig)) = true) : (Jvm.Cond.code y bytes mx rt).before a s = true := by
  simp only [Bool.and_eq_true, beq_iff_eq, Bool.not_eq_true', decide_eq_true_eq] at h5
  obtain ⟨⟨⟨⟨⟨g1, g2⟩, g3⟩, g4⟩, g5⟩, g6⟩ := h5
  simp [Cond.before, Cond.holds, Cond.value, h1, h2, h3, h4, g1, g2, g3, g4, g5, g6]
def isCode : Jvm.Cond → Bool
  | .code _ _ _ _ => true
  | _ => false
theorem all_split {L : List Jvm.Cond} {P : Jvm.Cond → Bool} (h1 : L.all (fun c => isCode c || P c) = true) (h2 : ∀ c ∈ L.filter isCode, P c = true) : L.all P = true := by
  refine List.all_eq_true.mpr fun c hc => ?_
  have h := List.all_eq_true.mp h1 c hc
  rcases Bool.eq_false_or_eq_true (isCode c) with hi | hi
  · exact h2 c (List.mem_filter.mpr ⟨hc, hi⟩)
  · simpa [hi] using h
set_option maxRecDepth 65536 in
theorem w_c0 : (Jvm.Cond.code x code maxLocals ret).before args0 about1 = true := code_word (m := ⟨1, 1⟩) (meth := k1m1) (c := k1c1) (by decide +kernel) rfl rfl rfl (by decide +kernel)
set_option maxRecDepth 65536 in
theorem w_c1 : (Jvm.Cond.code ({ cls := "com/example/rootward/rootward/model/Instance", name := "group", desc := "([I[I)[I" } : Jvm.MethodName) prog_5_method_4_code (6 : Nat) (Option.some (Jvm.ClassFile.FieldType.array Jvm.ClassFile.FieldType.int))).before args0 about1 = true := code_word (m := ⟨2, 0⟩) (meth := k2m0) (c := k2c0) (by decide +kernel) rfl rfl rfl (by decide +kernel)
set_option maxRecDepth 65536 in
theorem w_c2 : (Jvm.Cond.code ({ cls := "com/example/rootward/rootward/model/InstanceGroupPinLaw", name := "member", desc := "([II)I" } : Jvm.MethodName) method_3_code (2 : Nat) (Option.some Jvm.ClassFile.FieldType.int)).before args0 about1 = true := code_word (m := ⟨1, 2⟩) (meth := k1m2) (c := k1c2) (by decide +kernel) rfl rfl rfl (by decide +kernel)
set_option maxRecDepth 65536 in
theorem w_c3 : (Jvm.Cond.code ({ cls := "com/example/rootward/rootward/model/InstanceGroupPinLaw", name := "below", desc := "([II)I" } : Jvm.MethodName) method_5_code (2 : Nat) (Option.some Jvm.ClassFile.FieldType.int)).before args0 about1 = true := code_word (m := ⟨1, 4⟩) (meth := k1m4) (c := k1c4) (by decide +kernel) rfl rfl rfl (by decide +kernel)
set_option maxRecDepth 65536 in
theorem w_c4 : (Jvm.Cond.code ({ cls := "com/example/rootward/rootward/model/InstanceGroupPinLaw", name := "lt", desc := "(II)I" } : Jvm.MethodName) method_4_code (2 : Nat) (Option.some Jvm.ClassFile.FieldType.int)).before args0 about1 = true := code_word (m := ⟨1, 3⟩) (meth := k1m3) (c := k1c3) (by decide +kernel) rfl rfl rfl (by decide +kernel)
set_option maxRecDepth 65536 in
theorem w_c5 : (Jvm.Cond.code ({ cls := "com/example/rootward/rootward/model/InstanceGroupPinLaw", name := "placed", desc := "([I[II)Z" } : Jvm.MethodName) method_8_code (4 : Nat) (Option.some Jvm.ClassFile.FieldType.boolean)).before args0 about1 = true := code_word (m := ⟨1, 7⟩) (meth := k1m7) (c := k1c7) (by decide +kernel) rfl rfl rfl (by decide +kernel)
set_option maxRecDepth 65536 in
theorem w_c6 : (Jvm.Cond.code ({ cls := "com/example/rootward/rootward/model/InstanceGroupPinLaw", name := "rank", desc := "([II)I" } : Jvm.MethodName) method_7_code (2 : Nat) (Option.some Jvm.ClassFile.FieldType.int)).before args0 about1 = true := code_word (m := ⟨1, 6⟩) (meth := k1m6) (c := k1c6) (by decide +kernel) rfl rfl rfl (by decide +kernel)
set_option maxRecDepth 65536 in
theorem w_c7 : (Jvm.Cond.code ({ cls := "com/example/rootward/rootward/model/InstanceGroupPinLaw", name := "ahead", desc := "([III)I" } : Jvm.MethodName) method_6_code (5 : Nat) (Option.some Jvm.ClassFile.FieldType.int)).before args0 about1 = true := code_word (m := ⟨1, 5⟩) (meth := k1m5) (c := k1c5) (by decide +kernel) rfl rfl rfl (by decide +kernel)
def codes1 : List Jvm.Cond := [Jvm.Cond.code x code maxLocals ret, Jvm.Cond.code ({ cls := "com/example/rootward/rootward/model/Instance", name := "group", desc := "([I[I)[I" } : Jvm.MethodName) prog_5_method_4_code (6 : Nat) (Option.some (Jvm.ClassFile.FieldType.array Jvm.ClassFile.FieldType.int)), Jvm.Cond.code ({ cls := "com/example/rootward/rootward/model/InstanceGroupPinLaw", name := "member", desc := "([II)I" } : Jvm.MethodName) method_3_code (2 : Nat) (Option.some Jvm.ClassFile.FieldType.int), Jvm.Cond.code ({ cls := "com/example/rootward/rootward/model/InstanceGroupPinLaw", name := "below", desc := "([II)I" } : Jvm.MethodName) method_5_code (2 : Nat) (Option.some Jvm.ClassFile.FieldType.int), Jvm.Cond.code ({ cls := "com/example/rootward/rootward/model/InstanceGroupPinLaw", name := "lt", desc := "(II)I" } : Jvm.MethodName) method_4_code (2 : Nat) (Option.some Jvm.ClassFile.FieldType.int), Jvm.Cond.code ({ cls := "com/example/rootward/rootward/model/InstanceGroupPinLaw", name := "placed", desc := "([I[II)Z" } : Jvm.MethodName) method_8_code (4 : Nat) (Option.some Jvm.ClassFile.FieldType.boolean), Jvm.Cond.code ({ cls := "com/example/rootward/rootward/model/InstanceGroupPinLaw", name := "rank", desc := "([II)I" } : Jvm.MethodName) method_7_code (2 : Nat) (Option.some Jvm.ClassFile.FieldType.int), Jvm.Cond.code ({ cls := "com/example/rootward/rootward/model/InstanceGroupPinLaw", name := "ahead", desc := "([III)I" } : Jvm.MethodName) method_6_code (5 : Nat) (Option.some Jvm.ClassFile.FieldType.int)]
set_option maxRecDepth 65536 in
theorem codes_eq : words1.filter isCode = codes1 := rfl
theorem w_codes : ∀ c ∈ words1.filter isCode, c.before args0 about1 = true := by
  rw [codes_eq]
  intro c hc
  simp only [codes1, List.mem_cons, List.not_mem_nil, or_false] at hc
  rcases hc with rfl | rfl | rfl | rfl | rfl | rfl | rfl | rfl
  · exact w_c0
  · exact w_c1
  · exact w_c2
  · exact w_c3
  · exact w_c4
  · exact w_c5
  · exact w_c6
  · exact w_c7
set_option maxRecDepth 65536 in
theorem w_t1 : (words1.take 24).all (fun c => isCode c || c.before args0 about1) = true := by decide +kernel
set_option maxRecDepth 65536 in
theorem w_t2 : (words1.drop 24).all (fun c => isCode c || c.before args0 about1) = true := by decide +kernel
theorem w_tables : (allAtoms (Jvm.Cond.code x code maxLocals ret :: tables_1)).before args0 about1 = true := by
  rw [allAtoms_all]
  show words1.all (fun c => c.before args0 about1) = true
  refine all_split ?_ w_codes
  rw [← List.take_append_drop 24 words1, List.all_append, w_t1, w_t2]
  rfl
set_option maxRecDepth 65536 in
theorem w_case : (Jvm.Cond.and given_1 narrow_1).before args0 about1 = true := by decide +kernel
theorem w_applies : (headSpec (Jvm.Cond.code x code maxLocals ret :: tables_1) room_1).applies x e0.platform about1 = true :=
  (Spec.applies_iff w_frames).mpr ⟨w_running, w_runnable, w_alone, w_named, w_hears, w_ripe, w_room, w_tables⟩
theorem atStart : AtStart classFile x code maxLocals ret World_1 tables_1 room_1 Calls_1 rest_1 Pre_1 launch0 p0 e0 about1 theMethod args0 below0 :=
  ⟨lists_1, trivial, launch0.admits_env _ _ _, launch0.least_env, fairChoices_fair.cas, fairChoices_fair.clock, w_frames, w_args, w_heap, w_applies, trivial, trivial, w_case⟩
end start1
theorem witness_1 : WitnessClaimed_1 := ⟨start1.p0, start1.e0, start1.about1, start1.theMethod, start1.args0, start1.below0, start1.atStart⟩
end Jvm.Pilot.@@N@@
