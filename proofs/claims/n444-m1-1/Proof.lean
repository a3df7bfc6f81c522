import JvmDerived
import JvmDerived.Pilot.@@N@@Statement
import JvmDerived.Pilot.@@N@@Code
set_option linter.unusedVariables false
set_option linter.unusedSimpArgs false
namespace Jvm.RoadKit
open Sem ClassFile Op Lib Jvm.Stand Jvm.Free Jvm.LawKit
section New
variable {p : Program} {l : Launch} {e : Env} {R : Room} {s : State} {m : MethodId} {args : Array Value} {below : List Frame} {meth : Method} {c : Code} {T : State} {locs : List Loc} {cells slots : Nat}
theorem retI (X : Stand p l e R s m args below meth c T locs cells slots) (hx : p.tables.exec = Jvm.exec) {pc : Nat} {Ls : Array Slot} {z : Int32} {rest : List Value} (hret : meth.sig.returnType = some .int) (hd : decode c.code pc = .ok (.ireturn, 1)) {fs : List Frame}
    (hl : ∀ (f : JFrame) (acts : List Action), f.method = m → f.locked = none → f.entered = [] → (doReturn e (T.setTop f) acts (some (.int z))).1 = T.setFrames fs) : Steps p.tables e below (T.setTop (mkF m pc Ls (.int z :: rest))) (T.setFrames fs) := by
  have hm' : T.vm.method? m = some meth := X.method'
  have hn : narrow .int (.int z) = .int z := rfl
  show Steps p.tables e below (T.setTop { method := m, pc := pc, locals := Ls, stack := _ :: rest, locked := none }) _
  jvm_step X.here [X.here.top, hx, hd, hm', hret, hn]
  first | (intro acts; rw [hl _ acts rfl rfl rfl]) | rw [hl _ _ rfl rfl rfl]
  exact Steps.refl _
end New
end Jvm.RoadKit
namespace Jvm.Pilot.@@N@@
open Jvm Jvm.ClassFile Sem Op Lib Jvm.Free Jvm.Stand Jvm.LawKit Jvm.RoadKit Bundle Jvm.Pilot.@@N@@.Jvm.D
/-! own small kit: a walk forward, state by state -/
section OwnKit
variable {p : Program} {l : Launch} {e : Env} {R : Room} {s : State} {m : MethodId} {args : Array Value} {below : List Frame} {meth : Method} {c : Code} {T : State} {locs : List Loc} {cells slots : Nat} {rc rs : Nat} {Q : Option Value → Heap → List Loc → Prop} {Z : State} {h h' : Heap} {a b : Addr} {S S' : State}
/-- from S the run comes to its return, and Q holds there -/
def Go (p : Program) (e : Env) (below : List Frame) (s : State) (rc rs : Nat) (Q : Option Value → Heap → List Loc → Prop) (S : State) : Prop :=
  ∃ s₂ o, Steps p.tables e below S s₂ ∧ s₂.status = .running ∧ Ended s₂ below o ∧ ∃ v L, o = .returned v ∧ Q v s₂.heap L ∧ FrameEnd s o s₂ L rc rs
theorem Go.st (k : ∀ t, Steps p.tables e below S' t → Steps p.tables e below S t) (g : Go p e below s rc rs Q S') : Go p e below s rc rs Q S := by
  obtain ⟨x, y, z, r⟩ := g
  exact ⟨x, y, k x z, r⟩
theorem Go.tr (k : Steps p.tables e below S S') (g : Go p e below s rc rs Q S') : Go p e below s rc rs Q S := by
  obtain ⟨x, y, z, r⟩ := g
  exact ⟨x, y, k.trans z, r⟩
theorem Go.ret (X : Stand p l e R s m args below meth c T locs cells slots) (hlk : meth.locks = false) (v : Option Value) (hv : meth.sig.returnType = none → v = none) {g : JFrame} (hQ : Q v T.heap locs) (hc : cells ≤ rc) (hs : slots ≤ rs)
    (k : ∀ fs, (∀ (f : JFrame) (acts : List Action), f.method = m → f.locked = none → f.entered = [] → (doReturn e (T.setTop f) acts v).1 = T.setFrames fs) → Steps p.tables e below (T.setTop g) (T.setFrames fs)) : Go p e below s rc rs Q (T.setTop g) := by
  obtain ⟨fs, hr, hrun, hended, hW, hsame⟩ := X.leave (v := v) hv hlk
  exact ⟨_, _, k fs hr, hrun, hended, _, _, rfl, hQ, ⟨_, rfl⟩, hW, hsame.mono hc hs⟩
theorem own_w {a0 : Array Value} (hw : ∀ d ∈ tables_1, d.before a0 Z = true) (k : Nat) {d : Jvm.Cond} (q : tables_1[k]? = some d) : d.before a0 Z = true := hw _ (List.mem_of_getElem? q)
theorem own_idx {n j : Int32} {cl : Cell} (S : cl.slots.size = n.toNatClampNeg) (q1 : ¬ j < 0) (q2 : j < n) : ¬ (j < 0 ∨ cl.slots.size ≤ j.toNatClampNeg) := inb_of S ⟨q1, q2⟩
theorem own_iaload (X : Stand p l e R s m args below meth c T locs cells slots) (hx : p.tables.exec = Jvm.exec) (hZ : Z.Warmed39 s.vm) (eT : T.heap = h) {k : ClassId} {n : Int32} {vs : List Value} {d : Value} (V : Arv Z h a k .int n vs d) {j : Int32} (q1 : ¬ j < 0) (q2 : j < n) {v : Value} (hv : vs.getD j.toNatClampNeg d = v) {g : JFrame} (hg : g.method = m) {rest : List Value} (hs : g.stack = .int j :: .ref a :: rest) (hd : decode c.code g.pc = .ok (.iaload, 1)) (t : State) (kk : Steps p.tables e below (T.setTop { g with pc := g.pc + 1, stack := v :: rest }) t) : Steps p.tables e below (T.setTop g) t := by
  obtain ⟨cl, A, -, S, -, H, -⟩ := V
  have hin := own_idx S q1 q2
  exact X.iaload hx (j := j) (v := v) (by rw [eT]; exact A.1) (State.isArrayOf_alike hZ.alike A.2.1) A.2.2 hin (H.at hin hv) (g := g) hg hs hd _ kk
theorem own_laload (X : Stand p l e R s m args below meth c T locs cells slots) (hx : p.tables.exec = Jvm.exec) (hZ : Z.Warmed39 s.vm) (eT : T.heap = h) {k : ClassId} {n : Int32} {vs : List Value} {d : Value} (V : Arv Z h a k .long n vs d) {j : Int32} (q1 : ¬ j < 0) (q2 : j < n) {v : Value} (hv : vs.getD j.toNatClampNeg d = v) {g : JFrame} (hg : g.method = m) {rest : List Value} (hs : g.stack = .int j :: .ref a :: rest) (hd : decode c.code g.pc = .ok (.laload, 1)) (t : State) (kk : Steps p.tables e below (T.setTop { g with pc := g.pc + 1, stack := v :: rest }) t) : Steps p.tables e below (T.setTop g) t := by
  obtain ⟨cl, A, -, S, -, H, -⟩ := V
  have hin := own_idx S q1 q2
  exact X.laload hx (j := j) (v := v) (by rw [eT]; exact A.1) (State.isArrayOf_alike hZ.alike A.2.1) A.2.2 hin (H.at hin hv) (g := g) hg hs hd _ kk
theorem own_caload (X : Stand p l e R s m args below meth c T locs cells slots) (hx : p.tables.exec = Jvm.exec) (hZ : Z.Warmed39 s.vm) (eT : T.heap = h) {k : ClassId} {n : Int32} {vs : List Value} {d : Value} (V : Arv Z h a k .char n vs d) {j : Int32} (q1 : ¬ j < 0) (q2 : j < n) {v : Value} (hv : vs.getD j.toNatClampNeg d = v) {g : JFrame} (hg : g.method = m) {rest : List Value} (hs : g.stack = .int j :: .ref a :: rest) (hd : decode c.code g.pc = .ok (.caload, 1)) (t : State) (kk : Steps p.tables e below (T.setTop { g with pc := g.pc + 1, stack := v :: rest }) t) : Steps p.tables e below (T.setTop g) t := by
  obtain ⟨cl, A, -, S, -, H, -⟩ := V
  have hin := own_idx S q1 q2
  exact X.caload hx (j := j) (v := v) (by rw [eT]; exact A.1) (State.isArrayOf_alike hZ.alike A.2.1) A.2.2 hin (H.at hin hv) (g := g) hg hs hd _ kk
theorem own_baloadB (X : Stand p l e R s m args below meth c T locs cells slots) (hx : p.tables.exec = Jvm.exec) (hZ : Z.Warmed39 s.vm) (eT : T.heap = h) {k : ClassId} {n : Int32} {vs : List Value} {d : Value} (V : Arv Z h a k .byte n vs d) {j : Int32} (q1 : ¬ j < 0) (q2 : j < n) {v : Value} (hv : vs.getD j.toNatClampNeg d = v) {g : JFrame} (hg : g.method = m) {rest : List Value} (hs : g.stack = .int j :: .ref a :: rest) (hd : decode c.code g.pc = .ok (.baload, 1)) (t : State) (kk : Steps p.tables e below (T.setTop { g with pc := g.pc + 1, stack := v :: rest }) t) : Steps p.tables e below (T.setTop g) t := by
  obtain ⟨cl, A, -, S, -, H, -⟩ := V
  have hin := own_idx S q1 q2
  exact X.baloadBytes hx (j := j) (v := v) (by rw [eT]; exact A.1) (State.isArrayOf_alike hZ.alike A.2.1) A.2.2 hin (H.at hin hv) (g := g) hg hs hd _ kk
theorem own_baloadZ (X : Stand p l e R s m args below meth c T locs cells slots) (hx : p.tables.exec = Jvm.exec) (hZ : Z.Warmed39 s.vm) (eT : T.heap = h) {k : ClassId} {n : Int32} {vs : List Value} {d : Value} (V : Arv Z h a k .boolean n vs d) {j : Int32} (q1 : ¬ j < 0) (q2 : j < n) {v : Value} (hv : vs.getD j.toNatClampNeg d = v) {g : JFrame} (hg : g.method = m) {rest : List Value} (hs : g.stack = .int j :: .ref a :: rest) (hd : decode c.code g.pc = .ok (.baload, 1)) (t : State) (kk : Steps p.tables e below (T.setTop { g with pc := g.pc + 1, stack := v :: rest }) t) : Steps p.tables e below (T.setTop g) t := by
  obtain ⟨cl, A, -, S, -, H, -⟩ := V
  have hin := own_idx S q1 q2
  exact X.baloadBooleans hx (j := j) (v := v) (by rw [eT]; exact A.1) (State.isArrayOf_alike hZ.alike A.2.1) A.2.2 hin (H.at hin hv) (g := g) hg hs hd _ kk
theorem own_aaload (X : Stand p l e R s m args below meth c T locs cells slots) (hx : p.tables.exec = Jvm.exec) (hZ : Z.Warmed39 s.vm) (eT : T.heap = h) {k : ClassId} {n : Int32} {vs : List Value} {d : Value} {ty : FieldType} (V : Arv Z h a k ty n vs d) (hty : ty.isReference = true) {j : Int32} (q1 : ¬ j < 0) (q2 : j < n) {v : Value} (hv : vs.getD j.toNatClampNeg d = v) {g : JFrame} (hg : g.method = m) {rest : List Value} (hs : g.stack = .int j :: .ref a :: rest) (hd : decode c.code g.pc = .ok (.aaload, 1)) (t : State) (kk : Steps p.tables e below (T.setTop { g with pc := g.pc + 1, stack := v :: rest }) t) : Steps p.tables e below (T.setTop g) t := by
  obtain ⟨cl, A, -, S, -, H, -⟩ := V
  have hin := own_idx S q1 q2
  exact X.aaload hx (j := j) (v := v) (by rw [eT]; exact A.1) (State.isArrayOf_alike hZ.alike A.2.1) hty A.2.2 hin (H.at hin hv) (g := g) hg hs hd _ kk
theorem own_len (X : Stand p l e R s m args below meth c T locs cells slots) (hx : p.tables.exec = Jvm.exec) (hZ : Z.Warmed39 s.vm) (eT : T.heap = h) {k : ClassId} {n : Int32} {vs : List Value} {d : Value} {ty : FieldType} (V : Arv Z h a k ty n vs d) {g : JFrame} (hg : g.method = m) {rest : List Value} (hs : g.stack = .ref a :: rest) (hd : decode c.code g.pc = .ok (.arraylength, 1)) (t : State) (kk : Steps p.tables e below (T.setTop { g with pc := g.pc + 1, stack := .int n :: rest }) t) : Steps p.tables e below (T.setTop g) t := by
  obtain ⟨cl, A, -, S, N, -, -⟩ := V
  refine X.arraylength hx (by rw [eT]; exact A.1) (State.isArrayOf_alike hZ.alike A.2.1) (g := g) hg hs hd _ ?_
  rw [len_of S N]
  exact kk
theorem own_stI (X : Stand p l e R s m args below meth c T locs cells slots) (hx : p.tables.exec = Jvm.exec) (hZ : Z.Warmed39 s.vm) (eT : T.heap = h) {k : ClassId} {n : Int32} {vs : List Value} {d : Value} (V : Arv Z h a k .int n vs d) {j x : Int32} (q1 : ¬ j < 0) (q2 : j < n) (i : Nat) (hi : j.toNatClampNeg = i) (hl : i < vs.length) {g : JFrame} (hg : g.method = m) {rest : List Value} (hs : g.stack = .int x :: .int j :: .ref a :: rest) (hd : decode c.code g.pc = .ok (.iastore, 1)) :
    ∃ T' h', Stand p l e R s m args below meth c T' (locs ++ [⟨a, j.toNatClampNeg⟩]) cells slots ∧ T'.heap = h' ∧ Wr h h' a j.toNatClampNeg (.int x) ∧ Arv Z h' a k .int n (vs.set i (.int x)) d ∧ ∀ t, Steps p.tables e below (T'.setTop { g with pc := g.pc + 1, stack := rest }) t → Steps p.tables e below (T.setTop g) t := by
  obtain ⟨cl, A, q, S, N, H, G⟩ := V
  obtain ⟨T', h', X', e', W', st⟩ := stI X hx hZ eT A (own_idx S q1 q2) (g := g) hg hs hd
  exact ⟨T', h', X', e', W', Arv.set A q S N H G rfl W' i hi hl, st⟩
theorem own_stJ (X : Stand p l e R s m args below meth c T locs cells slots) (hx : p.tables.exec = Jvm.exec) (hZ : Z.Warmed39 s.vm) (eT : T.heap = h) {k : ClassId} {n : Int32} {vs : List Value} {d : Value} (V : Arv Z h a k .long n vs d) {j : Int32} {x : Int64} (q1 : ¬ j < 0) (q2 : j < n) (i : Nat) (hi : j.toNatClampNeg = i) (hl : i < vs.length) {g : JFrame} (hg : g.method = m) {rest : List Value} (hs : g.stack = .long x :: .int j :: .ref a :: rest) (hd : decode c.code g.pc = .ok (.lastore, 1)) :
    ∃ T' h', Stand p l e R s m args below meth c T' (locs ++ [⟨a, j.toNatClampNeg⟩]) cells slots ∧ T'.heap = h' ∧ Wr h h' a j.toNatClampNeg (.long x) ∧ Arv Z h' a k .long n (vs.set i (.long x)) d ∧ ∀ t, Steps p.tables e below (T'.setTop { g with pc := g.pc + 1, stack := rest }) t → Steps p.tables e below (T.setTop g) t := by
  obtain ⟨cl, A, q, S, N, H, G⟩ := V
  obtain ⟨T', h', X', e', W', st⟩ := stJ X hx hZ eT A (own_idx S q1 q2) (g := g) hg hs hd
  exact ⟨T', h', X', e', W', Arv.set A q S N H G rfl W' i hi hl, st⟩
theorem own_stC (X : Stand p l e R s m args below meth c T locs cells slots) (hx : p.tables.exec = Jvm.exec) (hZ : Z.Warmed39 s.vm) (eT : T.heap = h) {k : ClassId} {n : Int32} {vs : List Value} {d : Value} (V : Arv Z h a k .char n vs d) {j x : Int32} (q1 : ¬ j < 0) (q2 : j < n) (i : Nat) (hi : j.toNatClampNeg = i) (hl : i < vs.length) {g : JFrame} (hg : g.method = m) {rest : List Value} (hs : g.stack = .int x :: .int j :: .ref a :: rest) (hd : decode c.code g.pc = .ok (.castore, 1)) :
    ∃ T' h', Stand p l e R s m args below meth c T' (locs ++ [⟨a, j.toNatClampNeg⟩]) cells slots ∧ T'.heap = h' ∧ Wr h h' a j.toNatClampNeg (.int (nar .char x)) ∧ Arv Z h' a k .char n (vs.set i (.int (nar .char x))) d ∧ ∀ t, Steps p.tables e below (T'.setTop { g with pc := g.pc + 1, stack := rest }) t → Steps p.tables e below (T.setTop g) t := by
  obtain ⟨cl, A, q, S, N, H, G⟩ := V
  obtain ⟨T', h', X', e', W', st⟩ := stC X hx hZ eT A (own_idx S q1 q2) (g := g) hg hs hd
  exact ⟨T', h', X', e', W', Arv.set A q S N H G (fits_nar_char _) W' i hi hl, st⟩
theorem own_stB (X : Stand p l e R s m args below meth c T locs cells slots) (hx : p.tables.exec = Jvm.exec) (hZ : Z.Warmed39 s.vm) (eT : T.heap = h) {k : ClassId} {n : Int32} {vs : List Value} {d : Value} (V : Arv Z h a k .byte n vs d) {j x : Int32} (q1 : ¬ j < 0) (q2 : j < n) (i : Nat) (hi : j.toNatClampNeg = i) (hl : i < vs.length) {g : JFrame} (hg : g.method = m) {rest : List Value} (hs : g.stack = .int x :: .int j :: .ref a :: rest) (hd : decode c.code g.pc = .ok (.bastore, 1)) :
    ∃ T' h', Stand p l e R s m args below meth c T' (locs ++ [⟨a, j.toNatClampNeg⟩]) cells slots ∧ T'.heap = h' ∧ Wr h h' a j.toNatClampNeg (.int (nar .byte x)) ∧ Arv Z h' a k .byte n (vs.set i (.int (nar .byte x))) d ∧ ∀ t, Steps p.tables e below (T'.setTop { g with pc := g.pc + 1, stack := rest }) t → Steps p.tables e below (T.setTop g) t := by
  obtain ⟨cl, A, q, S, N, H, G⟩ := V
  obtain ⟨T', h', X', e', W', st⟩ := stB X hx hZ eT A (own_idx S q1 q2) (g := g) hg hs hd
  exact ⟨T', h', X', e', W', Arv.set A q S N H G (fits_nar_byte _) W' i hi hl, st⟩
theorem own_stZ (X : Stand p l e R s m args below meth c T locs cells slots) (hx : p.tables.exec = Jvm.exec) (hZ : Z.Warmed39 s.vm) (eT : T.heap = h) {k : ClassId} {n : Int32} {vs : List Value} {d : Value} (V : Arv Z h a k .boolean n vs d) {j x : Int32} (q1 : ¬ j < 0) (q2 : j < n) (i : Nat) (hi : j.toNatClampNeg = i) (hl : i < vs.length) {g : JFrame} (hg : g.method = m) {rest : List Value} (hs : g.stack = .int x :: .int j :: .ref a :: rest) (hd : decode c.code g.pc = .ok (.bastore, 1)) :
    ∃ T' h', Stand p l e R s m args below meth c T' (locs ++ [⟨a, j.toNatClampNeg⟩]) cells slots ∧ T'.heap = h' ∧ Wr h h' a j.toNatClampNeg (.int (nar .boolean x)) ∧ Arv Z h' a k .boolean n (vs.set i (.int (nar .boolean x))) d ∧ ∀ t, Steps p.tables e below (T'.setTop { g with pc := g.pc + 1, stack := rest }) t → Steps p.tables e below (T.setTop g) t := by
  obtain ⟨cl, A, q, S, N, H, G⟩ := V
  obtain ⟨T', h', X', e', W', st⟩ := stZ X hx hZ eT A (own_idx S q1 q2) (g := g) hg hs hd
  exact ⟨T', h', X', e', W', Arv.set A q S N H G (fits_nar_bool _) W' i hi hl, st⟩
theorem own_old {n0 : Nat} (O : Old Z n0 h) : n0 ≤ h.size := O.1 ▸ O.2.1
theorem own_res {z z' y : Int32} (hq : y = z') (hz : z = z') : some (Value.int z) = some (Value.int y) := by rw [hq, hz]
theorem own_resJ {z z' y : Int64} (hq : y = z') (hz : z = z') : some (Value.long z) = some (Value.long y) := by rw [hq, hz]
theorem own_narR {v : Value} {t : FieldType} (q : v.isRef = true) (r : t.isReference = true := by rfl) : narrow t v = v := by
  rcases ref_cases q with rfl | ⟨_, rfl⟩ <;> cases t <;> first | rfl | (simp [FieldType.isReference] at r)
theorem own_fitR {v : Value} {t : FieldType} (q : v.isRef = true) (r : t.isReference = true := by rfl) : fits t v = true := by
  rcases ref_cases q with rfl | ⟨_, rfl⟩ <;> cases t <;> first | rfl | (simp [FieldType.isReference] at r)
theorem own_fld {ar : Array Value} {t : Term} {x : Addr} {C n d : String} {k : Int32} (ht : t.eval ar s none [] s = some (.ref x)) (q : (Jvm.Cond.eq (.field t C n d) (.int k)).value ar s none s [] = some true) : Fld s s.heap x C n d (.int k) := by
  obtain ⟨u, w, e1, e2, -, k2⟩ := cmp_v (Or.inl q)
  have e3 : (Term.int k).eval ar s none [] s = some (.int k) := Term.int_eval k
  rw [e3] at e2
  obtain rfl := Option.some.inj e2
  obtain ⟨z, rfl⟩ := k2
  have e4 : z = k := gotT (Cond.eq_ints e1 e3) q
  subst e4
  rw [fld_at ht] at e1
  exact Fld.start e1
theorem own_neI {u w : Int32} (q : u ≠ w) : Value.int u ≠ Value.int w := fun z => q (Value.int.inj z)
theorem own_stR (X : Stand p l e R s m args below meth c T locs cells slots) (hx : p.tables.exec = Jvm.exec) (hZ : Z.Warmed39 s.vm) (eT : T.heap = h) {k : ClassId} {n : Int32} {vs : List Value} {d : Value} {ty : FieldType} {C : String} (V : Arv Z h a k ty n vs d) (hty : ty.isReference = true) (O : Ovr Z k C) {y : Addr} (I : Ins Z h y C true) {j : Int32} (q1 : ¬ j < 0) (q2 : j < n) (i : Nat) (hi : j.toNatClampNeg = i) (hl : i < vs.length) {g : JFrame} (hg : g.method = m) {rest : List Value} (hs : g.stack = .ref y :: .int j :: .ref a :: rest) (hd : decode c.code g.pc = .ok (.aastore, 1)) :
    ∃ T' h', Stand p l e R s m args below meth c T' (locs ++ [⟨a, j.toNatClampNeg⟩]) cells slots ∧ T'.heap = h' ∧ Wr h h' a j.toNatClampNeg (.ref y) ∧ Arv Z h' a k ty n (vs.set i (.ref y)) d ∧ ∀ t, Steps p.tables e below (T'.setTop { g with pc := g.pc + 1, stack := rest }) t → Steps p.tables e below (T.setTop g) t := by
  obtain ⟨cl, A, q, S, N, H, G⟩ := V
  obtain ⟨T', h', X', e', W', st⟩ := stR X hx hZ eT A (own_idx S q1 q2) hty (Sto.ofV A q O I) (g := g) hg hs hd
  exact ⟨T', h', X', e', W', Arv.set A q S N H G (own_fitR rfl hty) W' i hi hl, st⟩
theorem own_dupx2 (X : Stand p l e R s m args below meth c T locs cells slots) (hx : p.tables.exec = Jvm.exec) {g : JFrame} (hg : g.method = m) {x y z : Value} {rest : List Value} (hd : decode c.code g.pc = .ok (.dup_x2, 1)) (hs : g.stack = x :: y :: z :: rest) (hc : x.category = 1) (hc' : y.category = 1) (hc'' : z.category = 1) (t : State) (kk : Steps p.tables e below (T.setTop { g with pc := g.pc + 1, stack := x :: y :: z :: x :: rest }) t) : Steps p.tables e below (T.setTop g) t := by
  subst hg
  jvm_step X.here [X.here.top, hx, hd, dup_x2.wp_sem, hs, hc, hc', hc'']
  exact kk
end OwnKit
theorem own_lt (x y : Int32) : (x < y) = (x.toInt < y.toInt) := propext Int32.lt_iff_toInt_lt
theorem own_eq (x y : Int32) : (x = y) = (x.toInt = y.toInt) := propext Int32.toInt_inj.symm
def ad (j t x : Int32) : Int32 := if t = j then x + 1 else x
def adL (j t l : Int32) (x : Int64) : Int64 := if t = j then x + l.toInt64 else x
theorem di_0 : decode prog_53_method_1_code 0 = .ok (.aload_n 0, 1) := by decide +kernel
theorem di_1 : decode prog_53_method_1_code 1 = .ok (.invokespecial 1, 3) := by decide +kernel
theorem di_4 : decode prog_53_method_1_code 4 = .ok (.aload_n 0, 1) := by decide +kernel
theorem di_5 : decode prog_53_method_1_code 5 = .ok (.iload_n 1, 1) := by decide +kernel
theorem di_6 : decode prog_53_method_1_code 6 = .ok (.newarray .int, 2) := by decide +kernel
theorem di_8 : decode prog_53_method_1_code 8 = .ok (.putfield 7, 3) := by decide +kernel
theorem di_11 : decode prog_53_method_1_code 11 = .ok (.aload_n 0, 1) := by decide +kernel
theorem di_12 : decode prog_53_method_1_code 12 = .ok (.iload_n 1, 1) := by decide +kernel
theorem di_13 : decode prog_53_method_1_code 13 = .ok (.newarray .long, 2) := by decide +kernel
theorem di_15 : decode prog_53_method_1_code 15 = .ok (.putfield 13, 3) := by decide +kernel
theorem di_18 : decode prog_53_method_1_code 18 = .ok (.return_, 1) := by decide +kernel
theorem pni : plainName "com/example/element_ranker/elementranker/TagStatistics" = true := by first | (simp [plainName, overriddenIn]; done) | decide +kernel
theorem efi (m : MethodId) (x0 : Addr) (x1 : Int32) : entryFrame m #[(.ref x0), (.int x1)] 2 = mkF m 0 #[.val (.ref x0), .val (.int x1)] [] := by first | (simp [entryFrame, mkF, argsToLocals, Value.category, maxLocals]; done) | rfl
def Qi (Z : State) (a : Addr) (h0 : Heap) (n0 : Nat) (v : Option Value) (h : Heap) (L : List Loc) : Prop := ∃ (b : Addr) (kb : ClassId) (d : Addr) (kd : ClassId), v = none ∧ Fr n0 L ∧ Keep h0 h [a] ∧ n0 ≤ b ∧ h0.size ≤ b ∧ n0 ≤ d ∧ h0.size ≤ d ∧ b ≠ d ∧ Exa Z h a "com/example/element_ranker/elementranker/TagStatistics" ∧ Fld Z h a "com/example/element_ranker/elementranker/TagStatistics" "elementCounts" "[I" (.ref b) ∧ Fld Z h a "com/example/element_ranker/elementranker/TagStatistics" "totalLengths" "[J" (.ref d) ∧ Fld Z h a "com/example/element_ranker/elementranker/TagStatistics" "elementCount" "I" (.int (0 : Int32)) ∧ Fld Z h a "com/example/element_ranker/elementranker/TagStatistics" "totalLength" "J" (.long (0 : Int64)) ∧ Arv Z h b kb .int (2 : Int32) [(.int (0 : Int32)), (.int (0 : Int32))] (.int (0 : Int32)) ∧ Arv Z h d kd .long (2 : Int32) [(.long (0 : Int64)), (.long (0 : Int64))] (.long (0 : Int64))
set_option maxRecDepth 65536 in
set_option maxHeartbeats 40000000 in
theorem rmi (l : Launch) (Z : State) (a0 : Array Value) (hw : ∀ d ∈ tables_1, d.before a0 Z = true) (ws : List Jvm.Cond) (a : Addr) (h0 : Heap) (n0 : Nat) (O0 : Old Z n0 h0) (E_a : Exa Z h0 a "com/example/element_ranker/elementranker/TagStatistics") (F_a_elementCounts : Fld Z h0 a "com/example/element_ranker/elementranker/TagStatistics" "elementCounts" "[I" .null) (F_a_totalLengths : Fld Z h0 a "com/example/element_ranker/elementranker/TagStatistics" "totalLengths" "[J" .null) (F_a_elementCount : Fld Z h0 a "com/example/element_ranker/elementranker/TagStatistics" "elementCount" "I" (.int (0 : Int32))) (F_a_totalLength : Fld Z h0 a "com/example/element_ranker/elementranker/TagStatistics" "totalLength" "J" (.long (0 : Int64))) (g_a : n0 ≤ a) :
    MetFree l (⟨"com/example/element_ranker/elementranker/TagStatistics", "<init>", "(I)V"⟩ : MethodName) (head1 (Jvm.Cond.code (⟨"com/example/element_ranker/elementranker/TagStatistics", "<init>", "(I)V"⟩ : MethodName) prog_53_method_1_code 2 none :: ws) ({ frames := 1, cells := 2, slots := 4, locals := 12 } : Room)) (fun A_ U_ => A_ = #[(.ref a), (.int (2 : Int32))] ∧ Z.Warmed39 U_.vm ∧ U_.heap = h0) (fun _ _ _ _ _ => True) (fun _ U o U' => ∃ v L, o = .returned v ∧ Qi Z a h0 n0 v U'.heap L ∧ FrameEnd U o U' L ({ frames := 1, cells := 2, slots := 4, locals := 12 } : Room).cells ({ frames := 1, cells := 2, slots := 4, locals := 12 } : Room).slots) := by
  refine MetFree.of_bodySF (plainFor_of_name pni) hisR ?_
  intro p e s m args below meth cd s₁ Bd hml0 hP hK
  obtain ⟨rfl, hZ, hh⟩ := hP
  have hx := Bd.exec
  have hby := Bd.bytes
  have hlk : meth.locks = false := BodyLoose.notSynchronized Bd
  have hml : cd.maxLocals = 2 := hml0
  have hown : s.vm.findClass "com/example/element_ranker/elementranker/TagStatistics" = some m.cls := findClass_of_methodNamed Bd.named
  have hnm := (name_of_methodNamed Bd.named Bd.method).1
  have X0 : Stand p l e ({ frames := 1, cells := 2, slots := 4, locals := 12 } : Room) s m #[(.ref a), (.int (2 : Int32))] below meth cd s₁ [] 0 0 := Stand.of_body Bd
  have e0 : s₁.heap = h0 := by rw [← hh, Bd.state]; rfl
  have N0 := Fr.nil n0
  have K0 : Keep h0 h0 [a] := Keep.refl _ _
  have G : Go p e below s 2 4 (Qi Z a h0 n0) (s₁.setTop (mkF m 0 #[.val (.ref a), .val (.int (2 : Int32))] [])) := by
    show Go p e below s _ _ _ (s₁.setTop (mkF m 0 #[.val (.ref a), .val (.int (2 : Int32))] []))
    refine Go.st (fun _ kq_ => XS.aloadN X0.here hx rfl (hb hby di_0) rfl rfl kq_) ?_
    show Go p e below s _ _ _ (s₁.setTop (mkF m 1 #[.val (.ref a), .val (.int (2 : Int32))] [(.ref a)]))
    obtain ⟨T1, X1, e1, st1⟩ := initO X0 hx hZ hown (own_w hw 6 rfl) (own_w hw 7 rfl) (own_w hw 8 rfl) e0 (g := (mkF m 1 #[.val (.ref a), .val (.int (2 : Int32))] [(.ref a)])) rfl (by rw [hml]; rfl) rfl (hb hby di_1) (by decide) (W := 0) (by show 2 * 0 + _ ≤ _; exact Nat.le_of_eq rfl) (by decide)
    refine Go.st st1 ?_
    show Go p e below s _ _ _ (T1.setTop (mkF m 4 #[.val (.ref a), .val (.int (2 : Int32))] []))
    refine Go.st (fun _ kq_ => XS.aloadN X1.here hx rfl (hb hby di_4) rfl rfl kq_) ?_
    show Go p e below s _ _ _ (T1.setTop (mkF m 5 #[.val (.ref a), .val (.int (2 : Int32))] [(.ref a)]))
    refine Go.st (fun _ kq_ => XS.iloadN X1.here hx rfl (hb hby di_5) rfl kq_) ?_
    show Go p e below s _ _ _ (T1.setTop (mkF m 6 #[.val (.ref a), .val (.int (2 : Int32))] [(.int (2 : Int32)), (.ref a)]))
    obtain ⟨T2, h2, k2, X2, e2, E2, A2, st2⟩ := newP X1 hx hZ (own_w hw 9 rfl) e1 (g := (mkF m 6 #[.val (.ref a), .val (.int (2 : Int32))] [(.int (2 : Int32)), (.ref a)])) rfl (hb hby di_6) rfl (by decide) (cap := 2) (by decide) (by decide) (by decide) (by decide)
    obtain ⟨b2, g2⟩ : ∃ z, z = h0.size := ⟨_, rfl⟩
    rw [← g2] at A2 st2
    have g_b2 : n0 ≤ b2 := Nat.le_trans (own_old O0) (Nat.le_of_eq g2.symm)
    have sz_b2 : h0.size ≤ b2 := Nat.le_trans K0.1 (Nat.le_of_eq g2.symm)
    have ne_a_b2 : a ≠ b2 := by rw [g2]; exact Nat.ne_of_lt E_a.lt
    have E_a := E_a.ext E2
    have F_a_elementCounts := F_a_elementCounts.ext E2
    have F_a_totalLengths := F_a_totalLengths.ext E2
    have F_a_elementCount := F_a_elementCount.ext E2
    have F_a_totalLength := F_a_totalLength.ext E2
    have O2 := O0.ext E2
    have K2 := K0.ext E2
    have V_b2 : Arv Z h2 b2 k2 .int (2 : Int32) [(.int (0 : Int32)), (.int (0 : Int32))] (.int (0 : Int32)) := (Arv.new A2 (by decide)).pad (pad_rep [] (.int (0 : Int32)) 2)
    refine Go.st st2 ?_
    show Go p e below s _ _ _ (T2.setTop (mkF m 8 #[.val (.ref a), .val (.int (2 : Int32))] [(.ref b2), (.ref a)]))
    obtain ⟨T3, h3, X3, e3, W3, st3⟩ := putF X2 hx hZ hown (host := "") (Or.inl (own_w hw 10 rfl)) Via.refl e2 F_a_elementCounts E_a (Or.inr ⟨(own_w hw 11 rfl), rfl, hnm⟩) (own_w hw 1 rfl) (ty := (.array .int)) (by decide) rfl rfl (g := (mkF m 8 #[.val (.ref a), .val (.int (2 : Int32))] [(.ref b2), (.ref a)])) rfl rfl (hb hby di_8)
    have N3 := Fr.snoc X3 N0 g_a
    have O3 := O2.wr W3 g_a
    have K3 := K2.wr W3 (Or.inl (List.mem_of_getElem? (i := 0) rfl))
    have E_a := E_a.wr W3
    have F_a_totalLengths := F_a_totalLengths.other W3 (Or.inr (slot_ne (Or.inr (own_w hw 14 rfl)) (Or.inr (own_w hw 11 rfl)) (by decide) (by decide : parseFieldDescriptor "[J" = some (.array .long)) (by decide : parseFieldDescriptor "[I" = some (.array .int))))
    have F_a_elementCount := F_a_elementCount.other W3 (Or.inr (slot_ne (Or.inl (own_w hw 21 rfl)) (Or.inr (own_w hw 11 rfl)) (by decide) (by decide : parseFieldDescriptor "I" = some .int) (by decide : parseFieldDescriptor "[I" = some (.array .int))))
    have F_a_totalLength := F_a_totalLength.other W3 (Or.inr (slot_ne (Or.inl (own_w hw 23 rfl)) (Or.inr (own_w hw 11 rfl)) (by decide) (by decide : parseFieldDescriptor "J" = some .long) (by decide : parseFieldDescriptor "[I" = some (.array .int))))
    have V_b2 := V_b2.other W3 (Ne.symm ne_a_b2)
    have F_a_elementCounts := F_a_elementCounts.same W3
    refine Go.st st3 ?_
    show Go p e below s _ _ _ (T3.setTop (mkF m 11 #[.val (.ref a), .val (.int (2 : Int32))] []))
    refine Go.st (fun _ kq_ => XS.aloadN X3.here hx rfl (hb hby di_11) rfl rfl kq_) ?_
    show Go p e below s _ _ _ (T3.setTop (mkF m 12 #[.val (.ref a), .val (.int (2 : Int32))] [(.ref a)]))
    refine Go.st (fun _ kq_ => XS.iloadN X3.here hx rfl (hb hby di_12) rfl kq_) ?_
    show Go p e below s _ _ _ (T3.setTop (mkF m 13 #[.val (.ref a), .val (.int (2 : Int32))] [(.int (2 : Int32)), (.ref a)]))
    obtain ⟨T4, h4, k4, X4, e4, E4, A4, st4⟩ := newP X3 hx hZ (own_w hw 12 rfl) e3 (g := (mkF m 13 #[.val (.ref a), .val (.int (2 : Int32))] [(.int (2 : Int32)), (.ref a)])) rfl (hb hby di_13) rfl (by decide) (cap := 2) (by decide) (by decide) (by decide) (by decide)
    obtain ⟨b4, g4⟩ : ∃ z, z = h3.size := ⟨_, rfl⟩
    rw [← g4] at A4 st4
    have g_b4 : n0 ≤ b4 := Nat.le_trans (own_old O3) (Nat.le_of_eq g4.symm)
    have sz_b4 : h0.size ≤ b4 := Nat.le_trans K3.1 (Nat.le_of_eq g4.symm)
    have ne_a_b4 : a ≠ b4 := by rw [g4]; exact Nat.ne_of_lt E_a.lt
    have ne_b2_b4 : b2 ≠ b4 := by rw [g4]; exact Nat.ne_of_lt V_b2.lt
    have E_a := E_a.ext E4
    have F_a_elementCounts := F_a_elementCounts.ext E4
    have F_a_totalLengths := F_a_totalLengths.ext E4
    have F_a_elementCount := F_a_elementCount.ext E4
    have F_a_totalLength := F_a_totalLength.ext E4
    have V_b2 := V_b2.ext E4
    have O4 := O3.ext E4
    have K4 := K3.ext E4
    have V_b4 : Arv Z h4 b4 k4 .long (2 : Int32) [(.long (0 : Int64)), (.long (0 : Int64))] (.long (0 : Int64)) := (Arv.new A4 (by decide)).pad (pad_rep [] (.long (0 : Int64)) 2)
    refine Go.st st4 ?_
    show Go p e below s _ _ _ (T4.setTop (mkF m 15 #[.val (.ref a), .val (.int (2 : Int32))] [(.ref b4), (.ref a)]))
    obtain ⟨T5, h5, X5, e5, W5, st5⟩ := putF X4 hx hZ hown (host := "") (Or.inl (own_w hw 13 rfl)) Via.refl e4 F_a_totalLengths E_a (Or.inr ⟨(own_w hw 14 rfl), rfl, hnm⟩) (own_w hw 1 rfl) (ty := (.array .long)) (by decide) rfl rfl (g := (mkF m 15 #[.val (.ref a), .val (.int (2 : Int32))] [(.ref b4), (.ref a)])) rfl rfl (hb hby di_15)
    have N5 := Fr.snoc X5 N3 g_a
    have O5 := O4.wr W5 g_a
    have K5 := K4.wr W5 (Or.inl (List.mem_of_getElem? (i := 0) rfl))
    have E_a := E_a.wr W5
    have F_a_elementCounts := F_a_elementCounts.other W5 (Or.inr (slot_ne (Or.inr (own_w hw 11 rfl)) (Or.inr (own_w hw 14 rfl)) (by decide) (by decide : parseFieldDescriptor "[I" = some (.array .int)) (by decide : parseFieldDescriptor "[J" = some (.array .long))))
    have F_a_elementCount := F_a_elementCount.other W5 (Or.inr (slot_ne (Or.inl (own_w hw 21 rfl)) (Or.inr (own_w hw 14 rfl)) (by decide) (by decide : parseFieldDescriptor "I" = some .int) (by decide : parseFieldDescriptor "[J" = some (.array .long))))
    have F_a_totalLength := F_a_totalLength.other W5 (Or.inr (slot_ne (Or.inl (own_w hw 23 rfl)) (Or.inr (own_w hw 14 rfl)) (by decide) (by decide : parseFieldDescriptor "J" = some .long) (by decide : parseFieldDescriptor "[J" = some (.array .long))))
    have V_b2 := V_b2.other W5 (Ne.symm ne_a_b2)
    have V_b4 := V_b4.other W5 (Ne.symm ne_a_b4)
    have F_a_totalLengths := F_a_totalLengths.same W5
    refine Go.st st5 ?_
    show Go p e below s _ _ _ (T5.setTop (mkF m 18 #[.val (.ref a), .val (.int (2 : Int32))] []))
    exact Go.ret X5 hlk (none) (fun _ => rfl) (by rw [e5]; exact ⟨b2, _, b4, _, rfl, N5, K5, g_b2, sz_b2, g_b4, sz_b4, ne_b2_b4, E_a, F_a_elementCounts, F_a_totalLengths, F_a_elementCount, F_a_totalLength, V_b2, V_b4⟩) (by decide) (by decide) (fun fs hr => X5.returnOut hx Bd.returns (hb hby di_18) hr)
  obtain ⟨s2, o2, st2, r2⟩ := G
  exact ⟨s2, o2, castTop (efi m a (2 : Int32)) st2, r2⟩
theorem own_N {k : Int32} (h : ¬ k < 0 ∧ k < 2) : k = 0 ∨ k = 1 := by
  simp only [own_lt, own_eq, Int32.reduceToInt] at h ⊢
  omega
theorem da_0 : decode prog_53_method_2_code 0 = .ok (.aload_n 0, 1) := by decide +kernel
theorem da_1 : decode prog_53_method_2_code 1 = .ok (.getfield 7, 3) := by decide +kernel
theorem da_4 : decode prog_53_method_2_code 4 = .ok (.iload_n 1, 1) := by decide +kernel
theorem da_5 : decode prog_53_method_2_code 5 = .ok (.dup2, 1) := by decide +kernel
theorem da_6 : decode prog_53_method_2_code 6 = .ok (.iaload, 1) := by decide +kernel
theorem da_7 : decode prog_53_method_2_code 7 = .ok (.iconst 1, 1) := by decide +kernel
theorem da_8 : decode prog_53_method_2_code 8 = .ok (.iadd, 1) := by decide +kernel
theorem da_9 : decode prog_53_method_2_code 9 = .ok (.iastore, 1) := by decide +kernel
theorem da_10 : decode prog_53_method_2_code 10 = .ok (.aload_n 0, 1) := by decide +kernel
theorem da_11 : decode prog_53_method_2_code 11 = .ok (.getfield 13, 3) := by decide +kernel
theorem da_14 : decode prog_53_method_2_code 14 = .ok (.iload_n 1, 1) := by decide +kernel
theorem da_15 : decode prog_53_method_2_code 15 = .ok (.dup2, 1) := by decide +kernel
theorem da_16 : decode prog_53_method_2_code 16 = .ok (.laload, 1) := by decide +kernel
theorem da_17 : decode prog_53_method_2_code 17 = .ok (.iload_n 2, 1) := by decide +kernel
theorem da_18 : decode prog_53_method_2_code 18 = .ok (.i2l, 1) := by decide +kernel
theorem da_19 : decode prog_53_method_2_code 19 = .ok (.ladd, 1) := by decide +kernel
theorem da_20 : decode prog_53_method_2_code 20 = .ok (.lastore, 1) := by decide +kernel
theorem da_21 : decode prog_53_method_2_code 21 = .ok (.aload_n 0, 1) := by decide +kernel
theorem da_22 : decode prog_53_method_2_code 22 = .ok (.dup, 1) := by decide +kernel
theorem da_23 : decode prog_53_method_2_code 23 = .ok (.getfield 17, 3) := by decide +kernel
theorem da_26 : decode prog_53_method_2_code 26 = .ok (.iconst 1, 1) := by decide +kernel
theorem da_27 : decode prog_53_method_2_code 27 = .ok (.iadd, 1) := by decide +kernel
theorem da_28 : decode prog_53_method_2_code 28 = .ok (.putfield 17, 3) := by decide +kernel
theorem da_31 : decode prog_53_method_2_code 31 = .ok (.aload_n 0, 1) := by decide +kernel
theorem da_32 : decode prog_53_method_2_code 32 = .ok (.dup, 1) := by decide +kernel
theorem da_33 : decode prog_53_method_2_code 33 = .ok (.getfield 21, 3) := by decide +kernel
theorem da_36 : decode prog_53_method_2_code 36 = .ok (.iload_n 2, 1) := by decide +kernel
theorem da_37 : decode prog_53_method_2_code 37 = .ok (.i2l, 1) := by decide +kernel
theorem da_38 : decode prog_53_method_2_code 38 = .ok (.ladd, 1) := by decide +kernel
theorem da_39 : decode prog_53_method_2_code 39 = .ok (.putfield 21, 3) := by decide +kernel
theorem da_42 : decode prog_53_method_2_code 42 = .ok (.return_, 1) := by decide +kernel
theorem pna : plainName "com/example/element_ranker/elementranker/TagStatistics" = true := by first | (simp [plainName, overriddenIn]; done) | decide +kernel
theorem efa (m : MethodId) (x0 : Addr) (x1 : Int32) (x2 : Int32) : entryFrame m #[(.ref x0), (.int x1), (.int x2)] 3 = mkF m 0 #[.val (.ref x0), .val (.int x1), .val (.int x2)] [] := by first | (simp [entryFrame, mkF, argsToLocals, Value.category, maxLocals]; done) | rfl
def Qa (Z : State) (a : Addr) (b : Addr) (kb : ClassId) (d : Addr) (kd : ClassId) (x0 : Int32) (x1 : Int32) (y0 : Int64) (y1 : Int64) (cn : Int32) (tl : Int64) (p1 : Int32) (p2 : Int32) (h0 : Heap) (n0 : Nat) (v : Option Value) (h : Heap) (L : List Loc) : Prop := v = none ∧ Fr n0 L ∧ Keep h0 h [a, b, d] ∧ Exa Z h a "com/example/element_ranker/elementranker/TagStatistics" ∧ Fld Z h a "com/example/element_ranker/elementranker/TagStatistics" "elementCounts" "[I" (.ref b) ∧ Fld Z h a "com/example/element_ranker/elementranker/TagStatistics" "totalLengths" "[J" (.ref d) ∧ Fld Z h a "com/example/element_ranker/elementranker/TagStatistics" "elementCount" "I" (.int (cn + (1 : Int32))) ∧ Fld Z h a "com/example/element_ranker/elementranker/TagStatistics" "totalLength" "J" (.long (tl + p2.toInt64)) ∧ Arv Z h b kb .int (2 : Int32) [(.int (ad 0 p1 x0)), (.int (ad 1 p1 x1))] (.int (0 : Int32)) ∧ Arv Z h d kd .long (2 : Int32) [(.long (adL 0 p1 p2 y0)), (.long (adL 1 p1 p2 y1))] (.long (0 : Int64))
set_option maxRecDepth 65536 in
set_option maxHeartbeats 40000000 in
theorem rma (l : Launch) (Z : State) (a0 : Array Value) (hw : ∀ d ∈ tables_1, d.before a0 Z = true) (ws : List Jvm.Cond) (a : Addr) (b : Addr) (kb : ClassId) (d : Addr) (kd : ClassId) (x0 : Int32) (x1 : Int32) (y0 : Int64) (y1 : Int64) (cn : Int32) (tl : Int64) (p1 : Int32) (p2 : Int32) (h0 : Heap) (n0 : Nat) (O0 : Old Z n0 h0) (E_a : Exa Z h0 a "com/example/element_ranker/elementranker/TagStatistics") (F_a_elementCounts : Fld Z h0 a "com/example/element_ranker/elementranker/TagStatistics" "elementCounts" "[I" (.ref b)) (F_a_totalLengths : Fld Z h0 a "com/example/element_ranker/elementranker/TagStatistics" "totalLengths" "[J" (.ref d)) (F_a_elementCount : Fld Z h0 a "com/example/element_ranker/elementranker/TagStatistics" "elementCount" "I" (.int cn)) (F_a_totalLength : Fld Z h0 a "com/example/element_ranker/elementranker/TagStatistics" "totalLength" "J" (.long tl)) (V_b : Arv Z h0 b kb .int (2 : Int32) [(.int x0), (.int x1)] (.int (0 : Int32))) (V_d : Arv Z h0 d kd .long (2 : Int32) [(.long y0), (.long y1)] (.long (0 : Int64))) (ga : n0 ≤ a) (gb : n0 ≤ b) (gd : n0 ≤ d) (nab : a ≠ b) (nad : a ≠ d) (nbd : b ≠ d) (hp : ¬ p1 < 0 ∧ p1 < 2) :
    MetFree l (⟨"com/example/element_ranker/elementranker/TagStatistics", "add", "(II)V"⟩ : MethodName) (head1 (Jvm.Cond.code (⟨"com/example/element_ranker/elementranker/TagStatistics", "add", "(II)V"⟩ : MethodName) prog_53_method_2_code 3 none :: ws) ({ frames := 0, cells := 0, slots := 0, locals := 0 } : Room)) (fun A_ U_ => A_ = #[(.ref a), (.int p1), (.int p2)] ∧ Z.Warmed39 U_.vm ∧ U_.heap = h0) (fun _ _ _ _ _ => True) (fun _ U o U' => ∃ v L, o = .returned v ∧ Qa Z a b kb d kd x0 x1 y0 y1 cn tl p1 p2 h0 n0 v U'.heap L ∧ FrameEnd U o U' L ({ frames := 0, cells := 0, slots := 0, locals := 0 } : Room).cells ({ frames := 0, cells := 0, slots := 0, locals := 0 } : Room).slots) := by
  refine MetFree.of_bodySF (plainFor_of_name pna) hisR ?_
  intro p e s m args below meth cd s₁ Bd hml0 hP hK
  obtain ⟨rfl, hZ, hh⟩ := hP
  have hx := Bd.exec
  have hby := Bd.bytes
  have hlk : meth.locks = false := BodyLoose.notSynchronized Bd
  have hml : cd.maxLocals = 3 := hml0
  have hown : s.vm.findClass "com/example/element_ranker/elementranker/TagStatistics" = some m.cls := findClass_of_methodNamed Bd.named
  have hnm := (name_of_methodNamed Bd.named Bd.method).1
  have X0 : Stand p l e ({ frames := 0, cells := 0, slots := 0, locals := 0 } : Room) s m #[(.ref a), (.int p1), (.int p2)] below meth cd s₁ [] 0 0 := Stand.of_body Bd
  have e0 : s₁.heap = h0 := by rw [← hh, Bd.state]; rfl
  have N0 := Fr.nil n0
  have K0 : Keep h0 h0 [a, b, d] := Keep.refl _ _
  have G : Go p e below s 0 0 (Qa Z a b kb d kd x0 x1 y0 y1 cn tl p1 p2 h0 n0) (s₁.setTop (mkF m 0 #[.val (.ref a), .val (.int p1), .val (.int p2)] [])) := by
    show Go p e below s _ _ _ (s₁.setTop (mkF m 0 #[.val (.ref a), .val (.int p1), .val (.int p2)] []))
    rcases own_N hp with rfl | rfl
    · show Go p e below s _ _ _ (s₁.setTop (mkF m 0 #[.val (.ref a), .val (.int (0 : Int32)), .val (.int p2)] []))
      refine Go.st (fun _ kq_ => XS.aloadN X0.here hx rfl (hb hby da_0) rfl rfl kq_) ?_
      show Go p e below s _ _ _ (s₁.setTop (mkF m 1 #[.val (.ref a), .val (.int (0 : Int32)), .val (.int p2)] [(.ref a)]))
      obtain ⟨T1, X1, e1, st1⟩ := getF X0 hx hZ hown (host := "") (Or.inl (own_w hw 10 rfl)) Via.refl e0 F_a_elementCounts (g := (mkF m 1 #[.val (.ref a), .val (.int (0 : Int32)), .val (.int p2)] [(.ref a)])) rfl rfl (hb hby da_1)
      refine Go.st st1 ?_
      show Go p e below s _ _ _ (T1.setTop (mkF m 4 #[.val (.ref a), .val (.int (0 : Int32)), .val (.int p2)] [(.ref b)]))
      refine Go.st (fun _ kq_ => XS.iloadN X1.here hx rfl (hb hby da_4) rfl kq_) ?_
      show Go p e below s _ _ _ (T1.setTop (mkF m 5 #[.val (.ref a), .val (.int (0 : Int32)), .val (.int p2)] [(.int (0 : Int32)), (.ref b)]))
      refine Go.st (fun _ kq_ => XT.dup2 X1.here hx rfl (hb hby da_5) rfl rfl rfl kq_) ?_
      show Go p e below s _ _ _ (T1.setTop (mkF m 6 #[.val (.ref a), .val (.int (0 : Int32)), .val (.int p2)] [(.int (0 : Int32)), (.ref b), (.int (0 : Int32)), (.ref b)]))
      refine Go.st (fun _ kq_ => own_iaload X1 hx hZ e1 V_b (by decide) (by decide) (v := (.int x0)) rfl (g := (mkF m 6 #[.val (.ref a), .val (.int (0 : Int32)), .val (.int p2)] [(.int (0 : Int32)), (.ref b), (.int (0 : Int32)), (.ref b)])) rfl rfl (hb hby da_6) _ kq_) ?_
      show Go p e below s _ _ _ (T1.setTop (mkF m 7 #[.val (.ref a), .val (.int (0 : Int32)), .val (.int p2)] [(.int x0), (.int (0 : Int32)), (.ref b)]))
      refine Go.st (fun _ kq_ => XS.iconst X1.here hx rfl (hb hby da_7) kq_) ?_
      show Go p e below s _ _ _ (T1.setTop (mkF m 8 #[.val (.ref a), .val (.int (0 : Int32)), .val (.int p2)] [(.int (1 : Int32)), (.int x0), (.int (0 : Int32)), (.ref b)]))
      refine Go.st (fun _ kq_ => XS.iadd X1.here hx rfl (hb hby da_8) rfl kq_) ?_
      show Go p e below s _ _ _ (T1.setTop (mkF m 9 #[.val (.ref a), .val (.int (0 : Int32)), .val (.int p2)] [(.int (x0 + (1 : Int32))), (.int (0 : Int32)), (.ref b)]))
      obtain ⟨T2, h2, X2, e2, W2, V2, st2⟩ := own_stI X1 hx hZ e1 V_b (j := (0 : Int32)) (by decide) (by decide) 0 rfl (Nat.le_of_ble_eq_true rfl) (g := (mkF m 9 #[.val (.ref a), .val (.int (0 : Int32)), .val (.int p2)] [(.int (x0 + (1 : Int32))), (.int (0 : Int32)), (.ref b)])) rfl rfl (hb hby da_9)
      have N2 := Fr.snoc X2 N0 gb
      have O2 := O0.wr W2 gb
      have K2 := K0.wr W2 (Or.inl (List.mem_of_getElem? (i := 1) rfl))
      have E_a := E_a.wr W2
      have F_a_elementCounts := F_a_elementCounts.other W2 (Or.inl nab)
      have F_a_totalLengths := F_a_totalLengths.other W2 (Or.inl nab)
      have F_a_elementCount := F_a_elementCount.other W2 (Or.inl nab)
      have F_a_totalLength := F_a_totalLength.other W2 (Or.inl nab)
      have V_d := V_d.other W2 (Ne.symm nbd)
      have V_b : Arv Z h2 b kb .int (2 : Int32) [(.int (x0 + (1 : Int32))), (.int x1)] (.int (0 : Int32)) := V2
      refine Go.st st2 ?_
      show Go p e below s _ _ _ (T2.setTop (mkF m 10 #[.val (.ref a), .val (.int (0 : Int32)), .val (.int p2)] []))
      refine Go.st (fun _ kq_ => XS.aloadN X2.here hx rfl (hb hby da_10) rfl rfl kq_) ?_
      show Go p e below s _ _ _ (T2.setTop (mkF m 11 #[.val (.ref a), .val (.int (0 : Int32)), .val (.int p2)] [(.ref a)]))
      obtain ⟨T3, X3, e3, st3⟩ := getF X2 hx hZ hown (host := "") (Or.inl (own_w hw 13 rfl)) Via.refl e2 F_a_totalLengths (g := (mkF m 11 #[.val (.ref a), .val (.int (0 : Int32)), .val (.int p2)] [(.ref a)])) rfl rfl (hb hby da_11)
      refine Go.st st3 ?_
      show Go p e below s _ _ _ (T3.setTop (mkF m 14 #[.val (.ref a), .val (.int (0 : Int32)), .val (.int p2)] [(.ref d)]))
      refine Go.st (fun _ kq_ => XS.iloadN X3.here hx rfl (hb hby da_14) rfl kq_) ?_
      show Go p e below s _ _ _ (T3.setTop (mkF m 15 #[.val (.ref a), .val (.int (0 : Int32)), .val (.int p2)] [(.int (0 : Int32)), (.ref d)]))
      refine Go.st (fun _ kq_ => XT.dup2 X3.here hx rfl (hb hby da_15) rfl rfl rfl kq_) ?_
      show Go p e below s _ _ _ (T3.setTop (mkF m 16 #[.val (.ref a), .val (.int (0 : Int32)), .val (.int p2)] [(.int (0 : Int32)), (.ref d), (.int (0 : Int32)), (.ref d)]))
      refine Go.st (fun _ kq_ => own_laload X3 hx hZ e3 V_d (by decide) (by decide) (v := (.long y0)) rfl (g := (mkF m 16 #[.val (.ref a), .val (.int (0 : Int32)), .val (.int p2)] [(.int (0 : Int32)), (.ref d), (.int (0 : Int32)), (.ref d)])) rfl rfl (hb hby da_16) _ kq_) ?_
      show Go p e below s _ _ _ (T3.setTop (mkF m 17 #[.val (.ref a), .val (.int (0 : Int32)), .val (.int p2)] [(.long y0), (.int (0 : Int32)), (.ref d)]))
      refine Go.st (fun _ kq_ => XS.iloadN X3.here hx rfl (hb hby da_17) rfl kq_) ?_
      show Go p e below s _ _ _ (T3.setTop (mkF m 18 #[.val (.ref a), .val (.int (0 : Int32)), .val (.int p2)] [(.int p2), (.long y0), (.int (0 : Int32)), (.ref d)]))
      refine Go.st (fun _ kq_ => XT.i2l X3.here hx rfl (hb hby da_18) rfl kq_) ?_
      show Go p e below s _ _ _ (T3.setTop (mkF m 19 #[.val (.ref a), .val (.int (0 : Int32)), .val (.int p2)] [(.long (p2.toInt64)), (.long y0), (.int (0 : Int32)), (.ref d)]))
      refine Go.st (fun _ kq_ => XT.ladd X3.here hx rfl (hb hby da_19) rfl kq_) ?_
      show Go p e below s _ _ _ (T3.setTop (mkF m 20 #[.val (.ref a), .val (.int (0 : Int32)), .val (.int p2)] [(.long (y0 + (p2.toInt64))), (.int (0 : Int32)), (.ref d)]))
      obtain ⟨T4, h4, X4, e4, W4, V4, st4⟩ := own_stJ X3 hx hZ e3 V_d (j := (0 : Int32)) (by decide) (by decide) 0 rfl (Nat.le_of_ble_eq_true rfl) (g := (mkF m 20 #[.val (.ref a), .val (.int (0 : Int32)), .val (.int p2)] [(.long (y0 + (p2.toInt64))), (.int (0 : Int32)), (.ref d)])) rfl rfl (hb hby da_20)
      have N4 := Fr.snoc X4 N2 gd
      have O4 := O2.wr W4 gd
      have K4 := K2.wr W4 (Or.inl (List.mem_of_getElem? (i := 2) rfl))
      have E_a := E_a.wr W4
      have F_a_elementCounts := F_a_elementCounts.other W4 (Or.inl nad)
      have F_a_totalLengths := F_a_totalLengths.other W4 (Or.inl nad)
      have F_a_elementCount := F_a_elementCount.other W4 (Or.inl nad)
      have F_a_totalLength := F_a_totalLength.other W4 (Or.inl nad)
      have V_b := V_b.other W4 nbd
      have V_d : Arv Z h4 d kd .long (2 : Int32) [(.long (y0 + (p2.toInt64))), (.long y1)] (.long (0 : Int64)) := V4
      refine Go.st st4 ?_
      show Go p e below s _ _ _ (T4.setTop (mkF m 21 #[.val (.ref a), .val (.int (0 : Int32)), .val (.int p2)] []))
      refine Go.st (fun _ kq_ => XS.aloadN X4.here hx rfl (hb hby da_21) rfl rfl kq_) ?_
      show Go p e below s _ _ _ (T4.setTop (mkF m 22 #[.val (.ref a), .val (.int (0 : Int32)), .val (.int p2)] [(.ref a)]))
      refine Go.st (fun _ kq_ => XS.dup X4.here hx rfl (hb hby da_22) rfl rfl kq_) ?_
      show Go p e below s _ _ _ (T4.setTop (mkF m 23 #[.val (.ref a), .val (.int (0 : Int32)), .val (.int p2)] [(.ref a), (.ref a)]))
      obtain ⟨T5, X5, e5, st5⟩ := getF X4 hx hZ hown (host := "") (Or.inl (own_w hw 20 rfl)) Via.refl e4 F_a_elementCount (g := (mkF m 23 #[.val (.ref a), .val (.int (0 : Int32)), .val (.int p2)] [(.ref a), (.ref a)])) rfl rfl (hb hby da_23)
      refine Go.st st5 ?_
      show Go p e below s _ _ _ (T5.setTop (mkF m 26 #[.val (.ref a), .val (.int (0 : Int32)), .val (.int p2)] [(.int cn), (.ref a)]))
      refine Go.st (fun _ kq_ => XS.iconst X5.here hx rfl (hb hby da_26) kq_) ?_
      show Go p e below s _ _ _ (T5.setTop (mkF m 27 #[.val (.ref a), .val (.int (0 : Int32)), .val (.int p2)] [(.int (1 : Int32)), (.int cn), (.ref a)]))
      refine Go.st (fun _ kq_ => XS.iadd X5.here hx rfl (hb hby da_27) rfl kq_) ?_
      show Go p e below s _ _ _ (T5.setTop (mkF m 28 #[.val (.ref a), .val (.int (0 : Int32)), .val (.int p2)] [(.int (cn + (1 : Int32))), (.ref a)]))
      obtain ⟨T6, h6, X6, e6, W6, st6⟩ := putF X5 hx hZ hown (host := "") (Or.inl (own_w hw 20 rfl)) Via.refl e5 F_a_elementCount E_a (Or.inl (own_w hw 21 rfl)) (own_w hw 1 rfl) (ty := .int) (by decide) rfl rfl (g := (mkF m 28 #[.val (.ref a), .val (.int (0 : Int32)), .val (.int p2)] [(.int (cn + (1 : Int32))), (.ref a)])) rfl rfl (hb hby da_28)
      have N6 := Fr.snoc X6 N4 ga
      have O6 := O4.wr W6 ga
      have K6 := K4.wr W6 (Or.inl (List.mem_of_getElem? (i := 0) rfl))
      have E_a := E_a.wr W6
      have F_a_elementCounts := F_a_elementCounts.other W6 (Or.inr (slot_ne (Or.inr (own_w hw 11 rfl)) (Or.inl (own_w hw 21 rfl)) (by decide) (by decide : parseFieldDescriptor "[I" = some (.array .int)) (by decide : parseFieldDescriptor "I" = some .int)))
      have F_a_totalLengths := F_a_totalLengths.other W6 (Or.inr (slot_ne (Or.inr (own_w hw 14 rfl)) (Or.inl (own_w hw 21 rfl)) (by decide) (by decide : parseFieldDescriptor "[J" = some (.array .long)) (by decide : parseFieldDescriptor "I" = some .int)))
      have F_a_totalLength := F_a_totalLength.other W6 (Or.inr (slot_ne (Or.inl (own_w hw 23 rfl)) (Or.inl (own_w hw 21 rfl)) (by decide) (by decide : parseFieldDescriptor "J" = some .long) (by decide : parseFieldDescriptor "I" = some .int)))
      have V_b := V_b.other W6 (Ne.symm nab)
      have V_d := V_d.other W6 (Ne.symm nad)
      have F_a_elementCount := F_a_elementCount.same W6
      refine Go.st st6 ?_
      show Go p e below s _ _ _ (T6.setTop (mkF m 31 #[.val (.ref a), .val (.int (0 : Int32)), .val (.int p2)] []))
      refine Go.st (fun _ kq_ => XS.aloadN X6.here hx rfl (hb hby da_31) rfl rfl kq_) ?_
      show Go p e below s _ _ _ (T6.setTop (mkF m 32 #[.val (.ref a), .val (.int (0 : Int32)), .val (.int p2)] [(.ref a)]))
      refine Go.st (fun _ kq_ => XS.dup X6.here hx rfl (hb hby da_32) rfl rfl kq_) ?_
      show Go p e below s _ _ _ (T6.setTop (mkF m 33 #[.val (.ref a), .val (.int (0 : Int32)), .val (.int p2)] [(.ref a), (.ref a)]))
      obtain ⟨T7, X7, e7, st7⟩ := getF X6 hx hZ hown (host := "") (Or.inl (own_w hw 22 rfl)) Via.refl e6 F_a_totalLength (g := (mkF m 33 #[.val (.ref a), .val (.int (0 : Int32)), .val (.int p2)] [(.ref a), (.ref a)])) rfl rfl (hb hby da_33)
      refine Go.st st7 ?_
      show Go p e below s _ _ _ (T7.setTop (mkF m 36 #[.val (.ref a), .val (.int (0 : Int32)), .val (.int p2)] [(.long tl), (.ref a)]))
      refine Go.st (fun _ kq_ => XS.iloadN X7.here hx rfl (hb hby da_36) rfl kq_) ?_
      show Go p e below s _ _ _ (T7.setTop (mkF m 37 #[.val (.ref a), .val (.int (0 : Int32)), .val (.int p2)] [(.int p2), (.long tl), (.ref a)]))
      refine Go.st (fun _ kq_ => XT.i2l X7.here hx rfl (hb hby da_37) rfl kq_) ?_
      show Go p e below s _ _ _ (T7.setTop (mkF m 38 #[.val (.ref a), .val (.int (0 : Int32)), .val (.int p2)] [(.long (p2.toInt64)), (.long tl), (.ref a)]))
      refine Go.st (fun _ kq_ => XT.ladd X7.here hx rfl (hb hby da_38) rfl kq_) ?_
      show Go p e below s _ _ _ (T7.setTop (mkF m 39 #[.val (.ref a), .val (.int (0 : Int32)), .val (.int p2)] [(.long (tl + (p2.toInt64))), (.ref a)]))
      obtain ⟨T8, h8, X8, e8, W8, st8⟩ := putF X7 hx hZ hown (host := "") (Or.inl (own_w hw 22 rfl)) Via.refl e7 F_a_totalLength E_a (Or.inl (own_w hw 23 rfl)) (own_w hw 1 rfl) (ty := .long) (by decide) rfl rfl (g := (mkF m 39 #[.val (.ref a), .val (.int (0 : Int32)), .val (.int p2)] [(.long (tl + (p2.toInt64))), (.ref a)])) rfl rfl (hb hby da_39)
      have N8 := Fr.snoc X8 N6 ga
      have O8 := O6.wr W8 ga
      have K8 := K6.wr W8 (Or.inl (List.mem_of_getElem? (i := 0) rfl))
      have E_a := E_a.wr W8
      have F_a_elementCounts := F_a_elementCounts.other W8 (Or.inr (slot_ne (Or.inr (own_w hw 11 rfl)) (Or.inl (own_w hw 23 rfl)) (by decide) (by decide : parseFieldDescriptor "[I" = some (.array .int)) (by decide : parseFieldDescriptor "J" = some .long)))
      have F_a_totalLengths := F_a_totalLengths.other W8 (Or.inr (slot_ne (Or.inr (own_w hw 14 rfl)) (Or.inl (own_w hw 23 rfl)) (by decide) (by decide : parseFieldDescriptor "[J" = some (.array .long)) (by decide : parseFieldDescriptor "J" = some .long)))
      have F_a_elementCount := F_a_elementCount.other W8 (Or.inr (slot_ne (Or.inl (own_w hw 21 rfl)) (Or.inl (own_w hw 23 rfl)) (by decide) (by decide : parseFieldDescriptor "I" = some .int) (by decide : parseFieldDescriptor "J" = some .long)))
      have V_b := V_b.other W8 (Ne.symm nab)
      have V_d := V_d.other W8 (Ne.symm nad)
      have F_a_totalLength := F_a_totalLength.same W8
      refine Go.st st8 ?_
      show Go p e below s _ _ _ (T8.setTop (mkF m 42 #[.val (.ref a), .val (.int (0 : Int32)), .val (.int p2)] []))
      exact Go.ret X8 hlk (none) (fun _ => rfl) (by rw [e8]; exact ⟨rfl, N8, K8, E_a, F_a_elementCounts, F_a_totalLengths, F_a_elementCount, F_a_totalLength, V_b, V_d⟩) (by decide) (by decide) (fun fs hr => X8.returnOut hx Bd.returns (hb hby da_42) hr)
    · show Go p e below s _ _ _ (s₁.setTop (mkF m 0 #[.val (.ref a), .val (.int (1 : Int32)), .val (.int p2)] []))
      refine Go.st (fun _ kq_ => XS.aloadN X0.here hx rfl (hb hby da_0) rfl rfl kq_) ?_
      show Go p e below s _ _ _ (s₁.setTop (mkF m 1 #[.val (.ref a), .val (.int (1 : Int32)), .val (.int p2)] [(.ref a)]))
      obtain ⟨T9, X9, e9, st9⟩ := getF X0 hx hZ hown (host := "") (Or.inl (own_w hw 10 rfl)) Via.refl e0 F_a_elementCounts (g := (mkF m 1 #[.val (.ref a), .val (.int (1 : Int32)), .val (.int p2)] [(.ref a)])) rfl rfl (hb hby da_1)
      refine Go.st st9 ?_
      show Go p e below s _ _ _ (T9.setTop (mkF m 4 #[.val (.ref a), .val (.int (1 : Int32)), .val (.int p2)] [(.ref b)]))
      refine Go.st (fun _ kq_ => XS.iloadN X9.here hx rfl (hb hby da_4) rfl kq_) ?_
      show Go p e below s _ _ _ (T9.setTop (mkF m 5 #[.val (.ref a), .val (.int (1 : Int32)), .val (.int p2)] [(.int (1 : Int32)), (.ref b)]))
      refine Go.st (fun _ kq_ => XT.dup2 X9.here hx rfl (hb hby da_5) rfl rfl rfl kq_) ?_
      show Go p e below s _ _ _ (T9.setTop (mkF m 6 #[.val (.ref a), .val (.int (1 : Int32)), .val (.int p2)] [(.int (1 : Int32)), (.ref b), (.int (1 : Int32)), (.ref b)]))
      refine Go.st (fun _ kq_ => own_iaload X9 hx hZ e9 V_b (by decide) (by decide) (v := (.int x1)) rfl (g := (mkF m 6 #[.val (.ref a), .val (.int (1 : Int32)), .val (.int p2)] [(.int (1 : Int32)), (.ref b), (.int (1 : Int32)), (.ref b)])) rfl rfl (hb hby da_6) _ kq_) ?_
      show Go p e below s _ _ _ (T9.setTop (mkF m 7 #[.val (.ref a), .val (.int (1 : Int32)), .val (.int p2)] [(.int x1), (.int (1 : Int32)), (.ref b)]))
      refine Go.st (fun _ kq_ => XS.iconst X9.here hx rfl (hb hby da_7) kq_) ?_
      show Go p e below s _ _ _ (T9.setTop (mkF m 8 #[.val (.ref a), .val (.int (1 : Int32)), .val (.int p2)] [(.int (1 : Int32)), (.int x1), (.int (1 : Int32)), (.ref b)]))
      refine Go.st (fun _ kq_ => XS.iadd X9.here hx rfl (hb hby da_8) rfl kq_) ?_
      show Go p e below s _ _ _ (T9.setTop (mkF m 9 #[.val (.ref a), .val (.int (1 : Int32)), .val (.int p2)] [(.int (x1 + (1 : Int32))), (.int (1 : Int32)), (.ref b)]))
      obtain ⟨T10, h10, X10, e10, W10, V10, st10⟩ := own_stI X9 hx hZ e9 V_b (j := (1 : Int32)) (by decide) (by decide) 1 rfl (Nat.le_of_ble_eq_true rfl) (g := (mkF m 9 #[.val (.ref a), .val (.int (1 : Int32)), .val (.int p2)] [(.int (x1 + (1 : Int32))), (.int (1 : Int32)), (.ref b)])) rfl rfl (hb hby da_9)
      have N10 := Fr.snoc X10 N0 gb
      have O10 := O0.wr W10 gb
      have K10 := K0.wr W10 (Or.inl (List.mem_of_getElem? (i := 1) rfl))
      have E_a := E_a.wr W10
      have F_a_elementCounts := F_a_elementCounts.other W10 (Or.inl nab)
      have F_a_totalLengths := F_a_totalLengths.other W10 (Or.inl nab)
      have F_a_elementCount := F_a_elementCount.other W10 (Or.inl nab)
      have F_a_totalLength := F_a_totalLength.other W10 (Or.inl nab)
      have V_d := V_d.other W10 (Ne.symm nbd)
      have V_b : Arv Z h10 b kb .int (2 : Int32) [(.int x0), (.int (x1 + (1 : Int32)))] (.int (0 : Int32)) := V10
      refine Go.st st10 ?_
      show Go p e below s _ _ _ (T10.setTop (mkF m 10 #[.val (.ref a), .val (.int (1 : Int32)), .val (.int p2)] []))
      refine Go.st (fun _ kq_ => XS.aloadN X10.here hx rfl (hb hby da_10) rfl rfl kq_) ?_
      show Go p e below s _ _ _ (T10.setTop (mkF m 11 #[.val (.ref a), .val (.int (1 : Int32)), .val (.int p2)] [(.ref a)]))
      obtain ⟨T11, X11, e11, st11⟩ := getF X10 hx hZ hown (host := "") (Or.inl (own_w hw 13 rfl)) Via.refl e10 F_a_totalLengths (g := (mkF m 11 #[.val (.ref a), .val (.int (1 : Int32)), .val (.int p2)] [(.ref a)])) rfl rfl (hb hby da_11)
      refine Go.st st11 ?_
      show Go p e below s _ _ _ (T11.setTop (mkF m 14 #[.val (.ref a), .val (.int (1 : Int32)), .val (.int p2)] [(.ref d)]))
      refine Go.st (fun _ kq_ => XS.iloadN X11.here hx rfl (hb hby da_14) rfl kq_) ?_
      show Go p e below s _ _ _ (T11.setTop (mkF m 15 #[.val (.ref a), .val (.int (1 : Int32)), .val (.int p2)] [(.int (1 : Int32)), (.ref d)]))
      refine Go.st (fun _ kq_ => XT.dup2 X11.here hx rfl (hb hby da_15) rfl rfl rfl kq_) ?_
      show Go p e below s _ _ _ (T11.setTop (mkF m 16 #[.val (.ref a), .val (.int (1 : Int32)), .val (.int p2)] [(.int (1 : Int32)), (.ref d), (.int (1 : Int32)), (.ref d)]))
      refine Go.st (fun _ kq_ => own_laload X11 hx hZ e11 V_d (by decide) (by decide) (v := (.long y1)) rfl (g := (mkF m 16 #[.val (.ref a), .val (.int (1 : Int32)), .val (.int p2)] [(.int (1 : Int32)), (.ref d), (.int (1 : Int32)), (.ref d)])) rfl rfl (hb hby da_16) _ kq_) ?_
      show Go p e below s _ _ _ (T11.setTop (mkF m 17 #[.val (.ref a), .val (.int (1 : Int32)), .val (.int p2)] [(.long y1), (.int (1 : Int32)), (.ref d)]))
      refine Go.st (fun _ kq_ => XS.iloadN X11.here hx rfl (hb hby da_17) rfl kq_) ?_
      show Go p e below s _ _ _ (T11.setTop (mkF m 18 #[.val (.ref a), .val (.int (1 : Int32)), .val (.int p2)] [(.int p2), (.long y1), (.int (1 : Int32)), (.ref d)]))
      refine Go.st (fun _ kq_ => XT.i2l X11.here hx rfl (hb hby da_18) rfl kq_) ?_
      show Go p e below s _ _ _ (T11.setTop (mkF m 19 #[.val (.ref a), .val (.int (1 : Int32)), .val (.int p2)] [(.long (p2.toInt64)), (.long y1), (.int (1 : Int32)), (.ref d)]))
      refine Go.st (fun _ kq_ => XT.ladd X11.here hx rfl (hb hby da_19) rfl kq_) ?_
      show Go p e below s _ _ _ (T11.setTop (mkF m 20 #[.val (.ref a), .val (.int (1 : Int32)), .val (.int p2)] [(.long (y1 + (p2.toInt64))), (.int (1 : Int32)), (.ref d)]))
      obtain ⟨T12, h12, X12, e12, W12, V12, st12⟩ := own_stJ X11 hx hZ e11 V_d (j := (1 : Int32)) (by decide) (by decide) 1 rfl (Nat.le_of_ble_eq_true rfl) (g := (mkF m 20 #[.val (.ref a), .val (.int (1 : Int32)), .val (.int p2)] [(.long (y1 + (p2.toInt64))), (.int (1 : Int32)), (.ref d)])) rfl rfl (hb hby da_20)
      have N12 := Fr.snoc X12 N10 gd
      have O12 := O10.wr W12 gd
      have K12 := K10.wr W12 (Or.inl (List.mem_of_getElem? (i := 2) rfl))
      have E_a := E_a.wr W12
      have F_a_elementCounts := F_a_elementCounts.other W12 (Or.inl nad)
      have F_a_totalLengths := F_a_totalLengths.other W12 (Or.inl nad)
      have F_a_elementCount := F_a_elementCount.other W12 (Or.inl nad)
      have F_a_totalLength := F_a_totalLength.other W12 (Or.inl nad)
      have V_b := V_b.other W12 nbd
      have V_d : Arv Z h12 d kd .long (2 : Int32) [(.long y0), (.long (y1 + (p2.toInt64)))] (.long (0 : Int64)) := V12
      refine Go.st st12 ?_
      show Go p e below s _ _ _ (T12.setTop (mkF m 21 #[.val (.ref a), .val (.int (1 : Int32)), .val (.int p2)] []))
      refine Go.st (fun _ kq_ => XS.aloadN X12.here hx rfl (hb hby da_21) rfl rfl kq_) ?_
      show Go p e below s _ _ _ (T12.setTop (mkF m 22 #[.val (.ref a), .val (.int (1 : Int32)), .val (.int p2)] [(.ref a)]))
      refine Go.st (fun _ kq_ => XS.dup X12.here hx rfl (hb hby da_22) rfl rfl kq_) ?_
      show Go p e below s _ _ _ (T12.setTop (mkF m 23 #[.val (.ref a), .val (.int (1 : Int32)), .val (.int p2)] [(.ref a), (.ref a)]))
      obtain ⟨T13, X13, e13, st13⟩ := getF X12 hx hZ hown (host := "") (Or.inl (own_w hw 20 rfl)) Via.refl e12 F_a_elementCount (g := (mkF m 23 #[.val (.ref a), .val (.int (1 : Int32)), .val (.int p2)] [(.ref a), (.ref a)])) rfl rfl (hb hby da_23)
      refine Go.st st13 ?_
      show Go p e below s _ _ _ (T13.setTop (mkF m 26 #[.val (.ref a), .val (.int (1 : Int32)), .val (.int p2)] [(.int cn), (.ref a)]))
      refine Go.st (fun _ kq_ => XS.iconst X13.here hx rfl (hb hby da_26) kq_) ?_
      show Go p e below s _ _ _ (T13.setTop (mkF m 27 #[.val (.ref a), .val (.int (1 : Int32)), .val (.int p2)] [(.int (1 : Int32)), (.int cn), (.ref a)]))
      refine Go.st (fun _ kq_ => XS.iadd X13.here hx rfl (hb hby da_27) rfl kq_) ?_
      show Go p e below s _ _ _ (T13.setTop (mkF m 28 #[.val (.ref a), .val (.int (1 : Int32)), .val (.int p2)] [(.int (cn + (1 : Int32))), (.ref a)]))
      obtain ⟨T14, h14, X14, e14, W14, st14⟩ := putF X13 hx hZ hown (host := "") (Or.inl (own_w hw 20 rfl)) Via.refl e13 F_a_elementCount E_a (Or.inl (own_w hw 21 rfl)) (own_w hw 1 rfl) (ty := .int) (by decide) rfl rfl (g := (mkF m 28 #[.val (.ref a), .val (.int (1 : Int32)), .val (.int p2)] [(.int (cn + (1 : Int32))), (.ref a)])) rfl rfl (hb hby da_28)
      have N14 := Fr.snoc X14 N12 ga
      have O14 := O12.wr W14 ga
      have K14 := K12.wr W14 (Or.inl (List.mem_of_getElem? (i := 0) rfl))
      have E_a := E_a.wr W14
      have F_a_elementCounts := F_a_elementCounts.other W14 (Or.inr (slot_ne (Or.inr (own_w hw 11 rfl)) (Or.inl (own_w hw 21 rfl)) (by decide) (by decide : parseFieldDescriptor "[I" = some (.array .int)) (by decide : parseFieldDescriptor "I" = some .int)))
      have F_a_totalLengths := F_a_totalLengths.other W14 (Or.inr (slot_ne (Or.inr (own_w hw 14 rfl)) (Or.inl (own_w hw 21 rfl)) (by decide) (by decide : parseFieldDescriptor "[J" = some (.array .long)) (by decide : parseFieldDescriptor "I" = some .int)))
      have F_a_totalLength := F_a_totalLength.other W14 (Or.inr (slot_ne (Or.inl (own_w hw 23 rfl)) (Or.inl (own_w hw 21 rfl)) (by decide) (by decide : parseFieldDescriptor "J" = some .long) (by decide : parseFieldDescriptor "I" = some .int)))
      have V_b := V_b.other W14 (Ne.symm nab)
      have V_d := V_d.other W14 (Ne.symm nad)
      have F_a_elementCount := F_a_elementCount.same W14
      refine Go.st st14 ?_
      show Go p e below s _ _ _ (T14.setTop (mkF m 31 #[.val (.ref a), .val (.int (1 : Int32)), .val (.int p2)] []))
      refine Go.st (fun _ kq_ => XS.aloadN X14.here hx rfl (hb hby da_31) rfl rfl kq_) ?_
      show Go p e below s _ _ _ (T14.setTop (mkF m 32 #[.val (.ref a), .val (.int (1 : Int32)), .val (.int p2)] [(.ref a)]))
      refine Go.st (fun _ kq_ => XS.dup X14.here hx rfl (hb hby da_32) rfl rfl kq_) ?_
      show Go p e below s _ _ _ (T14.setTop (mkF m 33 #[.val (.ref a), .val (.int (1 : Int32)), .val (.int p2)] [(.ref a), (.ref a)]))
      obtain ⟨T15, X15, e15, st15⟩ := getF X14 hx hZ hown (host := "") (Or.inl (own_w hw 22 rfl)) Via.refl e14 F_a_totalLength (g := (mkF m 33 #[.val (.ref a), .val (.int (1 : Int32)), .val (.int p2)] [(.ref a), (.ref a)])) rfl rfl (hb hby da_33)
      refine Go.st st15 ?_
      show Go p e below s _ _ _ (T15.setTop (mkF m 36 #[.val (.ref a), .val (.int (1 : Int32)), .val (.int p2)] [(.long tl), (.ref a)]))
      refine Go.st (fun _ kq_ => XS.iloadN X15.here hx rfl (hb hby da_36) rfl kq_) ?_
      show Go p e below s _ _ _ (T15.setTop (mkF m 37 #[.val (.ref a), .val (.int (1 : Int32)), .val (.int p2)] [(.int p2), (.long tl), (.ref a)]))
      refine Go.st (fun _ kq_ => XT.i2l X15.here hx rfl (hb hby da_37) rfl kq_) ?_
      show Go p e below s _ _ _ (T15.setTop (mkF m 38 #[.val (.ref a), .val (.int (1 : Int32)), .val (.int p2)] [(.long (p2.toInt64)), (.long tl), (.ref a)]))
      refine Go.st (fun _ kq_ => XT.ladd X15.here hx rfl (hb hby da_38) rfl kq_) ?_
      show Go p e below s _ _ _ (T15.setTop (mkF m 39 #[.val (.ref a), .val (.int (1 : Int32)), .val (.int p2)] [(.long (tl + (p2.toInt64))), (.ref a)]))
      obtain ⟨T16, h16, X16, e16, W16, st16⟩ := putF X15 hx hZ hown (host := "") (Or.inl (own_w hw 22 rfl)) Via.refl e15 F_a_totalLength E_a (Or.inl (own_w hw 23 rfl)) (own_w hw 1 rfl) (ty := .long) (by decide) rfl rfl (g := (mkF m 39 #[.val (.ref a), .val (.int (1 : Int32)), .val (.int p2)] [(.long (tl + (p2.toInt64))), (.ref a)])) rfl rfl (hb hby da_39)
      have N16 := Fr.snoc X16 N14 ga
      have O16 := O14.wr W16 ga
      have K16 := K14.wr W16 (Or.inl (List.mem_of_getElem? (i := 0) rfl))
      have E_a := E_a.wr W16
      have F_a_elementCounts := F_a_elementCounts.other W16 (Or.inr (slot_ne (Or.inr (own_w hw 11 rfl)) (Or.inl (own_w hw 23 rfl)) (by decide) (by decide : parseFieldDescriptor "[I" = some (.array .int)) (by decide : parseFieldDescriptor "J" = some .long)))
      have F_a_totalLengths := F_a_totalLengths.other W16 (Or.inr (slot_ne (Or.inr (own_w hw 14 rfl)) (Or.inl (own_w hw 23 rfl)) (by decide) (by decide : parseFieldDescriptor "[J" = some (.array .long)) (by decide : parseFieldDescriptor "J" = some .long)))
      have F_a_elementCount := F_a_elementCount.other W16 (Or.inr (slot_ne (Or.inl (own_w hw 21 rfl)) (Or.inl (own_w hw 23 rfl)) (by decide) (by decide : parseFieldDescriptor "I" = some .int) (by decide : parseFieldDescriptor "J" = some .long)))
      have V_b := V_b.other W16 (Ne.symm nab)
      have V_d := V_d.other W16 (Ne.symm nad)
      have F_a_totalLength := F_a_totalLength.same W16
      refine Go.st st16 ?_
      show Go p e below s _ _ _ (T16.setTop (mkF m 42 #[.val (.ref a), .val (.int (1 : Int32)), .val (.int p2)] []))
      exact Go.ret X16 hlk (none) (fun _ => rfl) (by rw [e16]; exact ⟨rfl, N16, K16, E_a, F_a_elementCounts, F_a_totalLengths, F_a_elementCount, F_a_totalLength, V_b, V_d⟩) (by decide) (by decide) (fun fs hr => X16.returnOut hx Bd.returns (hb hby da_42) hr)
  obtain ⟨s2, o2, st2, r2⟩ := G
  exact ⟨s2, o2, castTop (efa m a p1 p2) st2, r2⟩
theorem dem1_0 : decode prog_53_method_3_code 0 = .ok (.iload_n 1, 1) := by decide +kernel
theorem dem1_1 : decode prog_53_method_3_code 1 = .ok (.iconst (-1), 1) := by decide +kernel
theorem dem1_2 : decode prog_53_method_3_code 2 = .ok (.if_icmp .ne 11, 3) := by decide +kernel
theorem dem1_5 : decode prog_53_method_3_code 5 = .ok (.aload_n 0, 1) := by decide +kernel
theorem dem1_6 : decode prog_53_method_3_code 6 = .ok (.getfield 17, 3) := by decide +kernel
theorem dem1_9 : decode prog_53_method_3_code 9 = .ok (.istore_n 2, 1) := by decide +kernel
theorem dem1_10 : decode prog_53_method_3_code 10 = .ok (.goto 21, 3) := by decide +kernel
theorem dem1_31 : decode prog_53_method_3_code 31 = .ok (.iload_n 2, 1) := by decide +kernel
theorem dem1_32 : decode prog_53_method_3_code 32 = .ok (.ireturn, 1) := by decide +kernel
theorem pnem1 : plainName "com/example/element_ranker/elementranker/TagStatistics" = true := by first | (simp [plainName, overriddenIn]; done) | decide +kernel
theorem efem1 (m : MethodId) (x0 : Addr) (x1 : Int32) : entryFrame m #[(.ref x0), (.int x1)] 3 = mkF m 0 #[.val (.ref x0), .val (.int x1), .unset] [] := by first | (simp [entryFrame, mkF, argsToLocals, Value.category, maxLocals]; done) | rfl
def Qem1 (Z : State) (a : Addr) (b : Addr) (kb : ClassId) (d : Addr) (kd : ClassId) (x0 : Int32) (x1 : Int32) (y0 : Int64) (y1 : Int64) (cn : Int32) (tl : Int64) (h0 : Heap) (n0 : Nat) (v : Option Value) (h : Heap) (L : List Loc) : Prop := v = some (.int cn) ∧ Fr n0 L ∧ h = h0
set_option maxRecDepth 65536 in
set_option maxHeartbeats 40000000 in
theorem rmem1 (l : Launch) (Z : State) (a0 : Array Value) (hw : ∀ d ∈ tables_1, d.before a0 Z = true) (ws : List Jvm.Cond) (a : Addr) (b : Addr) (kb : ClassId) (d : Addr) (kd : ClassId) (x0 : Int32) (x1 : Int32) (y0 : Int64) (y1 : Int64) (cn : Int32) (tl : Int64) (h0 : Heap) (n0 : Nat) (O0 : Old Z n0 h0) (E_a : Exa Z h0 a "com/example/element_ranker/elementranker/TagStatistics") (F_a_elementCounts : Fld Z h0 a "com/example/element_ranker/elementranker/TagStatistics" "elementCounts" "[I" (.ref b)) (F_a_totalLengths : Fld Z h0 a "com/example/element_ranker/elementranker/TagStatistics" "totalLengths" "[J" (.ref d)) (F_a_elementCount : Fld Z h0 a "com/example/element_ranker/elementranker/TagStatistics" "elementCount" "I" (.int cn)) (F_a_totalLength : Fld Z h0 a "com/example/element_ranker/elementranker/TagStatistics" "totalLength" "J" (.long tl)) (V_b : Arv Z h0 b kb .int (2 : Int32) [(.int x0), (.int x1)] (.int (0 : Int32))) (V_d : Arv Z h0 d kd .long (2 : Int32) [(.long y0), (.long y1)] (.long (0 : Int64))) :
    MetFree l (⟨"com/example/element_ranker/elementranker/TagStatistics", "elementCount", "(I)I"⟩ : MethodName) (head1 (Jvm.Cond.code (⟨"com/example/element_ranker/elementranker/TagStatistics", "elementCount", "(I)I"⟩ : MethodName) prog_53_method_3_code 3 (some .int) :: ws) ({ frames := 0, cells := 0, slots := 0, locals := 0 } : Room)) (fun A_ U_ => A_ = #[(.ref a), (.int (-1 : Int32))] ∧ Z.Warmed39 U_.vm ∧ U_.heap = h0) (fun _ _ _ _ _ => True) (fun _ U o U' => ∃ v L, o = .returned v ∧ Qem1 Z a b kb d kd x0 x1 y0 y1 cn tl h0 n0 v U'.heap L ∧ FrameEnd U o U' L ({ frames := 0, cells := 0, slots := 0, locals := 0 } : Room).cells ({ frames := 0, cells := 0, slots := 0, locals := 0 } : Room).slots) := by
  refine MetFree.of_bodySF (plainFor_of_name pnem1) hisR ?_
  intro p e s m args below meth cd s₁ Bd hml0 hP hK
  obtain ⟨rfl, hZ, hh⟩ := hP
  have hx := Bd.exec
  have hby := Bd.bytes
  have hlk : meth.locks = false := BodyLoose.notSynchronized Bd
  have hml : cd.maxLocals = 3 := hml0
  have hown : s.vm.findClass "com/example/element_ranker/elementranker/TagStatistics" = some m.cls := findClass_of_methodNamed Bd.named
  have hnm := (name_of_methodNamed Bd.named Bd.method).1
  have X0 : Stand p l e ({ frames := 0, cells := 0, slots := 0, locals := 0 } : Room) s m #[(.ref a), (.int (-1 : Int32))] below meth cd s₁ [] 0 0 := Stand.of_body Bd
  have e0 : s₁.heap = h0 := by rw [← hh, Bd.state]; rfl
  have N0 := Fr.nil n0
  have G : Go p e below s 0 0 (Qem1 Z a b kb d kd x0 x1 y0 y1 cn tl h0 n0) (s₁.setTop (mkF m 0 #[.val (.ref a), .val (.int (-1 : Int32)), .unset] [])) := by
    show Go p e below s _ _ _ (s₁.setTop (mkF m 0 #[.val (.ref a), .val (.int (-1 : Int32)), .unset] []))
    refine Go.st (fun _ kq_ => XS.iloadN X0.here hx rfl (hb hby dem1_0) rfl kq_) ?_
    show Go p e below s _ _ _ (s₁.setTop (mkF m 1 #[.val (.ref a), .val (.int (-1 : Int32)), .unset] [(.int (-1 : Int32))]))
    refine Go.st (fun _ kq_ => XS.iconst X0.here hx rfl (hb hby dem1_1) kq_) ?_
    show Go p e below s _ _ _ (s₁.setTop (mkF m 2 #[.val (.ref a), .val (.int (-1 : Int32)), .unset] [(.int (-1 : Int32)), (.int (-1 : Int32))]))
    refine Go.st (fun _ kq_ => XS.icmpNo X0.here hx rfl (hb hby dem1_2) rfl (by decide) kq_) ?_
    show Go p e below s _ _ _ (s₁.setTop (mkF m 5 #[.val (.ref a), .val (.int (-1 : Int32)), .unset] []))
    refine Go.st (fun _ kq_ => XS.aloadN X0.here hx rfl (hb hby dem1_5) rfl rfl kq_) ?_
    show Go p e below s _ _ _ (s₁.setTop (mkF m 6 #[.val (.ref a), .val (.int (-1 : Int32)), .unset] [(.ref a)]))
    obtain ⟨T1, X1, e1, st1⟩ := getF X0 hx hZ hown (host := "") (Or.inl (own_w hw 20 rfl)) Via.refl e0 F_a_elementCount (g := (mkF m 6 #[.val (.ref a), .val (.int (-1 : Int32)), .unset] [(.ref a)])) rfl rfl (hb hby dem1_6)
    refine Go.st st1 ?_
    show Go p e below s _ _ _ (T1.setTop (mkF m 9 #[.val (.ref a), .val (.int (-1 : Int32)), .unset] [(.int cn)]))
    refine Go.st (fun _ kq_ => XS.istoreN X1.here hx rfl (hb hby dem1_9) rfl (l' := #[.val (.ref a), .val (.int (-1 : Int32)), .val (.int cn)]) rfl kq_) ?_
    show Go p e below s _ _ _ (T1.setTop (mkF m 10 #[.val (.ref a), .val (.int (-1 : Int32)), .val (.int cn)] []))
    refine Go.st (fun _ kq_ => XS.goto X1.here hx rfl (pc0 := 10) (pc' := 31) rfl (hb hby dem1_10) (by decide) (by decide) kq_) ?_
    show Go p e below s _ _ _ (T1.setTop (mkF m 31 #[.val (.ref a), .val (.int (-1 : Int32)), .val (.int cn)] []))
    refine Go.st (fun _ kq_ => XS.iloadN X1.here hx rfl (hb hby dem1_31) rfl kq_) ?_
    show Go p e below s _ _ _ (T1.setTop (mkF m 32 #[.val (.ref a), .val (.int (-1 : Int32)), .val (.int cn)] [(.int cn)]))
    exact Go.ret X1 hlk (some (.int cn)) (fun h => by rw [Bd.returns] at h; cases h) (by rw [e1]; exact ⟨rfl, N0, rfl⟩) (by decide) (by decide) (fun fs hr => retI X1 hx Bd.returns (hb hby dem1_32) hr)
  obtain ⟨s2, o2, st2, r2⟩ := G
  exact ⟨s2, o2, castTop (efem1 m a (-1 : Int32)) st2, r2⟩
theorem dem2_0 : decode prog_53_method_3_code 0 = .ok (.iload_n 1, 1) := by decide +kernel
theorem dem2_1 : decode prog_53_method_3_code 1 = .ok (.iconst (-1), 1) := by decide +kernel
theorem dem2_2 : decode prog_53_method_3_code 2 = .ok (.if_icmp .ne 11, 3) := by decide +kernel
theorem dem2_13 : decode prog_53_method_3_code 13 = .ok (.iload_n 1, 1) := by decide +kernel
theorem dem2_14 : decode prog_53_method_3_code 14 = .ok (.bipush (-2), 2) := by decide +kernel
theorem dem2_16 : decode prog_53_method_3_code 16 = .ok (.if_icmp .ne 8, 3) := by decide +kernel
theorem dem2_19 : decode prog_53_method_3_code 19 = .ok (.iconst 0, 1) := by decide +kernel
theorem dem2_20 : decode prog_53_method_3_code 20 = .ok (.istore_n 2, 1) := by decide +kernel
theorem dem2_21 : decode prog_53_method_3_code 21 = .ok (.goto 10, 3) := by decide +kernel
theorem dem2_31 : decode prog_53_method_3_code 31 = .ok (.iload_n 2, 1) := by decide +kernel
theorem dem2_32 : decode prog_53_method_3_code 32 = .ok (.ireturn, 1) := by decide +kernel
theorem pnem2 : plainName "com/example/element_ranker/elementranker/TagStatistics" = true := by first | (simp [plainName, overriddenIn]; done) | decide +kernel
theorem efem2 (m : MethodId) (x0 : Addr) (x1 : Int32) : entryFrame m #[(.ref x0), (.int x1)] 3 = mkF m 0 #[.val (.ref x0), .val (.int x1), .unset] [] := by first | (simp [entryFrame, mkF, argsToLocals, Value.category, maxLocals]; done) | rfl
def Qem2 (Z : State) (a : Addr) (b : Addr) (kb : ClassId) (d : Addr) (kd : ClassId) (x0 : Int32) (x1 : Int32) (y0 : Int64) (y1 : Int64) (cn : Int32) (tl : Int64) (h0 : Heap) (n0 : Nat) (v : Option Value) (h : Heap) (L : List Loc) : Prop := v = some (.int (0 : Int32)) ∧ Fr n0 L ∧ h = h0
set_option maxRecDepth 65536 in
set_option maxHeartbeats 40000000 in
theorem rmem2 (l : Launch) (Z : State) (a0 : Array Value) (hw : ∀ d ∈ tables_1, d.before a0 Z = true) (ws : List Jvm.Cond) (a : Addr) (b : Addr) (kb : ClassId) (d : Addr) (kd : ClassId) (x0 : Int32) (x1 : Int32) (y0 : Int64) (y1 : Int64) (cn : Int32) (tl : Int64) (h0 : Heap) (n0 : Nat) (O0 : Old Z n0 h0) (E_a : Exa Z h0 a "com/example/element_ranker/elementranker/TagStatistics") (F_a_elementCounts : Fld Z h0 a "com/example/element_ranker/elementranker/TagStatistics" "elementCounts" "[I" (.ref b)) (F_a_totalLengths : Fld Z h0 a "com/example/element_ranker/elementranker/TagStatistics" "totalLengths" "[J" (.ref d)) (F_a_elementCount : Fld Z h0 a "com/example/element_ranker/elementranker/TagStatistics" "elementCount" "I" (.int cn)) (F_a_totalLength : Fld Z h0 a "com/example/element_ranker/elementranker/TagStatistics" "totalLength" "J" (.long tl)) (V_b : Arv Z h0 b kb .int (2 : Int32) [(.int x0), (.int x1)] (.int (0 : Int32))) (V_d : Arv Z h0 d kd .long (2 : Int32) [(.long y0), (.long y1)] (.long (0 : Int64))) :
    MetFree l (⟨"com/example/element_ranker/elementranker/TagStatistics", "elementCount", "(I)I"⟩ : MethodName) (head1 (Jvm.Cond.code (⟨"com/example/element_ranker/elementranker/TagStatistics", "elementCount", "(I)I"⟩ : MethodName) prog_53_method_3_code 3 (some .int) :: ws) ({ frames := 0, cells := 0, slots := 0, locals := 0 } : Room)) (fun A_ U_ => A_ = #[(.ref a), (.int (-2 : Int32))] ∧ Z.Warmed39 U_.vm ∧ U_.heap = h0) (fun _ _ _ _ _ => True) (fun _ U o U' => ∃ v L, o = .returned v ∧ Qem2 Z a b kb d kd x0 x1 y0 y1 cn tl h0 n0 v U'.heap L ∧ FrameEnd U o U' L ({ frames := 0, cells := 0, slots := 0, locals := 0 } : Room).cells ({ frames := 0, cells := 0, slots := 0, locals := 0 } : Room).slots) := by
  refine MetFree.of_bodySF (plainFor_of_name pnem2) hisR ?_
  intro p e s m args below meth cd s₁ Bd hml0 hP hK
  obtain ⟨rfl, hZ, hh⟩ := hP
  have hx := Bd.exec
  have hby := Bd.bytes
  have hlk : meth.locks = false := BodyLoose.notSynchronized Bd
  have hml : cd.maxLocals = 3 := hml0
  have hown : s.vm.findClass "com/example/element_ranker/elementranker/TagStatistics" = some m.cls := findClass_of_methodNamed Bd.named
  have hnm := (name_of_methodNamed Bd.named Bd.method).1
  have X0 : Stand p l e ({ frames := 0, cells := 0, slots := 0, locals := 0 } : Room) s m #[(.ref a), (.int (-2 : Int32))] below meth cd s₁ [] 0 0 := Stand.of_body Bd
  have e0 : s₁.heap = h0 := by rw [← hh, Bd.state]; rfl
  have N0 := Fr.nil n0
  have G : Go p e below s 0 0 (Qem2 Z a b kb d kd x0 x1 y0 y1 cn tl h0 n0) (s₁.setTop (mkF m 0 #[.val (.ref a), .val (.int (-2 : Int32)), .unset] [])) := by
    show Go p e below s _ _ _ (s₁.setTop (mkF m 0 #[.val (.ref a), .val (.int (-2 : Int32)), .unset] []))
    refine Go.st (fun _ kq_ => XS.iloadN X0.here hx rfl (hb hby dem2_0) rfl kq_) ?_
    show Go p e below s _ _ _ (s₁.setTop (mkF m 1 #[.val (.ref a), .val (.int (-2 : Int32)), .unset] [(.int (-2 : Int32))]))
    refine Go.st (fun _ kq_ => XS.iconst X0.here hx rfl (hb hby dem2_1) kq_) ?_
    show Go p e below s _ _ _ (s₁.setTop (mkF m 2 #[.val (.ref a), .val (.int (-2 : Int32)), .unset] [(.int (-1 : Int32)), (.int (-2 : Int32))]))
    refine Go.st (fun _ kq_ => XS.icmpYes X0.here hx rfl (pc0 := 2) (pc' := 13) rfl (hb hby dem2_2) rfl (by decide) (by decide) (by decide) kq_) ?_
    show Go p e below s _ _ _ (s₁.setTop (mkF m 13 #[.val (.ref a), .val (.int (-2 : Int32)), .unset] []))
    refine Go.st (fun _ kq_ => XS.iloadN X0.here hx rfl (hb hby dem2_13) rfl kq_) ?_
    show Go p e below s _ _ _ (s₁.setTop (mkF m 14 #[.val (.ref a), .val (.int (-2 : Int32)), .unset] [(.int (-2 : Int32))]))
    refine Go.st (fun _ kq_ => XS.bipush X0.here hx rfl (hb hby dem2_14) kq_) ?_
    show Go p e below s _ _ _ (s₁.setTop (mkF m 16 #[.val (.ref a), .val (.int (-2 : Int32)), .unset] [(.int (-2 : Int32)), (.int (-2 : Int32))]))
    refine Go.st (fun _ kq_ => XS.icmpNo X0.here hx rfl (hb hby dem2_16) rfl (by decide) kq_) ?_
    show Go p e below s _ _ _ (s₁.setTop (mkF m 19 #[.val (.ref a), .val (.int (-2 : Int32)), .unset] []))
    refine Go.st (fun _ kq_ => XS.iconst X0.here hx rfl (hb hby dem2_19) kq_) ?_
    show Go p e below s _ _ _ (s₁.setTop (mkF m 20 #[.val (.ref a), .val (.int (-2 : Int32)), .unset] [(.int (0 : Int32))]))
    refine Go.st (fun _ kq_ => XS.istoreN X0.here hx rfl (hb hby dem2_20) rfl (l' := #[.val (.ref a), .val (.int (-2 : Int32)), .val (.int (0 : Int32))]) rfl kq_) ?_
    show Go p e below s _ _ _ (s₁.setTop (mkF m 21 #[.val (.ref a), .val (.int (-2 : Int32)), .val (.int (0 : Int32))] []))
    refine Go.st (fun _ kq_ => XS.goto X0.here hx rfl (pc0 := 21) (pc' := 31) rfl (hb hby dem2_21) (by decide) (by decide) kq_) ?_
    show Go p e below s _ _ _ (s₁.setTop (mkF m 31 #[.val (.ref a), .val (.int (-2 : Int32)), .val (.int (0 : Int32))] []))
    refine Go.st (fun _ kq_ => XS.iloadN X0.here hx rfl (hb hby dem2_31) rfl kq_) ?_
    show Go p e below s _ _ _ (s₁.setTop (mkF m 32 #[.val (.ref a), .val (.int (-2 : Int32)), .val (.int (0 : Int32))] [(.int (0 : Int32))]))
    exact Go.ret X0 hlk (some (.int (0 : Int32))) (fun h => by rw [Bd.returns] at h; cases h) (by rw [e0]; exact ⟨rfl, N0, rfl⟩) (by decide) (by decide) (fun fs hr => retI X0 hx Bd.returns (hb hby dem2_32) hr)
  obtain ⟨s2, o2, st2, r2⟩ := G
  exact ⟨s2, o2, castTop (efem2 m a (-2 : Int32)) st2, r2⟩
theorem de0_0 : decode prog_53_method_3_code 0 = .ok (.iload_n 1, 1) := by decide +kernel
theorem de0_1 : decode prog_53_method_3_code 1 = .ok (.iconst (-1), 1) := by decide +kernel
theorem de0_2 : decode prog_53_method_3_code 2 = .ok (.if_icmp .ne 11, 3) := by decide +kernel
theorem de0_13 : decode prog_53_method_3_code 13 = .ok (.iload_n 1, 1) := by decide +kernel
theorem de0_14 : decode prog_53_method_3_code 14 = .ok (.bipush (-2), 2) := by decide +kernel
theorem de0_16 : decode prog_53_method_3_code 16 = .ok (.if_icmp .ne 8, 3) := by decide +kernel
theorem de0_24 : decode prog_53_method_3_code 24 = .ok (.aload_n 0, 1) := by decide +kernel
theorem de0_25 : decode prog_53_method_3_code 25 = .ok (.getfield 7, 3) := by decide +kernel
theorem de0_28 : decode prog_53_method_3_code 28 = .ok (.iload_n 1, 1) := by decide +kernel
theorem de0_29 : decode prog_53_method_3_code 29 = .ok (.iaload, 1) := by decide +kernel
theorem de0_30 : decode prog_53_method_3_code 30 = .ok (.istore_n 2, 1) := by decide +kernel
theorem de0_31 : decode prog_53_method_3_code 31 = .ok (.iload_n 2, 1) := by decide +kernel
theorem de0_32 : decode prog_53_method_3_code 32 = .ok (.ireturn, 1) := by decide +kernel
theorem pne0 : plainName "com/example/element_ranker/elementranker/TagStatistics" = true := by first | (simp [plainName, overriddenIn]; done) | decide +kernel
theorem efe0 (m : MethodId) (x0 : Addr) (x1 : Int32) : entryFrame m #[(.ref x0), (.int x1)] 3 = mkF m 0 #[.val (.ref x0), .val (.int x1), .unset] [] := by first | (simp [entryFrame, mkF, argsToLocals, Value.category, maxLocals]; done) | rfl
def Qe0 (Z : State) (a : Addr) (b : Addr) (kb : ClassId) (d : Addr) (kd : ClassId) (x0 : Int32) (x1 : Int32) (y0 : Int64) (y1 : Int64) (cn : Int32) (tl : Int64) (h0 : Heap) (n0 : Nat) (v : Option Value) (h : Heap) (L : List Loc) : Prop := v = some (.int x0) ∧ Fr n0 L ∧ h = h0
set_option maxRecDepth 65536 in
set_option maxHeartbeats 40000000 in
theorem rme0 (l : Launch) (Z : State) (a0 : Array Value) (hw : ∀ d ∈ tables_1, d.before a0 Z = true) (ws : List Jvm.Cond) (a : Addr) (b : Addr) (kb : ClassId) (d : Addr) (kd : ClassId) (x0 : Int32) (x1 : Int32) (y0 : Int64) (y1 : Int64) (cn : Int32) (tl : Int64) (h0 : Heap) (n0 : Nat) (O0 : Old Z n0 h0) (E_a : Exa Z h0 a "com/example/element_ranker/elementranker/TagStatistics") (F_a_elementCounts : Fld Z h0 a "com/example/element_ranker/elementranker/TagStatistics" "elementCounts" "[I" (.ref b)) (F_a_totalLengths : Fld Z h0 a "com/example/element_ranker/elementranker/TagStatistics" "totalLengths" "[J" (.ref d)) (F_a_elementCount : Fld Z h0 a "com/example/element_ranker/elementranker/TagStatistics" "elementCount" "I" (.int cn)) (F_a_totalLength : Fld Z h0 a "com/example/element_ranker/elementranker/TagStatistics" "totalLength" "J" (.long tl)) (V_b : Arv Z h0 b kb .int (2 : Int32) [(.int x0), (.int x1)] (.int (0 : Int32))) (V_d : Arv Z h0 d kd .long (2 : Int32) [(.long y0), (.long y1)] (.long (0 : Int64))) :
    MetFree l (⟨"com/example/element_ranker/elementranker/TagStatistics", "elementCount", "(I)I"⟩ : MethodName) (head1 (Jvm.Cond.code (⟨"com/example/element_ranker/elementranker/TagStatistics", "elementCount", "(I)I"⟩ : MethodName) prog_53_method_3_code 3 (some .int) :: ws) ({ frames := 0, cells := 0, slots := 0, locals := 0 } : Room)) (fun A_ U_ => A_ = #[(.ref a), (.int (0 : Int32))] ∧ Z.Warmed39 U_.vm ∧ U_.heap = h0) (fun _ _ _ _ _ => True) (fun _ U o U' => ∃ v L, o = .returned v ∧ Qe0 Z a b kb d kd x0 x1 y0 y1 cn tl h0 n0 v U'.heap L ∧ FrameEnd U o U' L ({ frames := 0, cells := 0, slots := 0, locals := 0 } : Room).cells ({ frames := 0, cells := 0, slots := 0, locals := 0 } : Room).slots) := by
  refine MetFree.of_bodySF (plainFor_of_name pne0) hisR ?_
  intro p e s m args below meth cd s₁ Bd hml0 hP hK
  obtain ⟨rfl, hZ, hh⟩ := hP
  have hx := Bd.exec
  have hby := Bd.bytes
  have hlk : meth.locks = false := BodyLoose.notSynchronized Bd
  have hml : cd.maxLocals = 3 := hml0
  have hown : s.vm.findClass "com/example/element_ranker/elementranker/TagStatistics" = some m.cls := findClass_of_methodNamed Bd.named
  have hnm := (name_of_methodNamed Bd.named Bd.method).1
  have X0 : Stand p l e ({ frames := 0, cells := 0, slots := 0, locals := 0 } : Room) s m #[(.ref a), (.int (0 : Int32))] below meth cd s₁ [] 0 0 := Stand.of_body Bd
  have e0 : s₁.heap = h0 := by rw [← hh, Bd.state]; rfl
  have N0 := Fr.nil n0
  have G : Go p e below s 0 0 (Qe0 Z a b kb d kd x0 x1 y0 y1 cn tl h0 n0) (s₁.setTop (mkF m 0 #[.val (.ref a), .val (.int (0 : Int32)), .unset] [])) := by
    show Go p e below s _ _ _ (s₁.setTop (mkF m 0 #[.val (.ref a), .val (.int (0 : Int32)), .unset] []))
    refine Go.st (fun _ kq_ => XS.iloadN X0.here hx rfl (hb hby de0_0) rfl kq_) ?_
    show Go p e below s _ _ _ (s₁.setTop (mkF m 1 #[.val (.ref a), .val (.int (0 : Int32)), .unset] [(.int (0 : Int32))]))
    refine Go.st (fun _ kq_ => XS.iconst X0.here hx rfl (hb hby de0_1) kq_) ?_
    show Go p e below s _ _ _ (s₁.setTop (mkF m 2 #[.val (.ref a), .val (.int (0 : Int32)), .unset] [(.int (-1 : Int32)), (.int (0 : Int32))]))
    refine Go.st (fun _ kq_ => XS.icmpYes X0.here hx rfl (pc0 := 2) (pc' := 13) rfl (hb hby de0_2) rfl (by decide) (by decide) (by decide) kq_) ?_
    show Go p e below s _ _ _ (s₁.setTop (mkF m 13 #[.val (.ref a), .val (.int (0 : Int32)), .unset] []))
    refine Go.st (fun _ kq_ => XS.iloadN X0.here hx rfl (hb hby de0_13) rfl kq_) ?_
    show Go p e below s _ _ _ (s₁.setTop (mkF m 14 #[.val (.ref a), .val (.int (0 : Int32)), .unset] [(.int (0 : Int32))]))
    refine Go.st (fun _ kq_ => XS.bipush X0.here hx rfl (hb hby de0_14) kq_) ?_
    show Go p e below s _ _ _ (s₁.setTop (mkF m 16 #[.val (.ref a), .val (.int (0 : Int32)), .unset] [(.int (-2 : Int32)), (.int (0 : Int32))]))
    refine Go.st (fun _ kq_ => XS.icmpYes X0.here hx rfl (pc0 := 16) (pc' := 24) rfl (hb hby de0_16) rfl (by decide) (by decide) (by decide) kq_) ?_
    show Go p e below s _ _ _ (s₁.setTop (mkF m 24 #[.val (.ref a), .val (.int (0 : Int32)), .unset] []))
    refine Go.st (fun _ kq_ => XS.aloadN X0.here hx rfl (hb hby de0_24) rfl rfl kq_) ?_
    show Go p e below s _ _ _ (s₁.setTop (mkF m 25 #[.val (.ref a), .val (.int (0 : Int32)), .unset] [(.ref a)]))
    obtain ⟨T1, X1, e1, st1⟩ := getF X0 hx hZ hown (host := "") (Or.inl (own_w hw 10 rfl)) Via.refl e0 F_a_elementCounts (g := (mkF m 25 #[.val (.ref a), .val (.int (0 : Int32)), .unset] [(.ref a)])) rfl rfl (hb hby de0_25)
    refine Go.st st1 ?_
    show Go p e below s _ _ _ (T1.setTop (mkF m 28 #[.val (.ref a), .val (.int (0 : Int32)), .unset] [(.ref b)]))
    refine Go.st (fun _ kq_ => XS.iloadN X1.here hx rfl (hb hby de0_28) rfl kq_) ?_
    show Go p e below s _ _ _ (T1.setTop (mkF m 29 #[.val (.ref a), .val (.int (0 : Int32)), .unset] [(.int (0 : Int32)), (.ref b)]))
    refine Go.st (fun _ kq_ => own_iaload X1 hx hZ e1 V_b (by decide) (by decide) (v := (.int x0)) rfl (g := (mkF m 29 #[.val (.ref a), .val (.int (0 : Int32)), .unset] [(.int (0 : Int32)), (.ref b)])) rfl rfl (hb hby de0_29) _ kq_) ?_
    show Go p e below s _ _ _ (T1.setTop (mkF m 30 #[.val (.ref a), .val (.int (0 : Int32)), .unset] [(.int x0)]))
    refine Go.st (fun _ kq_ => XS.istoreN X1.here hx rfl (hb hby de0_30) rfl (l' := #[.val (.ref a), .val (.int (0 : Int32)), .val (.int x0)]) rfl kq_) ?_
    show Go p e below s _ _ _ (T1.setTop (mkF m 31 #[.val (.ref a), .val (.int (0 : Int32)), .val (.int x0)] []))
    refine Go.st (fun _ kq_ => XS.iloadN X1.here hx rfl (hb hby de0_31) rfl kq_) ?_
    show Go p e below s _ _ _ (T1.setTop (mkF m 32 #[.val (.ref a), .val (.int (0 : Int32)), .val (.int x0)] [(.int x0)]))
    exact Go.ret X1 hlk (some (.int x0)) (fun h => by rw [Bd.returns] at h; cases h) (by rw [e1]; exact ⟨rfl, N0, rfl⟩) (by decide) (by decide) (fun fs hr => retI X1 hx Bd.returns (hb hby de0_32) hr)
  obtain ⟨s2, o2, st2, r2⟩ := G
  exact ⟨s2, o2, castTop (efe0 m a (0 : Int32)) st2, r2⟩
theorem de1_0 : decode prog_53_method_3_code 0 = .ok (.iload_n 1, 1) := by decide +kernel
theorem de1_1 : decode prog_53_method_3_code 1 = .ok (.iconst (-1), 1) := by decide +kernel
theorem de1_2 : decode prog_53_method_3_code 2 = .ok (.if_icmp .ne 11, 3) := by decide +kernel
theorem de1_13 : decode prog_53_method_3_code 13 = .ok (.iload_n 1, 1) := by decide +kernel
theorem de1_14 : decode prog_53_method_3_code 14 = .ok (.bipush (-2), 2) := by decide +kernel
theorem de1_16 : decode prog_53_method_3_code 16 = .ok (.if_icmp .ne 8, 3) := by decide +kernel
theorem de1_24 : decode prog_53_method_3_code 24 = .ok (.aload_n 0, 1) := by decide +kernel
theorem de1_25 : decode prog_53_method_3_code 25 = .ok (.getfield 7, 3) := by decide +kernel
theorem de1_28 : decode prog_53_method_3_code 28 = .ok (.iload_n 1, 1) := by decide +kernel
theorem de1_29 : decode prog_53_method_3_code 29 = .ok (.iaload, 1) := by decide +kernel
theorem de1_30 : decode prog_53_method_3_code 30 = .ok (.istore_n 2, 1) := by decide +kernel
theorem de1_31 : decode prog_53_method_3_code 31 = .ok (.iload_n 2, 1) := by decide +kernel
theorem de1_32 : decode prog_53_method_3_code 32 = .ok (.ireturn, 1) := by decide +kernel
theorem pne1 : plainName "com/example/element_ranker/elementranker/TagStatistics" = true := by first | (simp [plainName, overriddenIn]; done) | decide +kernel
theorem efe1 (m : MethodId) (x0 : Addr) (x1 : Int32) : entryFrame m #[(.ref x0), (.int x1)] 3 = mkF m 0 #[.val (.ref x0), .val (.int x1), .unset] [] := by first | (simp [entryFrame, mkF, argsToLocals, Value.category, maxLocals]; done) | rfl
def Qe1 (Z : State) (a : Addr) (b : Addr) (kb : ClassId) (d : Addr) (kd : ClassId) (x0 : Int32) (x1 : Int32) (y0 : Int64) (y1 : Int64) (cn : Int32) (tl : Int64) (h0 : Heap) (n0 : Nat) (v : Option Value) (h : Heap) (L : List Loc) : Prop := v = some (.int x1) ∧ Fr n0 L ∧ h = h0
set_option maxRecDepth 65536 in
set_option maxHeartbeats 40000000 in
theorem rme1 (l : Launch) (Z : State) (a0 : Array Value) (hw : ∀ d ∈ tables_1, d.before a0 Z = true) (ws : List Jvm.Cond) (a : Addr) (b : Addr) (kb : ClassId) (d : Addr) (kd : ClassId) (x0 : Int32) (x1 : Int32) (y0 : Int64) (y1 : Int64) (cn : Int32) (tl : Int64) (h0 : Heap) (n0 : Nat) (O0 : Old Z n0 h0) (E_a : Exa Z h0 a "com/example/element_ranker/elementranker/TagStatistics") (F_a_elementCounts : Fld Z h0 a "com/example/element_ranker/elementranker/TagStatistics" "elementCounts" "[I" (.ref b)) (F_a_totalLengths : Fld Z h0 a "com/example/element_ranker/elementranker/TagStatistics" "totalLengths" "[J" (.ref d)) (F_a_elementCount : Fld Z h0 a "com/example/element_ranker/elementranker/TagStatistics" "elementCount" "I" (.int cn)) (F_a_totalLength : Fld Z h0 a "com/example/element_ranker/elementranker/TagStatistics" "totalLength" "J" (.long tl)) (V_b : Arv Z h0 b kb .int (2 : Int32) [(.int x0), (.int x1)] (.int (0 : Int32))) (V_d : Arv Z h0 d kd .long (2 : Int32) [(.long y0), (.long y1)] (.long (0 : Int64))) :
    MetFree l (⟨"com/example/element_ranker/elementranker/TagStatistics", "elementCount", "(I)I"⟩ : MethodName) (head1 (Jvm.Cond.code (⟨"com/example/element_ranker/elementranker/TagStatistics", "elementCount", "(I)I"⟩ : MethodName) prog_53_method_3_code 3 (some .int) :: ws) ({ frames := 0, cells := 0, slots := 0, locals := 0 } : Room)) (fun A_ U_ => A_ = #[(.ref a), (.int (1 : Int32))] ∧ Z.Warmed39 U_.vm ∧ U_.heap = h0) (fun _ _ _ _ _ => True) (fun _ U o U' => ∃ v L, o = .returned v ∧ Qe1 Z a b kb d kd x0 x1 y0 y1 cn tl h0 n0 v U'.heap L ∧ FrameEnd U o U' L ({ frames := 0, cells := 0, slots := 0, locals := 0 } : Room).cells ({ frames := 0, cells := 0, slots := 0, locals := 0 } : Room).slots) := by
  refine MetFree.of_bodySF (plainFor_of_name pne1) hisR ?_
  intro p e s m args below meth cd s₁ Bd hml0 hP hK
  obtain ⟨rfl, hZ, hh⟩ := hP
  have hx := Bd.exec
  have hby := Bd.bytes
  have hlk : meth.locks = false := BodyLoose.notSynchronized Bd
  have hml : cd.maxLocals = 3 := hml0
  have hown : s.vm.findClass "com/example/element_ranker/elementranker/TagStatistics" = some m.cls := findClass_of_methodNamed Bd.named
  have hnm := (name_of_methodNamed Bd.named Bd.method).1
  have X0 : Stand p l e ({ frames := 0, cells := 0, slots := 0, locals := 0 } : Room) s m #[(.ref a), (.int (1 : Int32))] below meth cd s₁ [] 0 0 := Stand.of_body Bd
  have e0 : s₁.heap = h0 := by rw [← hh, Bd.state]; rfl
  have N0 := Fr.nil n0
  have G : Go p e below s 0 0 (Qe1 Z a b kb d kd x0 x1 y0 y1 cn tl h0 n0) (s₁.setTop (mkF m 0 #[.val (.ref a), .val (.int (1 : Int32)), .unset] [])) := by
    show Go p e below s _ _ _ (s₁.setTop (mkF m 0 #[.val (.ref a), .val (.int (1 : Int32)), .unset] []))
    refine Go.st (fun _ kq_ => XS.iloadN X0.here hx rfl (hb hby de1_0) rfl kq_) ?_
    show Go p e below s _ _ _ (s₁.setTop (mkF m 1 #[.val (.ref a), .val (.int (1 : Int32)), .unset] [(.int (1 : Int32))]))
    refine Go.st (fun _ kq_ => XS.iconst X0.here hx rfl (hb hby de1_1) kq_) ?_
    show Go p e below s _ _ _ (s₁.setTop (mkF m 2 #[.val (.ref a), .val (.int (1 : Int32)), .unset] [(.int (-1 : Int32)), (.int (1 : Int32))]))
    refine Go.st (fun _ kq_ => XS.icmpYes X0.here hx rfl (pc0 := 2) (pc' := 13) rfl (hb hby de1_2) rfl (by decide) (by decide) (by decide) kq_) ?_
    show Go p e below s _ _ _ (s₁.setTop (mkF m 13 #[.val (.ref a), .val (.int (1 : Int32)), .unset] []))
    refine Go.st (fun _ kq_ => XS.iloadN X0.here hx rfl (hb hby de1_13) rfl kq_) ?_
    show Go p e below s _ _ _ (s₁.setTop (mkF m 14 #[.val (.ref a), .val (.int (1 : Int32)), .unset] [(.int (1 : Int32))]))
    refine Go.st (fun _ kq_ => XS.bipush X0.here hx rfl (hb hby de1_14) kq_) ?_
    show Go p e below s _ _ _ (s₁.setTop (mkF m 16 #[.val (.ref a), .val (.int (1 : Int32)), .unset] [(.int (-2 : Int32)), (.int (1 : Int32))]))
    refine Go.st (fun _ kq_ => XS.icmpYes X0.here hx rfl (pc0 := 16) (pc' := 24) rfl (hb hby de1_16) rfl (by decide) (by decide) (by decide) kq_) ?_
    show Go p e below s _ _ _ (s₁.setTop (mkF m 24 #[.val (.ref a), .val (.int (1 : Int32)), .unset] []))
    refine Go.st (fun _ kq_ => XS.aloadN X0.here hx rfl (hb hby de1_24) rfl rfl kq_) ?_
    show Go p e below s _ _ _ (s₁.setTop (mkF m 25 #[.val (.ref a), .val (.int (1 : Int32)), .unset] [(.ref a)]))
    obtain ⟨T1, X1, e1, st1⟩ := getF X0 hx hZ hown (host := "") (Or.inl (own_w hw 10 rfl)) Via.refl e0 F_a_elementCounts (g := (mkF m 25 #[.val (.ref a), .val (.int (1 : Int32)), .unset] [(.ref a)])) rfl rfl (hb hby de1_25)
    refine Go.st st1 ?_
    show Go p e below s _ _ _ (T1.setTop (mkF m 28 #[.val (.ref a), .val (.int (1 : Int32)), .unset] [(.ref b)]))
    refine Go.st (fun _ kq_ => XS.iloadN X1.here hx rfl (hb hby de1_28) rfl kq_) ?_
    show Go p e below s _ _ _ (T1.setTop (mkF m 29 #[.val (.ref a), .val (.int (1 : Int32)), .unset] [(.int (1 : Int32)), (.ref b)]))
    refine Go.st (fun _ kq_ => own_iaload X1 hx hZ e1 V_b (by decide) (by decide) (v := (.int x1)) rfl (g := (mkF m 29 #[.val (.ref a), .val (.int (1 : Int32)), .unset] [(.int (1 : Int32)), (.ref b)])) rfl rfl (hb hby de1_29) _ kq_) ?_
    show Go p e below s _ _ _ (T1.setTop (mkF m 30 #[.val (.ref a), .val (.int (1 : Int32)), .unset] [(.int x1)]))
    refine Go.st (fun _ kq_ => XS.istoreN X1.here hx rfl (hb hby de1_30) rfl (l' := #[.val (.ref a), .val (.int (1 : Int32)), .val (.int x1)]) rfl kq_) ?_
    show Go p e below s _ _ _ (T1.setTop (mkF m 31 #[.val (.ref a), .val (.int (1 : Int32)), .val (.int x1)] []))
    refine Go.st (fun _ kq_ => XS.iloadN X1.here hx rfl (hb hby de1_31) rfl kq_) ?_
    show Go p e below s _ _ _ (T1.setTop (mkF m 32 #[.val (.ref a), .val (.int (1 : Int32)), .val (.int x1)] [(.int x1)]))
    exact Go.ret X1 hlk (some (.int x1)) (fun h => by rw [Bd.returns] at h; cases h) (by rw [e1]; exact ⟨rfl, N0, rfl⟩) (by decide) (by decide) (fun fs hr => retI X1 hx Bd.returns (hb hby de1_32) hr)
  obtain ⟨s2, o2, st2, r2⟩ := G
  exact ⟨s2, o2, castTop (efe1 m a (1 : Int32)) st2, r2⟩
def fAvg (t : Int64) (c : Int32) : UInt64 := if c = 0 then FP.dconst0 else FP.ddiv (FP.l2d t) (FP.i2d c)
theorem own_div (t : Int64) (c : Int32) (h : ¬ c = 0) : Jvm.Free.Fl.NoNaN64 (FP.ddiv (FP.l2d t) (FP.i2d c)) := by
  rw [i2d_w]
  have hb := l2d_big (v := c.toInt64) (fun q => h (by
    have h1 := c_i2l c
    rw [q] at h1
    exact Int32.toInt_inj.mp h1.symm))
  exact ((ddiv_mag (Jvm.Free.Fl.l2d_mag t) hb (by decide) (by decide)).fin (by decide)).noNaN
theorem own_avg (t : Int64) (c : Int32) : Jvm.Free.Fl.NoNaN64 (fAvg t c) := by
  unfold fAvg
  split
  · decide
  · exact own_div _ _ (by assumption)
theorem dv_0 : decode method_2_code 0 = .ok (.iload_n 2, 1) := by decide +kernel
theorem dv_1 : decode method_2_code 1 = .ok (.ifCond .ne 5, 3) := by decide +kernel
theorem dv_4 : decode method_2_code 4 = .ok (.dconst 0, 1) := by decide +kernel
theorem dv_5 : decode method_2_code 5 = .ok (.dreturn, 1) := by decide +kernel
theorem dv_6 : decode method_2_code 6 = .ok (.lload_n 0, 1) := by decide +kernel
theorem dv_7 : decode method_2_code 7 = .ok (.l2d, 1) := by decide +kernel
theorem dv_8 : decode method_2_code 8 = .ok (.iload_n 2, 1) := by decide +kernel
theorem dv_9 : decode method_2_code 9 = .ok (.i2d, 1) := by decide +kernel
theorem dv_10 : decode method_2_code 10 = .ok (.ddiv, 1) := by decide +kernel
theorem dv_11 : decode method_2_code 11 = .ok (.dreturn, 1) := by decide +kernel
theorem pnv : plainName "com/example/element_ranker/elementranker/TagStatisticsAddPinLaw" = true := by first | (simp [plainName, overriddenIn]; done) | decide +kernel
theorem efv (m : MethodId) (x0 : Int64) (x1 : Int32) : entryFrame m #[(.long x0), (.int x1)] 3 = mkF m 0 #[.val (.long x0), .second, .val (.int x1)] [] := by first | (simp [entryFrame, mkF, argsToLocals, Value.category, maxLocals]; done) | rfl
def Qv (Z : State) (p0 : Int64) (p1 : Int32) (h0 : Heap) (n0 : Nat) (v : Option Value) (h : Heap) (L : List Loc) : Prop := v = some (.double (fAvg p0 p1)) ∧ Fr n0 L ∧ h = h0
set_option maxRecDepth 65536 in
set_option maxHeartbeats 40000000 in
theorem rmv (l : Launch) (Z : State) (a0 : Array Value) (hw : ∀ d ∈ tables_1, d.before a0 Z = true) (ws : List Jvm.Cond) (p0 : Int64) (p1 : Int32) (h0 : Heap) (n0 : Nat) (O0 : Old Z n0 h0)  :
    MetFree l (⟨"com/example/element_ranker/elementranker/TagStatisticsAddPinLaw", "avg", "(JI)D"⟩ : MethodName) (head1 (Jvm.Cond.code (⟨"com/example/element_ranker/elementranker/TagStatisticsAddPinLaw", "avg", "(JI)D"⟩ : MethodName) method_2_code 3 (some .double) :: ws) ({ frames := 0, cells := 0, slots := 0, locals := 0 } : Room)) (fun A_ U_ => A_ = #[(.long p0), (.int p1)] ∧ Z.Warmed39 U_.vm ∧ U_.heap = h0) (fun _ _ _ _ _ => True) (fun _ U o U' => ∃ v L, o = .returned v ∧ Qv Z p0 p1 h0 n0 v U'.heap L ∧ FrameEnd U o U' L ({ frames := 0, cells := 0, slots := 0, locals := 0 } : Room).cells ({ frames := 0, cells := 0, slots := 0, locals := 0 } : Room).slots) := by
  refine MetFree.of_bodySF (plainFor_of_name pnv) hisR ?_
  intro p e s m args below meth cd s₁ Bd hml0 hP hK
  obtain ⟨rfl, hZ, hh⟩ := hP
  have hx := Bd.exec
  have hby := Bd.bytes
  have hlk : meth.locks = false := BodyLoose.notSynchronized Bd
  have hml : cd.maxLocals = 3 := hml0
  have hown : s.vm.findClass "com/example/element_ranker/elementranker/TagStatisticsAddPinLaw" = some m.cls := findClass_of_methodNamed Bd.named
  have hnm := (name_of_methodNamed Bd.named Bd.method).1
  have X0 : Stand p l e ({ frames := 0, cells := 0, slots := 0, locals := 0 } : Room) s m #[(.long p0), (.int p1)] below meth cd s₁ [] 0 0 := Stand.of_body Bd
  have e0 : s₁.heap = h0 := by rw [← hh, Bd.state]; rfl
  have N0 := Fr.nil n0
  have G : Go p e below s 0 0 (Qv Z p0 p1 h0 n0) (s₁.setTop (mkF m 0 #[.val (.long p0), .second, .val (.int p1)] [])) := by
    show Go p e below s _ _ _ (s₁.setTop (mkF m 0 #[.val (.long p0), .second, .val (.int p1)] []))
    refine Go.st (fun _ kq_ => XS.iloadN X0.here hx rfl (hb hby dv_0) rfl kq_) ?_
    show Go p e below s _ _ _ (s₁.setTop (mkF m 1 #[.val (.long p0), .second, .val (.int p1)] [(.int p1)]))
    by_cases c1_1 : p1 = (0 : Int32)
    · refine Go.st (fun _ kq_ => XS.ifNo X0.here hx rfl (hb hby dv_1) rfl (XT.i0_ne_f c1_1) kq_) ?_
      show Go p e below s _ _ _ (s₁.setTop (mkF m 4 #[.val (.long p0), .second, .val (.int p1)] []))
      refine Go.st (fun _ kq_ => XS.dconst0 X0.here hx rfl (hb hby dv_4) rfl kq_) ?_
      show Go p e below s _ _ _ (s₁.setTop (mkF m 5 #[.val (.long p0), .second, .val (.int p1)] [(.double FP.dconst0)]))
      exact Go.ret X0 hlk (some (.double FP.dconst0)) (fun h => by rw [Bd.returns] at h; cases h) (by rw [e0]; exact ⟨by unfold fAvg; rw [if_pos c1_1], N0, rfl⟩) (by decide) (by decide) (fun fs hr => retOut X0 hx Bd.returns rfl (Or.inr (Or.inr (Or.inl ⟨rfl, rfl, _, rfl⟩))) (hb hby dv_5) hr)
    · refine Go.st (fun _ kq_ => XS.ifYes X0.here hx rfl (pc0 := 1) (pc' := 6) rfl (hb hby dv_1) rfl (XT.i0_ne_t c1_1) (by decide) (by decide) kq_) ?_
      show Go p e below s _ _ _ (s₁.setTop (mkF m 6 #[.val (.long p0), .second, .val (.int p1)] []))
      refine Go.st (fun _ kq_ => XT.lloadN X0.here hx rfl (hb hby dv_6) rfl kq_) ?_
      show Go p e below s _ _ _ (s₁.setTop (mkF m 7 #[.val (.long p0), .second, .val (.int p1)] [(.long p0)]))
      refine Go.st (fun _ kq_ => XS.l2dS X0.here hx rfl (hb hby dv_7) rfl rfl kq_) ?_
      show Go p e below s _ _ _ (s₁.setTop (mkF m 8 #[.val (.long p0), .second, .val (.int p1)] [(.double (FP.l2d p0))]))
      refine Go.st (fun _ kq_ => XS.iloadN X0.here hx rfl (hb hby dv_8) rfl kq_) ?_
      show Go p e below s _ _ _ (s₁.setTop (mkF m 9 #[.val (.long p0), .second, .val (.int p1)] [(.int p1), (.double (FP.l2d p0))]))
      refine Go.st (fun _ kq_ => XS.i2dS X0.here hx rfl (hb hby dv_9) rfl rfl kq_) ?_
      show Go p e below s _ _ _ (s₁.setTop (mkF m 10 #[.val (.long p0), .second, .val (.int p1)] [(.double (FP.i2d p1)), (.double (FP.l2d p0))]))
      refine Go.st (fun _ kq_ => XS.ddivS X0.here hx rfl (hb hby dv_10) rfl (own_div _ _ c1_1) rfl kq_) ?_
      show Go p e below s _ _ _ (s₁.setTop (mkF m 11 #[.val (.long p0), .second, .val (.int p1)] [(.double (FP.ddiv (FP.l2d p0) (FP.i2d p1)))]))
      exact Go.ret X0 hlk (some (.double (FP.ddiv (FP.l2d p0) (FP.i2d p1)))) (fun h => by rw [Bd.returns] at h; cases h) (by rw [e0]; exact ⟨by unfold fAvg; rw [if_neg c1_1], N0, rfl⟩) (by decide) (by decide) (fun fs hr => retOut X0 hx Bd.returns rfl (Or.inr (Or.inr (Or.inl ⟨rfl, rfl, _, rfl⟩))) (hb hby dv_11) hr)
  obtain ⟨s2, o2, st2, r2⟩ := G
  exact ⟨s2, o2, castTop (efv m p0 p1) st2, r2⟩
theorem dlm1_0 : decode prog_53_method_4_code 0 = .ok (.iload_n 1, 1) := by decide +kernel
theorem dlm1_1 : decode prog_53_method_4_code 1 = .ok (.iconst (-1), 1) := by decide +kernel
theorem dlm1_2 : decode prog_53_method_4_code 2 = .ok (.if_icmp .ne 11, 3) := by decide +kernel
theorem dlm1_5 : decode prog_53_method_4_code 5 = .ok (.aload_n 0, 1) := by decide +kernel
theorem dlm1_6 : decode prog_53_method_4_code 6 = .ok (.getfield 21, 3) := by decide +kernel
theorem dlm1_9 : decode prog_53_method_4_code 9 = .ok (.lstore_n 2, 1) := by decide +kernel
theorem dlm1_10 : decode prog_53_method_4_code 10 = .ok (.goto 21, 3) := by decide +kernel
theorem dlm1_31 : decode prog_53_method_4_code 31 = .ok (.aload_n 0, 1) := by decide +kernel
theorem dlm1_32 : decode prog_53_method_4_code 32 = .ok (.iload_n 1, 1) := by decide +kernel
theorem dlm1_33 : decode prog_53_method_4_code 33 = .ok (.invokevirtual 27, 3) := by decide +kernel
theorem dlm1_36 : decode prog_53_method_4_code 36 = .ok (.istore 4, 2) := by decide +kernel
theorem dlm1_38 : decode prog_53_method_4_code 38 = .ok (.iload 4, 2) := by decide +kernel
theorem dlm1_40 : decode prog_53_method_4_code 40 = .ok (.ifCond .ne 7, 3) := by decide +kernel
theorem dlm1_43 : decode prog_53_method_4_code 43 = .ok (.dconst 0, 1) := by decide +kernel
theorem dlm1_44 : decode prog_53_method_4_code 44 = .ok (.goto 9, 3) := by decide +kernel
theorem dlm1_47 : decode prog_53_method_4_code 47 = .ok (.lload_n 2, 1) := by decide +kernel
theorem dlm1_48 : decode prog_53_method_4_code 48 = .ok (.l2d, 1) := by decide +kernel
theorem dlm1_49 : decode prog_53_method_4_code 49 = .ok (.iload 4, 2) := by decide +kernel
theorem dlm1_51 : decode prog_53_method_4_code 51 = .ok (.i2d, 1) := by decide +kernel
theorem dlm1_52 : decode prog_53_method_4_code 52 = .ok (.ddiv, 1) := by decide +kernel
theorem dlm1_53 : decode prog_53_method_4_code 53 = .ok (.dreturn, 1) := by decide +kernel
theorem pdlm1_0 : parseMethodDescriptor "(I)I" = some ⟨[.int], some .int⟩ := by decide +kernel
theorem pnlm1 : plainName "com/example/element_ranker/elementranker/TagStatistics" = true := by first | (simp [plainName, overriddenIn]; done) | decide +kernel
theorem eflm1 (m : MethodId) (x0 : Addr) (x1 : Int32) : entryFrame m #[(.ref x0), (.int x1)] 5 = mkF m 0 #[.val (.ref x0), .val (.int x1), .unset, .unset, .unset] [] := by first | (simp [entryFrame, mkF, argsToLocals, Value.category, maxLocals]; done) | rfl
def Qlm1 (Z : State) (a : Addr) (b : Addr) (kb : ClassId) (d : Addr) (kd : ClassId) (x0 : Int32) (x1 : Int32) (y0 : Int64) (y1 : Int64) (cn : Int32) (tl : Int64) (h0 : Heap) (n0 : Nat) (v : Option Value) (h : Heap) (L : List Loc) : Prop := v = some (.double (fAvg tl cn)) ∧ Fr n0 L ∧ h = h0
set_option maxRecDepth 65536 in
set_option maxHeartbeats 40000000 in
theorem rmlm1 (l : Launch) (Z : State) (a0 : Array Value) (hw : ∀ d ∈ tables_1, d.before a0 Z = true) (ws : List Jvm.Cond) (a : Addr) (b : Addr) (kb : ClassId) (d : Addr) (kd : ClassId) (x0 : Int32) (x1 : Int32) (y0 : Int64) (y1 : Int64) (cn : Int32) (tl : Int64) (h0 : Heap) (n0 : Nat) (O0 : Old Z n0 h0) (E_a : Exa Z h0 a "com/example/element_ranker/elementranker/TagStatistics") (F_a_elementCounts : Fld Z h0 a "com/example/element_ranker/elementranker/TagStatistics" "elementCounts" "[I" (.ref b)) (F_a_totalLengths : Fld Z h0 a "com/example/element_ranker/elementranker/TagStatistics" "totalLengths" "[J" (.ref d)) (F_a_elementCount : Fld Z h0 a "com/example/element_ranker/elementranker/TagStatistics" "elementCount" "I" (.int cn)) (F_a_totalLength : Fld Z h0 a "com/example/element_ranker/elementranker/TagStatistics" "totalLength" "J" (.long tl)) (V_b : Arv Z h0 b kb .int (2 : Int32) [(.int x0), (.int x1)] (.int (0 : Int32))) (V_d : Arv Z h0 d kd .long (2 : Int32) [(.long y0), (.long y1)] (.long (0 : Int64))) :
    MetFree l (⟨"com/example/element_ranker/elementranker/TagStatistics", "averageLength", "(I)D"⟩ : MethodName) (head1 (Jvm.Cond.code (⟨"com/example/element_ranker/elementranker/TagStatistics", "averageLength", "(I)D"⟩ : MethodName) prog_53_method_4_code 5 (some .double) :: ws) ({ frames := 1, cells := 0, slots := 0, locals := 14 } : Room)) (fun A_ U_ => A_ = #[(.ref a), (.int (-1 : Int32))] ∧ Z.Warmed39 U_.vm ∧ U_.heap = h0) (fun _ _ _ _ _ => True) (fun _ U o U' => ∃ v L, o = .returned v ∧ Qlm1 Z a b kb d kd x0 x1 y0 y1 cn tl h0 n0 v U'.heap L ∧ FrameEnd U o U' L ({ frames := 1, cells := 0, slots := 0, locals := 14 } : Room).cells ({ frames := 1, cells := 0, slots := 0, locals := 14 } : Room).slots) := by
  refine MetFree.of_bodySF (plainFor_of_name pnlm1) hisR ?_
  intro p e s m args below meth cd s₁ Bd hml0 hP hK
  obtain ⟨rfl, hZ, hh⟩ := hP
  have hx := Bd.exec
  have hby := Bd.bytes
  have hlk : meth.locks = false := BodyLoose.notSynchronized Bd
  have hml : cd.maxLocals = 5 := hml0
  have hown : s.vm.findClass "com/example/element_ranker/elementranker/TagStatistics" = some m.cls := findClass_of_methodNamed Bd.named
  have hnm := (name_of_methodNamed Bd.named Bd.method).1
  have X0 : Stand p l e ({ frames := 1, cells := 0, slots := 0, locals := 14 } : Room) s m #[(.ref a), (.int (-1 : Int32))] below meth cd s₁ [] 0 0 := Stand.of_body Bd
  have e0 : s₁.heap = h0 := by rw [← hh, Bd.state]; rfl
  have N0 := Fr.nil n0
  have G : Go p e below s 0 0 (Qlm1 Z a b kb d kd x0 x1 y0 y1 cn tl h0 n0) (s₁.setTop (mkF m 0 #[.val (.ref a), .val (.int (-1 : Int32)), .unset, .unset, .unset] [])) := by
    show Go p e below s _ _ _ (s₁.setTop (mkF m 0 #[.val (.ref a), .val (.int (-1 : Int32)), .unset, .unset, .unset] []))
    refine Go.st (fun _ kq_ => XS.iloadN X0.here hx rfl (hb hby dlm1_0) rfl kq_) ?_
    show Go p e below s _ _ _ (s₁.setTop (mkF m 1 #[.val (.ref a), .val (.int (-1 : Int32)), .unset, .unset, .unset] [(.int (-1 : Int32))]))
    refine Go.st (fun _ kq_ => XS.iconst X0.here hx rfl (hb hby dlm1_1) kq_) ?_
    show Go p e below s _ _ _ (s₁.setTop (mkF m 2 #[.val (.ref a), .val (.int (-1 : Int32)), .unset, .unset, .unset] [(.int (-1 : Int32)), (.int (-1 : Int32))]))
    refine Go.st (fun _ kq_ => XS.icmpNo X0.here hx rfl (hb hby dlm1_2) rfl (by decide) kq_) ?_
    show Go p e below s _ _ _ (s₁.setTop (mkF m 5 #[.val (.ref a), .val (.int (-1 : Int32)), .unset, .unset, .unset] []))
    refine Go.st (fun _ kq_ => XS.aloadN X0.here hx rfl (hb hby dlm1_5) rfl rfl kq_) ?_
    show Go p e below s _ _ _ (s₁.setTop (mkF m 6 #[.val (.ref a), .val (.int (-1 : Int32)), .unset, .unset, .unset] [(.ref a)]))
    obtain ⟨T1, X1, e1, st1⟩ := getF X0 hx hZ hown (host := "") (Or.inl (own_w hw 22 rfl)) Via.refl e0 F_a_totalLength (g := (mkF m 6 #[.val (.ref a), .val (.int (-1 : Int32)), .unset, .unset, .unset] [(.ref a)])) rfl rfl (hb hby dlm1_6)
    refine Go.st st1 ?_
    show Go p e below s _ _ _ (T1.setTop (mkF m 9 #[.val (.ref a), .val (.int (-1 : Int32)), .unset, .unset, .unset] [(.long tl)]))
    refine Go.st (fun _ kq_ => XT.lstoreN X1.here hx rfl (hb hby dlm1_9) rfl (l' := #[.val (.ref a), .val (.int (-1 : Int32)), .val (.long tl), .second, .unset]) rfl kq_) ?_
    show Go p e below s _ _ _ (T1.setTop (mkF m 10 #[.val (.ref a), .val (.int (-1 : Int32)), .val (.long tl), .second, .unset] []))
    refine Go.st (fun _ kq_ => XS.goto X1.here hx rfl (pc0 := 10) (pc' := 31) rfl (hb hby dlm1_10) (by decide) (by decide) kq_) ?_
    show Go p e below s _ _ _ (T1.setTop (mkF m 31 #[.val (.ref a), .val (.int (-1 : Int32)), .val (.long tl), .second, .unset] []))
    refine Go.st (fun _ kq_ => XS.aloadN X1.here hx rfl (hb hby dlm1_31) rfl rfl kq_) ?_
    show Go p e below s _ _ _ (T1.setTop (mkF m 32 #[.val (.ref a), .val (.int (-1 : Int32)), .val (.long tl), .second, .unset] [(.ref a)]))
    refine Go.st (fun _ kq_ => XS.iloadN X1.here hx rfl (hb hby dlm1_32) rfl kq_) ?_
    show Go p e below s _ _ _ (T1.setTop (mkF m 33 #[.val (.ref a), .val (.int (-1 : Int32)), .val (.long tl), .second, .unset] [(.int (-1 : Int32)), (.ref a)]))
    obtain ⟨cq2, kq2, qa2, qb2, qc2⟩ := isOf hZ e1 E_a
    obtain ⟨_, _, ⟨T2, L2, k2, n2⟩, -, X2, ⟨Lc2, hQ2, l2, y2, z2⟩, st2⟩ := X1.virtualBack hx (y := (⟨"com/example/element_ranker/elementranker/TagStatistics", "elementCount", "(I)I"⟩ : MethodName)) (z := (⟨"com/example/element_ranker/elementranker/TagStatistics", "elementCount", "(I)I"⟩ : MethodName)) hown (mvT hZ (own_w hw 34 rfl)) (mvT hZ (own_w hw 25 rfl)) (notFace_of_selects (args := #[]) (mvT hZ (own_w hw 27 rfl))) (mvT hZ (own_w hw 27 rfl)) (mvT hZ (own_w hw 26 rfl)) (by decide) (backOf (W := 0) (rmem1 l Z a0 hw [] a b kb d kd x0 x1 y0 y1 cn tl h0 n0 O0 E_a F_a_elementCounts F_a_totalLengths F_a_elementCount F_a_totalLength V_b V_d) hZ (own_w hw 28 rfl) (own_w hw 2 rfl) (by decide) (by decide)) qa2 qc2 (g := (mkF m 33 #[.val (.ref a), .val (.int (-1 : Int32)), .val (.long tl), .second, .unset] [(.int (-1 : Int32)), (.ref a)])) rfl (by rw [hml]; rfl) (Steps.refl _) (argsL := [(.int (-1 : Int32))]) (rest := []) (lenOf pdlm1_0 rfl) rfl (by show 2 * 0 + _ ≤ _; exact Nat.le_of_eq rfl) (hb hby dlm1_33) (fun _ _ => ⟨rfl, e1, (by decide : 0 + 0 ≤ _), (by decide : 0 + 0 ≤ _)⟩)
    dsimp only [Pt.U, Pt.locs, Pt.cells, Pt.slots] at X2 l2 y2 z2 st2 hQ2
    subst l2 y2 z2
    obtain ⟨rfl, Nc2, e2⟩ := hQ2
    have N2 := Fr.app N0 Nc2
    refine Go.tr st2 ?_
    show Go p e below s _ _ _ (T2.setTop (mkF m 36 #[.val (.ref a), .val (.int (-1 : Int32)), .val (.long tl), .second, .unset] [(.int cn)]))
    refine Go.st (fun _ kq_ => XS.istore X2.here hx rfl (hb hby dlm1_36) rfl (l' := #[.val (.ref a), .val (.int (-1 : Int32)), .val (.long tl), .second, .val (.int cn)]) rfl kq_) ?_
    show Go p e below s _ _ _ (T2.setTop (mkF m 38 #[.val (.ref a), .val (.int (-1 : Int32)), .val (.long tl), .second, .val (.int cn)] []))
    refine Go.st (fun _ kq_ => XS.iload X2.here hx rfl (hb hby dlm1_38) rfl kq_) ?_
    show Go p e below s _ _ _ (T2.setTop (mkF m 40 #[.val (.ref a), .val (.int (-1 : Int32)), .val (.long tl), .second, .val (.int cn)] [(.int cn)]))
    by_cases c40_3 : cn = (0 : Int32)
    · refine Go.st (fun _ kq_ => XS.ifNo X2.here hx rfl (hb hby dlm1_40) rfl (XT.i0_ne_f c40_3) kq_) ?_
      show Go p e below s _ _ _ (T2.setTop (mkF m 43 #[.val (.ref a), .val (.int (-1 : Int32)), .val (.long tl), .second, .val (.int cn)] []))
      refine Go.st (fun _ kq_ => XS.dconst0 X2.here hx rfl (hb hby dlm1_43) rfl kq_) ?_
      show Go p e below s _ _ _ (T2.setTop (mkF m 44 #[.val (.ref a), .val (.int (-1 : Int32)), .val (.long tl), .second, .val (.int cn)] [(.double FP.dconst0)]))
      refine Go.st (fun _ kq_ => XS.goto X2.here hx rfl (pc0 := 44) (pc' := 53) rfl (hb hby dlm1_44) (by decide) (by decide) kq_) ?_
      show Go p e below s _ _ _ (T2.setTop (mkF m 53 #[.val (.ref a), .val (.int (-1 : Int32)), .val (.long tl), .second, .val (.int cn)] [(.double FP.dconst0)]))
      exact Go.ret X2 hlk (some (.double FP.dconst0)) (fun h => by rw [Bd.returns] at h; cases h) (by rw [e2]; exact ⟨by unfold fAvg; rw [if_pos c40_3], N2, rfl⟩) (by decide) (by decide) (fun fs hr => retOut X2 hx Bd.returns rfl (Or.inr (Or.inr (Or.inl ⟨rfl, rfl, _, rfl⟩))) (hb hby dlm1_53) hr)
    · refine Go.st (fun _ kq_ => XS.ifYes X2.here hx rfl (pc0 := 40) (pc' := 47) rfl (hb hby dlm1_40) rfl (XT.i0_ne_t c40_3) (by decide) (by decide) kq_) ?_
      show Go p e below s _ _ _ (T2.setTop (mkF m 47 #[.val (.ref a), .val (.int (-1 : Int32)), .val (.long tl), .second, .val (.int cn)] []))
      refine Go.st (fun _ kq_ => XT.lloadN X2.here hx rfl (hb hby dlm1_47) rfl kq_) ?_
      show Go p e below s _ _ _ (T2.setTop (mkF m 48 #[.val (.ref a), .val (.int (-1 : Int32)), .val (.long tl), .second, .val (.int cn)] [(.long tl)]))
      refine Go.st (fun _ kq_ => XS.l2dS X2.here hx rfl (hb hby dlm1_48) rfl rfl kq_) ?_
      show Go p e below s _ _ _ (T2.setTop (mkF m 49 #[.val (.ref a), .val (.int (-1 : Int32)), .val (.long tl), .second, .val (.int cn)] [(.double (FP.l2d tl))]))
      refine Go.st (fun _ kq_ => XS.iload X2.here hx rfl (hb hby dlm1_49) rfl kq_) ?_
      show Go p e below s _ _ _ (T2.setTop (mkF m 51 #[.val (.ref a), .val (.int (-1 : Int32)), .val (.long tl), .second, .val (.int cn)] [(.int cn), (.double (FP.l2d tl))]))
      refine Go.st (fun _ kq_ => XS.i2dS X2.here hx rfl (hb hby dlm1_51) rfl rfl kq_) ?_
      show Go p e below s _ _ _ (T2.setTop (mkF m 52 #[.val (.ref a), .val (.int (-1 : Int32)), .val (.long tl), .second, .val (.int cn)] [(.double (FP.i2d cn)), (.double (FP.l2d tl))]))
      refine Go.st (fun _ kq_ => XS.ddivS X2.here hx rfl (hb hby dlm1_52) rfl (own_div _ _ c40_3) rfl kq_) ?_
      show Go p e below s _ _ _ (T2.setTop (mkF m 53 #[.val (.ref a), .val (.int (-1 : Int32)), .val (.long tl), .second, .val (.int cn)] [(.double (FP.ddiv (FP.l2d tl) (FP.i2d cn)))]))
      exact Go.ret X2 hlk (some (.double (FP.ddiv (FP.l2d tl) (FP.i2d cn)))) (fun h => by rw [Bd.returns] at h; cases h) (by rw [e2]; exact ⟨by unfold fAvg; rw [if_neg c40_3], N2, rfl⟩) (by decide) (by decide) (fun fs hr => retOut X2 hx Bd.returns rfl (Or.inr (Or.inr (Or.inl ⟨rfl, rfl, _, rfl⟩))) (hb hby dlm1_53) hr)
  obtain ⟨s2, o2, st2, r2⟩ := G
  exact ⟨s2, o2, castTop (eflm1 m a (-1 : Int32)) st2, r2⟩
theorem dl0_0 : decode prog_53_method_4_code 0 = .ok (.iload_n 1, 1) := by decide +kernel
theorem dl0_1 : decode prog_53_method_4_code 1 = .ok (.iconst (-1), 1) := by decide +kernel
theorem dl0_2 : decode prog_53_method_4_code 2 = .ok (.if_icmp .ne 11, 3) := by decide +kernel
theorem dl0_13 : decode prog_53_method_4_code 13 = .ok (.iload_n 1, 1) := by decide +kernel
theorem dl0_14 : decode prog_53_method_4_code 14 = .ok (.bipush (-2), 2) := by decide +kernel
theorem dl0_16 : decode prog_53_method_4_code 16 = .ok (.if_icmp .ne 8, 3) := by decide +kernel
theorem dl0_24 : decode prog_53_method_4_code 24 = .ok (.aload_n 0, 1) := by decide +kernel
theorem dl0_25 : decode prog_53_method_4_code 25 = .ok (.getfield 13, 3) := by decide +kernel
theorem dl0_28 : decode prog_53_method_4_code 28 = .ok (.iload_n 1, 1) := by decide +kernel
theorem dl0_29 : decode prog_53_method_4_code 29 = .ok (.laload, 1) := by decide +kernel
theorem dl0_30 : decode prog_53_method_4_code 30 = .ok (.lstore_n 2, 1) := by decide +kernel
theorem dl0_31 : decode prog_53_method_4_code 31 = .ok (.aload_n 0, 1) := by decide +kernel
theorem dl0_32 : decode prog_53_method_4_code 32 = .ok (.iload_n 1, 1) := by decide +kernel
theorem dl0_33 : decode prog_53_method_4_code 33 = .ok (.invokevirtual 27, 3) := by decide +kernel
theorem dl0_36 : decode prog_53_method_4_code 36 = .ok (.istore 4, 2) := by decide +kernel
theorem dl0_38 : decode prog_53_method_4_code 38 = .ok (.iload 4, 2) := by decide +kernel
theorem dl0_40 : decode prog_53_method_4_code 40 = .ok (.ifCond .ne 7, 3) := by decide +kernel
theorem dl0_43 : decode prog_53_method_4_code 43 = .ok (.dconst 0, 1) := by decide +kernel
theorem dl0_44 : decode prog_53_method_4_code 44 = .ok (.goto 9, 3) := by decide +kernel
theorem dl0_47 : decode prog_53_method_4_code 47 = .ok (.lload_n 2, 1) := by decide +kernel
theorem dl0_48 : decode prog_53_method_4_code 48 = .ok (.l2d, 1) := by decide +kernel
theorem dl0_49 : decode prog_53_method_4_code 49 = .ok (.iload 4, 2) := by decide +kernel
theorem dl0_51 : decode prog_53_method_4_code 51 = .ok (.i2d, 1) := by decide +kernel
theorem dl0_52 : decode prog_53_method_4_code 52 = .ok (.ddiv, 1) := by decide +kernel
theorem dl0_53 : decode prog_53_method_4_code 53 = .ok (.dreturn, 1) := by decide +kernel
theorem pdl0_0 : parseMethodDescriptor "(I)I" = some ⟨[.int], some .int⟩ := by decide +kernel
theorem pnl0 : plainName "com/example/element_ranker/elementranker/TagStatistics" = true := by first | (simp [plainName, overriddenIn]; done) | decide +kernel
theorem efl0 (m : MethodId) (x0 : Addr) (x1 : Int32) : entryFrame m #[(.ref x0), (.int x1)] 5 = mkF m 0 #[.val (.ref x0), .val (.int x1), .unset, .unset, .unset] [] := by first | (simp [entryFrame, mkF, argsToLocals, Value.category, maxLocals]; done) | rfl
def Ql0 (Z : State) (a : Addr) (b : Addr) (kb : ClassId) (d : Addr) (kd : ClassId) (x0 : Int32) (x1 : Int32) (y0 : Int64) (y1 : Int64) (cn : Int32) (tl : Int64) (h0 : Heap) (n0 : Nat) (v : Option Value) (h : Heap) (L : List Loc) : Prop := v = some (.double (fAvg y0 x0)) ∧ Fr n0 L ∧ h = h0
set_option maxRecDepth 65536 in
set_option maxHeartbeats 40000000 in
theorem rml0 (l : Launch) (Z : State) (a0 : Array Value) (hw : ∀ d ∈ tables_1, d.before a0 Z = true) (ws : List Jvm.Cond) (a : Addr) (b : Addr) (kb : ClassId) (d : Addr) (kd : ClassId) (x0 : Int32) (x1 : Int32) (y0 : Int64) (y1 : Int64) (cn : Int32) (tl : Int64) (h0 : Heap) (n0 : Nat) (O0 : Old Z n0 h0) (E_a : Exa Z h0 a "com/example/element_ranker/elementranker/TagStatistics") (F_a_elementCounts : Fld Z h0 a "com/example/element_ranker/elementranker/TagStatistics" "elementCounts" "[I" (.ref b)) (F_a_totalLengths : Fld Z h0 a "com/example/element_ranker/elementranker/TagStatistics" "totalLengths" "[J" (.ref d)) (F_a_elementCount : Fld Z h0 a "com/example/element_ranker/elementranker/TagStatistics" "elementCount" "I" (.int cn)) (F_a_totalLength : Fld Z h0 a "com/example/element_ranker/elementranker/TagStatistics" "totalLength" "J" (.long tl)) (V_b : Arv Z h0 b kb .int (2 : Int32) [(.int x0), (.int x1)] (.int (0 : Int32))) (V_d : Arv Z h0 d kd .long (2 : Int32) [(.long y0), (.long y1)] (.long (0 : Int64))) :
    MetFree l (⟨"com/example/element_ranker/elementranker/TagStatistics", "averageLength", "(I)D"⟩ : MethodName) (head1 (Jvm.Cond.code (⟨"com/example/element_ranker/elementranker/TagStatistics", "averageLength", "(I)D"⟩ : MethodName) prog_53_method_4_code 5 (some .double) :: ws) ({ frames := 1, cells := 0, slots := 0, locals := 14 } : Room)) (fun A_ U_ => A_ = #[(.ref a), (.int (0 : Int32))] ∧ Z.Warmed39 U_.vm ∧ U_.heap = h0) (fun _ _ _ _ _ => True) (fun _ U o U' => ∃ v L, o = .returned v ∧ Ql0 Z a b kb d kd x0 x1 y0 y1 cn tl h0 n0 v U'.heap L ∧ FrameEnd U o U' L ({ frames := 1, cells := 0, slots := 0, locals := 14 } : Room).cells ({ frames := 1, cells := 0, slots := 0, locals := 14 } : Room).slots) := by
  refine MetFree.of_bodySF (plainFor_of_name pnl0) hisR ?_
  intro p e s m args below meth cd s₁ Bd hml0 hP hK
  obtain ⟨rfl, hZ, hh⟩ := hP
  have hx := Bd.exec
  have hby := Bd.bytes
  have hlk : meth.locks = false := BodyLoose.notSynchronized Bd
  have hml : cd.maxLocals = 5 := hml0
  have hown : s.vm.findClass "com/example/element_ranker/elementranker/TagStatistics" = some m.cls := findClass_of_methodNamed Bd.named
  have hnm := (name_of_methodNamed Bd.named Bd.method).1
  have X0 : Stand p l e ({ frames := 1, cells := 0, slots := 0, locals := 14 } : Room) s m #[(.ref a), (.int (0 : Int32))] below meth cd s₁ [] 0 0 := Stand.of_body Bd
  have e0 : s₁.heap = h0 := by rw [← hh, Bd.state]; rfl
  have N0 := Fr.nil n0
  have G : Go p e below s 0 0 (Ql0 Z a b kb d kd x0 x1 y0 y1 cn tl h0 n0) (s₁.setTop (mkF m 0 #[.val (.ref a), .val (.int (0 : Int32)), .unset, .unset, .unset] [])) := by
    show Go p e below s _ _ _ (s₁.setTop (mkF m 0 #[.val (.ref a), .val (.int (0 : Int32)), .unset, .unset, .unset] []))
    refine Go.st (fun _ kq_ => XS.iloadN X0.here hx rfl (hb hby dl0_0) rfl kq_) ?_
    show Go p e below s _ _ _ (s₁.setTop (mkF m 1 #[.val (.ref a), .val (.int (0 : Int32)), .unset, .unset, .unset] [(.int (0 : Int32))]))
    refine Go.st (fun _ kq_ => XS.iconst X0.here hx rfl (hb hby dl0_1) kq_) ?_
    show Go p e below s _ _ _ (s₁.setTop (mkF m 2 #[.val (.ref a), .val (.int (0 : Int32)), .unset, .unset, .unset] [(.int (-1 : Int32)), (.int (0 : Int32))]))
    refine Go.st (fun _ kq_ => XS.icmpYes X0.here hx rfl (pc0 := 2) (pc' := 13) rfl (hb hby dl0_2) rfl (by decide) (by decide) (by decide) kq_) ?_
    show Go p e below s _ _ _ (s₁.setTop (mkF m 13 #[.val (.ref a), .val (.int (0 : Int32)), .unset, .unset, .unset] []))
    refine Go.st (fun _ kq_ => XS.iloadN X0.here hx rfl (hb hby dl0_13) rfl kq_) ?_
    show Go p e below s _ _ _ (s₁.setTop (mkF m 14 #[.val (.ref a), .val (.int (0 : Int32)), .unset, .unset, .unset] [(.int (0 : Int32))]))
    refine Go.st (fun _ kq_ => XS.bipush X0.here hx rfl (hb hby dl0_14) kq_) ?_
    show Go p e below s _ _ _ (s₁.setTop (mkF m 16 #[.val (.ref a), .val (.int (0 : Int32)), .unset, .unset, .unset] [(.int (-2 : Int32)), (.int (0 : Int32))]))
    refine Go.st (fun _ kq_ => XS.icmpYes X0.here hx rfl (pc0 := 16) (pc' := 24) rfl (hb hby dl0_16) rfl (by decide) (by decide) (by decide) kq_) ?_
    show Go p e below s _ _ _ (s₁.setTop (mkF m 24 #[.val (.ref a), .val (.int (0 : Int32)), .unset, .unset, .unset] []))
    refine Go.st (fun _ kq_ => XS.aloadN X0.here hx rfl (hb hby dl0_24) rfl rfl kq_) ?_
    show Go p e below s _ _ _ (s₁.setTop (mkF m 25 #[.val (.ref a), .val (.int (0 : Int32)), .unset, .unset, .unset] [(.ref a)]))
    obtain ⟨T1, X1, e1, st1⟩ := getF X0 hx hZ hown (host := "") (Or.inl (own_w hw 13 rfl)) Via.refl e0 F_a_totalLengths (g := (mkF m 25 #[.val (.ref a), .val (.int (0 : Int32)), .unset, .unset, .unset] [(.ref a)])) rfl rfl (hb hby dl0_25)
    refine Go.st st1 ?_
    show Go p e below s _ _ _ (T1.setTop (mkF m 28 #[.val (.ref a), .val (.int (0 : Int32)), .unset, .unset, .unset] [(.ref d)]))
    refine Go.st (fun _ kq_ => XS.iloadN X1.here hx rfl (hb hby dl0_28) rfl kq_) ?_
    show Go p e below s _ _ _ (T1.setTop (mkF m 29 #[.val (.ref a), .val (.int (0 : Int32)), .unset, .unset, .unset] [(.int (0 : Int32)), (.ref d)]))
    refine Go.st (fun _ kq_ => own_laload X1 hx hZ e1 V_d (by decide) (by decide) (v := (.long y0)) rfl (g := (mkF m 29 #[.val (.ref a), .val (.int (0 : Int32)), .unset, .unset, .unset] [(.int (0 : Int32)), (.ref d)])) rfl rfl (hb hby dl0_29) _ kq_) ?_
    show Go p e below s _ _ _ (T1.setTop (mkF m 30 #[.val (.ref a), .val (.int (0 : Int32)), .unset, .unset, .unset] [(.long y0)]))
    refine Go.st (fun _ kq_ => XT.lstoreN X1.here hx rfl (hb hby dl0_30) rfl (l' := #[.val (.ref a), .val (.int (0 : Int32)), .val (.long y0), .second, .unset]) rfl kq_) ?_
    show Go p e below s _ _ _ (T1.setTop (mkF m 31 #[.val (.ref a), .val (.int (0 : Int32)), .val (.long y0), .second, .unset] []))
    refine Go.st (fun _ kq_ => XS.aloadN X1.here hx rfl (hb hby dl0_31) rfl rfl kq_) ?_
    show Go p e below s _ _ _ (T1.setTop (mkF m 32 #[.val (.ref a), .val (.int (0 : Int32)), .val (.long y0), .second, .unset] [(.ref a)]))
    refine Go.st (fun _ kq_ => XS.iloadN X1.here hx rfl (hb hby dl0_32) rfl kq_) ?_
    show Go p e below s _ _ _ (T1.setTop (mkF m 33 #[.val (.ref a), .val (.int (0 : Int32)), .val (.long y0), .second, .unset] [(.int (0 : Int32)), (.ref a)]))
    obtain ⟨cq2, kq2, qa2, qb2, qc2⟩ := isOf hZ e1 E_a
    obtain ⟨_, _, ⟨T2, L2, k2, n2⟩, -, X2, ⟨Lc2, hQ2, l2, y2, z2⟩, st2⟩ := X1.virtualBack hx (y := (⟨"com/example/element_ranker/elementranker/TagStatistics", "elementCount", "(I)I"⟩ : MethodName)) (z := (⟨"com/example/element_ranker/elementranker/TagStatistics", "elementCount", "(I)I"⟩ : MethodName)) hown (mvT hZ (own_w hw 34 rfl)) (mvT hZ (own_w hw 25 rfl)) (notFace_of_selects (args := #[]) (mvT hZ (own_w hw 27 rfl))) (mvT hZ (own_w hw 27 rfl)) (mvT hZ (own_w hw 26 rfl)) (by decide) (backOf (W := 0) (rme0 l Z a0 hw [] a b kb d kd x0 x1 y0 y1 cn tl h0 n0 O0 E_a F_a_elementCounts F_a_totalLengths F_a_elementCount F_a_totalLength V_b V_d) hZ (own_w hw 28 rfl) (own_w hw 2 rfl) (by decide) (by decide)) qa2 qc2 (g := (mkF m 33 #[.val (.ref a), .val (.int (0 : Int32)), .val (.long y0), .second, .unset] [(.int (0 : Int32)), (.ref a)])) rfl (by rw [hml]; rfl) (Steps.refl _) (argsL := [(.int (0 : Int32))]) (rest := []) (lenOf pdl0_0 rfl) rfl (by show 2 * 0 + _ ≤ _; exact Nat.le_of_eq rfl) (hb hby dl0_33) (fun _ _ => ⟨rfl, e1, (by decide : 0 + 0 ≤ _), (by decide : 0 + 0 ≤ _)⟩)
    dsimp only [Pt.U, Pt.locs, Pt.cells, Pt.slots] at X2 l2 y2 z2 st2 hQ2
    subst l2 y2 z2
    obtain ⟨rfl, Nc2, e2⟩ := hQ2
    have N2 := Fr.app N0 Nc2
    refine Go.tr st2 ?_
    show Go p e below s _ _ _ (T2.setTop (mkF m 36 #[.val (.ref a), .val (.int (0 : Int32)), .val (.long y0), .second, .unset] [(.int x0)]))
    refine Go.st (fun _ kq_ => XS.istore X2.here hx rfl (hb hby dl0_36) rfl (l' := #[.val (.ref a), .val (.int (0 : Int32)), .val (.long y0), .second, .val (.int x0)]) rfl kq_) ?_
    show Go p e below s _ _ _ (T2.setTop (mkF m 38 #[.val (.ref a), .val (.int (0 : Int32)), .val (.long y0), .second, .val (.int x0)] []))
    refine Go.st (fun _ kq_ => XS.iload X2.here hx rfl (hb hby dl0_38) rfl kq_) ?_
    show Go p e below s _ _ _ (T2.setTop (mkF m 40 #[.val (.ref a), .val (.int (0 : Int32)), .val (.long y0), .second, .val (.int x0)] [(.int x0)]))
    by_cases c40_3 : x0 = (0 : Int32)
    · refine Go.st (fun _ kq_ => XS.ifNo X2.here hx rfl (hb hby dl0_40) rfl (XT.i0_ne_f c40_3) kq_) ?_
      show Go p e below s _ _ _ (T2.setTop (mkF m 43 #[.val (.ref a), .val (.int (0 : Int32)), .val (.long y0), .second, .val (.int x0)] []))
      refine Go.st (fun _ kq_ => XS.dconst0 X2.here hx rfl (hb hby dl0_43) rfl kq_) ?_
      show Go p e below s _ _ _ (T2.setTop (mkF m 44 #[.val (.ref a), .val (.int (0 : Int32)), .val (.long y0), .second, .val (.int x0)] [(.double FP.dconst0)]))
      refine Go.st (fun _ kq_ => XS.goto X2.here hx rfl (pc0 := 44) (pc' := 53) rfl (hb hby dl0_44) (by decide) (by decide) kq_) ?_
      show Go p e below s _ _ _ (T2.setTop (mkF m 53 #[.val (.ref a), .val (.int (0 : Int32)), .val (.long y0), .second, .val (.int x0)] [(.double FP.dconst0)]))
      exact Go.ret X2 hlk (some (.double FP.dconst0)) (fun h => by rw [Bd.returns] at h; cases h) (by rw [e2]; exact ⟨by unfold fAvg; rw [if_pos c40_3], N2, rfl⟩) (by decide) (by decide) (fun fs hr => retOut X2 hx Bd.returns rfl (Or.inr (Or.inr (Or.inl ⟨rfl, rfl, _, rfl⟩))) (hb hby dl0_53) hr)
    · refine Go.st (fun _ kq_ => XS.ifYes X2.here hx rfl (pc0 := 40) (pc' := 47) rfl (hb hby dl0_40) rfl (XT.i0_ne_t c40_3) (by decide) (by decide) kq_) ?_
      show Go p e below s _ _ _ (T2.setTop (mkF m 47 #[.val (.ref a), .val (.int (0 : Int32)), .val (.long y0), .second, .val (.int x0)] []))
      refine Go.st (fun _ kq_ => XT.lloadN X2.here hx rfl (hb hby dl0_47) rfl kq_) ?_
      show Go p e below s _ _ _ (T2.setTop (mkF m 48 #[.val (.ref a), .val (.int (0 : Int32)), .val (.long y0), .second, .val (.int x0)] [(.long y0)]))
      refine Go.st (fun _ kq_ => XS.l2dS X2.here hx rfl (hb hby dl0_48) rfl rfl kq_) ?_
      show Go p e below s _ _ _ (T2.setTop (mkF m 49 #[.val (.ref a), .val (.int (0 : Int32)), .val (.long y0), .second, .val (.int x0)] [(.double (FP.l2d y0))]))
      refine Go.st (fun _ kq_ => XS.iload X2.here hx rfl (hb hby dl0_49) rfl kq_) ?_
      show Go p e below s _ _ _ (T2.setTop (mkF m 51 #[.val (.ref a), .val (.int (0 : Int32)), .val (.long y0), .second, .val (.int x0)] [(.int x0), (.double (FP.l2d y0))]))
      refine Go.st (fun _ kq_ => XS.i2dS X2.here hx rfl (hb hby dl0_51) rfl rfl kq_) ?_
      show Go p e below s _ _ _ (T2.setTop (mkF m 52 #[.val (.ref a), .val (.int (0 : Int32)), .val (.long y0), .second, .val (.int x0)] [(.double (FP.i2d x0)), (.double (FP.l2d y0))]))
      refine Go.st (fun _ kq_ => XS.ddivS X2.here hx rfl (hb hby dl0_52) rfl (own_div _ _ c40_3) rfl kq_) ?_
      show Go p e below s _ _ _ (T2.setTop (mkF m 53 #[.val (.ref a), .val (.int (0 : Int32)), .val (.long y0), .second, .val (.int x0)] [(.double (FP.ddiv (FP.l2d y0) (FP.i2d x0)))]))
      exact Go.ret X2 hlk (some (.double (FP.ddiv (FP.l2d y0) (FP.i2d x0)))) (fun h => by rw [Bd.returns] at h; cases h) (by rw [e2]; exact ⟨by unfold fAvg; rw [if_neg c40_3], N2, rfl⟩) (by decide) (by decide) (fun fs hr => retOut X2 hx Bd.returns rfl (Or.inr (Or.inr (Or.inl ⟨rfl, rfl, _, rfl⟩))) (hb hby dl0_53) hr)
  obtain ⟨s2, o2, st2, r2⟩ := G
  exact ⟨s2, o2, castTop (efl0 m a (0 : Int32)) st2, r2⟩
theorem dl1_0 : decode prog_53_method_4_code 0 = .ok (.iload_n 1, 1) := by decide +kernel
theorem dl1_1 : decode prog_53_method_4_code 1 = .ok (.iconst (-1), 1) := by decide +kernel
theorem dl1_2 : decode prog_53_method_4_code 2 = .ok (.if_icmp .ne 11, 3) := by decide +kernel
theorem dl1_13 : decode prog_53_method_4_code 13 = .ok (.iload_n 1, 1) := by decide +kernel
theorem dl1_14 : decode prog_53_method_4_code 14 = .ok (.bipush (-2), 2) := by decide +kernel
theorem dl1_16 : decode prog_53_method_4_code 16 = .ok (.if_icmp .ne 8, 3) := by decide +kernel
theorem dl1_24 : decode prog_53_method_4_code 24 = .ok (.aload_n 0, 1) := by decide +kernel
theorem dl1_25 : decode prog_53_method_4_code 25 = .ok (.getfield 13, 3) := by decide +kernel
theorem dl1_28 : decode prog_53_method_4_code 28 = .ok (.iload_n 1, 1) := by decide +kernel
theorem dl1_29 : decode prog_53_method_4_code 29 = .ok (.laload, 1) := by decide +kernel
theorem dl1_30 : decode prog_53_method_4_code 30 = .ok (.lstore_n 2, 1) := by decide +kernel
theorem dl1_31 : decode prog_53_method_4_code 31 = .ok (.aload_n 0, 1) := by decide +kernel
theorem dl1_32 : decode prog_53_method_4_code 32 = .ok (.iload_n 1, 1) := by decide +kernel
theorem dl1_33 : decode prog_53_method_4_code 33 = .ok (.invokevirtual 27, 3) := by decide +kernel
theorem dl1_36 : decode prog_53_method_4_code 36 = .ok (.istore 4, 2) := by decide +kernel
theorem dl1_38 : decode prog_53_method_4_code 38 = .ok (.iload 4, 2) := by decide +kernel
theorem dl1_40 : decode prog_53_method_4_code 40 = .ok (.ifCond .ne 7, 3) := by decide +kernel
theorem dl1_43 : decode prog_53_method_4_code 43 = .ok (.dconst 0, 1) := by decide +kernel
theorem dl1_44 : decode prog_53_method_4_code 44 = .ok (.goto 9, 3) := by decide +kernel
theorem dl1_47 : decode prog_53_method_4_code 47 = .ok (.lload_n 2, 1) := by decide +kernel
theorem dl1_48 : decode prog_53_method_4_code 48 = .ok (.l2d, 1) := by decide +kernel
theorem dl1_49 : decode prog_53_method_4_code 49 = .ok (.iload 4, 2) := by decide +kernel
theorem dl1_51 : decode prog_53_method_4_code 51 = .ok (.i2d, 1) := by decide +kernel
theorem dl1_52 : decode prog_53_method_4_code 52 = .ok (.ddiv, 1) := by decide +kernel
theorem dl1_53 : decode prog_53_method_4_code 53 = .ok (.dreturn, 1) := by decide +kernel
theorem pdl1_0 : parseMethodDescriptor "(I)I" = some ⟨[.int], some .int⟩ := by decide +kernel
theorem pnl1 : plainName "com/example/element_ranker/elementranker/TagStatistics" = true := by first | (simp [plainName, overriddenIn]; done) | decide +kernel
theorem efl1 (m : MethodId) (x0 : Addr) (x1 : Int32) : entryFrame m #[(.ref x0), (.int x1)] 5 = mkF m 0 #[.val (.ref x0), .val (.int x1), .unset, .unset, .unset] [] := by first | (simp [entryFrame, mkF, argsToLocals, Value.category, maxLocals]; done) | rfl
def Ql1 (Z : State) (a : Addr) (b : Addr) (kb : ClassId) (d : Addr) (kd : ClassId) (x0 : Int32) (x1 : Int32) (y0 : Int64) (y1 : Int64) (cn : Int32) (tl : Int64) (h0 : Heap) (n0 : Nat) (v : Option Value) (h : Heap) (L : List Loc) : Prop := v = some (.double (fAvg y1 x1)) ∧ Fr n0 L ∧ h = h0
set_option maxRecDepth 65536 in
set_option maxHeartbeats 40000000 in
theorem rml1 (l : Launch) (Z : State) (a0 : Array Value) (hw : ∀ d ∈ tables_1, d.before a0 Z = true) (ws : List Jvm.Cond) (a : Addr) (b : Addr) (kb : ClassId) (d : Addr) (kd : ClassId) (x0 : Int32) (x1 : Int32) (y0 : Int64) (y1 : Int64) (cn : Int32) (tl : Int64) (h0 : Heap) (n0 : Nat) (O0 : Old Z n0 h0) (E_a : Exa Z h0 a "com/example/element_ranker/elementranker/TagStatistics") (F_a_elementCounts : Fld Z h0 a "com/example/element_ranker/elementranker/TagStatistics" "elementCounts" "[I" (.ref b)) (F_a_totalLengths : Fld Z h0 a "com/example/element_ranker/elementranker/TagStatistics" "totalLengths" "[J" (.ref d)) (F_a_elementCount : Fld Z h0 a "com/example/element_ranker/elementranker/TagStatistics" "elementCount" "I" (.int cn)) (F_a_totalLength : Fld Z h0 a "com/example/element_ranker/elementranker/TagStatistics" "totalLength" "J" (.long tl)) (V_b : Arv Z h0 b kb .int (2 : Int32) [(.int x0), (.int x1)] (.int (0 : Int32))) (V_d : Arv Z h0 d kd .long (2 : Int32) [(.long y0), (.long y1)] (.long (0 : Int64))) :
    MetFree l (⟨"com/example/element_ranker/elementranker/TagStatistics", "averageLength", "(I)D"⟩ : MethodName) (head1 (Jvm.Cond.code (⟨"com/example/element_ranker/elementranker/TagStatistics", "averageLength", "(I)D"⟩ : MethodName) prog_53_method_4_code 5 (some .double) :: ws) ({ frames := 1, cells := 0, slots := 0, locals := 14 } : Room)) (fun A_ U_ => A_ = #[(.ref a), (.int (1 : Int32))] ∧ Z.Warmed39 U_.vm ∧ U_.heap = h0) (fun _ _ _ _ _ => True) (fun _ U o U' => ∃ v L, o = .returned v ∧ Ql1 Z a b kb d kd x0 x1 y0 y1 cn tl h0 n0 v U'.heap L ∧ FrameEnd U o U' L ({ frames := 1, cells := 0, slots := 0, locals := 14 } : Room).cells ({ frames := 1, cells := 0, slots := 0, locals := 14 } : Room).slots) := by
  refine MetFree.of_bodySF (plainFor_of_name pnl1) hisR ?_
  intro p e s m args below meth cd s₁ Bd hml0 hP hK
  obtain ⟨rfl, hZ, hh⟩ := hP
  have hx := Bd.exec
  have hby := Bd.bytes
  have hlk : meth.locks = false := BodyLoose.notSynchronized Bd
  have hml : cd.maxLocals = 5 := hml0
  have hown : s.vm.findClass "com/example/element_ranker/elementranker/TagStatistics" = some m.cls := findClass_of_methodNamed Bd.named
  have hnm := (name_of_methodNamed Bd.named Bd.method).1
  have X0 : Stand p l e ({ frames := 1, cells := 0, slots := 0, locals := 14 } : Room) s m #[(.ref a), (.int (1 : Int32))] below meth cd s₁ [] 0 0 := Stand.of_body Bd
  have e0 : s₁.heap = h0 := by rw [← hh, Bd.state]; rfl
  have N0 := Fr.nil n0
  have G : Go p e below s 0 0 (Ql1 Z a b kb d kd x0 x1 y0 y1 cn tl h0 n0) (s₁.setTop (mkF m 0 #[.val (.ref a), .val (.int (1 : Int32)), .unset, .unset, .unset] [])) := by
    show Go p e below s _ _ _ (s₁.setTop (mkF m 0 #[.val (.ref a), .val (.int (1 : Int32)), .unset, .unset, .unset] []))
    refine Go.st (fun _ kq_ => XS.iloadN X0.here hx rfl (hb hby dl1_0) rfl kq_) ?_
    show Go p e below s _ _ _ (s₁.setTop (mkF m 1 #[.val (.ref a), .val (.int (1 : Int32)), .unset, .unset, .unset] [(.int (1 : Int32))]))
    refine Go.st (fun _ kq_ => XS.iconst X0.here hx rfl (hb hby dl1_1) kq_) ?_
    show Go p e below s _ _ _ (s₁.setTop (mkF m 2 #[.val (.ref a), .val (.int (1 : Int32)), .unset, .unset, .unset] [(.int (-1 : Int32)), (.int (1 : Int32))]))
    refine Go.st (fun _ kq_ => XS.icmpYes X0.here hx rfl (pc0 := 2) (pc' := 13) rfl (hb hby dl1_2) rfl (by decide) (by decide) (by decide) kq_) ?_
    show Go p e below s _ _ _ (s₁.setTop (mkF m 13 #[.val (.ref a), .val (.int (1 : Int32)), .unset, .unset, .unset] []))
    refine Go.st (fun _ kq_ => XS.iloadN X0.here hx rfl (hb hby dl1_13) rfl kq_) ?_
    show Go p e below s _ _ _ (s₁.setTop (mkF m 14 #[.val (.ref a), .val (.int (1 : Int32)), .unset, .unset, .unset] [(.int (1 : Int32))]))
    refine Go.st (fun _ kq_ => XS.bipush X0.here hx rfl (hb hby dl1_14) kq_) ?_
    show Go p e below s _ _ _ (s₁.setTop (mkF m 16 #[.val (.ref a), .val (.int (1 : Int32)), .unset, .unset, .unset] [(.int (-2 : Int32)), (.int (1 : Int32))]))
    refine Go.st (fun _ kq_ => XS.icmpYes X0.here hx rfl (pc0 := 16) (pc' := 24) rfl (hb hby dl1_16) rfl (by decide) (by decide) (by decide) kq_) ?_
    show Go p e below s _ _ _ (s₁.setTop (mkF m 24 #[.val (.ref a), .val (.int (1 : Int32)), .unset, .unset, .unset] []))
    refine Go.st (fun _ kq_ => XS.aloadN X0.here hx rfl (hb hby dl1_24) rfl rfl kq_) ?_
    show Go p e below s _ _ _ (s₁.setTop (mkF m 25 #[.val (.ref a), .val (.int (1 : Int32)), .unset, .unset, .unset] [(.ref a)]))
    obtain ⟨T1, X1, e1, st1⟩ := getF X0 hx hZ hown (host := "") (Or.inl (own_w hw 13 rfl)) Via.refl e0 F_a_totalLengths (g := (mkF m 25 #[.val (.ref a), .val (.int (1 : Int32)), .unset, .unset, .unset] [(.ref a)])) rfl rfl (hb hby dl1_25)
    refine Go.st st1 ?_
    show Go p e below s _ _ _ (T1.setTop (mkF m 28 #[.val (.ref a), .val (.int (1 : Int32)), .unset, .unset, .unset] [(.ref d)]))
    refine Go.st (fun _ kq_ => XS.iloadN X1.here hx rfl (hb hby dl1_28) rfl kq_) ?_
    show Go p e below s _ _ _ (T1.setTop (mkF m 29 #[.val (.ref a), .val (.int (1 : Int32)), .unset, .unset, .unset] [(.int (1 : Int32)), (.ref d)]))
    refine Go.st (fun _ kq_ => own_laload X1 hx hZ e1 V_d (by decide) (by decide) (v := (.long y1)) rfl (g := (mkF m 29 #[.val (.ref a), .val (.int (1 : Int32)), .unset, .unset, .unset] [(.int (1 : Int32)), (.ref d)])) rfl rfl (hb hby dl1_29) _ kq_) ?_
    show Go p e below s _ _ _ (T1.setTop (mkF m 30 #[.val (.ref a), .val (.int (1 : Int32)), .unset, .unset, .unset] [(.long y1)]))
    refine Go.st (fun _ kq_ => XT.lstoreN X1.here hx rfl (hb hby dl1_30) rfl (l' := #[.val (.ref a), .val (.int (1 : Int32)), .val (.long y1), .second, .unset]) rfl kq_) ?_
    show Go p e below s _ _ _ (T1.setTop (mkF m 31 #[.val (.ref a), .val (.int (1 : Int32)), .val (.long y1), .second, .unset] []))
    refine Go.st (fun _ kq_ => XS.aloadN X1.here hx rfl (hb hby dl1_31) rfl rfl kq_) ?_
    show Go p e below s _ _ _ (T1.setTop (mkF m 32 #[.val (.ref a), .val (.int (1 : Int32)), .val (.long y1), .second, .unset] [(.ref a)]))
    refine Go.st (fun _ kq_ => XS.iloadN X1.here hx rfl (hb hby dl1_32) rfl kq_) ?_
    show Go p e below s _ _ _ (T1.setTop (mkF m 33 #[.val (.ref a), .val (.int (1 : Int32)), .val (.long y1), .second, .unset] [(.int (1 : Int32)), (.ref a)]))
    obtain ⟨cq2, kq2, qa2, qb2, qc2⟩ := isOf hZ e1 E_a
    obtain ⟨_, _, ⟨T2, L2, k2, n2⟩, -, X2, ⟨Lc2, hQ2, l2, y2, z2⟩, st2⟩ := X1.virtualBack hx (y := (⟨"com/example/element_ranker/elementranker/TagStatistics", "elementCount", "(I)I"⟩ : MethodName)) (z := (⟨"com/example/element_ranker/elementranker/TagStatistics", "elementCount", "(I)I"⟩ : MethodName)) hown (mvT hZ (own_w hw 34 rfl)) (mvT hZ (own_w hw 25 rfl)) (notFace_of_selects (args := #[]) (mvT hZ (own_w hw 27 rfl))) (mvT hZ (own_w hw 27 rfl)) (mvT hZ (own_w hw 26 rfl)) (by decide) (backOf (W := 0) (rme1 l Z a0 hw [] a b kb d kd x0 x1 y0 y1 cn tl h0 n0 O0 E_a F_a_elementCounts F_a_totalLengths F_a_elementCount F_a_totalLength V_b V_d) hZ (own_w hw 28 rfl) (own_w hw 2 rfl) (by decide) (by decide)) qa2 qc2 (g := (mkF m 33 #[.val (.ref a), .val (.int (1 : Int32)), .val (.long y1), .second, .unset] [(.int (1 : Int32)), (.ref a)])) rfl (by rw [hml]; rfl) (Steps.refl _) (argsL := [(.int (1 : Int32))]) (rest := []) (lenOf pdl1_0 rfl) rfl (by show 2 * 0 + _ ≤ _; exact Nat.le_of_eq rfl) (hb hby dl1_33) (fun _ _ => ⟨rfl, e1, (by decide : 0 + 0 ≤ _), (by decide : 0 + 0 ≤ _)⟩)
    dsimp only [Pt.U, Pt.locs, Pt.cells, Pt.slots] at X2 l2 y2 z2 st2 hQ2
    subst l2 y2 z2
    obtain ⟨rfl, Nc2, e2⟩ := hQ2
    have N2 := Fr.app N0 Nc2
    refine Go.tr st2 ?_
    show Go p e below s _ _ _ (T2.setTop (mkF m 36 #[.val (.ref a), .val (.int (1 : Int32)), .val (.long y1), .second, .unset] [(.int x1)]))
    refine Go.st (fun _ kq_ => XS.istore X2.here hx rfl (hb hby dl1_36) rfl (l' := #[.val (.ref a), .val (.int (1 : Int32)), .val (.long y1), .second, .val (.int x1)]) rfl kq_) ?_
    show Go p e below s _ _ _ (T2.setTop (mkF m 38 #[.val (.ref a), .val (.int (1 : Int32)), .val (.long y1), .second, .val (.int x1)] []))
    refine Go.st (fun _ kq_ => XS.iload X2.here hx rfl (hb hby dl1_38) rfl kq_) ?_
    show Go p e below s _ _ _ (T2.setTop (mkF m 40 #[.val (.ref a), .val (.int (1 : Int32)), .val (.long y1), .second, .val (.int x1)] [(.int x1)]))
    by_cases c40_3 : x1 = (0 : Int32)
    · refine Go.st (fun _ kq_ => XS.ifNo X2.here hx rfl (hb hby dl1_40) rfl (XT.i0_ne_f c40_3) kq_) ?_
      show Go p e below s _ _ _ (T2.setTop (mkF m 43 #[.val (.ref a), .val (.int (1 : Int32)), .val (.long y1), .second, .val (.int x1)] []))
      refine Go.st (fun _ kq_ => XS.dconst0 X2.here hx rfl (hb hby dl1_43) rfl kq_) ?_
      show Go p e below s _ _ _ (T2.setTop (mkF m 44 #[.val (.ref a), .val (.int (1 : Int32)), .val (.long y1), .second, .val (.int x1)] [(.double FP.dconst0)]))
      refine Go.st (fun _ kq_ => XS.goto X2.here hx rfl (pc0 := 44) (pc' := 53) rfl (hb hby dl1_44) (by decide) (by decide) kq_) ?_
      show Go p e below s _ _ _ (T2.setTop (mkF m 53 #[.val (.ref a), .val (.int (1 : Int32)), .val (.long y1), .second, .val (.int x1)] [(.double FP.dconst0)]))
      exact Go.ret X2 hlk (some (.double FP.dconst0)) (fun h => by rw [Bd.returns] at h; cases h) (by rw [e2]; exact ⟨by unfold fAvg; rw [if_pos c40_3], N2, rfl⟩) (by decide) (by decide) (fun fs hr => retOut X2 hx Bd.returns rfl (Or.inr (Or.inr (Or.inl ⟨rfl, rfl, _, rfl⟩))) (hb hby dl1_53) hr)
    · refine Go.st (fun _ kq_ => XS.ifYes X2.here hx rfl (pc0 := 40) (pc' := 47) rfl (hb hby dl1_40) rfl (XT.i0_ne_t c40_3) (by decide) (by decide) kq_) ?_
      show Go p e below s _ _ _ (T2.setTop (mkF m 47 #[.val (.ref a), .val (.int (1 : Int32)), .val (.long y1), .second, .val (.int x1)] []))
      refine Go.st (fun _ kq_ => XT.lloadN X2.here hx rfl (hb hby dl1_47) rfl kq_) ?_
      show Go p e below s _ _ _ (T2.setTop (mkF m 48 #[.val (.ref a), .val (.int (1 : Int32)), .val (.long y1), .second, .val (.int x1)] [(.long y1)]))
      refine Go.st (fun _ kq_ => XS.l2dS X2.here hx rfl (hb hby dl1_48) rfl rfl kq_) ?_
      show Go p e below s _ _ _ (T2.setTop (mkF m 49 #[.val (.ref a), .val (.int (1 : Int32)), .val (.long y1), .second, .val (.int x1)] [(.double (FP.l2d y1))]))
      refine Go.st (fun _ kq_ => XS.iload X2.here hx rfl (hb hby dl1_49) rfl kq_) ?_
      show Go p e below s _ _ _ (T2.setTop (mkF m 51 #[.val (.ref a), .val (.int (1 : Int32)), .val (.long y1), .second, .val (.int x1)] [(.int x1), (.double (FP.l2d y1))]))
      refine Go.st (fun _ kq_ => XS.i2dS X2.here hx rfl (hb hby dl1_51) rfl rfl kq_) ?_
      show Go p e below s _ _ _ (T2.setTop (mkF m 52 #[.val (.ref a), .val (.int (1 : Int32)), .val (.long y1), .second, .val (.int x1)] [(.double (FP.i2d x1)), (.double (FP.l2d y1))]))
      refine Go.st (fun _ kq_ => XS.ddivS X2.here hx rfl (hb hby dl1_52) rfl (own_div _ _ c40_3) rfl kq_) ?_
      show Go p e below s _ _ _ (T2.setTop (mkF m 53 #[.val (.ref a), .val (.int (1 : Int32)), .val (.long y1), .second, .val (.int x1)] [(.double (FP.ddiv (FP.l2d y1) (FP.i2d x1)))]))
      exact Go.ret X2 hlk (some (.double (FP.ddiv (FP.l2d y1) (FP.i2d x1)))) (fun h => by rw [Bd.returns] at h; cases h) (by rw [e2]; exact ⟨by unfold fAvg; rw [if_neg c40_3], N2, rfl⟩) (by decide) (by decide) (fun fs hr => retOut X2 hx Bd.returns rfl (Or.inr (Or.inr (Or.inl ⟨rfl, rfl, _, rfl⟩))) (hb hby dl1_53) hr)
  obtain ⟨s2, o2, st2, r2⟩ := G
  exact ⟨s2, o2, castTop (efl1 m a (1 : Int32)) st2, r2⟩
theorem own_bit (x : Int32) : ¬ (x &&& 1) < 0 ∧ (x &&& 1) < 2 := by
  have h1 := c_mask x 1 1 (by decide) (by decide)
  simp only [own_lt, Int32.reduceToInt]
  omega
theorem own_n1 (t1 t2 t3 : Int32) (h1 : ¬ t1 < 0 ∧ t1 < 2) (h2 : ¬ t2 < 0 ∧ t2 < 2) (h3 : ¬ t3 < 0 ∧ t3 < 2) : ad 1 t3 (ad 1 t2 (ad 1 t1 0)) = 3 - ad 0 t3 (ad 0 t2 (ad 0 t1 0)) := by
  rcases own_N h1 with rfl | rfl <;> rcases own_N h2 with rfl | rfl <;> rcases own_N h3 with rfl | rfl <;> decide
theorem own_eqL (x y : Int64) : (x = y) = (x.toInt = y.toInt) := propext Int64.toInt_inj.symm
theorem own_tl (x y z : Int64) : (((0 : Int64) + x) + y) + z = (x + y) + z := by rw [Int64.zero_add]
theorem own_s1 (t1 t2 t3 x y z : Int32) (h1 : ¬ t1 < 0 ∧ t1 < 2) (h2 : ¬ t2 < 0 ∧ t2 < 2) (h3 : ¬ t3 < 0 ∧ t3 < 2) : adL 1 t3 z (adL 1 t2 y (adL 1 t1 x 0)) = ((x.toInt64 + y.toInt64) + z.toInt64) - adL 0 t3 z (adL 0 t2 y (adL 0 t1 x 0)) := by
  generalize hx : x.toInt64 = X
  generalize hy : y.toInt64 = Y
  generalize hz : z.toInt64 = W
  rcases own_N h1 with rfl | rfl <;> rcases own_N h2 with rfl | rfl <;> rcases own_N h3 with rfl | rfl
  all_goals simp only [adL, (by decide : ¬ (0 : Int32) = 1), (by decide : ¬ (1 : Int32) = 0), if_true, if_false, Int64.zero_add]
  all_goals (try simp only [hx, hy, hz])
  all_goals grind
theorem pd0_0 : parseMethodDescriptor "(I)V" = some ⟨[.int], none⟩ := by decide +kernel
theorem pd0_1 : parseMethodDescriptor "(II)V" = some ⟨[.int, .int], none⟩ := by decide +kernel
theorem pd0_2 : parseMethodDescriptor "(I)I" = some ⟨[.int], some .int⟩ := by decide +kernel
theorem pd0_3 : parseMethodDescriptor "(I)D" = some ⟨[.int], some .double⟩ := by decide +kernel
theorem pd0_4 : parseMethodDescriptor "(JI)D" = some ⟨[.long, .int], some .double⟩ := by decide +kernel
theorem pn0 : plainName "com/example/element_ranker/elementranker/TagStatisticsAddPinLaw" = true := by first | (simp [plainName, overriddenIn]; done) | decide +kernel
theorem ef0 (m : MethodId) (x0 : Int32) (x1 : Int32) (x2 : Int32) (x3 : Int32) (x4 : Int32) (x5 : Int32) : entryFrame m #[(.int x0), (.int x1), (.int x2), (.int x3), (.int x4), (.int x5)] maxLocals = mkF m 0 #[.val (.int x0), .val (.int x1), .val (.int x2), .val (.int x3), .val (.int x4), .val (.int x5), .unset, .unset, .unset, .unset, .unset, .unset, .unset, .unset, .unset, .unset, .unset, .unset, .unset] [] := by first | (simp [entryFrame, mkF, argsToLocals, Value.category, maxLocals]; done) | rfl
def Q0 (Z : State) (p0 : Int32) (p1 : Int32) (p2 : Int32) (p3 : Int32) (p4 : Int32) (p5 : Int32) (h0 : Heap) (n0 : Nat) (v : Option Value) (h : Heap) (L : List Loc) : Prop := v = some (.int 1) ∧ Fr n0 L
set_option maxRecDepth 65536 in
set_option maxHeartbeats 40000000 in
theorem rm0 (l : Launch) (Z : State) (a0 : Array Value) (hw : ∀ d ∈ tables_1, d.before a0 Z = true) (ws : List Jvm.Cond) (p0 : Int32) (p1 : Int32) (p2 : Int32) (p3 : Int32) (p4 : Int32) (p5 : Int32) (h0 : Heap) (n0 : Nat) (O0 : Old Z n0 h0)  :
    MetFree l x (head1 (Jvm.Cond.code x code maxLocals ret :: ws) room_1) (fun A_ U_ => A_ = #[(.int p0), (.int p1), (.int p2), (.int p3), (.int p4), (.int p5)] ∧ Z.Warmed39 U_.vm ∧ U_.heap = h0) (fun _ _ _ _ _ => True) (fun _ U o U' => ∃ v L, o = .returned v ∧ Q0 Z p0 p1 p2 p3 p4 p5 h0 n0 v U'.heap L ∧ FrameEnd U o U' L room_1.cells room_1.slots) := by
  refine MetFree.of_bodySF (plainFor_of_name pn0) hisR ?_
  intro p e s m args below meth cd s₁ Bd hml0 hP hK
  obtain ⟨rfl, hZ, hh⟩ := hP
  have hx := Bd.exec
  have hby := Bd.bytes
  have hlk : meth.locks = false := BodyLoose.notSynchronized Bd
  have hml : cd.maxLocals = 19 := hml0
  have hown : s.vm.findClass "com/example/element_ranker/elementranker/TagStatisticsAddPinLaw" = some m.cls := findClass_of_methodNamed Bd.named
  have hnm := (name_of_methodNamed Bd.named Bd.method).1
  have X0 : Stand p l e room_1 s m #[(.int p0), (.int p1), (.int p2), (.int p3), (.int p4), (.int p5)] below meth cd s₁ [] 0 0 := Stand.of_body Bd
  have e0 : s₁.heap = h0 := by rw [← hh, Bd.state]; rfl
  have N0 := Fr.nil n0
  have G : Go p e below s room_1.cells room_1.slots (Q0 Z p0 p1 p2 p3 p4 p5 h0 n0) (s₁.setTop (mkF m 0 #[.val (.int p0), .val (.int p1), .val (.int p2), .val (.int p3), .val (.int p4), .val (.int p5), .unset, .unset, .unset, .unset, .unset, .unset, .unset, .unset, .unset, .unset, .unset, .unset, .unset] [])) := by
    show Go p e below s _ _ _ (s₁.setTop (mkF m 0 #[.val (.int p0), .val (.int p1), .val (.int p2), .val (.int p3), .val (.int p4), .val (.int p5), .unset, .unset, .unset, .unset, .unset, .unset, .unset, .unset, .unset, .unset, .unset, .unset, .unset] []))
    refine Go.st (fun _ kq_ => XS.iloadN X0.here hx rfl (hb hby at_0) rfl kq_) ?_
    show Go p e below s _ _ _ (s₁.setTop (mkF m 1 #[.val (.int p0), .val (.int p1), .val (.int p2), .val (.int p3), .val (.int p4), .val (.int p5), .unset, .unset, .unset, .unset, .unset, .unset, .unset, .unset, .unset, .unset, .unset, .unset, .unset] [(.int p0)]))
    refine Go.st (fun _ kq_ => XS.iconst X0.here hx rfl (hb hby at_1) kq_) ?_
    show Go p e below s _ _ _ (s₁.setTop (mkF m 2 #[.val (.int p0), .val (.int p1), .val (.int p2), .val (.int p3), .val (.int p4), .val (.int p5), .unset, .unset, .unset, .unset, .unset, .unset, .unset, .unset, .unset, .unset, .unset, .unset, .unset] [(.int (1 : Int32)), (.int p0)]))
    refine Go.st (fun _ kq_ => XS.iand X0.here hx rfl (hb hby at_2) rfl kq_) ?_
    show Go p e below s _ _ _ (s₁.setTop (mkF m 3 #[.val (.int p0), .val (.int p1), .val (.int p2), .val (.int p3), .val (.int p4), .val (.int p5), .unset, .unset, .unset, .unset, .unset, .unset, .unset, .unset, .unset, .unset, .unset, .unset, .unset] [(.int (p0 &&& (1 : Int32)))]))
    refine Go.st (fun _ kq_ => XS.istore X0.here hx rfl (hb hby at_3) rfl (l' := #[.val (.int p0), .val (.int p1), .val (.int p2), .val (.int p3), .val (.int p4), .val (.int p5), .val (.int (p0 &&& (1 : Int32))), .unset, .unset, .unset, .unset, .unset, .unset, .unset, .unset, .unset, .unset, .unset, .unset]) rfl kq_) ?_
    show Go p e below s _ _ _ (s₁.setTop (mkF m 5 #[.val (.int p0), .val (.int p1), .val (.int p2), .val (.int p3), .val (.int p4), .val (.int p5), .val (.int (p0 &&& (1 : Int32))), .unset, .unset, .unset, .unset, .unset, .unset, .unset, .unset, .unset, .unset, .unset, .unset] []))
    refine Go.st (fun _ kq_ => XS.iloadN X0.here hx rfl (hb hby at_5) rfl kq_) ?_
    show Go p e below s _ _ _ (s₁.setTop (mkF m 6 #[.val (.int p0), .val (.int p1), .val (.int p2), .val (.int p3), .val (.int p4), .val (.int p5), .val (.int (p0 &&& (1 : Int32))), .unset, .unset, .unset, .unset, .unset, .unset, .unset, .unset, .unset, .unset, .unset, .unset] [(.int p1)]))
    refine Go.st (fun _ kq_ => XS.iconst X0.here hx rfl (hb hby at_6) kq_) ?_
    show Go p e below s _ _ _ (s₁.setTop (mkF m 7 #[.val (.int p0), .val (.int p1), .val (.int p2), .val (.int p3), .val (.int p4), .val (.int p5), .val (.int (p0 &&& (1 : Int32))), .unset, .unset, .unset, .unset, .unset, .unset, .unset, .unset, .unset, .unset, .unset, .unset] [(.int (1 : Int32)), (.int p1)]))
    refine Go.st (fun _ kq_ => XS.iand X0.here hx rfl (hb hby at_7) rfl kq_) ?_
    show Go p e below s _ _ _ (s₁.setTop (mkF m 8 #[.val (.int p0), .val (.int p1), .val (.int p2), .val (.int p3), .val (.int p4), .val (.int p5), .val (.int (p0 &&& (1 : Int32))), .unset, .unset, .unset, .unset, .unset, .unset, .unset, .unset, .unset, .unset, .unset, .unset] [(.int (p1 &&& (1 : Int32)))]))
    refine Go.st (fun _ kq_ => XS.istore X0.here hx rfl (hb hby at_8) rfl (l' := #[.val (.int p0), .val (.int p1), .val (.int p2), .val (.int p3), .val (.int p4), .val (.int p5), .val (.int (p0 &&& (1 : Int32))), .val (.int (p1 &&& (1 : Int32))), .unset, .unset, .unset, .unset, .unset, .unset, .unset, .unset, .unset, .unset, .unset]) rfl kq_) ?_
    show Go p e below s _ _ _ (s₁.setTop (mkF m 10 #[.val (.int p0), .val (.int p1), .val (.int p2), .val (.int p3), .val (.int p4), .val (.int p5), .val (.int (p0 &&& (1 : Int32))), .val (.int (p1 &&& (1 : Int32))), .unset, .unset, .unset, .unset, .unset, .unset, .unset, .unset, .unset, .unset, .unset] []))
    refine Go.st (fun _ kq_ => XS.iloadN X0.here hx rfl (hb hby at_10) rfl kq_) ?_
    show Go p e below s _ _ _ (s₁.setTop (mkF m 11 #[.val (.int p0), .val (.int p1), .val (.int p2), .val (.int p3), .val (.int p4), .val (.int p5), .val (.int (p0 &&& (1 : Int32))), .val (.int (p1 &&& (1 : Int32))), .unset, .unset, .unset, .unset, .unset, .unset, .unset, .unset, .unset, .unset, .unset] [(.int p2)]))
    refine Go.st (fun _ kq_ => XS.iconst X0.here hx rfl (hb hby at_11) kq_) ?_
    show Go p e below s _ _ _ (s₁.setTop (mkF m 12 #[.val (.int p0), .val (.int p1), .val (.int p2), .val (.int p3), .val (.int p4), .val (.int p5), .val (.int (p0 &&& (1 : Int32))), .val (.int (p1 &&& (1 : Int32))), .unset, .unset, .unset, .unset, .unset, .unset, .unset, .unset, .unset, .unset, .unset] [(.int (1 : Int32)), (.int p2)]))
    refine Go.st (fun _ kq_ => XS.iand X0.here hx rfl (hb hby at_12) rfl kq_) ?_
    show Go p e below s _ _ _ (s₁.setTop (mkF m 13 #[.val (.int p0), .val (.int p1), .val (.int p2), .val (.int p3), .val (.int p4), .val (.int p5), .val (.int (p0 &&& (1 : Int32))), .val (.int (p1 &&& (1 : Int32))), .unset, .unset, .unset, .unset, .unset, .unset, .unset, .unset, .unset, .unset, .unset] [(.int (p2 &&& (1 : Int32)))]))
    refine Go.st (fun _ kq_ => XS.istore X0.here hx rfl (hb hby at_13) rfl (l' := #[.val (.int p0), .val (.int p1), .val (.int p2), .val (.int p3), .val (.int p4), .val (.int p5), .val (.int (p0 &&& (1 : Int32))), .val (.int (p1 &&& (1 : Int32))), .val (.int (p2 &&& (1 : Int32))), .unset, .unset, .unset, .unset, .unset, .unset, .unset, .unset, .unset, .unset]) rfl kq_) ?_
    show Go p e below s _ _ _ (s₁.setTop (mkF m 15 #[.val (.int p0), .val (.int p1), .val (.int p2), .val (.int p3), .val (.int p4), .val (.int p5), .val (.int (p0 &&& (1 : Int32))), .val (.int (p1 &&& (1 : Int32))), .val (.int (p2 &&& (1 : Int32))), .unset, .unset, .unset, .unset, .unset, .unset, .unset, .unset, .unset, .unset] []))
    obtain ⟨T1, h1, X1, e1, E1, A1, D1, -, st1⟩ := newO X0 hx hZ hown (own_w hw 0 rfl) (own_w hw 1 rfl) (own_w hw 2 rfl) e0 (g := (mkF m 15 #[.val (.int p0), .val (.int p1), .val (.int p2), .val (.int p3), .val (.int p4), .val (.int p5), .val (.int (p0 &&& (1 : Int32))), .val (.int (p1 &&& (1 : Int32))), .val (.int (p2 &&& (1 : Int32))), .unset, .unset, .unset, .unset, .unset, .unset, .unset, .unset, .unset, .unset] [])) rfl (hb hby at_15) (by decide) (by decide)
    obtain ⟨a1, g1⟩ : ∃ z, z = h0.size := ⟨_, rfl⟩
    rw [← g1] at A1 D1 st1
    have g_a1 : n0 ≤ a1 := Nat.le_trans (own_old O0) (Nat.le_of_eq g1.symm)
    have O1 := O0.ext E1
    have E_a1 : Exa Z h1 a1 "com/example/element_ranker/elementranker/TagStatistics" := A1
    have F_a1_elementCounts : Fld Z h1 a1 "com/example/element_ranker/elementranker/TagStatistics" "elementCounts" "[I" .null := D1 (Or.inr (own_w hw 11 rfl)) (ty := (.array .int)) (by decide)
    have F_a1_totalLengths : Fld Z h1 a1 "com/example/element_ranker/elementranker/TagStatistics" "totalLengths" "[J" .null := D1 (Or.inr (own_w hw 14 rfl)) (ty := (.array .long)) (by decide)
    have F_a1_elementCount : Fld Z h1 a1 "com/example/element_ranker/elementranker/TagStatistics" "elementCount" "I" (.int (0 : Int32)) := D1 (Or.inl (own_w hw 21 rfl)) (ty := .int) (by decide)
    have F_a1_totalLength : Fld Z h1 a1 "com/example/element_ranker/elementranker/TagStatistics" "totalLength" "J" (.long (0 : Int64)) := D1 (Or.inl (own_w hw 23 rfl)) (ty := .long) (by decide)
    refine Go.st st1 ?_
    show Go p e below s _ _ _ (T1.setTop (mkF m 18 #[.val (.int p0), .val (.int p1), .val (.int p2), .val (.int p3), .val (.int p4), .val (.int p5), .val (.int (p0 &&& (1 : Int32))), .val (.int (p1 &&& (1 : Int32))), .val (.int (p2 &&& (1 : Int32))), .unset, .unset, .unset, .unset, .unset, .unset, .unset, .unset, .unset, .unset] [(.ref a1)]))
    refine Go.st (fun _ kq_ => XS.dup X1.here hx rfl (hb hby at_18) rfl rfl kq_) ?_
    show Go p e below s _ _ _ (T1.setTop (mkF m 19 #[.val (.int p0), .val (.int p1), .val (.int p2), .val (.int p3), .val (.int p4), .val (.int p5), .val (.int (p0 &&& (1 : Int32))), .val (.int (p1 &&& (1 : Int32))), .val (.int (p2 &&& (1 : Int32))), .unset, .unset, .unset, .unset, .unset, .unset, .unset, .unset, .unset, .unset] [(.ref a1), (.ref a1)]))
    refine Go.st (fun _ kq_ => XS.iconst X1.here hx rfl (hb hby at_19) kq_) ?_
    show Go p e below s _ _ _ (T1.setTop (mkF m 20 #[.val (.int p0), .val (.int p1), .val (.int p2), .val (.int p3), .val (.int p4), .val (.int p5), .val (.int (p0 &&& (1 : Int32))), .val (.int (p1 &&& (1 : Int32))), .val (.int (p2 &&& (1 : Int32))), .unset, .unset, .unset, .unset, .unset, .unset, .unset, .unset, .unset, .unset] [(.int (2 : Int32)), (.ref a1), (.ref a1)]))
    obtain ⟨_, _, ⟨T2, L2, k2, n2⟩, -, X2, ⟨Lc2, hQ2, l2, y2, z2⟩, st2⟩ := X1.specialBack hx (y := (⟨"com/example/element_ranker/elementranker/TagStatistics", "<init>", "(I)V"⟩ : MethodName)) rfl hown (mvT hZ (own_w hw 3 rfl)) (mvT hZ (own_w hw 4 rfl)) (mvT hZ (own_w hw 5 rfl)) (by decide) (backOf (W := 1) (rmi l Z a0 hw [] a1 h1 n0 O1 E_a1 F_a1_elementCounts F_a1_totalLengths F_a1_elementCount F_a1_totalLength g_a1) hZ (own_w hw 5 rfl) (own_w hw 2 rfl) (by decide) (by decide)) (g := (mkF m 20 #[.val (.int p0), .val (.int p1), .val (.int p2), .val (.int p3), .val (.int p4), .val (.int p5), .val (.int (p0 &&& (1 : Int32))), .val (.int (p1 &&& (1 : Int32))), .val (.int (p2 &&& (1 : Int32))), .unset, .unset, .unset, .unset, .unset, .unset, .unset, .unset, .unset, .unset] [(.int (2 : Int32)), (.ref a1), (.ref a1)])) rfl (by rw [hml]; rfl) (Steps.refl _) (a := a1) (argsL := [(.int (2 : Int32))]) (rest := [(.ref a1)]) (lenOf pd0_0 rfl) rfl (by show 2 * 0 + _ ≤ _; exact Nat.le_of_eq rfl) (hb hby at_20) (fun _ _ => ⟨rfl, e1, (by decide : 1 + 2 ≤ _), (by decide : 4 + 4 ≤ _)⟩)
    dsimp only [Pt.U, Pt.locs, Pt.cells, Pt.slots] at X2 l2 y2 z2 st2 hQ2
    subst l2 y2 z2
    obtain ⟨b2, kb2, d2, kd2, rfl, Nc2, Kc2, gb2, szb2, gd2, szd2, ned2, NE_a1, NF_a1_elementCounts, NF_a1_totalLengths, NF_a1_elementCount, NF_a1_totalLength, V_b2, V_d2⟩ := hQ2
    have N2 := Fr.app N0 Nc2
    have g_b2 : n0 ≤ b2 := gb2
    have ne_a1_b2 : a1 ≠ b2 := Nat.ne_of_lt (Nat.lt_of_lt_of_le E_a1.lt szb2)
    have g_d2 : n0 ≤ d2 := gd2
    have ne_a1_d2 : a1 ≠ d2 := Nat.ne_of_lt (Nat.lt_of_lt_of_le E_a1.lt szd2)
    have O2 := O1.keep Kc2 (allS g_a1 all0)
    have E_a1 := NE_a1
    have F_a1_elementCounts := NF_a1_elementCounts
    have F_a1_totalLengths := NF_a1_totalLengths
    have F_a1_elementCount := NF_a1_elementCount
    have F_a1_totalLength := NF_a1_totalLength
    refine Go.tr st2 ?_
    show Go p e below s _ _ _ (T2.setTop (mkF m 23 #[.val (.int p0), .val (.int p1), .val (.int p2), .val (.int p3), .val (.int p4), .val (.int p5), .val (.int (p0 &&& (1 : Int32))), .val (.int (p1 &&& (1 : Int32))), .val (.int (p2 &&& (1 : Int32))), .unset, .unset, .unset, .unset, .unset, .unset, .unset, .unset, .unset, .unset] [(.ref a1)]))
    refine Go.st (fun _ kq_ => XS.astore X2.here hx rfl (hb hby at_23) rfl rfl (l' := #[.val (.int p0), .val (.int p1), .val (.int p2), .val (.int p3), .val (.int p4), .val (.int p5), .val (.int (p0 &&& (1 : Int32))), .val (.int (p1 &&& (1 : Int32))), .val (.int (p2 &&& (1 : Int32))), .val (.ref a1), .unset, .unset, .unset, .unset, .unset, .unset, .unset, .unset, .unset]) rfl kq_) ?_
    show Go p e below s _ _ _ (T2.setTop (mkF m 25 #[.val (.int p0), .val (.int p1), .val (.int p2), .val (.int p3), .val (.int p4), .val (.int p5), .val (.int (p0 &&& (1 : Int32))), .val (.int (p1 &&& (1 : Int32))), .val (.int (p2 &&& (1 : Int32))), .val (.ref a1), .unset, .unset, .unset, .unset, .unset, .unset, .unset, .unset, .unset] []))
    refine Go.st (fun _ kq_ => XS.aload X2.here hx rfl (hb hby at_25) rfl rfl kq_) ?_
    show Go p e below s _ _ _ (T2.setTop (mkF m 27 #[.val (.int p0), .val (.int p1), .val (.int p2), .val (.int p3), .val (.int p4), .val (.int p5), .val (.int (p0 &&& (1 : Int32))), .val (.int (p1 &&& (1 : Int32))), .val (.int (p2 &&& (1 : Int32))), .val (.ref a1), .unset, .unset, .unset, .unset, .unset, .unset, .unset, .unset, .unset] [(.ref a1)]))
    refine Go.st (fun _ kq_ => XS.iload X2.here hx rfl (hb hby at_27) rfl kq_) ?_
    show Go p e below s _ _ _ (T2.setTop (mkF m 29 #[.val (.int p0), .val (.int p1), .val (.int p2), .val (.int p3), .val (.int p4), .val (.int p5), .val (.int (p0 &&& (1 : Int32))), .val (.int (p1 &&& (1 : Int32))), .val (.int (p2 &&& (1 : Int32))), .val (.ref a1), .unset, .unset, .unset, .unset, .unset, .unset, .unset, .unset, .unset] [(.int (p0 &&& (1 : Int32))), (.ref a1)]))
    refine Go.st (fun _ kq_ => XS.iloadN X2.here hx rfl (hb hby at_29) rfl kq_) ?_
    show Go p e below s _ _ _ (T2.setTop (mkF m 30 #[.val (.int p0), .val (.int p1), .val (.int p2), .val (.int p3), .val (.int p4), .val (.int p5), .val (.int (p0 &&& (1 : Int32))), .val (.int (p1 &&& (1 : Int32))), .val (.int (p2 &&& (1 : Int32))), .val (.ref a1), .unset, .unset, .unset, .unset, .unset, .unset, .unset, .unset, .unset] [(.int p3), (.int (p0 &&& (1 : Int32))), (.ref a1)]))
    obtain ⟨cq3, kq3, qa3, qb3, qc3⟩ := isOf hZ rfl E_a1
    obtain ⟨_, _, ⟨T3, L3, k3, n3⟩, -, X3, ⟨Lc3, hQ3, l3, y3, z3⟩, st3⟩ := X2.virtualBack hx (y := (⟨"com/example/element_ranker/elementranker/TagStatistics", "add", "(II)V"⟩ : MethodName)) (z := (⟨"com/example/element_ranker/elementranker/TagStatistics", "add", "(II)V"⟩ : MethodName)) hown (mvT hZ (own_w hw 15 rfl)) (mvT hZ (own_w hw 16 rfl)) (notFace_of_selects (args := #[]) (mvT hZ (own_w hw 18 rfl))) (mvT hZ (own_w hw 18 rfl)) (mvT hZ (own_w hw 17 rfl)) (by decide) (backOf (W := 0) (rma l Z a0 hw [] a1 b2 kb2 d2 kd2 (0 : Int32) (0 : Int32) (0 : Int64) (0 : Int64) (0 : Int32) (0 : Int64) (p0 &&& (1 : Int32)) p3 T2.heap n0 O2 E_a1 F_a1_elementCounts F_a1_totalLengths F_a1_elementCount F_a1_totalLength V_b2 V_d2 g_a1 g_b2 g_d2 ne_a1_b2 ne_a1_d2 ned2 (own_bit p0)) hZ (own_w hw 19 rfl) (own_w hw 2 rfl) (by decide) (by decide)) qa3 qc3 (g := (mkF m 30 #[.val (.int p0), .val (.int p1), .val (.int p2), .val (.int p3), .val (.int p4), .val (.int p5), .val (.int (p0 &&& (1 : Int32))), .val (.int (p1 &&& (1 : Int32))), .val (.int (p2 &&& (1 : Int32))), .val (.ref a1), .unset, .unset, .unset, .unset, .unset, .unset, .unset, .unset, .unset] [(.int p3), (.int (p0 &&& (1 : Int32))), (.ref a1)])) rfl (by rw [hml]; rfl) (Steps.refl _) (argsL := [(.int (p0 &&& (1 : Int32))), (.int p3)]) (rest := []) (lenOf pd0_1 rfl) rfl (by show 2 * 0 + _ ≤ _; exact Nat.le_of_eq rfl) (hb hby at_30) (fun _ _ => ⟨rfl, rfl, (by decide : 3 + 0 ≤ _), (by decide : 8 + 0 ≤ _)⟩)
    dsimp only [Pt.U, Pt.locs, Pt.cells, Pt.slots] at X3 l3 y3 z3 st3 hQ3
    subst l3 y3 z3
    obtain ⟨rfl, Nc3, Kc3, NE_a1, NF_a1_elementCounts, NF_a1_totalLengths, NF_a1_elementCount, NF_a1_totalLength, NV_b2, NV_d2⟩ := hQ3
    have N3 := Fr.app N2 Nc3
    have O3 := O2.keep Kc3 (allS g_a1 (allS g_b2 (allS g_d2 all0)))
    have E_a1 := NE_a1
    have F_a1_elementCounts := NF_a1_elementCounts
    have F_a1_totalLengths := NF_a1_totalLengths
    have F_a1_elementCount := NF_a1_elementCount
    have F_a1_totalLength := NF_a1_totalLength
    have V_b2 := NV_b2
    have V_d2 := NV_d2
    refine Go.tr st3 ?_
    show Go p e below s _ _ _ (T3.setTop (mkF m 33 #[.val (.int p0), .val (.int p1), .val (.int p2), .val (.int p3), .val (.int p4), .val (.int p5), .val (.int (p0 &&& (1 : Int32))), .val (.int (p1 &&& (1 : Int32))), .val (.int (p2 &&& (1 : Int32))), .val (.ref a1), .unset, .unset, .unset, .unset, .unset, .unset, .unset, .unset, .unset] []))
    refine Go.st (fun _ kq_ => XS.aload X3.here hx rfl (hb hby at_33) rfl rfl kq_) ?_
    show Go p e below s _ _ _ (T3.setTop (mkF m 35 #[.val (.int p0), .val (.int p1), .val (.int p2), .val (.int p3), .val (.int p4), .val (.int p5), .val (.int (p0 &&& (1 : Int32))), .val (.int (p1 &&& (1 : Int32))), .val (.int (p2 &&& (1 : Int32))), .val (.ref a1), .unset, .unset, .unset, .unset, .unset, .unset, .unset, .unset, .unset] [(.ref a1)]))
    refine Go.st (fun _ kq_ => XS.iload X3.here hx rfl (hb hby at_35) rfl kq_) ?_
    show Go p e below s _ _ _ (T3.setTop (mkF m 37 #[.val (.int p0), .val (.int p1), .val (.int p2), .val (.int p3), .val (.int p4), .val (.int p5), .val (.int (p0 &&& (1 : Int32))), .val (.int (p1 &&& (1 : Int32))), .val (.int (p2 &&& (1 : Int32))), .val (.ref a1), .unset, .unset, .unset, .unset, .unset, .unset, .unset, .unset, .unset] [(.int (p1 &&& (1 : Int32))), (.ref a1)]))
    refine Go.st (fun _ kq_ => XS.iload X3.here hx rfl (hb hby at_37) rfl kq_) ?_
    show Go p e below s _ _ _ (T3.setTop (mkF m 39 #[.val (.int p0), .val (.int p1), .val (.int p2), .val (.int p3), .val (.int p4), .val (.int p5), .val (.int (p0 &&& (1 : Int32))), .val (.int (p1 &&& (1 : Int32))), .val (.int (p2 &&& (1 : Int32))), .val (.ref a1), .unset, .unset, .unset, .unset, .unset, .unset, .unset, .unset, .unset] [(.int p4), (.int (p1 &&& (1 : Int32))), (.ref a1)]))
    obtain ⟨cq4, kq4, qa4, qb4, qc4⟩ := isOf hZ rfl E_a1
    obtain ⟨_, _, ⟨T4, L4, k4, n4⟩, -, X4, ⟨Lc4, hQ4, l4, y4, z4⟩, st4⟩ := X3.virtualBack hx (y := (⟨"com/example/element_ranker/elementranker/TagStatistics", "add", "(II)V"⟩ : MethodName)) (z := (⟨"com/example/element_ranker/elementranker/TagStatistics", "add", "(II)V"⟩ : MethodName)) hown (mvT hZ (own_w hw 15 rfl)) (mvT hZ (own_w hw 16 rfl)) (notFace_of_selects (args := #[]) (mvT hZ (own_w hw 18 rfl))) (mvT hZ (own_w hw 18 rfl)) (mvT hZ (own_w hw 17 rfl)) (by decide) (backOf (W := 0) (rma l Z a0 hw [] a1 b2 kb2 d2 kd2 (ad 0 (p0 &&& (1 : Int32)) (0 : Int32)) (ad 1 (p0 &&& (1 : Int32)) (0 : Int32)) (adL 0 (p0 &&& (1 : Int32)) p3 (0 : Int64)) (adL 1 (p0 &&& (1 : Int32)) p3 (0 : Int64)) ((0 : Int32) + (1 : Int32)) ((0 : Int64) + p3.toInt64) (p1 &&& (1 : Int32)) p4 T3.heap n0 O3 E_a1 F_a1_elementCounts F_a1_totalLengths F_a1_elementCount F_a1_totalLength V_b2 V_d2 g_a1 g_b2 g_d2 ne_a1_b2 ne_a1_d2 ned2 (own_bit p1)) hZ (own_w hw 19 rfl) (own_w hw 2 rfl) (by decide) (by decide)) qa4 qc4 (g := (mkF m 39 #[.val (.int p0), .val (.int p1), .val (.int p2), .val (.int p3), .val (.int p4), .val (.int p5), .val (.int (p0 &&& (1 : Int32))), .val (.int (p1 &&& (1 : Int32))), .val (.int (p2 &&& (1 : Int32))), .val (.ref a1), .unset, .unset, .unset, .unset, .unset, .unset, .unset, .unset, .unset] [(.int p4), (.int (p1 &&& (1 : Int32))), (.ref a1)])) rfl (by rw [hml]; rfl) (Steps.refl _) (argsL := [(.int (p1 &&& (1 : Int32))), (.int p4)]) (rest := []) (lenOf pd0_1 rfl) rfl (by show 2 * 0 + _ ≤ _; exact Nat.le_of_eq rfl) (hb hby at_39) (fun _ _ => ⟨rfl, rfl, (by decide : 3 + 0 ≤ _), (by decide : 8 + 0 ≤ _)⟩)
    dsimp only [Pt.U, Pt.locs, Pt.cells, Pt.slots] at X4 l4 y4 z4 st4 hQ4
    subst l4 y4 z4
    obtain ⟨rfl, Nc4, Kc4, NE_a1, NF_a1_elementCounts, NF_a1_totalLengths, NF_a1_elementCount, NF_a1_totalLength, NV_b2, NV_d2⟩ := hQ4
    have N4 := Fr.app N3 Nc4
    have O4 := O3.keep Kc4 (allS g_a1 (allS g_b2 (allS g_d2 all0)))
    have E_a1 := NE_a1
    have F_a1_elementCounts := NF_a1_elementCounts
    have F_a1_totalLengths := NF_a1_totalLengths
    have F_a1_elementCount := NF_a1_elementCount
    have F_a1_totalLength := NF_a1_totalLength
    have V_b2 := NV_b2
    have V_d2 := NV_d2
    refine Go.tr st4 ?_
    show Go p e below s _ _ _ (T4.setTop (mkF m 42 #[.val (.int p0), .val (.int p1), .val (.int p2), .val (.int p3), .val (.int p4), .val (.int p5), .val (.int (p0 &&& (1 : Int32))), .val (.int (p1 &&& (1 : Int32))), .val (.int (p2 &&& (1 : Int32))), .val (.ref a1), .unset, .unset, .unset, .unset, .unset, .unset, .unset, .unset, .unset] []))
    refine Go.st (fun _ kq_ => XS.aload X4.here hx rfl (hb hby at_42) rfl rfl kq_) ?_
    show Go p e below s _ _ _ (T4.setTop (mkF m 44 #[.val (.int p0), .val (.int p1), .val (.int p2), .val (.int p3), .val (.int p4), .val (.int p5), .val (.int (p0 &&& (1 : Int32))), .val (.int (p1 &&& (1 : Int32))), .val (.int (p2 &&& (1 : Int32))), .val (.ref a1), .unset, .unset, .unset, .unset, .unset, .unset, .unset, .unset, .unset] [(.ref a1)]))
    refine Go.st (fun _ kq_ => XS.iload X4.here hx rfl (hb hby at_44) rfl kq_) ?_
    show Go p e below s _ _ _ (T4.setTop (mkF m 46 #[.val (.int p0), .val (.int p1), .val (.int p2), .val (.int p3), .val (.int p4), .val (.int p5), .val (.int (p0 &&& (1 : Int32))), .val (.int (p1 &&& (1 : Int32))), .val (.int (p2 &&& (1 : Int32))), .val (.ref a1), .unset, .unset, .unset, .unset, .unset, .unset, .unset, .unset, .unset] [(.int (p2 &&& (1 : Int32))), (.ref a1)]))
    refine Go.st (fun _ kq_ => XS.iload X4.here hx rfl (hb hby at_46) rfl kq_) ?_
    show Go p e below s _ _ _ (T4.setTop (mkF m 48 #[.val (.int p0), .val (.int p1), .val (.int p2), .val (.int p3), .val (.int p4), .val (.int p5), .val (.int (p0 &&& (1 : Int32))), .val (.int (p1 &&& (1 : Int32))), .val (.int (p2 &&& (1 : Int32))), .val (.ref a1), .unset, .unset, .unset, .unset, .unset, .unset, .unset, .unset, .unset] [(.int p5), (.int (p2 &&& (1 : Int32))), (.ref a1)]))
    obtain ⟨cq5, kq5, qa5, qb5, qc5⟩ := isOf hZ rfl E_a1
    obtain ⟨_, _, ⟨T5, L5, k5, n5⟩, -, X5, ⟨Lc5, hQ5, l5, y5, z5⟩, st5⟩ := X4.virtualBack hx (y := (⟨"com/example/element_ranker/elementranker/TagStatistics", "add", "(II)V"⟩ : MethodName)) (z := (⟨"com/example/element_ranker/elementranker/TagStatistics", "add", "(II)V"⟩ : MethodName)) hown (mvT hZ (own_w hw 15 rfl)) (mvT hZ (own_w hw 16 rfl)) (notFace_of_selects (args := #[]) (mvT hZ (own_w hw 18 rfl))) (mvT hZ (own_w hw 18 rfl)) (mvT hZ (own_w hw 17 rfl)) (by decide) (backOf (W := 0) (rma l Z a0 hw [] a1 b2 kb2 d2 kd2 (ad 0 (p1 &&& (1 : Int32)) (ad 0 (p0 &&& (1 : Int32)) (0 : Int32))) (ad 1 (p1 &&& (1 : Int32)) (ad 1 (p0 &&& (1 : Int32)) (0 : Int32))) (adL 0 (p1 &&& (1 : Int32)) p4 (adL 0 (p0 &&& (1 : Int32)) p3 (0 : Int64))) (adL 1 (p1 &&& (1 : Int32)) p4 (adL 1 (p0 &&& (1 : Int32)) p3 (0 : Int64))) (((0 : Int32) + (1 : Int32)) + (1 : Int32)) (((0 : Int64) + p3.toInt64) + p4.toInt64) (p2 &&& (1 : Int32)) p5 T4.heap n0 O4 E_a1 F_a1_elementCounts F_a1_totalLengths F_a1_elementCount F_a1_totalLength V_b2 V_d2 g_a1 g_b2 g_d2 ne_a1_b2 ne_a1_d2 ned2 (own_bit p2)) hZ (own_w hw 19 rfl) (own_w hw 2 rfl) (by decide) (by decide)) qa5 qc5 (g := (mkF m 48 #[.val (.int p0), .val (.int p1), .val (.int p2), .val (.int p3), .val (.int p4), .val (.int p5), .val (.int (p0 &&& (1 : Int32))), .val (.int (p1 &&& (1 : Int32))), .val (.int (p2 &&& (1 : Int32))), .val (.ref a1), .unset, .unset, .unset, .unset, .unset, .unset, .unset, .unset, .unset] [(.int p5), (.int (p2 &&& (1 : Int32))), (.ref a1)])) rfl (by rw [hml]; rfl) (Steps.refl _) (argsL := [(.int (p2 &&& (1 : Int32))), (.int p5)]) (rest := []) (lenOf pd0_1 rfl) rfl (by show 2 * 0 + _ ≤ _; exact Nat.le_of_eq rfl) (hb hby at_48) (fun _ _ => ⟨rfl, rfl, (by decide : 3 + 0 ≤ _), (by decide : 8 + 0 ≤ _)⟩)
    dsimp only [Pt.U, Pt.locs, Pt.cells, Pt.slots] at X5 l5 y5 z5 st5 hQ5
    subst l5 y5 z5
    obtain ⟨rfl, Nc5, Kc5, NE_a1, NF_a1_elementCounts, NF_a1_totalLengths, NF_a1_elementCount, NF_a1_totalLength, NV_b2, NV_d2⟩ := hQ5
    have N5 := Fr.app N4 Nc5
    have O5 := O4.keep Kc5 (allS g_a1 (allS g_b2 (allS g_d2 all0)))
    have E_a1 := NE_a1
    have F_a1_elementCounts := NF_a1_elementCounts
    have F_a1_totalLengths := NF_a1_totalLengths
    have F_a1_elementCount := NF_a1_elementCount
    have F_a1_totalLength := NF_a1_totalLength
    have V_b2 := NV_b2
    have V_d2 := NV_d2
    refine Go.tr st5 ?_
    show Go p e below s _ _ _ (T5.setTop (mkF m 51 #[.val (.int p0), .val (.int p1), .val (.int p2), .val (.int p3), .val (.int p4), .val (.int p5), .val (.int (p0 &&& (1 : Int32))), .val (.int (p1 &&& (1 : Int32))), .val (.int (p2 &&& (1 : Int32))), .val (.ref a1), .unset, .unset, .unset, .unset, .unset, .unset, .unset, .unset, .unset] []))
    refine Go.st (fun _ kq_ => XS.iconst X5.here hx rfl (hb hby at_51) kq_) ?_
    show Go p e below s _ _ _ (T5.setTop (mkF m 52 #[.val (.int p0), .val (.int p1), .val (.int p2), .val (.int p3), .val (.int p4), .val (.int p5), .val (.int (p0 &&& (1 : Int32))), .val (.int (p1 &&& (1 : Int32))), .val (.int (p2 &&& (1 : Int32))), .val (.ref a1), .unset, .unset, .unset, .unset, .unset, .unset, .unset, .unset, .unset] [(.int (0 : Int32))]))
    refine Go.st (fun _ kq_ => XS.istore X5.here hx rfl (hb hby at_52) rfl (l' := #[.val (.int p0), .val (.int p1), .val (.int p2), .val (.int p3), .val (.int p4), .val (.int p5), .val (.int (p0 &&& (1 : Int32))), .val (.int (p1 &&& (1 : Int32))), .val (.int (p2 &&& (1 : Int32))), .val (.ref a1), .val (.int (0 : Int32)), .unset, .unset, .unset, .unset, .unset, .unset, .unset, .unset]) rfl kq_) ?_
    show Go p e below s _ _ _ (T5.setTop (mkF m 54 #[.val (.int p0), .val (.int p1), .val (.int p2), .val (.int p3), .val (.int p4), .val (.int p5), .val (.int (p0 &&& (1 : Int32))), .val (.int (p1 &&& (1 : Int32))), .val (.int (p2 &&& (1 : Int32))), .val (.ref a1), .val (.int (0 : Int32)), .unset, .unset, .unset, .unset, .unset, .unset, .unset, .unset] []))
    refine Go.st (fun _ kq_ => XT.lconst X5.here hx rfl (hb hby at_54) kq_) ?_
    show Go p e below s _ _ _ (T5.setTop (mkF m 55 #[.val (.int p0), .val (.int p1), .val (.int p2), .val (.int p3), .val (.int p4), .val (.int p5), .val (.int (p0 &&& (1 : Int32))), .val (.int (p1 &&& (1 : Int32))), .val (.int (p2 &&& (1 : Int32))), .val (.ref a1), .val (.int (0 : Int32)), .unset, .unset, .unset, .unset, .unset, .unset, .unset, .unset] [(.long (0 : Int64))]))
    refine Go.st (fun _ kq_ => XT.lstore X5.here hx rfl (hb hby at_55) rfl (l' := #[.val (.int p0), .val (.int p1), .val (.int p2), .val (.int p3), .val (.int p4), .val (.int p5), .val (.int (p0 &&& (1 : Int32))), .val (.int (p1 &&& (1 : Int32))), .val (.int (p2 &&& (1 : Int32))), .val (.ref a1), .val (.int (0 : Int32)), .val (.long (0 : Int64)), .second, .unset, .unset, .unset, .unset, .unset, .unset]) rfl kq_) ?_
    show Go p e below s _ _ _ (T5.setTop (mkF m 57 #[.val (.int p0), .val (.int p1), .val (.int p2), .val (.int p3), .val (.int p4), .val (.int p5), .val (.int (p0 &&& (1 : Int32))), .val (.int (p1 &&& (1 : Int32))), .val (.int (p2 &&& (1 : Int32))), .val (.ref a1), .val (.int (0 : Int32)), .val (.long (0 : Int64)), .second, .unset, .unset, .unset, .unset, .unset, .unset] []))
    have J113 : ∀ (nq : Int32) (sq : Int64) (T6 : State) (h6 : Heap) (lc6 : List Loc) (X6 : Stand p l e room_1 s m #[(.int p0), (.int p1), (.int p2), (.int p3), (.int p4), (.int p5)] below meth cd T6 lc6 3 8) (e6 : T6.heap = h6) (N6 : Fr n0 lc6) (O6 : Old Z n0 h6) (E_a1 : Exa Z h6 a1 "com/example/element_ranker/elementranker/TagStatistics") (F_a1_elementCounts : Fld Z h6 a1 "com/example/element_ranker/elementranker/TagStatistics" "elementCounts" "[I" (.ref b2)) (F_a1_totalLengths : Fld Z h6 a1 "com/example/element_ranker/elementranker/TagStatistics" "totalLengths" "[J" (.ref d2)) (F_a1_elementCount : Fld Z h6 a1 "com/example/element_ranker/elementranker/TagStatistics" "elementCount" "I" (.int ((((0 : Int32) + (1 : Int32)) + (1 : Int32)) + (1 : Int32)))) (F_a1_totalLength : Fld Z h6 a1 "com/example/element_ranker/elementranker/TagStatistics" "totalLength" "J" (.long ((((0 : Int64) + p3.toInt64) + p4.toInt64) + p5.toInt64))) (V_b2 : Arv Z h6 b2 kb2 .int (2 : Int32) [(.int (ad 0 (p2 &&& (1 : Int32)) (ad 0 (p1 &&& (1 : Int32)) (ad 0 (p0 &&& (1 : Int32)) (0 : Int32))))), (.int (ad 1 (p2 &&& (1 : Int32)) (ad 1 (p1 &&& (1 : Int32)) (ad 1 (p0 &&& (1 : Int32)) (0 : Int32)))))] (.int (0 : Int32))) (V_d2 : Arv Z h6 d2 kd2 .long (2 : Int32) [(.long (adL 0 (p2 &&& (1 : Int32)) p5 (adL 0 (p1 &&& (1 : Int32)) p4 (adL 0 (p0 &&& (1 : Int32)) p3 (0 : Int64))))), (.long (adL 1 (p2 &&& (1 : Int32)) p5 (adL 1 (p1 &&& (1 : Int32)) p4 (adL 1 (p0 &&& (1 : Int32)) p3 (0 : Int64)))))] (.long (0 : Int64))) (hnq : (ad 0 (p2 &&& (1 : Int32)) (ad 0 (p1 &&& (1 : Int32)) (ad 0 (p0 &&& (1 : Int32)) (0 : Int32)))) = nq) (hsq : (adL 0 (p2 &&& (1 : Int32)) p5 (adL 0 (p1 &&& (1 : Int32)) p4 (adL 0 (p0 &&& (1 : Int32)) p3 (0 : Int64)))) = sq), Go p e below s room_1.cells room_1.slots (Q0 Z p0 p1 p2 p3 p4 p5 h0 n0) (T6.setTop (mkF m 113 #[.val (.int p0), .val (.int p1), .val (.int p2), .val (.int p3), .val (.int p4), .val (.int p5), .val (.int (p0 &&& (1 : Int32))), .val (.int (p1 &&& (1 : Int32))), .val (.int (p2 &&& (1 : Int32))), .val (.ref a1), .val (.int nq), .val (.long sq), .second, .unset, .unset, .unset, .unset, .unset, .unset] [])) := by
      intro nq sq T6 h6 lc6 X6 e6 N6 O6 E_a1 F_a1_elementCounts F_a1_totalLengths F_a1_elementCount F_a1_totalLength V_b2 V_d2 hnq hsq
      subst hnq hsq
      show Go p e below s _ _ _ (T6.setTop (mkF m 113 #[.val (.int p0), .val (.int p1), .val (.int p2), .val (.int p3), .val (.int p4), .val (.int p5), .val (.int (p0 &&& (1 : Int32))), .val (.int (p1 &&& (1 : Int32))), .val (.int (p2 &&& (1 : Int32))), .val (.ref a1), .val (.int (ad 0 (p2 &&& (1 : Int32)) (ad 0 (p1 &&& (1 : Int32)) (ad 0 (p0 &&& (1 : Int32)) (0 : Int32))))), .val (.long (adL 0 (p2 &&& (1 : Int32)) p5 (adL 0 (p1 &&& (1 : Int32)) p4 (adL 0 (p0 &&& (1 : Int32)) p3 (0 : Int64))))), .second, .unset, .unset, .unset, .unset, .unset, .unset] []))
      refine Go.st (fun _ kq_ => XS.iloadN X6.here hx rfl (hb hby at_113) rfl kq_) ?_
      show Go p e below s _ _ _ (T6.setTop (mkF m 114 #[.val (.int p0), .val (.int p1), .val (.int p2), .val (.int p3), .val (.int p4), .val (.int p5), .val (.int (p0 &&& (1 : Int32))), .val (.int (p1 &&& (1 : Int32))), .val (.int (p2 &&& (1 : Int32))), .val (.ref a1), .val (.int (ad 0 (p2 &&& (1 : Int32)) (ad 0 (p1 &&& (1 : Int32)) (ad 0 (p0 &&& (1 : Int32)) (0 : Int32))))), .val (.long (adL 0 (p2 &&& (1 : Int32)) p5 (adL 0 (p1 &&& (1 : Int32)) p4 (adL 0 (p0 &&& (1 : Int32)) p3 (0 : Int64))))), .second, .unset, .unset, .unset, .unset, .unset, .unset] [(.int p3)]))
      refine Go.st (fun _ kq_ => XT.i2l X6.here hx rfl (hb hby at_114) rfl kq_) ?_
      show Go p e below s _ _ _ (T6.setTop (mkF m 115 #[.val (.int p0), .val (.int p1), .val (.int p2), .val (.int p3), .val (.int p4), .val (.int p5), .val (.int (p0 &&& (1 : Int32))), .val (.int (p1 &&& (1 : Int32))), .val (.int (p2 &&& (1 : Int32))), .val (.ref a1), .val (.int (ad 0 (p2 &&& (1 : Int32)) (ad 0 (p1 &&& (1 : Int32)) (ad 0 (p0 &&& (1 : Int32)) (0 : Int32))))), .val (.long (adL 0 (p2 &&& (1 : Int32)) p5 (adL 0 (p1 &&& (1 : Int32)) p4 (adL 0 (p0 &&& (1 : Int32)) p3 (0 : Int64))))), .second, .unset, .unset, .unset, .unset, .unset, .unset] [(.long (p3.toInt64))]))
      refine Go.st (fun _ kq_ => XS.iload X6.here hx rfl (hb hby at_115) rfl kq_) ?_
      show Go p e below s _ _ _ (T6.setTop (mkF m 117 #[.val (.int p0), .val (.int p1), .val (.int p2), .val (.int p3), .val (.int p4), .val (.int p5), .val (.int (p0 &&& (1 : Int32))), .val (.int (p1 &&& (1 : Int32))), .val (.int (p2 &&& (1 : Int32))), .val (.ref a1), .val (.int (ad 0 (p2 &&& (1 : Int32)) (ad 0 (p1 &&& (1 : Int32)) (ad 0 (p0 &&& (1 : Int32)) (0 : Int32))))), .val (.long (adL 0 (p2 &&& (1 : Int32)) p5 (adL 0 (p1 &&& (1 : Int32)) p4 (adL 0 (p0 &&& (1 : Int32)) p3 (0 : Int64))))), .second, .unset, .unset, .unset, .unset, .unset, .unset] [(.int p4), (.long (p3.toInt64))]))
      refine Go.st (fun _ kq_ => XT.i2l X6.here hx rfl (hb hby at_117) rfl kq_) ?_
      show Go p e below s _ _ _ (T6.setTop (mkF m 118 #[.val (.int p0), .val (.int p1), .val (.int p2), .val (.int p3), .val (.int p4), .val (.int p5), .val (.int (p0 &&& (1 : Int32))), .val (.int (p1 &&& (1 : Int32))), .val (.int (p2 &&& (1 : Int32))), .val (.ref a1), .val (.int (ad 0 (p2 &&& (1 : Int32)) (ad 0 (p1 &&& (1 : Int32)) (ad 0 (p0 &&& (1 : Int32)) (0 : Int32))))), .val (.long (adL 0 (p2 &&& (1 : Int32)) p5 (adL 0 (p1 &&& (1 : Int32)) p4 (adL 0 (p0 &&& (1 : Int32)) p3 (0 : Int64))))), .second, .unset, .unset, .unset, .unset, .unset, .unset] [(.long (p4.toInt64)), (.long (p3.toInt64))]))
      refine Go.st (fun _ kq_ => XT.ladd X6.here hx rfl (hb hby at_118) rfl kq_) ?_
      show Go p e below s _ _ _ (T6.setTop (mkF m 119 #[.val (.int p0), .val (.int p1), .val (.int p2), .val (.int p3), .val (.int p4), .val (.int p5), .val (.int (p0 &&& (1 : Int32))), .val (.int (p1 &&& (1 : Int32))), .val (.int (p2 &&& (1 : Int32))), .val (.ref a1), .val (.int (ad 0 (p2 &&& (1 : Int32)) (ad 0 (p1 &&& (1 : Int32)) (ad 0 (p0 &&& (1 : Int32)) (0 : Int32))))), .val (.long (adL 0 (p2 &&& (1 : Int32)) p5 (adL 0 (p1 &&& (1 : Int32)) p4 (adL 0 (p0 &&& (1 : Int32)) p3 (0 : Int64))))), .second, .unset, .unset, .unset, .unset, .unset, .unset] [(.long ((p3.toInt64) + (p4.toInt64)))]))
      refine Go.st (fun _ kq_ => XS.iload X6.here hx rfl (hb hby at_119) rfl kq_) ?_
      show Go p e below s _ _ _ (T6.setTop (mkF m 121 #[.val (.int p0), .val (.int p1), .val (.int p2), .val (.int p3), .val (.int p4), .val (.int p5), .val (.int (p0 &&& (1 : Int32))), .val (.int (p1 &&& (1 : Int32))), .val (.int (p2 &&& (1 : Int32))), .val (.ref a1), .val (.int (ad 0 (p2 &&& (1 : Int32)) (ad 0 (p1 &&& (1 : Int32)) (ad 0 (p0 &&& (1 : Int32)) (0 : Int32))))), .val (.long (adL 0 (p2 &&& (1 : Int32)) p5 (adL 0 (p1 &&& (1 : Int32)) p4 (adL 0 (p0 &&& (1 : Int32)) p3 (0 : Int64))))), .second, .unset, .unset, .unset, .unset, .unset, .unset] [(.int p5), (.long ((p3.toInt64) + (p4.toInt64)))]))
      refine Go.st (fun _ kq_ => XT.i2l X6.here hx rfl (hb hby at_121) rfl kq_) ?_
      show Go p e below s _ _ _ (T6.setTop (mkF m 122 #[.val (.int p0), .val (.int p1), .val (.int p2), .val (.int p3), .val (.int p4), .val (.int p5), .val (.int (p0 &&& (1 : Int32))), .val (.int (p1 &&& (1 : Int32))), .val (.int (p2 &&& (1 : Int32))), .val (.ref a1), .val (.int (ad 0 (p2 &&& (1 : Int32)) (ad 0 (p1 &&& (1 : Int32)) (ad 0 (p0 &&& (1 : Int32)) (0 : Int32))))), .val (.long (adL 0 (p2 &&& (1 : Int32)) p5 (adL 0 (p1 &&& (1 : Int32)) p4 (adL 0 (p0 &&& (1 : Int32)) p3 (0 : Int64))))), .second, .unset, .unset, .unset, .unset, .unset, .unset] [(.long (p5.toInt64)), (.long ((p3.toInt64) + (p4.toInt64)))]))
      refine Go.st (fun _ kq_ => XT.ladd X6.here hx rfl (hb hby at_122) rfl kq_) ?_
      show Go p e below s _ _ _ (T6.setTop (mkF m 123 #[.val (.int p0), .val (.int p1), .val (.int p2), .val (.int p3), .val (.int p4), .val (.int p5), .val (.int (p0 &&& (1 : Int32))), .val (.int (p1 &&& (1 : Int32))), .val (.int (p2 &&& (1 : Int32))), .val (.ref a1), .val (.int (ad 0 (p2 &&& (1 : Int32)) (ad 0 (p1 &&& (1 : Int32)) (ad 0 (p0 &&& (1 : Int32)) (0 : Int32))))), .val (.long (adL 0 (p2 &&& (1 : Int32)) p5 (adL 0 (p1 &&& (1 : Int32)) p4 (adL 0 (p0 &&& (1 : Int32)) p3 (0 : Int64))))), .second, .unset, .unset, .unset, .unset, .unset, .unset] [(.long (((p3.toInt64) + (p4.toInt64)) + (p5.toInt64)))]))
      refine Go.st (fun _ kq_ => XT.lstore X6.here hx rfl (hb hby at_123) rfl (l' := #[.val (.int p0), .val (.int p1), .val (.int p2), .val (.int p3), .val (.int p4), .val (.int p5), .val (.int (p0 &&& (1 : Int32))), .val (.int (p1 &&& (1 : Int32))), .val (.int (p2 &&& (1 : Int32))), .val (.ref a1), .val (.int (ad 0 (p2 &&& (1 : Int32)) (ad 0 (p1 &&& (1 : Int32)) (ad 0 (p0 &&& (1 : Int32)) (0 : Int32))))), .val (.long (adL 0 (p2 &&& (1 : Int32)) p5 (adL 0 (p1 &&& (1 : Int32)) p4 (adL 0 (p0 &&& (1 : Int32)) p3 (0 : Int64))))), .second, .val (.long (((p3.toInt64) + (p4.toInt64)) + (p5.toInt64))), .second, .unset, .unset, .unset, .unset]) rfl kq_) ?_
      show Go p e below s _ _ _ (T6.setTop (mkF m 125 #[.val (.int p0), .val (.int p1), .val (.int p2), .val (.int p3), .val (.int p4), .val (.int p5), .val (.int (p0 &&& (1 : Int32))), .val (.int (p1 &&& (1 : Int32))), .val (.int (p2 &&& (1 : Int32))), .val (.ref a1), .val (.int (ad 0 (p2 &&& (1 : Int32)) (ad 0 (p1 &&& (1 : Int32)) (ad 0 (p0 &&& (1 : Int32)) (0 : Int32))))), .val (.long (adL 0 (p2 &&& (1 : Int32)) p5 (adL 0 (p1 &&& (1 : Int32)) p4 (adL 0 (p0 &&& (1 : Int32)) p3 (0 : Int64))))), .second, .val (.long (((p3.toInt64) + (p4.toInt64)) + (p5.toInt64))), .second, .unset, .unset, .unset, .unset] []))
      refine Go.st (fun _ kq_ => XS.iconst X6.here hx rfl (hb hby at_125) kq_) ?_
      show Go p e below s _ _ _ (T6.setTop (mkF m 126 #[.val (.int p0), .val (.int p1), .val (.int p2), .val (.int p3), .val (.int p4), .val (.int p5), .val (.int (p0 &&& (1 : Int32))), .val (.int (p1 &&& (1 : Int32))), .val (.int (p2 &&& (1 : Int32))), .val (.ref a1), .val (.int (ad 0 (p2 &&& (1 : Int32)) (ad 0 (p1 &&& (1 : Int32)) (ad 0 (p0 &&& (1 : Int32)) (0 : Int32))))), .val (.long (adL 0 (p2 &&& (1 : Int32)) p5 (adL 0 (p1 &&& (1 : Int32)) p4 (adL 0 (p0 &&& (1 : Int32)) p3 (0 : Int64))))), .second, .val (.long (((p3.toInt64) + (p4.toInt64)) + (p5.toInt64))), .second, .unset, .unset, .unset, .unset] [(.int (3 : Int32))]))
      refine Go.st (fun _ kq_ => XS.iload X6.here hx rfl (hb hby at_126) rfl kq_) ?_
      show Go p e below s _ _ _ (T6.setTop (mkF m 128 #[.val (.int p0), .val (.int p1), .val (.int p2), .val (.int p3), .val (.int p4), .val (.int p5), .val (.int (p0 &&& (1 : Int32))), .val (.int (p1 &&& (1 : Int32))), .val (.int (p2 &&& (1 : Int32))), .val (.ref a1), .val (.int (ad 0 (p2 &&& (1 : Int32)) (ad 0 (p1 &&& (1 : Int32)) (ad 0 (p0 &&& (1 : Int32)) (0 : Int32))))), .val (.long (adL 0 (p2 &&& (1 : Int32)) p5 (adL 0 (p1 &&& (1 : Int32)) p4 (adL 0 (p0 &&& (1 : Int32)) p3 (0 : Int64))))), .second, .val (.long (((p3.toInt64) + (p4.toInt64)) + (p5.toInt64))), .second, .unset, .unset, .unset, .unset] [(.int (ad 0 (p2 &&& (1 : Int32)) (ad 0 (p1 &&& (1 : Int32)) (ad 0 (p0 &&& (1 : Int32)) (0 : Int32))))), (.int (3 : Int32))]))
      refine Go.st (fun _ kq_ => XS.isub X6.here hx rfl (hb hby at_128) rfl kq_) ?_
      show Go p e below s _ _ _ (T6.setTop (mkF m 129 #[.val (.int p0), .val (.int p1), .val (.int p2), .val (.int p3), .val (.int p4), .val (.int p5), .val (.int (p0 &&& (1 : Int32))), .val (.int (p1 &&& (1 : Int32))), .val (.int (p2 &&& (1 : Int32))), .val (.ref a1), .val (.int (ad 0 (p2 &&& (1 : Int32)) (ad 0 (p1 &&& (1 : Int32)) (ad 0 (p0 &&& (1 : Int32)) (0 : Int32))))), .val (.long (adL 0 (p2 &&& (1 : Int32)) p5 (adL 0 (p1 &&& (1 : Int32)) p4 (adL 0 (p0 &&& (1 : Int32)) p3 (0 : Int64))))), .second, .val (.long (((p3.toInt64) + (p4.toInt64)) + (p5.toInt64))), .second, .unset, .unset, .unset, .unset] [(.int ((3 : Int32) - (ad 0 (p2 &&& (1 : Int32)) (ad 0 (p1 &&& (1 : Int32)) (ad 0 (p0 &&& (1 : Int32)) (0 : Int32))))))]))
      refine Go.st (fun _ kq_ => XS.istore X6.here hx rfl (hb hby at_129) rfl (l' := #[.val (.int p0), .val (.int p1), .val (.int p2), .val (.int p3), .val (.int p4), .val (.int p5), .val (.int (p0 &&& (1 : Int32))), .val (.int (p1 &&& (1 : Int32))), .val (.int (p2 &&& (1 : Int32))), .val (.ref a1), .val (.int (ad 0 (p2 &&& (1 : Int32)) (ad 0 (p1 &&& (1 : Int32)) (ad 0 (p0 &&& (1 : Int32)) (0 : Int32))))), .val (.long (adL 0 (p2 &&& (1 : Int32)) p5 (adL 0 (p1 &&& (1 : Int32)) p4 (adL 0 (p0 &&& (1 : Int32)) p3 (0 : Int64))))), .second, .val (.long (((p3.toInt64) + (p4.toInt64)) + (p5.toInt64))), .second, .val (.int ((3 : Int32) - (ad 0 (p2 &&& (1 : Int32)) (ad 0 (p1 &&& (1 : Int32)) (ad 0 (p0 &&& (1 : Int32)) (0 : Int32)))))), .unset, .unset, .unset]) rfl kq_) ?_
      show Go p e below s _ _ _ (T6.setTop (mkF m 131 #[.val (.int p0), .val (.int p1), .val (.int p2), .val (.int p3), .val (.int p4), .val (.int p5), .val (.int (p0 &&& (1 : Int32))), .val (.int (p1 &&& (1 : Int32))), .val (.int (p2 &&& (1 : Int32))), .val (.ref a1), .val (.int (ad 0 (p2 &&& (1 : Int32)) (ad 0 (p1 &&& (1 : Int32)) (ad 0 (p0 &&& (1 : Int32)) (0 : Int32))))), .val (.long (adL 0 (p2 &&& (1 : Int32)) p5 (adL 0 (p1 &&& (1 : Int32)) p4 (adL 0 (p0 &&& (1 : Int32)) p3 (0 : Int64))))), .second, .val (.long (((p3.toInt64) + (p4.toInt64)) + (p5.toInt64))), .second, .val (.int ((3 : Int32) - (ad 0 (p2 &&& (1 : Int32)) (ad 0 (p1 &&& (1 : Int32)) (ad 0 (p0 &&& (1 : Int32)) (0 : Int32)))))), .unset, .unset, .unset] []))
      refine Go.st (fun _ kq_ => XT.lload X6.here hx rfl (hb hby at_131) rfl kq_) ?_
      show Go p e below s _ _ _ (T6.setTop (mkF m 133 #[.val (.int p0), .val (.int p1), .val (.int p2), .val (.int p3), .val (.int p4), .val (.int p5), .val (.int (p0 &&& (1 : Int32))), .val (.int (p1 &&& (1 : Int32))), .val (.int (p2 &&& (1 : Int32))), .val (.ref a1), .val (.int (ad 0 (p2 &&& (1 : Int32)) (ad 0 (p1 &&& (1 : Int32)) (ad 0 (p0 &&& (1 : Int32)) (0 : Int32))))), .val (.long (adL 0 (p2 &&& (1 : Int32)) p5 (adL 0 (p1 &&& (1 : Int32)) p4 (adL 0 (p0 &&& (1 : Int32)) p3 (0 : Int64))))), .second, .val (.long (((p3.toInt64) + (p4.toInt64)) + (p5.toInt64))), .second, .val (.int ((3 : Int32) - (ad 0 (p2 &&& (1 : Int32)) (ad 0 (p1 &&& (1 : Int32)) (ad 0 (p0 &&& (1 : Int32)) (0 : Int32)))))), .unset, .unset, .unset] [(.long (((p3.toInt64) + (p4.toInt64)) + (p5.toInt64)))]))
      refine Go.st (fun _ kq_ => XT.lload X6.here hx rfl (hb hby at_133) rfl kq_) ?_
      show Go p e below s _ _ _ (T6.setTop (mkF m 135 #[.val (.int p0), .val (.int p1), .val (.int p2), .val (.int p3), .val (.int p4), .val (.int p5), .val (.int (p0 &&& (1 : Int32))), .val (.int (p1 &&& (1 : Int32))), .val (.int (p2 &&& (1 : Int32))), .val (.ref a1), .val (.int (ad 0 (p2 &&& (1 : Int32)) (ad 0 (p1 &&& (1 : Int32)) (ad 0 (p0 &&& (1 : Int32)) (0 : Int32))))), .val (.long (adL 0 (p2 &&& (1 : Int32)) p5 (adL 0 (p1 &&& (1 : Int32)) p4 (adL 0 (p0 &&& (1 : Int32)) p3 (0 : Int64))))), .second, .val (.long (((p3.toInt64) + (p4.toInt64)) + (p5.toInt64))), .second, .val (.int ((3 : Int32) - (ad 0 (p2 &&& (1 : Int32)) (ad 0 (p1 &&& (1 : Int32)) (ad 0 (p0 &&& (1 : Int32)) (0 : Int32)))))), .unset, .unset, .unset] [(.long (adL 0 (p2 &&& (1 : Int32)) p5 (adL 0 (p1 &&& (1 : Int32)) p4 (adL 0 (p0 &&& (1 : Int32)) p3 (0 : Int64))))), (.long (((p3.toInt64) + (p4.toInt64)) + (p5.toInt64)))]))
      refine Go.st (fun _ kq_ => XT.lsub X6.here hx rfl (hb hby at_135) rfl kq_) ?_
      show Go p e below s _ _ _ (T6.setTop (mkF m 136 #[.val (.int p0), .val (.int p1), .val (.int p2), .val (.int p3), .val (.int p4), .val (.int p5), .val (.int (p0 &&& (1 : Int32))), .val (.int (p1 &&& (1 : Int32))), .val (.int (p2 &&& (1 : Int32))), .val (.ref a1), .val (.int (ad 0 (p2 &&& (1 : Int32)) (ad 0 (p1 &&& (1 : Int32)) (ad 0 (p0 &&& (1 : Int32)) (0 : Int32))))), .val (.long (adL 0 (p2 &&& (1 : Int32)) p5 (adL 0 (p1 &&& (1 : Int32)) p4 (adL 0 (p0 &&& (1 : Int32)) p3 (0 : Int64))))), .second, .val (.long (((p3.toInt64) + (p4.toInt64)) + (p5.toInt64))), .second, .val (.int ((3 : Int32) - (ad 0 (p2 &&& (1 : Int32)) (ad 0 (p1 &&& (1 : Int32)) (ad 0 (p0 &&& (1 : Int32)) (0 : Int32)))))), .unset, .unset, .unset] [(.long ((((p3.toInt64) + (p4.toInt64)) + (p5.toInt64)) - (adL 0 (p2 &&& (1 : Int32)) p5 (adL 0 (p1 &&& (1 : Int32)) p4 (adL 0 (p0 &&& (1 : Int32)) p3 (0 : Int64))))))]))
      refine Go.st (fun _ kq_ => XT.lstore X6.here hx rfl (hb hby at_136) rfl (l' := #[.val (.int p0), .val (.int p1), .val (.int p2), .val (.int p3), .val (.int p4), .val (.int p5), .val (.int (p0 &&& (1 : Int32))), .val (.int (p1 &&& (1 : Int32))), .val (.int (p2 &&& (1 : Int32))), .val (.ref a1), .val (.int (ad 0 (p2 &&& (1 : Int32)) (ad 0 (p1 &&& (1 : Int32)) (ad 0 (p0 &&& (1 : Int32)) (0 : Int32))))), .val (.long (adL 0 (p2 &&& (1 : Int32)) p5 (adL 0 (p1 &&& (1 : Int32)) p4 (adL 0 (p0 &&& (1 : Int32)) p3 (0 : Int64))))), .second, .val (.long (((p3.toInt64) + (p4.toInt64)) + (p5.toInt64))), .second, .val (.int ((3 : Int32) - (ad 0 (p2 &&& (1 : Int32)) (ad 0 (p1 &&& (1 : Int32)) (ad 0 (p0 &&& (1 : Int32)) (0 : Int32)))))), .val (.long ((((p3.toInt64) + (p4.toInt64)) + (p5.toInt64)) - (adL 0 (p2 &&& (1 : Int32)) p5 (adL 0 (p1 &&& (1 : Int32)) p4 (adL 0 (p0 &&& (1 : Int32)) p3 (0 : Int64)))))), .second, .unset]) rfl kq_) ?_
      show Go p e below s _ _ _ (T6.setTop (mkF m 138 #[.val (.int p0), .val (.int p1), .val (.int p2), .val (.int p3), .val (.int p4), .val (.int p5), .val (.int (p0 &&& (1 : Int32))), .val (.int (p1 &&& (1 : Int32))), .val (.int (p2 &&& (1 : Int32))), .val (.ref a1), .val (.int (ad 0 (p2 &&& (1 : Int32)) (ad 0 (p1 &&& (1 : Int32)) (ad 0 (p0 &&& (1 : Int32)) (0 : Int32))))), .val (.long (adL 0 (p2 &&& (1 : Int32)) p5 (adL 0 (p1 &&& (1 : Int32)) p4 (adL 0 (p0 &&& (1 : Int32)) p3 (0 : Int64))))), .second, .val (.long (((p3.toInt64) + (p4.toInt64)) + (p5.toInt64))), .second, .val (.int ((3 : Int32) - (ad 0 (p2 &&& (1 : Int32)) (ad 0 (p1 &&& (1 : Int32)) (ad 0 (p0 &&& (1 : Int32)) (0 : Int32)))))), .val (.long ((((p3.toInt64) + (p4.toInt64)) + (p5.toInt64)) - (adL 0 (p2 &&& (1 : Int32)) p5 (adL 0 (p1 &&& (1 : Int32)) p4 (adL 0 (p0 &&& (1 : Int32)) p3 (0 : Int64)))))), .second, .unset] []))
      refine Go.st (fun _ kq_ => XS.aload X6.here hx rfl (hb hby at_138) rfl rfl kq_) ?_
      show Go p e below s _ _ _ (T6.setTop (mkF m 140 #[.val (.int p0), .val (.int p1), .val (.int p2), .val (.int p3), .val (.int p4), .val (.int p5), .val (.int (p0 &&& (1 : Int32))), .val (.int (p1 &&& (1 : Int32))), .val (.int (p2 &&& (1 : Int32))), .val (.ref a1), .val (.int (ad 0 (p2 &&& (1 : Int32)) (ad 0 (p1 &&& (1 : Int32)) (ad 0 (p0 &&& (1 : Int32)) (0 : Int32))))), .val (.long (adL 0 (p2 &&& (1 : Int32)) p5 (adL 0 (p1 &&& (1 : Int32)) p4 (adL 0 (p0 &&& (1 : Int32)) p3 (0 : Int64))))), .second, .val (.long (((p3.toInt64) + (p4.toInt64)) + (p5.toInt64))), .second, .val (.int ((3 : Int32) - (ad 0 (p2 &&& (1 : Int32)) (ad 0 (p1 &&& (1 : Int32)) (ad 0 (p0 &&& (1 : Int32)) (0 : Int32)))))), .val (.long ((((p3.toInt64) + (p4.toInt64)) + (p5.toInt64)) - (adL 0 (p2 &&& (1 : Int32)) p5 (adL 0 (p1 &&& (1 : Int32)) p4 (adL 0 (p0 &&& (1 : Int32)) p3 (0 : Int64)))))), .second, .unset] [(.ref a1)]))
      refine Go.st (fun _ kq_ => XS.iconst X6.here hx rfl (hb hby at_140) kq_) ?_
      show Go p e below s _ _ _ (T6.setTop (mkF m 141 #[.val (.int p0), .val (.int p1), .val (.int p2), .val (.int p3), .val (.int p4), .val (.int p5), .val (.int (p0 &&& (1 : Int32))), .val (.int (p1 &&& (1 : Int32))), .val (.int (p2 &&& (1 : Int32))), .val (.ref a1), .val (.int (ad 0 (p2 &&& (1 : Int32)) (ad 0 (p1 &&& (1 : Int32)) (ad 0 (p0 &&& (1 : Int32)) (0 : Int32))))), .val (.long (adL 0 (p2 &&& (1 : Int32)) p5 (adL 0 (p1 &&& (1 : Int32)) p4 (adL 0 (p0 &&& (1 : Int32)) p3 (0 : Int64))))), .second, .val (.long (((p3.toInt64) + (p4.toInt64)) + (p5.toInt64))), .second, .val (.int ((3 : Int32) - (ad 0 (p2 &&& (1 : Int32)) (ad 0 (p1 &&& (1 : Int32)) (ad 0 (p0 &&& (1 : Int32)) (0 : Int32)))))), .val (.long ((((p3.toInt64) + (p4.toInt64)) + (p5.toInt64)) - (adL 0 (p2 &&& (1 : Int32)) p5 (adL 0 (p1 &&& (1 : Int32)) p4 (adL 0 (p0 &&& (1 : Int32)) p3 (0 : Int64)))))), .second, .unset] [(.int (0 : Int32)), (.ref a1)]))
      obtain ⟨cq7, kq7, qa7, qb7, qc7⟩ := isOf hZ e6 E_a1
      obtain ⟨_, _, ⟨T7, L7, k7, n7⟩, -, X7, ⟨Lc7, hQ7, l7, y7, z7⟩, st7⟩ := X6.virtualBack hx (y := (⟨"com/example/element_ranker/elementranker/TagStatistics", "elementCount", "(I)I"⟩ : MethodName)) (z := (⟨"com/example/element_ranker/elementranker/TagStatistics", "elementCount", "(I)I"⟩ : MethodName)) hown (mvT hZ (own_w hw 24 rfl)) (mvT hZ (own_w hw 25 rfl)) (notFace_of_selects (args := #[]) (mvT hZ (own_w hw 27 rfl))) (mvT hZ (own_w hw 27 rfl)) (mvT hZ (own_w hw 26 rfl)) (by decide) (backOf (W := 0) (rme0 l Z a0 hw [] a1 b2 kb2 d2 kd2 (ad 0 (p2 &&& (1 : Int32)) (ad 0 (p1 &&& (1 : Int32)) (ad 0 (p0 &&& (1 : Int32)) (0 : Int32)))) (ad 1 (p2 &&& (1 : Int32)) (ad 1 (p1 &&& (1 : Int32)) (ad 1 (p0 &&& (1 : Int32)) (0 : Int32)))) (adL 0 (p2 &&& (1 : Int32)) p5 (adL 0 (p1 &&& (1 : Int32)) p4 (adL 0 (p0 &&& (1 : Int32)) p3 (0 : Int64)))) (adL 1 (p2 &&& (1 : Int32)) p5 (adL 1 (p1 &&& (1 : Int32)) p4 (adL 1 (p0 &&& (1 : Int32)) p3 (0 : Int64)))) ((((0 : Int32) + (1 : Int32)) + (1 : Int32)) + (1 : Int32)) ((((0 : Int64) + p3.toInt64) + p4.toInt64) + p5.toInt64) h6 n0 O6 E_a1 F_a1_elementCounts F_a1_totalLengths F_a1_elementCount F_a1_totalLength V_b2 V_d2) hZ (own_w hw 28 rfl) (own_w hw 2 rfl) (by decide) (by decide)) qa7 qc7 (g := (mkF m 141 #[.val (.int p0), .val (.int p1), .val (.int p2), .val (.int p3), .val (.int p4), .val (.int p5), .val (.int (p0 &&& (1 : Int32))), .val (.int (p1 &&& (1 : Int32))), .val (.int (p2 &&& (1 : Int32))), .val (.ref a1), .val (.int (ad 0 (p2 &&& (1 : Int32)) (ad 0 (p1 &&& (1 : Int32)) (ad 0 (p0 &&& (1 : Int32)) (0 : Int32))))), .val (.long (adL 0 (p2 &&& (1 : Int32)) p5 (adL 0 (p1 &&& (1 : Int32)) p4 (adL 0 (p0 &&& (1 : Int32)) p3 (0 : Int64))))), .second, .val (.long (((p3.toInt64) + (p4.toInt64)) + (p5.toInt64))), .second, .val (.int ((3 : Int32) - (ad 0 (p2 &&& (1 : Int32)) (ad 0 (p1 &&& (1 : Int32)) (ad 0 (p0 &&& (1 : Int32)) (0 : Int32)))))), .val (.long ((((p3.toInt64) + (p4.toInt64)) + (p5.toInt64)) - (adL 0 (p2 &&& (1 : Int32)) p5 (adL 0 (p1 &&& (1 : Int32)) p4 (adL 0 (p0 &&& (1 : Int32)) p3 (0 : Int64)))))), .second, .unset] [(.int (0 : Int32)), (.ref a1)])) rfl (by rw [hml]; rfl) (Steps.refl _) (argsL := [(.int (0 : Int32))]) (rest := []) (lenOf pd0_2 rfl) rfl (by show 2 * 0 + _ ≤ _; exact Nat.le_of_eq rfl) (hb hby at_141) (fun _ _ => ⟨rfl, e6, (by decide : 3 + 0 ≤ _), (by decide : 8 + 0 ≤ _)⟩)
      dsimp only [Pt.U, Pt.locs, Pt.cells, Pt.slots] at X7 l7 y7 z7 st7 hQ7
      subst l7 y7 z7
      obtain ⟨rfl, Nc7, e7⟩ := hQ7
      have N7 := Fr.app N6 Nc7
      refine Go.tr st7 ?_
      show Go p e below s _ _ _ (T7.setTop (mkF m 144 #[.val (.int p0), .val (.int p1), .val (.int p2), .val (.int p3), .val (.int p4), .val (.int p5), .val (.int (p0 &&& (1 : Int32))), .val (.int (p1 &&& (1 : Int32))), .val (.int (p2 &&& (1 : Int32))), .val (.ref a1), .val (.int (ad 0 (p2 &&& (1 : Int32)) (ad 0 (p1 &&& (1 : Int32)) (ad 0 (p0 &&& (1 : Int32)) (0 : Int32))))), .val (.long (adL 0 (p2 &&& (1 : Int32)) p5 (adL 0 (p1 &&& (1 : Int32)) p4 (adL 0 (p0 &&& (1 : Int32)) p3 (0 : Int64))))), .second, .val (.long (((p3.toInt64) + (p4.toInt64)) + (p5.toInt64))), .second, .val (.int ((3 : Int32) - (ad 0 (p2 &&& (1 : Int32)) (ad 0 (p1 &&& (1 : Int32)) (ad 0 (p0 &&& (1 : Int32)) (0 : Int32)))))), .val (.long ((((p3.toInt64) + (p4.toInt64)) + (p5.toInt64)) - (adL 0 (p2 &&& (1 : Int32)) p5 (adL 0 (p1 &&& (1 : Int32)) p4 (adL 0 (p0 &&& (1 : Int32)) p3 (0 : Int64)))))), .second, .unset] [(.int (ad 0 (p2 &&& (1 : Int32)) (ad 0 (p1 &&& (1 : Int32)) (ad 0 (p0 &&& (1 : Int32)) (0 : Int32)))))]))
      refine Go.st (fun _ kq_ => XS.iload X7.here hx rfl (hb hby at_144) rfl kq_) ?_
      show Go p e below s _ _ _ (T7.setTop (mkF m 146 #[.val (.int p0), .val (.int p1), .val (.int p2), .val (.int p3), .val (.int p4), .val (.int p5), .val (.int (p0 &&& (1 : Int32))), .val (.int (p1 &&& (1 : Int32))), .val (.int (p2 &&& (1 : Int32))), .val (.ref a1), .val (.int (ad 0 (p2 &&& (1 : Int32)) (ad 0 (p1 &&& (1 : Int32)) (ad 0 (p0 &&& (1 : Int32)) (0 : Int32))))), .val (.long (adL 0 (p2 &&& (1 : Int32)) p5 (adL 0 (p1 &&& (1 : Int32)) p4 (adL 0 (p0 &&& (1 : Int32)) p3 (0 : Int64))))), .second, .val (.long (((p3.toInt64) + (p4.toInt64)) + (p5.toInt64))), .second, .val (.int ((3 : Int32) - (ad 0 (p2 &&& (1 : Int32)) (ad 0 (p1 &&& (1 : Int32)) (ad 0 (p0 &&& (1 : Int32)) (0 : Int32)))))), .val (.long ((((p3.toInt64) + (p4.toInt64)) + (p5.toInt64)) - (adL 0 (p2 &&& (1 : Int32)) p5 (adL 0 (p1 &&& (1 : Int32)) p4 (adL 0 (p0 &&& (1 : Int32)) p3 (0 : Int64)))))), .second, .unset] [(.int (ad 0 (p2 &&& (1 : Int32)) (ad 0 (p1 &&& (1 : Int32)) (ad 0 (p0 &&& (1 : Int32)) (0 : Int32))))), (.int (ad 0 (p2 &&& (1 : Int32)) (ad 0 (p1 &&& (1 : Int32)) (ad 0 (p0 &&& (1 : Int32)) (0 : Int32)))))]))
      refine Go.st (fun _ kq_ => XS.icmpNo X7.here hx rfl (hb hby at_146) rfl (XT.ii_ne_f rfl) kq_) ?_
      show Go p e below s _ _ _ (T7.setTop (mkF m 149 #[.val (.int p0), .val (.int p1), .val (.int p2), .val (.int p3), .val (.int p4), .val (.int p5), .val (.int (p0 &&& (1 : Int32))), .val (.int (p1 &&& (1 : Int32))), .val (.int (p2 &&& (1 : Int32))), .val (.ref a1), .val (.int (ad 0 (p2 &&& (1 : Int32)) (ad 0 (p1 &&& (1 : Int32)) (ad 0 (p0 &&& (1 : Int32)) (0 : Int32))))), .val (.long (adL 0 (p2 &&& (1 : Int32)) p5 (adL 0 (p1 &&& (1 : Int32)) p4 (adL 0 (p0 &&& (1 : Int32)) p3 (0 : Int64))))), .second, .val (.long (((p3.toInt64) + (p4.toInt64)) + (p5.toInt64))), .second, .val (.int ((3 : Int32) - (ad 0 (p2 &&& (1 : Int32)) (ad 0 (p1 &&& (1 : Int32)) (ad 0 (p0 &&& (1 : Int32)) (0 : Int32)))))), .val (.long ((((p3.toInt64) + (p4.toInt64)) + (p5.toInt64)) - (adL 0 (p2 &&& (1 : Int32)) p5 (adL 0 (p1 &&& (1 : Int32)) p4 (adL 0 (p0 &&& (1 : Int32)) p3 (0 : Int64)))))), .second, .unset] []))
      refine Go.st (fun _ kq_ => XS.iconst X7.here hx rfl (hb hby at_149) kq_) ?_
      show Go p e below s _ _ _ (T7.setTop (mkF m 150 #[.val (.int p0), .val (.int p1), .val (.int p2), .val (.int p3), .val (.int p4), .val (.int p5), .val (.int (p0 &&& (1 : Int32))), .val (.int (p1 &&& (1 : Int32))), .val (.int (p2 &&& (1 : Int32))), .val (.ref a1), .val (.int (ad 0 (p2 &&& (1 : Int32)) (ad 0 (p1 &&& (1 : Int32)) (ad 0 (p0 &&& (1 : Int32)) (0 : Int32))))), .val (.long (adL 0 (p2 &&& (1 : Int32)) p5 (adL 0 (p1 &&& (1 : Int32)) p4 (adL 0 (p0 &&& (1 : Int32)) p3 (0 : Int64))))), .second, .val (.long (((p3.toInt64) + (p4.toInt64)) + (p5.toInt64))), .second, .val (.int ((3 : Int32) - (ad 0 (p2 &&& (1 : Int32)) (ad 0 (p1 &&& (1 : Int32)) (ad 0 (p0 &&& (1 : Int32)) (0 : Int32)))))), .val (.long ((((p3.toInt64) + (p4.toInt64)) + (p5.toInt64)) - (adL 0 (p2 &&& (1 : Int32)) p5 (adL 0 (p1 &&& (1 : Int32)) p4 (adL 0 (p0 &&& (1 : Int32)) p3 (0 : Int64)))))), .second, .unset] [(.int (1 : Int32))]))
      refine Go.st (fun _ kq_ => XS.goto X7.here hx rfl (pc0 := 150) (pc' := 154) rfl (hb hby at_150) (by decide) (by decide) kq_) ?_
      show Go p e below s _ _ _ (T7.setTop (mkF m 154 #[.val (.int p0), .val (.int p1), .val (.int p2), .val (.int p3), .val (.int p4), .val (.int p5), .val (.int (p0 &&& (1 : Int32))), .val (.int (p1 &&& (1 : Int32))), .val (.int (p2 &&& (1 : Int32))), .val (.ref a1), .val (.int (ad 0 (p2 &&& (1 : Int32)) (ad 0 (p1 &&& (1 : Int32)) (ad 0 (p0 &&& (1 : Int32)) (0 : Int32))))), .val (.long (adL 0 (p2 &&& (1 : Int32)) p5 (adL 0 (p1 &&& (1 : Int32)) p4 (adL 0 (p0 &&& (1 : Int32)) p3 (0 : Int64))))), .second, .val (.long (((p3.toInt64) + (p4.toInt64)) + (p5.toInt64))), .second, .val (.int ((3 : Int32) - (ad 0 (p2 &&& (1 : Int32)) (ad 0 (p1 &&& (1 : Int32)) (ad 0 (p0 &&& (1 : Int32)) (0 : Int32)))))), .val (.long ((((p3.toInt64) + (p4.toInt64)) + (p5.toInt64)) - (adL 0 (p2 &&& (1 : Int32)) p5 (adL 0 (p1 &&& (1 : Int32)) p4 (adL 0 (p0 &&& (1 : Int32)) p3 (0 : Int64)))))), .second, .unset] [(.int (1 : Int32))]))
      refine Go.st (fun _ kq_ => XS.istore X7.here hx rfl (hb hby at_154) rfl (l' := #[.val (.int p0), .val (.int p1), .val (.int p2), .val (.int p3), .val (.int p4), .val (.int p5), .val (.int (p0 &&& (1 : Int32))), .val (.int (p1 &&& (1 : Int32))), .val (.int (p2 &&& (1 : Int32))), .val (.ref a1), .val (.int (ad 0 (p2 &&& (1 : Int32)) (ad 0 (p1 &&& (1 : Int32)) (ad 0 (p0 &&& (1 : Int32)) (0 : Int32))))), .val (.long (adL 0 (p2 &&& (1 : Int32)) p5 (adL 0 (p1 &&& (1 : Int32)) p4 (adL 0 (p0 &&& (1 : Int32)) p3 (0 : Int64))))), .second, .val (.long (((p3.toInt64) + (p4.toInt64)) + (p5.toInt64))), .second, .val (.int ((3 : Int32) - (ad 0 (p2 &&& (1 : Int32)) (ad 0 (p1 &&& (1 : Int32)) (ad 0 (p0 &&& (1 : Int32)) (0 : Int32)))))), .val (.long ((((p3.toInt64) + (p4.toInt64)) + (p5.toInt64)) - (adL 0 (p2 &&& (1 : Int32)) p5 (adL 0 (p1 &&& (1 : Int32)) p4 (adL 0 (p0 &&& (1 : Int32)) p3 (0 : Int64)))))), .second, .val (.int (1 : Int32))]) rfl kq_) ?_
      show Go p e below s _ _ _ (T7.setTop (mkF m 156 #[.val (.int p0), .val (.int p1), .val (.int p2), .val (.int p3), .val (.int p4), .val (.int p5), .val (.int (p0 &&& (1 : Int32))), .val (.int (p1 &&& (1 : Int32))), .val (.int (p2 &&& (1 : Int32))), .val (.ref a1), .val (.int (ad 0 (p2 &&& (1 : Int32)) (ad 0 (p1 &&& (1 : Int32)) (ad 0 (p0 &&& (1 : Int32)) (0 : Int32))))), .val (.long (adL 0 (p2 &&& (1 : Int32)) p5 (adL 0 (p1 &&& (1 : Int32)) p4 (adL 0 (p0 &&& (1 : Int32)) p3 (0 : Int64))))), .second, .val (.long (((p3.toInt64) + (p4.toInt64)) + (p5.toInt64))), .second, .val (.int ((3 : Int32) - (ad 0 (p2 &&& (1 : Int32)) (ad 0 (p1 &&& (1 : Int32)) (ad 0 (p0 &&& (1 : Int32)) (0 : Int32)))))), .val (.long ((((p3.toInt64) + (p4.toInt64)) + (p5.toInt64)) - (adL 0 (p2 &&& (1 : Int32)) p5 (adL 0 (p1 &&& (1 : Int32)) p4 (adL 0 (p0 &&& (1 : Int32)) p3 (0 : Int64)))))), .second, .val (.int (1 : Int32))] []))
      refine Go.st (fun _ kq_ => XS.iload X7.here hx rfl (hb hby at_156) rfl kq_) ?_
      show Go p e below s _ _ _ (T7.setTop (mkF m 158 #[.val (.int p0), .val (.int p1), .val (.int p2), .val (.int p3), .val (.int p4), .val (.int p5), .val (.int (p0 &&& (1 : Int32))), .val (.int (p1 &&& (1 : Int32))), .val (.int (p2 &&& (1 : Int32))), .val (.ref a1), .val (.int (ad 0 (p2 &&& (1 : Int32)) (ad 0 (p1 &&& (1 : Int32)) (ad 0 (p0 &&& (1 : Int32)) (0 : Int32))))), .val (.long (adL 0 (p2 &&& (1 : Int32)) p5 (adL 0 (p1 &&& (1 : Int32)) p4 (adL 0 (p0 &&& (1 : Int32)) p3 (0 : Int64))))), .second, .val (.long (((p3.toInt64) + (p4.toInt64)) + (p5.toInt64))), .second, .val (.int ((3 : Int32) - (ad 0 (p2 &&& (1 : Int32)) (ad 0 (p1 &&& (1 : Int32)) (ad 0 (p0 &&& (1 : Int32)) (0 : Int32)))))), .val (.long ((((p3.toInt64) + (p4.toInt64)) + (p5.toInt64)) - (adL 0 (p2 &&& (1 : Int32)) p5 (adL 0 (p1 &&& (1 : Int32)) p4 (adL 0 (p0 &&& (1 : Int32)) p3 (0 : Int64)))))), .second, .val (.int (1 : Int32))] [(.int (1 : Int32))]))
      refine Go.st (fun _ kq_ => XS.ifNo X7.here hx rfl (hb hby at_158) rfl (by decide) kq_) ?_
      show Go p e below s _ _ _ (T7.setTop (mkF m 161 #[.val (.int p0), .val (.int p1), .val (.int p2), .val (.int p3), .val (.int p4), .val (.int p5), .val (.int (p0 &&& (1 : Int32))), .val (.int (p1 &&& (1 : Int32))), .val (.int (p2 &&& (1 : Int32))), .val (.ref a1), .val (.int (ad 0 (p2 &&& (1 : Int32)) (ad 0 (p1 &&& (1 : Int32)) (ad 0 (p0 &&& (1 : Int32)) (0 : Int32))))), .val (.long (adL 0 (p2 &&& (1 : Int32)) p5 (adL 0 (p1 &&& (1 : Int32)) p4 (adL 0 (p0 &&& (1 : Int32)) p3 (0 : Int64))))), .second, .val (.long (((p3.toInt64) + (p4.toInt64)) + (p5.toInt64))), .second, .val (.int ((3 : Int32) - (ad 0 (p2 &&& (1 : Int32)) (ad 0 (p1 &&& (1 : Int32)) (ad 0 (p0 &&& (1 : Int32)) (0 : Int32)))))), .val (.long ((((p3.toInt64) + (p4.toInt64)) + (p5.toInt64)) - (adL 0 (p2 &&& (1 : Int32)) p5 (adL 0 (p1 &&& (1 : Int32)) p4 (adL 0 (p0 &&& (1 : Int32)) p3 (0 : Int64)))))), .second, .val (.int (1 : Int32))] []))
      refine Go.st (fun _ kq_ => XS.aload X7.here hx rfl (hb hby at_161) rfl rfl kq_) ?_
      show Go p e below s _ _ _ (T7.setTop (mkF m 163 #[.val (.int p0), .val (.int p1), .val (.int p2), .val (.int p3), .val (.int p4), .val (.int p5), .val (.int (p0 &&& (1 : Int32))), .val (.int (p1 &&& (1 : Int32))), .val (.int (p2 &&& (1 : Int32))), .val (.ref a1), .val (.int (ad 0 (p2 &&& (1 : Int32)) (ad 0 (p1 &&& (1 : Int32)) (ad 0 (p0 &&& (1 : Int32)) (0 : Int32))))), .val (.long (adL 0 (p2 &&& (1 : Int32)) p5 (adL 0 (p1 &&& (1 : Int32)) p4 (adL 0 (p0 &&& (1 : Int32)) p3 (0 : Int64))))), .second, .val (.long (((p3.toInt64) + (p4.toInt64)) + (p5.toInt64))), .second, .val (.int ((3 : Int32) - (ad 0 (p2 &&& (1 : Int32)) (ad 0 (p1 &&& (1 : Int32)) (ad 0 (p0 &&& (1 : Int32)) (0 : Int32)))))), .val (.long ((((p3.toInt64) + (p4.toInt64)) + (p5.toInt64)) - (adL 0 (p2 &&& (1 : Int32)) p5 (adL 0 (p1 &&& (1 : Int32)) p4 (adL 0 (p0 &&& (1 : Int32)) p3 (0 : Int64)))))), .second, .val (.int (1 : Int32))] [(.ref a1)]))
      refine Go.st (fun _ kq_ => XS.iconst X7.here hx rfl (hb hby at_163) kq_) ?_
      show Go p e below s _ _ _ (T7.setTop (mkF m 164 #[.val (.int p0), .val (.int p1), .val (.int p2), .val (.int p3), .val (.int p4), .val (.int p5), .val (.int (p0 &&& (1 : Int32))), .val (.int (p1 &&& (1 : Int32))), .val (.int (p2 &&& (1 : Int32))), .val (.ref a1), .val (.int (ad 0 (p2 &&& (1 : Int32)) (ad 0 (p1 &&& (1 : Int32)) (ad 0 (p0 &&& (1 : Int32)) (0 : Int32))))), .val (.long (adL 0 (p2 &&& (1 : Int32)) p5 (adL 0 (p1 &&& (1 : Int32)) p4 (adL 0 (p0 &&& (1 : Int32)) p3 (0 : Int64))))), .second, .val (.long (((p3.toInt64) + (p4.toInt64)) + (p5.toInt64))), .second, .val (.int ((3 : Int32) - (ad 0 (p2 &&& (1 : Int32)) (ad 0 (p1 &&& (1 : Int32)) (ad 0 (p0 &&& (1 : Int32)) (0 : Int32)))))), .val (.long ((((p3.toInt64) + (p4.toInt64)) + (p5.toInt64)) - (adL 0 (p2 &&& (1 : Int32)) p5 (adL 0 (p1 &&& (1 : Int32)) p4 (adL 0 (p0 &&& (1 : Int32)) p3 (0 : Int64)))))), .second, .val (.int (1 : Int32))] [(.int (1 : Int32)), (.ref a1)]))
      obtain ⟨cq8, kq8, qa8, qb8, qc8⟩ := isOf hZ e7 E_a1
      obtain ⟨_, _, ⟨T8, L8, k8, n8⟩, -, X8, ⟨Lc8, hQ8, l8, y8, z8⟩, st8⟩ := X7.virtualBack hx (y := (⟨"com/example/element_ranker/elementranker/TagStatistics", "elementCount", "(I)I"⟩ : MethodName)) (z := (⟨"com/example/element_ranker/elementranker/TagStatistics", "elementCount", "(I)I"⟩ : MethodName)) hown (mvT hZ (own_w hw 24 rfl)) (mvT hZ (own_w hw 25 rfl)) (notFace_of_selects (args := #[]) (mvT hZ (own_w hw 27 rfl))) (mvT hZ (own_w hw 27 rfl)) (mvT hZ (own_w hw 26 rfl)) (by decide) (backOf (W := 0) (rme1 l Z a0 hw [] a1 b2 kb2 d2 kd2 (ad 0 (p2 &&& (1 : Int32)) (ad 0 (p1 &&& (1 : Int32)) (ad 0 (p0 &&& (1 : Int32)) (0 : Int32)))) (ad 1 (p2 &&& (1 : Int32)) (ad 1 (p1 &&& (1 : Int32)) (ad 1 (p0 &&& (1 : Int32)) (0 : Int32)))) (adL 0 (p2 &&& (1 : Int32)) p5 (adL 0 (p1 &&& (1 : Int32)) p4 (adL 0 (p0 &&& (1 : Int32)) p3 (0 : Int64)))) (adL 1 (p2 &&& (1 : Int32)) p5 (adL 1 (p1 &&& (1 : Int32)) p4 (adL 1 (p0 &&& (1 : Int32)) p3 (0 : Int64)))) ((((0 : Int32) + (1 : Int32)) + (1 : Int32)) + (1 : Int32)) ((((0 : Int64) + p3.toInt64) + p4.toInt64) + p5.toInt64) h6 n0 O6 E_a1 F_a1_elementCounts F_a1_totalLengths F_a1_elementCount F_a1_totalLength V_b2 V_d2) hZ (own_w hw 28 rfl) (own_w hw 2 rfl) (by decide) (by decide)) qa8 qc8 (g := (mkF m 164 #[.val (.int p0), .val (.int p1), .val (.int p2), .val (.int p3), .val (.int p4), .val (.int p5), .val (.int (p0 &&& (1 : Int32))), .val (.int (p1 &&& (1 : Int32))), .val (.int (p2 &&& (1 : Int32))), .val (.ref a1), .val (.int (ad 0 (p2 &&& (1 : Int32)) (ad 0 (p1 &&& (1 : Int32)) (ad 0 (p0 &&& (1 : Int32)) (0 : Int32))))), .val (.long (adL 0 (p2 &&& (1 : Int32)) p5 (adL 0 (p1 &&& (1 : Int32)) p4 (adL 0 (p0 &&& (1 : Int32)) p3 (0 : Int64))))), .second, .val (.long (((p3.toInt64) + (p4.toInt64)) + (p5.toInt64))), .second, .val (.int ((3 : Int32) - (ad 0 (p2 &&& (1 : Int32)) (ad 0 (p1 &&& (1 : Int32)) (ad 0 (p0 &&& (1 : Int32)) (0 : Int32)))))), .val (.long ((((p3.toInt64) + (p4.toInt64)) + (p5.toInt64)) - (adL 0 (p2 &&& (1 : Int32)) p5 (adL 0 (p1 &&& (1 : Int32)) p4 (adL 0 (p0 &&& (1 : Int32)) p3 (0 : Int64)))))), .second, .val (.int (1 : Int32))] [(.int (1 : Int32)), (.ref a1)])) rfl (by rw [hml]; rfl) (Steps.refl _) (argsL := [(.int (1 : Int32))]) (rest := []) (lenOf pd0_2 rfl) rfl (by show 2 * 0 + _ ≤ _; exact Nat.le_of_eq rfl) (hb hby at_164) (fun _ _ => ⟨rfl, e7, (by decide : 3 + 0 ≤ _), (by decide : 8 + 0 ≤ _)⟩)
      dsimp only [Pt.U, Pt.locs, Pt.cells, Pt.slots] at X8 l8 y8 z8 st8 hQ8
      subst l8 y8 z8
      obtain ⟨rfl, Nc8, e8⟩ := hQ8
      have N8 := Fr.app N7 Nc8
      refine Go.tr st8 ?_
      show Go p e below s _ _ _ (T8.setTop (mkF m 167 #[.val (.int p0), .val (.int p1), .val (.int p2), .val (.int p3), .val (.int p4), .val (.int p5), .val (.int (p0 &&& (1 : Int32))), .val (.int (p1 &&& (1 : Int32))), .val (.int (p2 &&& (1 : Int32))), .val (.ref a1), .val (.int (ad 0 (p2 &&& (1 : Int32)) (ad 0 (p1 &&& (1 : Int32)) (ad 0 (p0 &&& (1 : Int32)) (0 : Int32))))), .val (.long (adL 0 (p2 &&& (1 : Int32)) p5 (adL 0 (p1 &&& (1 : Int32)) p4 (adL 0 (p0 &&& (1 : Int32)) p3 (0 : Int64))))), .second, .val (.long (((p3.toInt64) + (p4.toInt64)) + (p5.toInt64))), .second, .val (.int ((3 : Int32) - (ad 0 (p2 &&& (1 : Int32)) (ad 0 (p1 &&& (1 : Int32)) (ad 0 (p0 &&& (1 : Int32)) (0 : Int32)))))), .val (.long ((((p3.toInt64) + (p4.toInt64)) + (p5.toInt64)) - (adL 0 (p2 &&& (1 : Int32)) p5 (adL 0 (p1 &&& (1 : Int32)) p4 (adL 0 (p0 &&& (1 : Int32)) p3 (0 : Int64)))))), .second, .val (.int (1 : Int32))] [(.int (ad 1 (p2 &&& (1 : Int32)) (ad 1 (p1 &&& (1 : Int32)) (ad 1 (p0 &&& (1 : Int32)) (0 : Int32)))))]))
      refine Go.st (fun _ kq_ => XS.iload X8.here hx rfl (hb hby at_167) rfl kq_) ?_
      show Go p e below s _ _ _ (T8.setTop (mkF m 169 #[.val (.int p0), .val (.int p1), .val (.int p2), .val (.int p3), .val (.int p4), .val (.int p5), .val (.int (p0 &&& (1 : Int32))), .val (.int (p1 &&& (1 : Int32))), .val (.int (p2 &&& (1 : Int32))), .val (.ref a1), .val (.int (ad 0 (p2 &&& (1 : Int32)) (ad 0 (p1 &&& (1 : Int32)) (ad 0 (p0 &&& (1 : Int32)) (0 : Int32))))), .val (.long (adL 0 (p2 &&& (1 : Int32)) p5 (adL 0 (p1 &&& (1 : Int32)) p4 (adL 0 (p0 &&& (1 : Int32)) p3 (0 : Int64))))), .second, .val (.long (((p3.toInt64) + (p4.toInt64)) + (p5.toInt64))), .second, .val (.int ((3 : Int32) - (ad 0 (p2 &&& (1 : Int32)) (ad 0 (p1 &&& (1 : Int32)) (ad 0 (p0 &&& (1 : Int32)) (0 : Int32)))))), .val (.long ((((p3.toInt64) + (p4.toInt64)) + (p5.toInt64)) - (adL 0 (p2 &&& (1 : Int32)) p5 (adL 0 (p1 &&& (1 : Int32)) p4 (adL 0 (p0 &&& (1 : Int32)) p3 (0 : Int64)))))), .second, .val (.int (1 : Int32))] [(.int ((3 : Int32) - (ad 0 (p2 &&& (1 : Int32)) (ad 0 (p1 &&& (1 : Int32)) (ad 0 (p0 &&& (1 : Int32)) (0 : Int32)))))), (.int (ad 1 (p2 &&& (1 : Int32)) (ad 1 (p1 &&& (1 : Int32)) (ad 1 (p0 &&& (1 : Int32)) (0 : Int32)))))]))
      refine Go.st (fun _ kq_ => XS.icmpNo X8.here hx rfl (hb hby at_169) rfl (XT.ii_ne_f (own_n1 _ _ _ (own_bit p0) (own_bit p1) (own_bit p2))) kq_) ?_
      show Go p e below s _ _ _ (T8.setTop (mkF m 172 #[.val (.int p0), .val (.int p1), .val (.int p2), .val (.int p3), .val (.int p4), .val (.int p5), .val (.int (p0 &&& (1 : Int32))), .val (.int (p1 &&& (1 : Int32))), .val (.int (p2 &&& (1 : Int32))), .val (.ref a1), .val (.int (ad 0 (p2 &&& (1 : Int32)) (ad 0 (p1 &&& (1 : Int32)) (ad 0 (p0 &&& (1 : Int32)) (0 : Int32))))), .val (.long (adL 0 (p2 &&& (1 : Int32)) p5 (adL 0 (p1 &&& (1 : Int32)) p4 (adL 0 (p0 &&& (1 : Int32)) p3 (0 : Int64))))), .second, .val (.long (((p3.toInt64) + (p4.toInt64)) + (p5.toInt64))), .second, .val (.int ((3 : Int32) - (ad 0 (p2 &&& (1 : Int32)) (ad 0 (p1 &&& (1 : Int32)) (ad 0 (p0 &&& (1 : Int32)) (0 : Int32)))))), .val (.long ((((p3.toInt64) + (p4.toInt64)) + (p5.toInt64)) - (adL 0 (p2 &&& (1 : Int32)) p5 (adL 0 (p1 &&& (1 : Int32)) p4 (adL 0 (p0 &&& (1 : Int32)) p3 (0 : Int64)))))), .second, .val (.int (1 : Int32))] []))
      refine Go.st (fun _ kq_ => XS.iconst X8.here hx rfl (hb hby at_172) kq_) ?_
      show Go p e below s _ _ _ (T8.setTop (mkF m 173 #[.val (.int p0), .val (.int p1), .val (.int p2), .val (.int p3), .val (.int p4), .val (.int p5), .val (.int (p0 &&& (1 : Int32))), .val (.int (p1 &&& (1 : Int32))), .val (.int (p2 &&& (1 : Int32))), .val (.ref a1), .val (.int (ad 0 (p2 &&& (1 : Int32)) (ad 0 (p1 &&& (1 : Int32)) (ad 0 (p0 &&& (1 : Int32)) (0 : Int32))))), .val (.long (adL 0 (p2 &&& (1 : Int32)) p5 (adL 0 (p1 &&& (1 : Int32)) p4 (adL 0 (p0 &&& (1 : Int32)) p3 (0 : Int64))))), .second, .val (.long (((p3.toInt64) + (p4.toInt64)) + (p5.toInt64))), .second, .val (.int ((3 : Int32) - (ad 0 (p2 &&& (1 : Int32)) (ad 0 (p1 &&& (1 : Int32)) (ad 0 (p0 &&& (1 : Int32)) (0 : Int32)))))), .val (.long ((((p3.toInt64) + (p4.toInt64)) + (p5.toInt64)) - (adL 0 (p2 &&& (1 : Int32)) p5 (adL 0 (p1 &&& (1 : Int32)) p4 (adL 0 (p0 &&& (1 : Int32)) p3 (0 : Int64)))))), .second, .val (.int (1 : Int32))] [(.int (1 : Int32))]))
      refine Go.st (fun _ kq_ => XS.goto X8.here hx rfl (pc0 := 173) (pc' := 177) rfl (hb hby at_173) (by decide) (by decide) kq_) ?_
      show Go p e below s _ _ _ (T8.setTop (mkF m 177 #[.val (.int p0), .val (.int p1), .val (.int p2), .val (.int p3), .val (.int p4), .val (.int p5), .val (.int (p0 &&& (1 : Int32))), .val (.int (p1 &&& (1 : Int32))), .val (.int (p2 &&& (1 : Int32))), .val (.ref a1), .val (.int (ad 0 (p2 &&& (1 : Int32)) (ad 0 (p1 &&& (1 : Int32)) (ad 0 (p0 &&& (1 : Int32)) (0 : Int32))))), .val (.long (adL 0 (p2 &&& (1 : Int32)) p5 (adL 0 (p1 &&& (1 : Int32)) p4 (adL 0 (p0 &&& (1 : Int32)) p3 (0 : Int64))))), .second, .val (.long (((p3.toInt64) + (p4.toInt64)) + (p5.toInt64))), .second, .val (.int ((3 : Int32) - (ad 0 (p2 &&& (1 : Int32)) (ad 0 (p1 &&& (1 : Int32)) (ad 0 (p0 &&& (1 : Int32)) (0 : Int32)))))), .val (.long ((((p3.toInt64) + (p4.toInt64)) + (p5.toInt64)) - (adL 0 (p2 &&& (1 : Int32)) p5 (adL 0 (p1 &&& (1 : Int32)) p4 (adL 0 (p0 &&& (1 : Int32)) p3 (0 : Int64)))))), .second, .val (.int (1 : Int32))] [(.int (1 : Int32))]))
      refine Go.st (fun _ kq_ => XS.istore X8.here hx rfl (hb hby at_177) rfl (l' := #[.val (.int p0), .val (.int p1), .val (.int p2), .val (.int p3), .val (.int p4), .val (.int p5), .val (.int (p0 &&& (1 : Int32))), .val (.int (p1 &&& (1 : Int32))), .val (.int (p2 &&& (1 : Int32))), .val (.ref a1), .val (.int (ad 0 (p2 &&& (1 : Int32)) (ad 0 (p1 &&& (1 : Int32)) (ad 0 (p0 &&& (1 : Int32)) (0 : Int32))))), .val (.long (adL 0 (p2 &&& (1 : Int32)) p5 (adL 0 (p1 &&& (1 : Int32)) p4 (adL 0 (p0 &&& (1 : Int32)) p3 (0 : Int64))))), .second, .val (.long (((p3.toInt64) + (p4.toInt64)) + (p5.toInt64))), .second, .val (.int ((3 : Int32) - (ad 0 (p2 &&& (1 : Int32)) (ad 0 (p1 &&& (1 : Int32)) (ad 0 (p0 &&& (1 : Int32)) (0 : Int32)))))), .val (.long ((((p3.toInt64) + (p4.toInt64)) + (p5.toInt64)) - (adL 0 (p2 &&& (1 : Int32)) p5 (adL 0 (p1 &&& (1 : Int32)) p4 (adL 0 (p0 &&& (1 : Int32)) p3 (0 : Int64)))))), .second, .val (.int (1 : Int32))]) rfl kq_) ?_
      show Go p e below s _ _ _ (T8.setTop (mkF m 179 #[.val (.int p0), .val (.int p1), .val (.int p2), .val (.int p3), .val (.int p4), .val (.int p5), .val (.int (p0 &&& (1 : Int32))), .val (.int (p1 &&& (1 : Int32))), .val (.int (p2 &&& (1 : Int32))), .val (.ref a1), .val (.int (ad 0 (p2 &&& (1 : Int32)) (ad 0 (p1 &&& (1 : Int32)) (ad 0 (p0 &&& (1 : Int32)) (0 : Int32))))), .val (.long (adL 0 (p2 &&& (1 : Int32)) p5 (adL 0 (p1 &&& (1 : Int32)) p4 (adL 0 (p0 &&& (1 : Int32)) p3 (0 : Int64))))), .second, .val (.long (((p3.toInt64) + (p4.toInt64)) + (p5.toInt64))), .second, .val (.int ((3 : Int32) - (ad 0 (p2 &&& (1 : Int32)) (ad 0 (p1 &&& (1 : Int32)) (ad 0 (p0 &&& (1 : Int32)) (0 : Int32)))))), .val (.long ((((p3.toInt64) + (p4.toInt64)) + (p5.toInt64)) - (adL 0 (p2 &&& (1 : Int32)) p5 (adL 0 (p1 &&& (1 : Int32)) p4 (adL 0 (p0 &&& (1 : Int32)) p3 (0 : Int64)))))), .second, .val (.int (1 : Int32))] []))
      refine Go.st (fun _ kq_ => XS.iload X8.here hx rfl (hb hby at_179) rfl kq_) ?_
      show Go p e below s _ _ _ (T8.setTop (mkF m 181 #[.val (.int p0), .val (.int p1), .val (.int p2), .val (.int p3), .val (.int p4), .val (.int p5), .val (.int (p0 &&& (1 : Int32))), .val (.int (p1 &&& (1 : Int32))), .val (.int (p2 &&& (1 : Int32))), .val (.ref a1), .val (.int (ad 0 (p2 &&& (1 : Int32)) (ad 0 (p1 &&& (1 : Int32)) (ad 0 (p0 &&& (1 : Int32)) (0 : Int32))))), .val (.long (adL 0 (p2 &&& (1 : Int32)) p5 (adL 0 (p1 &&& (1 : Int32)) p4 (adL 0 (p0 &&& (1 : Int32)) p3 (0 : Int64))))), .second, .val (.long (((p3.toInt64) + (p4.toInt64)) + (p5.toInt64))), .second, .val (.int ((3 : Int32) - (ad 0 (p2 &&& (1 : Int32)) (ad 0 (p1 &&& (1 : Int32)) (ad 0 (p0 &&& (1 : Int32)) (0 : Int32)))))), .val (.long ((((p3.toInt64) + (p4.toInt64)) + (p5.toInt64)) - (adL 0 (p2 &&& (1 : Int32)) p5 (adL 0 (p1 &&& (1 : Int32)) p4 (adL 0 (p0 &&& (1 : Int32)) p3 (0 : Int64)))))), .second, .val (.int (1 : Int32))] [(.int (1 : Int32))]))
      refine Go.st (fun _ kq_ => XS.ifNo X8.here hx rfl (hb hby at_181) rfl (by decide) kq_) ?_
      show Go p e below s _ _ _ (T8.setTop (mkF m 184 #[.val (.int p0), .val (.int p1), .val (.int p2), .val (.int p3), .val (.int p4), .val (.int p5), .val (.int (p0 &&& (1 : Int32))), .val (.int (p1 &&& (1 : Int32))), .val (.int (p2 &&& (1 : Int32))), .val (.ref a1), .val (.int (ad 0 (p2 &&& (1 : Int32)) (ad 0 (p1 &&& (1 : Int32)) (ad 0 (p0 &&& (1 : Int32)) (0 : Int32))))), .val (.long (adL 0 (p2 &&& (1 : Int32)) p5 (adL 0 (p1 &&& (1 : Int32)) p4 (adL 0 (p0 &&& (1 : Int32)) p3 (0 : Int64))))), .second, .val (.long (((p3.toInt64) + (p4.toInt64)) + (p5.toInt64))), .second, .val (.int ((3 : Int32) - (ad 0 (p2 &&& (1 : Int32)) (ad 0 (p1 &&& (1 : Int32)) (ad 0 (p0 &&& (1 : Int32)) (0 : Int32)))))), .val (.long ((((p3.toInt64) + (p4.toInt64)) + (p5.toInt64)) - (adL 0 (p2 &&& (1 : Int32)) p5 (adL 0 (p1 &&& (1 : Int32)) p4 (adL 0 (p0 &&& (1 : Int32)) p3 (0 : Int64)))))), .second, .val (.int (1 : Int32))] []))
      refine Go.st (fun _ kq_ => XS.aload X8.here hx rfl (hb hby at_184) rfl rfl kq_) ?_
      show Go p e below s _ _ _ (T8.setTop (mkF m 186 #[.val (.int p0), .val (.int p1), .val (.int p2), .val (.int p3), .val (.int p4), .val (.int p5), .val (.int (p0 &&& (1 : Int32))), .val (.int (p1 &&& (1 : Int32))), .val (.int (p2 &&& (1 : Int32))), .val (.ref a1), .val (.int (ad 0 (p2 &&& (1 : Int32)) (ad 0 (p1 &&& (1 : Int32)) (ad 0 (p0 &&& (1 : Int32)) (0 : Int32))))), .val (.long (adL 0 (p2 &&& (1 : Int32)) p5 (adL 0 (p1 &&& (1 : Int32)) p4 (adL 0 (p0 &&& (1 : Int32)) p3 (0 : Int64))))), .second, .val (.long (((p3.toInt64) + (p4.toInt64)) + (p5.toInt64))), .second, .val (.int ((3 : Int32) - (ad 0 (p2 &&& (1 : Int32)) (ad 0 (p1 &&& (1 : Int32)) (ad 0 (p0 &&& (1 : Int32)) (0 : Int32)))))), .val (.long ((((p3.toInt64) + (p4.toInt64)) + (p5.toInt64)) - (adL 0 (p2 &&& (1 : Int32)) p5 (adL 0 (p1 &&& (1 : Int32)) p4 (adL 0 (p0 &&& (1 : Int32)) p3 (0 : Int64)))))), .second, .val (.int (1 : Int32))] [(.ref a1)]))
      refine Go.st (fun _ kq_ => XS.iconst X8.here hx rfl (hb hby at_186) kq_) ?_
      show Go p e below s _ _ _ (T8.setTop (mkF m 187 #[.val (.int p0), .val (.int p1), .val (.int p2), .val (.int p3), .val (.int p4), .val (.int p5), .val (.int (p0 &&& (1 : Int32))), .val (.int (p1 &&& (1 : Int32))), .val (.int (p2 &&& (1 : Int32))), .val (.ref a1), .val (.int (ad 0 (p2 &&& (1 : Int32)) (ad 0 (p1 &&& (1 : Int32)) (ad 0 (p0 &&& (1 : Int32)) (0 : Int32))))), .val (.long (adL 0 (p2 &&& (1 : Int32)) p5 (adL 0 (p1 &&& (1 : Int32)) p4 (adL 0 (p0 &&& (1 : Int32)) p3 (0 : Int64))))), .second, .val (.long (((p3.toInt64) + (p4.toInt64)) + (p5.toInt64))), .second, .val (.int ((3 : Int32) - (ad 0 (p2 &&& (1 : Int32)) (ad 0 (p1 &&& (1 : Int32)) (ad 0 (p0 &&& (1 : Int32)) (0 : Int32)))))), .val (.long ((((p3.toInt64) + (p4.toInt64)) + (p5.toInt64)) - (adL 0 (p2 &&& (1 : Int32)) p5 (adL 0 (p1 &&& (1 : Int32)) p4 (adL 0 (p0 &&& (1 : Int32)) p3 (0 : Int64)))))), .second, .val (.int (1 : Int32))] [(.int (-1 : Int32)), (.ref a1)]))
      obtain ⟨cq9, kq9, qa9, qb9, qc9⟩ := isOf hZ e8 E_a1
      obtain ⟨_, _, ⟨T9, L9, k9, n9⟩, -, X9, ⟨Lc9, hQ9, l9, y9, z9⟩, st9⟩ := X8.virtualBack hx (y := (⟨"com/example/element_ranker/elementranker/TagStatistics", "elementCount", "(I)I"⟩ : MethodName)) (z := (⟨"com/example/element_ranker/elementranker/TagStatistics", "elementCount", "(I)I"⟩ : MethodName)) hown (mvT hZ (own_w hw 24 rfl)) (mvT hZ (own_w hw 25 rfl)) (notFace_of_selects (args := #[]) (mvT hZ (own_w hw 27 rfl))) (mvT hZ (own_w hw 27 rfl)) (mvT hZ (own_w hw 26 rfl)) (by decide) (backOf (W := 0) (rmem1 l Z a0 hw [] a1 b2 kb2 d2 kd2 (ad 0 (p2 &&& (1 : Int32)) (ad 0 (p1 &&& (1 : Int32)) (ad 0 (p0 &&& (1 : Int32)) (0 : Int32)))) (ad 1 (p2 &&& (1 : Int32)) (ad 1 (p1 &&& (1 : Int32)) (ad 1 (p0 &&& (1 : Int32)) (0 : Int32)))) (adL 0 (p2 &&& (1 : Int32)) p5 (adL 0 (p1 &&& (1 : Int32)) p4 (adL 0 (p0 &&& (1 : Int32)) p3 (0 : Int64)))) (adL 1 (p2 &&& (1 : Int32)) p5 (adL 1 (p1 &&& (1 : Int32)) p4 (adL 1 (p0 &&& (1 : Int32)) p3 (0 : Int64)))) ((((0 : Int32) + (1 : Int32)) + (1 : Int32)) + (1 : Int32)) ((((0 : Int64) + p3.toInt64) + p4.toInt64) + p5.toInt64) h6 n0 O6 E_a1 F_a1_elementCounts F_a1_totalLengths F_a1_elementCount F_a1_totalLength V_b2 V_d2) hZ (own_w hw 28 rfl) (own_w hw 2 rfl) (by decide) (by decide)) qa9 qc9 (g := (mkF m 187 #[.val (.int p0), .val (.int p1), .val (.int p2), .val (.int p3), .val (.int p4), .val (.int p5), .val (.int (p0 &&& (1 : Int32))), .val (.int (p1 &&& (1 : Int32))), .val (.int (p2 &&& (1 : Int32))), .val (.ref a1), .val (.int (ad 0 (p2 &&& (1 : Int32)) (ad 0 (p1 &&& (1 : Int32)) (ad 0 (p0 &&& (1 : Int32)) (0 : Int32))))), .val (.long (adL 0 (p2 &&& (1 : Int32)) p5 (adL 0 (p1 &&& (1 : Int32)) p4 (adL 0 (p0 &&& (1 : Int32)) p3 (0 : Int64))))), .second, .val (.long (((p3.toInt64) + (p4.toInt64)) + (p5.toInt64))), .second, .val (.int ((3 : Int32) - (ad 0 (p2 &&& (1 : Int32)) (ad 0 (p1 &&& (1 : Int32)) (ad 0 (p0 &&& (1 : Int32)) (0 : Int32)))))), .val (.long ((((p3.toInt64) + (p4.toInt64)) + (p5.toInt64)) - (adL 0 (p2 &&& (1 : Int32)) p5 (adL 0 (p1 &&& (1 : Int32)) p4 (adL 0 (p0 &&& (1 : Int32)) p3 (0 : Int64)))))), .second, .val (.int (1 : Int32))] [(.int (-1 : Int32)), (.ref a1)])) rfl (by rw [hml]; rfl) (Steps.refl _) (argsL := [(.int (-1 : Int32))]) (rest := []) (lenOf pd0_2 rfl) rfl (by show 2 * 0 + _ ≤ _; exact Nat.le_of_eq rfl) (hb hby at_187) (fun _ _ => ⟨rfl, e8, (by decide : 3 + 0 ≤ _), (by decide : 8 + 0 ≤ _)⟩)
      dsimp only [Pt.U, Pt.locs, Pt.cells, Pt.slots] at X9 l9 y9 z9 st9 hQ9
      subst l9 y9 z9
      obtain ⟨rfl, Nc9, e9⟩ := hQ9
      have N9 := Fr.app N8 Nc9
      refine Go.tr st9 ?_
      show Go p e below s _ _ _ (T9.setTop (mkF m 190 #[.val (.int p0), .val (.int p1), .val (.int p2), .val (.int p3), .val (.int p4), .val (.int p5), .val (.int (p0 &&& (1 : Int32))), .val (.int (p1 &&& (1 : Int32))), .val (.int (p2 &&& (1 : Int32))), .val (.ref a1), .val (.int (ad 0 (p2 &&& (1 : Int32)) (ad 0 (p1 &&& (1 : Int32)) (ad 0 (p0 &&& (1 : Int32)) (0 : Int32))))), .val (.long (adL 0 (p2 &&& (1 : Int32)) p5 (adL 0 (p1 &&& (1 : Int32)) p4 (adL 0 (p0 &&& (1 : Int32)) p3 (0 : Int64))))), .second, .val (.long (((p3.toInt64) + (p4.toInt64)) + (p5.toInt64))), .second, .val (.int ((3 : Int32) - (ad 0 (p2 &&& (1 : Int32)) (ad 0 (p1 &&& (1 : Int32)) (ad 0 (p0 &&& (1 : Int32)) (0 : Int32)))))), .val (.long ((((p3.toInt64) + (p4.toInt64)) + (p5.toInt64)) - (adL 0 (p2 &&& (1 : Int32)) p5 (adL 0 (p1 &&& (1 : Int32)) p4 (adL 0 (p0 &&& (1 : Int32)) p3 (0 : Int64)))))), .second, .val (.int (1 : Int32))] [(.int ((((0 : Int32) + (1 : Int32)) + (1 : Int32)) + (1 : Int32)))]))
      refine Go.st (fun _ kq_ => XS.iconst X9.here hx rfl (hb hby at_190) kq_) ?_
      show Go p e below s _ _ _ (T9.setTop (mkF m 191 #[.val (.int p0), .val (.int p1), .val (.int p2), .val (.int p3), .val (.int p4), .val (.int p5), .val (.int (p0 &&& (1 : Int32))), .val (.int (p1 &&& (1 : Int32))), .val (.int (p2 &&& (1 : Int32))), .val (.ref a1), .val (.int (ad 0 (p2 &&& (1 : Int32)) (ad 0 (p1 &&& (1 : Int32)) (ad 0 (p0 &&& (1 : Int32)) (0 : Int32))))), .val (.long (adL 0 (p2 &&& (1 : Int32)) p5 (adL 0 (p1 &&& (1 : Int32)) p4 (adL 0 (p0 &&& (1 : Int32)) p3 (0 : Int64))))), .second, .val (.long (((p3.toInt64) + (p4.toInt64)) + (p5.toInt64))), .second, .val (.int ((3 : Int32) - (ad 0 (p2 &&& (1 : Int32)) (ad 0 (p1 &&& (1 : Int32)) (ad 0 (p0 &&& (1 : Int32)) (0 : Int32)))))), .val (.long ((((p3.toInt64) + (p4.toInt64)) + (p5.toInt64)) - (adL 0 (p2 &&& (1 : Int32)) p5 (adL 0 (p1 &&& (1 : Int32)) p4 (adL 0 (p0 &&& (1 : Int32)) p3 (0 : Int64)))))), .second, .val (.int (1 : Int32))] [(.int (3 : Int32)), (.int ((((0 : Int32) + (1 : Int32)) + (1 : Int32)) + (1 : Int32)))]))
      refine Go.st (fun _ kq_ => XS.icmpNo X9.here hx rfl (hb hby at_191) rfl (by decide) kq_) ?_
      show Go p e below s _ _ _ (T9.setTop (mkF m 194 #[.val (.int p0), .val (.int p1), .val (.int p2), .val (.int p3), .val (.int p4), .val (.int p5), .val (.int (p0 &&& (1 : Int32))), .val (.int (p1 &&& (1 : Int32))), .val (.int (p2 &&& (1 : Int32))), .val (.ref a1), .val (.int (ad 0 (p2 &&& (1 : Int32)) (ad 0 (p1 &&& (1 : Int32)) (ad 0 (p0 &&& (1 : Int32)) (0 : Int32))))), .val (.long (adL 0 (p2 &&& (1 : Int32)) p5 (adL 0 (p1 &&& (1 : Int32)) p4 (adL 0 (p0 &&& (1 : Int32)) p3 (0 : Int64))))), .second, .val (.long (((p3.toInt64) + (p4.toInt64)) + (p5.toInt64))), .second, .val (.int ((3 : Int32) - (ad 0 (p2 &&& (1 : Int32)) (ad 0 (p1 &&& (1 : Int32)) (ad 0 (p0 &&& (1 : Int32)) (0 : Int32)))))), .val (.long ((((p3.toInt64) + (p4.toInt64)) + (p5.toInt64)) - (adL 0 (p2 &&& (1 : Int32)) p5 (adL 0 (p1 &&& (1 : Int32)) p4 (adL 0 (p0 &&& (1 : Int32)) p3 (0 : Int64)))))), .second, .val (.int (1 : Int32))] []))
      refine Go.st (fun _ kq_ => XS.iconst X9.here hx rfl (hb hby at_194) kq_) ?_
      show Go p e below s _ _ _ (T9.setTop (mkF m 195 #[.val (.int p0), .val (.int p1), .val (.int p2), .val (.int p3), .val (.int p4), .val (.int p5), .val (.int (p0 &&& (1 : Int32))), .val (.int (p1 &&& (1 : Int32))), .val (.int (p2 &&& (1 : Int32))), .val (.ref a1), .val (.int (ad 0 (p2 &&& (1 : Int32)) (ad 0 (p1 &&& (1 : Int32)) (ad 0 (p0 &&& (1 : Int32)) (0 : Int32))))), .val (.long (adL 0 (p2 &&& (1 : Int32)) p5 (adL 0 (p1 &&& (1 : Int32)) p4 (adL 0 (p0 &&& (1 : Int32)) p3 (0 : Int64))))), .second, .val (.long (((p3.toInt64) + (p4.toInt64)) + (p5.toInt64))), .second, .val (.int ((3 : Int32) - (ad 0 (p2 &&& (1 : Int32)) (ad 0 (p1 &&& (1 : Int32)) (ad 0 (p0 &&& (1 : Int32)) (0 : Int32)))))), .val (.long ((((p3.toInt64) + (p4.toInt64)) + (p5.toInt64)) - (adL 0 (p2 &&& (1 : Int32)) p5 (adL 0 (p1 &&& (1 : Int32)) p4 (adL 0 (p0 &&& (1 : Int32)) p3 (0 : Int64)))))), .second, .val (.int (1 : Int32))] [(.int (1 : Int32))]))
      refine Go.st (fun _ kq_ => XS.goto X9.here hx rfl (pc0 := 195) (pc' := 199) rfl (hb hby at_195) (by decide) (by decide) kq_) ?_
      show Go p e below s _ _ _ (T9.setTop (mkF m 199 #[.val (.int p0), .val (.int p1), .val (.int p2), .val (.int p3), .val (.int p4), .val (.int p5), .val (.int (p0 &&& (1 : Int32))), .val (.int (p1 &&& (1 : Int32))), .val (.int (p2 &&& (1 : Int32))), .val (.ref a1), .val (.int (ad 0 (p2 &&& (1 : Int32)) (ad 0 (p1 &&& (1 : Int32)) (ad 0 (p0 &&& (1 : Int32)) (0 : Int32))))), .val (.long (adL 0 (p2 &&& (1 : Int32)) p5 (adL 0 (p1 &&& (1 : Int32)) p4 (adL 0 (p0 &&& (1 : Int32)) p3 (0 : Int64))))), .second, .val (.long (((p3.toInt64) + (p4.toInt64)) + (p5.toInt64))), .second, .val (.int ((3 : Int32) - (ad 0 (p2 &&& (1 : Int32)) (ad 0 (p1 &&& (1 : Int32)) (ad 0 (p0 &&& (1 : Int32)) (0 : Int32)))))), .val (.long ((((p3.toInt64) + (p4.toInt64)) + (p5.toInt64)) - (adL 0 (p2 &&& (1 : Int32)) p5 (adL 0 (p1 &&& (1 : Int32)) p4 (adL 0 (p0 &&& (1 : Int32)) p3 (0 : Int64)))))), .second, .val (.int (1 : Int32))] [(.int (1 : Int32))]))
      refine Go.st (fun _ kq_ => XS.istore X9.here hx rfl (hb hby at_199) rfl (l' := #[.val (.int p0), .val (.int p1), .val (.int p2), .val (.int p3), .val (.int p4), .val (.int p5), .val (.int (p0 &&& (1 : Int32))), .val (.int (p1 &&& (1 : Int32))), .val (.int (p2 &&& (1 : Int32))), .val (.ref a1), .val (.int (ad 0 (p2 &&& (1 : Int32)) (ad 0 (p1 &&& (1 : Int32)) (ad 0 (p0 &&& (1 : Int32)) (0 : Int32))))), .val (.long (adL 0 (p2 &&& (1 : Int32)) p5 (adL 0 (p1 &&& (1 : Int32)) p4 (adL 0 (p0 &&& (1 : Int32)) p3 (0 : Int64))))), .second, .val (.long (((p3.toInt64) + (p4.toInt64)) + (p5.toInt64))), .second, .val (.int ((3 : Int32) - (ad 0 (p2 &&& (1 : Int32)) (ad 0 (p1 &&& (1 : Int32)) (ad 0 (p0 &&& (1 : Int32)) (0 : Int32)))))), .val (.long ((((p3.toInt64) + (p4.toInt64)) + (p5.toInt64)) - (adL 0 (p2 &&& (1 : Int32)) p5 (adL 0 (p1 &&& (1 : Int32)) p4 (adL 0 (p0 &&& (1 : Int32)) p3 (0 : Int64)))))), .second, .val (.int (1 : Int32))]) rfl kq_) ?_
      show Go p e below s _ _ _ (T9.setTop (mkF m 201 #[.val (.int p0), .val (.int p1), .val (.int p2), .val (.int p3), .val (.int p4), .val (.int p5), .val (.int (p0 &&& (1 : Int32))), .val (.int (p1 &&& (1 : Int32))), .val (.int (p2 &&& (1 : Int32))), .val (.ref a1), .val (.int (ad 0 (p2 &&& (1 : Int32)) (ad 0 (p1 &&& (1 : Int32)) (ad 0 (p0 &&& (1 : Int32)) (0 : Int32))))), .val (.long (adL 0 (p2 &&& (1 : Int32)) p5 (adL 0 (p1 &&& (1 : Int32)) p4 (adL 0 (p0 &&& (1 : Int32)) p3 (0 : Int64))))), .second, .val (.long (((p3.toInt64) + (p4.toInt64)) + (p5.toInt64))), .second, .val (.int ((3 : Int32) - (ad 0 (p2 &&& (1 : Int32)) (ad 0 (p1 &&& (1 : Int32)) (ad 0 (p0 &&& (1 : Int32)) (0 : Int32)))))), .val (.long ((((p3.toInt64) + (p4.toInt64)) + (p5.toInt64)) - (adL 0 (p2 &&& (1 : Int32)) p5 (adL 0 (p1 &&& (1 : Int32)) p4 (adL 0 (p0 &&& (1 : Int32)) p3 (0 : Int64)))))), .second, .val (.int (1 : Int32))] []))
      refine Go.st (fun _ kq_ => XS.iload X9.here hx rfl (hb hby at_201) rfl kq_) ?_
      show Go p e below s _ _ _ (T9.setTop (mkF m 203 #[.val (.int p0), .val (.int p1), .val (.int p2), .val (.int p3), .val (.int p4), .val (.int p5), .val (.int (p0 &&& (1 : Int32))), .val (.int (p1 &&& (1 : Int32))), .val (.int (p2 &&& (1 : Int32))), .val (.ref a1), .val (.int (ad 0 (p2 &&& (1 : Int32)) (ad 0 (p1 &&& (1 : Int32)) (ad 0 (p0 &&& (1 : Int32)) (0 : Int32))))), .val (.long (adL 0 (p2 &&& (1 : Int32)) p5 (adL 0 (p1 &&& (1 : Int32)) p4 (adL 0 (p0 &&& (1 : Int32)) p3 (0 : Int64))))), .second, .val (.long (((p3.toInt64) + (p4.toInt64)) + (p5.toInt64))), .second, .val (.int ((3 : Int32) - (ad 0 (p2 &&& (1 : Int32)) (ad 0 (p1 &&& (1 : Int32)) (ad 0 (p0 &&& (1 : Int32)) (0 : Int32)))))), .val (.long ((((p3.toInt64) + (p4.toInt64)) + (p5.toInt64)) - (adL 0 (p2 &&& (1 : Int32)) p5 (adL 0 (p1 &&& (1 : Int32)) p4 (adL 0 (p0 &&& (1 : Int32)) p3 (0 : Int64)))))), .second, .val (.int (1 : Int32))] [(.int (1 : Int32))]))
      refine Go.st (fun _ kq_ => XS.ifNo X9.here hx rfl (hb hby at_203) rfl (by decide) kq_) ?_
      show Go p e below s _ _ _ (T9.setTop (mkF m 206 #[.val (.int p0), .val (.int p1), .val (.int p2), .val (.int p3), .val (.int p4), .val (.int p5), .val (.int (p0 &&& (1 : Int32))), .val (.int (p1 &&& (1 : Int32))), .val (.int (p2 &&& (1 : Int32))), .val (.ref a1), .val (.int (ad 0 (p2 &&& (1 : Int32)) (ad 0 (p1 &&& (1 : Int32)) (ad 0 (p0 &&& (1 : Int32)) (0 : Int32))))), .val (.long (adL 0 (p2 &&& (1 : Int32)) p5 (adL 0 (p1 &&& (1 : Int32)) p4 (adL 0 (p0 &&& (1 : Int32)) p3 (0 : Int64))))), .second, .val (.long (((p3.toInt64) + (p4.toInt64)) + (p5.toInt64))), .second, .val (.int ((3 : Int32) - (ad 0 (p2 &&& (1 : Int32)) (ad 0 (p1 &&& (1 : Int32)) (ad 0 (p0 &&& (1 : Int32)) (0 : Int32)))))), .val (.long ((((p3.toInt64) + (p4.toInt64)) + (p5.toInt64)) - (adL 0 (p2 &&& (1 : Int32)) p5 (adL 0 (p1 &&& (1 : Int32)) p4 (adL 0 (p0 &&& (1 : Int32)) p3 (0 : Int64)))))), .second, .val (.int (1 : Int32))] []))
      refine Go.st (fun _ kq_ => XS.aload X9.here hx rfl (hb hby at_206) rfl rfl kq_) ?_
      show Go p e below s _ _ _ (T9.setTop (mkF m 208 #[.val (.int p0), .val (.int p1), .val (.int p2), .val (.int p3), .val (.int p4), .val (.int p5), .val (.int (p0 &&& (1 : Int32))), .val (.int (p1 &&& (1 : Int32))), .val (.int (p2 &&& (1 : Int32))), .val (.ref a1), .val (.int (ad 0 (p2 &&& (1 : Int32)) (ad 0 (p1 &&& (1 : Int32)) (ad 0 (p0 &&& (1 : Int32)) (0 : Int32))))), .val (.long (adL 0 (p2 &&& (1 : Int32)) p5 (adL 0 (p1 &&& (1 : Int32)) p4 (adL 0 (p0 &&& (1 : Int32)) p3 (0 : Int64))))), .second, .val (.long (((p3.toInt64) + (p4.toInt64)) + (p5.toInt64))), .second, .val (.int ((3 : Int32) - (ad 0 (p2 &&& (1 : Int32)) (ad 0 (p1 &&& (1 : Int32)) (ad 0 (p0 &&& (1 : Int32)) (0 : Int32)))))), .val (.long ((((p3.toInt64) + (p4.toInt64)) + (p5.toInt64)) - (adL 0 (p2 &&& (1 : Int32)) p5 (adL 0 (p1 &&& (1 : Int32)) p4 (adL 0 (p0 &&& (1 : Int32)) p3 (0 : Int64)))))), .second, .val (.int (1 : Int32))] [(.ref a1)]))
      refine Go.st (fun _ kq_ => XS.iconst X9.here hx rfl (hb hby at_208) kq_) ?_
      show Go p e below s _ _ _ (T9.setTop (mkF m 209 #[.val (.int p0), .val (.int p1), .val (.int p2), .val (.int p3), .val (.int p4), .val (.int p5), .val (.int (p0 &&& (1 : Int32))), .val (.int (p1 &&& (1 : Int32))), .val (.int (p2 &&& (1 : Int32))), .val (.ref a1), .val (.int (ad 0 (p2 &&& (1 : Int32)) (ad 0 (p1 &&& (1 : Int32)) (ad 0 (p0 &&& (1 : Int32)) (0 : Int32))))), .val (.long (adL 0 (p2 &&& (1 : Int32)) p5 (adL 0 (p1 &&& (1 : Int32)) p4 (adL 0 (p0 &&& (1 : Int32)) p3 (0 : Int64))))), .second, .val (.long (((p3.toInt64) + (p4.toInt64)) + (p5.toInt64))), .second, .val (.int ((3 : Int32) - (ad 0 (p2 &&& (1 : Int32)) (ad 0 (p1 &&& (1 : Int32)) (ad 0 (p0 &&& (1 : Int32)) (0 : Int32)))))), .val (.long ((((p3.toInt64) + (p4.toInt64)) + (p5.toInt64)) - (adL 0 (p2 &&& (1 : Int32)) p5 (adL 0 (p1 &&& (1 : Int32)) p4 (adL 0 (p0 &&& (1 : Int32)) p3 (0 : Int64)))))), .second, .val (.int (1 : Int32))] [(.int (0 : Int32)), (.ref a1)]))
      obtain ⟨cq10, kq10, qa10, qb10, qc10⟩ := isOf hZ e9 E_a1
      obtain ⟨_, _, ⟨T10, L10, k10, n10⟩, -, X10, ⟨Lc10, hQ10, l10, y10, z10⟩, st10⟩ := X9.virtualBack hx (y := (⟨"com/example/element_ranker/elementranker/TagStatistics", "averageLength", "(I)D"⟩ : MethodName)) (z := (⟨"com/example/element_ranker/elementranker/TagStatistics", "averageLength", "(I)D"⟩ : MethodName)) hown (mvT hZ (own_w hw 29 rfl)) (mvT hZ (own_w hw 30 rfl)) (notFace_of_selects (args := #[]) (mvT hZ (own_w hw 32 rfl))) (mvT hZ (own_w hw 32 rfl)) (mvT hZ (own_w hw 31 rfl)) (by decide) (backOf (W := 0) (rml0 l Z a0 hw [] a1 b2 kb2 d2 kd2 (ad 0 (p2 &&& (1 : Int32)) (ad 0 (p1 &&& (1 : Int32)) (ad 0 (p0 &&& (1 : Int32)) (0 : Int32)))) (ad 1 (p2 &&& (1 : Int32)) (ad 1 (p1 &&& (1 : Int32)) (ad 1 (p0 &&& (1 : Int32)) (0 : Int32)))) (adL 0 (p2 &&& (1 : Int32)) p5 (adL 0 (p1 &&& (1 : Int32)) p4 (adL 0 (p0 &&& (1 : Int32)) p3 (0 : Int64)))) (adL 1 (p2 &&& (1 : Int32)) p5 (adL 1 (p1 &&& (1 : Int32)) p4 (adL 1 (p0 &&& (1 : Int32)) p3 (0 : Int64)))) ((((0 : Int32) + (1 : Int32)) + (1 : Int32)) + (1 : Int32)) ((((0 : Int64) + p3.toInt64) + p4.toInt64) + p5.toInt64) h6 n0 O6 E_a1 F_a1_elementCounts F_a1_totalLengths F_a1_elementCount F_a1_totalLength V_b2 V_d2) hZ (own_w hw 33 rfl) (own_w hw 2 rfl) (by decide) (by decide)) qa10 qc10 (g := (mkF m 209 #[.val (.int p0), .val (.int p1), .val (.int p2), .val (.int p3), .val (.int p4), .val (.int p5), .val (.int (p0 &&& (1 : Int32))), .val (.int (p1 &&& (1 : Int32))), .val (.int (p2 &&& (1 : Int32))), .val (.ref a1), .val (.int (ad 0 (p2 &&& (1 : Int32)) (ad 0 (p1 &&& (1 : Int32)) (ad 0 (p0 &&& (1 : Int32)) (0 : Int32))))), .val (.long (adL 0 (p2 &&& (1 : Int32)) p5 (adL 0 (p1 &&& (1 : Int32)) p4 (adL 0 (p0 &&& (1 : Int32)) p3 (0 : Int64))))), .second, .val (.long (((p3.toInt64) + (p4.toInt64)) + (p5.toInt64))), .second, .val (.int ((3 : Int32) - (ad 0 (p2 &&& (1 : Int32)) (ad 0 (p1 &&& (1 : Int32)) (ad 0 (p0 &&& (1 : Int32)) (0 : Int32)))))), .val (.long ((((p3.toInt64) + (p4.toInt64)) + (p5.toInt64)) - (adL 0 (p2 &&& (1 : Int32)) p5 (adL 0 (p1 &&& (1 : Int32)) p4 (adL 0 (p0 &&& (1 : Int32)) p3 (0 : Int64)))))), .second, .val (.int (1 : Int32))] [(.int (0 : Int32)), (.ref a1)])) rfl (by rw [hml]; rfl) (Steps.refl _) (argsL := [(.int (0 : Int32))]) (rest := []) (lenOf pd0_3 rfl) rfl (by show 2 * 0 + _ ≤ _; exact Nat.le_of_eq rfl) (hb hby at_209) (fun _ _ => ⟨rfl, e9, (by decide : 3 + 0 ≤ _), (by decide : 8 + 0 ≤ _)⟩)
      dsimp only [Pt.U, Pt.locs, Pt.cells, Pt.slots] at X10 l10 y10 z10 st10 hQ10
      subst l10 y10 z10
      obtain ⟨rfl, Nc10, e10⟩ := hQ10
      have N10 := Fr.app N9 Nc10
      refine Go.tr st10 ?_
      show Go p e below s _ _ _ (T10.setTop (mkF m 212 #[.val (.int p0), .val (.int p1), .val (.int p2), .val (.int p3), .val (.int p4), .val (.int p5), .val (.int (p0 &&& (1 : Int32))), .val (.int (p1 &&& (1 : Int32))), .val (.int (p2 &&& (1 : Int32))), .val (.ref a1), .val (.int (ad 0 (p2 &&& (1 : Int32)) (ad 0 (p1 &&& (1 : Int32)) (ad 0 (p0 &&& (1 : Int32)) (0 : Int32))))), .val (.long (adL 0 (p2 &&& (1 : Int32)) p5 (adL 0 (p1 &&& (1 : Int32)) p4 (adL 0 (p0 &&& (1 : Int32)) p3 (0 : Int64))))), .second, .val (.long (((p3.toInt64) + (p4.toInt64)) + (p5.toInt64))), .second, .val (.int ((3 : Int32) - (ad 0 (p2 &&& (1 : Int32)) (ad 0 (p1 &&& (1 : Int32)) (ad 0 (p0 &&& (1 : Int32)) (0 : Int32)))))), .val (.long ((((p3.toInt64) + (p4.toInt64)) + (p5.toInt64)) - (adL 0 (p2 &&& (1 : Int32)) p5 (adL 0 (p1 &&& (1 : Int32)) p4 (adL 0 (p0 &&& (1 : Int32)) p3 (0 : Int64)))))), .second, .val (.int (1 : Int32))] [(.double (fAvg (adL 0 (p2 &&& (1 : Int32)) p5 (adL 0 (p1 &&& (1 : Int32)) p4 (adL 0 (p0 &&& (1 : Int32)) p3 (0 : Int64)))) (ad 0 (p2 &&& (1 : Int32)) (ad 0 (p1 &&& (1 : Int32)) (ad 0 (p0 &&& (1 : Int32)) (0 : Int32))))))]))
      refine Go.st (fun _ kq_ => XT.lload X10.here hx rfl (hb hby at_212) rfl kq_) ?_
      show Go p e below s _ _ _ (T10.setTop (mkF m 214 #[.val (.int p0), .val (.int p1), .val (.int p2), .val (.int p3), .val (.int p4), .val (.int p5), .val (.int (p0 &&& (1 : Int32))), .val (.int (p1 &&& (1 : Int32))), .val (.int (p2 &&& (1 : Int32))), .val (.ref a1), .val (.int (ad 0 (p2 &&& (1 : Int32)) (ad 0 (p1 &&& (1 : Int32)) (ad 0 (p0 &&& (1 : Int32)) (0 : Int32))))), .val (.long (adL 0 (p2 &&& (1 : Int32)) p5 (adL 0 (p1 &&& (1 : Int32)) p4 (adL 0 (p0 &&& (1 : Int32)) p3 (0 : Int64))))), .second, .val (.long (((p3.toInt64) + (p4.toInt64)) + (p5.toInt64))), .second, .val (.int ((3 : Int32) - (ad 0 (p2 &&& (1 : Int32)) (ad 0 (p1 &&& (1 : Int32)) (ad 0 (p0 &&& (1 : Int32)) (0 : Int32)))))), .val (.long ((((p3.toInt64) + (p4.toInt64)) + (p5.toInt64)) - (adL 0 (p2 &&& (1 : Int32)) p5 (adL 0 (p1 &&& (1 : Int32)) p4 (adL 0 (p0 &&& (1 : Int32)) p3 (0 : Int64)))))), .second, .val (.int (1 : Int32))] [(.long (adL 0 (p2 &&& (1 : Int32)) p5 (adL 0 (p1 &&& (1 : Int32)) p4 (adL 0 (p0 &&& (1 : Int32)) p3 (0 : Int64))))), (.double (fAvg (adL 0 (p2 &&& (1 : Int32)) p5 (adL 0 (p1 &&& (1 : Int32)) p4 (adL 0 (p0 &&& (1 : Int32)) p3 (0 : Int64)))) (ad 0 (p2 &&& (1 : Int32)) (ad 0 (p1 &&& (1 : Int32)) (ad 0 (p0 &&& (1 : Int32)) (0 : Int32))))))]))
      refine Go.st (fun _ kq_ => XS.iload X10.here hx rfl (hb hby at_214) rfl kq_) ?_
      show Go p e below s _ _ _ (T10.setTop (mkF m 216 #[.val (.int p0), .val (.int p1), .val (.int p2), .val (.int p3), .val (.int p4), .val (.int p5), .val (.int (p0 &&& (1 : Int32))), .val (.int (p1 &&& (1 : Int32))), .val (.int (p2 &&& (1 : Int32))), .val (.ref a1), .val (.int (ad 0 (p2 &&& (1 : Int32)) (ad 0 (p1 &&& (1 : Int32)) (ad 0 (p0 &&& (1 : Int32)) (0 : Int32))))), .val (.long (adL 0 (p2 &&& (1 : Int32)) p5 (adL 0 (p1 &&& (1 : Int32)) p4 (adL 0 (p0 &&& (1 : Int32)) p3 (0 : Int64))))), .second, .val (.long (((p3.toInt64) + (p4.toInt64)) + (p5.toInt64))), .second, .val (.int ((3 : Int32) - (ad 0 (p2 &&& (1 : Int32)) (ad 0 (p1 &&& (1 : Int32)) (ad 0 (p0 &&& (1 : Int32)) (0 : Int32)))))), .val (.long ((((p3.toInt64) + (p4.toInt64)) + (p5.toInt64)) - (adL 0 (p2 &&& (1 : Int32)) p5 (adL 0 (p1 &&& (1 : Int32)) p4 (adL 0 (p0 &&& (1 : Int32)) p3 (0 : Int64)))))), .second, .val (.int (1 : Int32))] [(.int (ad 0 (p2 &&& (1 : Int32)) (ad 0 (p1 &&& (1 : Int32)) (ad 0 (p0 &&& (1 : Int32)) (0 : Int32))))), (.long (adL 0 (p2 &&& (1 : Int32)) p5 (adL 0 (p1 &&& (1 : Int32)) p4 (adL 0 (p0 &&& (1 : Int32)) p3 (0 : Int64))))), (.double (fAvg (adL 0 (p2 &&& (1 : Int32)) p5 (adL 0 (p1 &&& (1 : Int32)) p4 (adL 0 (p0 &&& (1 : Int32)) p3 (0 : Int64)))) (ad 0 (p2 &&& (1 : Int32)) (ad 0 (p1 &&& (1 : Int32)) (ad 0 (p0 &&& (1 : Int32)) (0 : Int32))))))]))
      obtain ⟨_, _, ⟨T11, L11, k11, n11⟩, -, X11, ⟨Lc11, hQ11, l11, y11, z11⟩, st11⟩ := Jvm.LawKit.callS X10 hx (y := (⟨"com/example/element_ranker/elementranker/TagStatisticsAddPinLaw", "avg", "(JI)D"⟩ : MethodName)) hown (mvT hZ (own_w hw 35 rfl)) (mvT hZ (own_w hw 36 rfl)) (mvT hZ (own_w hw 37 rfl)) (mvT hZ (own_w hw 38 rfl)) (by decide) (backOf (W := 2) (rmv l Z a0 hw [] (adL 0 (p2 &&& (1 : Int32)) p5 (adL 0 (p1 &&& (1 : Int32)) p4 (adL 0 (p0 &&& (1 : Int32)) p3 (0 : Int64)))) (ad 0 (p2 &&& (1 : Int32)) (ad 0 (p1 &&& (1 : Int32)) (ad 0 (p0 &&& (1 : Int32)) (0 : Int32)))) h6 n0 O6 ) hZ (own_w hw 38 rfl) (own_w hw 37 rfl) (by decide) (by decide)) (g := (mkF m 216 #[.val (.int p0), .val (.int p1), .val (.int p2), .val (.int p3), .val (.int p4), .val (.int p5), .val (.int (p0 &&& (1 : Int32))), .val (.int (p1 &&& (1 : Int32))), .val (.int (p2 &&& (1 : Int32))), .val (.ref a1), .val (.int (ad 0 (p2 &&& (1 : Int32)) (ad 0 (p1 &&& (1 : Int32)) (ad 0 (p0 &&& (1 : Int32)) (0 : Int32))))), .val (.long (adL 0 (p2 &&& (1 : Int32)) p5 (adL 0 (p1 &&& (1 : Int32)) p4 (adL 0 (p0 &&& (1 : Int32)) p3 (0 : Int64))))), .second, .val (.long (((p3.toInt64) + (p4.toInt64)) + (p5.toInt64))), .second, .val (.int ((3 : Int32) - (ad 0 (p2 &&& (1 : Int32)) (ad 0 (p1 &&& (1 : Int32)) (ad 0 (p0 &&& (1 : Int32)) (0 : Int32)))))), .val (.long ((((p3.toInt64) + (p4.toInt64)) + (p5.toInt64)) - (adL 0 (p2 &&& (1 : Int32)) p5 (adL 0 (p1 &&& (1 : Int32)) p4 (adL 0 (p0 &&& (1 : Int32)) p3 (0 : Int64)))))), .second, .val (.int (1 : Int32))] [(.int (ad 0 (p2 &&& (1 : Int32)) (ad 0 (p1 &&& (1 : Int32)) (ad 0 (p0 &&& (1 : Int32)) (0 : Int32))))), (.long (adL 0 (p2 &&& (1 : Int32)) p5 (adL 0 (p1 &&& (1 : Int32)) p4 (adL 0 (p0 &&& (1 : Int32)) p3 (0 : Int64))))), (.double (fAvg (adL 0 (p2 &&& (1 : Int32)) p5 (adL 0 (p1 &&& (1 : Int32)) p4 (adL 0 (p0 &&& (1 : Int32)) p3 (0 : Int64)))) (ad 0 (p2 &&& (1 : Int32)) (ad 0 (p1 &&& (1 : Int32)) (ad 0 (p0 &&& (1 : Int32)) (0 : Int32))))))])) rfl (by rw [hml]; rfl) (argsL := [(.long (adL 0 (p2 &&& (1 : Int32)) p5 (adL 0 (p1 &&& (1 : Int32)) p4 (adL 0 (p0 &&& (1 : Int32)) p3 (0 : Int64))))), (.int (ad 0 (p2 &&& (1 : Int32)) (ad 0 (p1 &&& (1 : Int32)) (ad 0 (p0 &&& (1 : Int32)) (0 : Int32)))))]) (rest := [(.double (fAvg (adL 0 (p2 &&& (1 : Int32)) p5 (adL 0 (p1 &&& (1 : Int32)) p4 (adL 0 (p0 &&& (1 : Int32)) p3 (0 : Int64)))) (ad 0 (p2 &&& (1 : Int32)) (ad 0 (p1 &&& (1 : Int32)) (ad 0 (p0 &&& (1 : Int32)) (0 : Int32))))))]) (lenOf pd0_4 rfl) rfl (by show 2 * 0 + _ ≤ _; exact Nat.le_of_eq rfl) (hb hby at_216) (fun _ _ => ⟨rfl, e10, (by decide : 3 + 0 ≤ _), (by decide : 8 + 0 ≤ _)⟩)
      dsimp only [Pt.U, Pt.locs, Pt.cells, Pt.slots] at X11 l11 y11 z11 st11 hQ11
      subst l11 y11 z11
      obtain ⟨rfl, Nc11, e11⟩ := hQ11
      have N11 := Fr.app N10 Nc11
      refine Go.st st11 ?_
      show Go p e below s _ _ _ (T11.setTop (mkF m 219 #[.val (.int p0), .val (.int p1), .val (.int p2), .val (.int p3), .val (.int p4), .val (.int p5), .val (.int (p0 &&& (1 : Int32))), .val (.int (p1 &&& (1 : Int32))), .val (.int (p2 &&& (1 : Int32))), .val (.ref a1), .val (.int (ad 0 (p2 &&& (1 : Int32)) (ad 0 (p1 &&& (1 : Int32)) (ad 0 (p0 &&& (1 : Int32)) (0 : Int32))))), .val (.long (adL 0 (p2 &&& (1 : Int32)) p5 (adL 0 (p1 &&& (1 : Int32)) p4 (adL 0 (p0 &&& (1 : Int32)) p3 (0 : Int64))))), .second, .val (.long (((p3.toInt64) + (p4.toInt64)) + (p5.toInt64))), .second, .val (.int ((3 : Int32) - (ad 0 (p2 &&& (1 : Int32)) (ad 0 (p1 &&& (1 : Int32)) (ad 0 (p0 &&& (1 : Int32)) (0 : Int32)))))), .val (.long ((((p3.toInt64) + (p4.toInt64)) + (p5.toInt64)) - (adL 0 (p2 &&& (1 : Int32)) p5 (adL 0 (p1 &&& (1 : Int32)) p4 (adL 0 (p0 &&& (1 : Int32)) p3 (0 : Int64)))))), .second, .val (.int (1 : Int32))] [(.double (fAvg (adL 0 (p2 &&& (1 : Int32)) p5 (adL 0 (p1 &&& (1 : Int32)) p4 (adL 0 (p0 &&& (1 : Int32)) p3 (0 : Int64)))) (ad 0 (p2 &&& (1 : Int32)) (ad 0 (p1 &&& (1 : Int32)) (ad 0 (p0 &&& (1 : Int32)) (0 : Int32)))))), (.double (fAvg (adL 0 (p2 &&& (1 : Int32)) p5 (adL 0 (p1 &&& (1 : Int32)) p4 (adL 0 (p0 &&& (1 : Int32)) p3 (0 : Int64)))) (ad 0 (p2 &&& (1 : Int32)) (ad 0 (p1 &&& (1 : Int32)) (ad 0 (p0 &&& (1 : Int32)) (0 : Int32))))))]))
      refine Go.st (fun _ kq_ => XS.dcmpS X11.here hx rfl (hb hby at_219) rfl (dcmpV_eq rfl (own_avg _ _) _) kq_) ?_
      show Go p e below s _ _ _ (T11.setTop (mkF m 220 #[.val (.int p0), .val (.int p1), .val (.int p2), .val (.int p3), .val (.int p4), .val (.int p5), .val (.int (p0 &&& (1 : Int32))), .val (.int (p1 &&& (1 : Int32))), .val (.int (p2 &&& (1 : Int32))), .val (.ref a1), .val (.int (ad 0 (p2 &&& (1 : Int32)) (ad 0 (p1 &&& (1 : Int32)) (ad 0 (p0 &&& (1 : Int32)) (0 : Int32))))), .val (.long (adL 0 (p2 &&& (1 : Int32)) p5 (adL 0 (p1 &&& (1 : Int32)) p4 (adL 0 (p0 &&& (1 : Int32)) p3 (0 : Int64))))), .second, .val (.long (((p3.toInt64) + (p4.toInt64)) + (p5.toInt64))), .second, .val (.int ((3 : Int32) - (ad 0 (p2 &&& (1 : Int32)) (ad 0 (p1 &&& (1 : Int32)) (ad 0 (p0 &&& (1 : Int32)) (0 : Int32)))))), .val (.long ((((p3.toInt64) + (p4.toInt64)) + (p5.toInt64)) - (adL 0 (p2 &&& (1 : Int32)) p5 (adL 0 (p1 &&& (1 : Int32)) p4 (adL 0 (p0 &&& (1 : Int32)) p3 (0 : Int64)))))), .second, .val (.int (1 : Int32))] [(.int (0 : Int32))]))
      refine Go.st (fun _ kq_ => XS.ifNo X11.here hx rfl (hb hby at_220) rfl (by decide) kq_) ?_
      show Go p e below s _ _ _ (T11.setTop (mkF m 223 #[.val (.int p0), .val (.int p1), .val (.int p2), .val (.int p3), .val (.int p4), .val (.int p5), .val (.int (p0 &&& (1 : Int32))), .val (.int (p1 &&& (1 : Int32))), .val (.int (p2 &&& (1 : Int32))), .val (.ref a1), .val (.int (ad 0 (p2 &&& (1 : Int32)) (ad 0 (p1 &&& (1 : Int32)) (ad 0 (p0 &&& (1 : Int32)) (0 : Int32))))), .val (.long (adL 0 (p2 &&& (1 : Int32)) p5 (adL 0 (p1 &&& (1 : Int32)) p4 (adL 0 (p0 &&& (1 : Int32)) p3 (0 : Int64))))), .second, .val (.long (((p3.toInt64) + (p4.toInt64)) + (p5.toInt64))), .second, .val (.int ((3 : Int32) - (ad 0 (p2 &&& (1 : Int32)) (ad 0 (p1 &&& (1 : Int32)) (ad 0 (p0 &&& (1 : Int32)) (0 : Int32)))))), .val (.long ((((p3.toInt64) + (p4.toInt64)) + (p5.toInt64)) - (adL 0 (p2 &&& (1 : Int32)) p5 (adL 0 (p1 &&& (1 : Int32)) p4 (adL 0 (p0 &&& (1 : Int32)) p3 (0 : Int64)))))), .second, .val (.int (1 : Int32))] []))
      refine Go.st (fun _ kq_ => XS.iconst X11.here hx rfl (hb hby at_223) kq_) ?_
      show Go p e below s _ _ _ (T11.setTop (mkF m 224 #[.val (.int p0), .val (.int p1), .val (.int p2), .val (.int p3), .val (.int p4), .val (.int p5), .val (.int (p0 &&& (1 : Int32))), .val (.int (p1 &&& (1 : Int32))), .val (.int (p2 &&& (1 : Int32))), .val (.ref a1), .val (.int (ad 0 (p2 &&& (1 : Int32)) (ad 0 (p1 &&& (1 : Int32)) (ad 0 (p0 &&& (1 : Int32)) (0 : Int32))))), .val (.long (adL 0 (p2 &&& (1 : Int32)) p5 (adL 0 (p1 &&& (1 : Int32)) p4 (adL 0 (p0 &&& (1 : Int32)) p3 (0 : Int64))))), .second, .val (.long (((p3.toInt64) + (p4.toInt64)) + (p5.toInt64))), .second, .val (.int ((3 : Int32) - (ad 0 (p2 &&& (1 : Int32)) (ad 0 (p1 &&& (1 : Int32)) (ad 0 (p0 &&& (1 : Int32)) (0 : Int32)))))), .val (.long ((((p3.toInt64) + (p4.toInt64)) + (p5.toInt64)) - (adL 0 (p2 &&& (1 : Int32)) p5 (adL 0 (p1 &&& (1 : Int32)) p4 (adL 0 (p0 &&& (1 : Int32)) p3 (0 : Int64)))))), .second, .val (.int (1 : Int32))] [(.int (1 : Int32))]))
      refine Go.st (fun _ kq_ => XS.goto X11.here hx rfl (pc0 := 224) (pc' := 228) rfl (hb hby at_224) (by decide) (by decide) kq_) ?_
      show Go p e below s _ _ _ (T11.setTop (mkF m 228 #[.val (.int p0), .val (.int p1), .val (.int p2), .val (.int p3), .val (.int p4), .val (.int p5), .val (.int (p0 &&& (1 : Int32))), .val (.int (p1 &&& (1 : Int32))), .val (.int (p2 &&& (1 : Int32))), .val (.ref a1), .val (.int (ad 0 (p2 &&& (1 : Int32)) (ad 0 (p1 &&& (1 : Int32)) (ad 0 (p0 &&& (1 : Int32)) (0 : Int32))))), .val (.long (adL 0 (p2 &&& (1 : Int32)) p5 (adL 0 (p1 &&& (1 : Int32)) p4 (adL 0 (p0 &&& (1 : Int32)) p3 (0 : Int64))))), .second, .val (.long (((p3.toInt64) + (p4.toInt64)) + (p5.toInt64))), .second, .val (.int ((3 : Int32) - (ad 0 (p2 &&& (1 : Int32)) (ad 0 (p1 &&& (1 : Int32)) (ad 0 (p0 &&& (1 : Int32)) (0 : Int32)))))), .val (.long ((((p3.toInt64) + (p4.toInt64)) + (p5.toInt64)) - (adL 0 (p2 &&& (1 : Int32)) p5 (adL 0 (p1 &&& (1 : Int32)) p4 (adL 0 (p0 &&& (1 : Int32)) p3 (0 : Int64)))))), .second, .val (.int (1 : Int32))] [(.int (1 : Int32))]))
      refine Go.st (fun _ kq_ => XS.istore X11.here hx rfl (hb hby at_228) rfl (l' := #[.val (.int p0), .val (.int p1), .val (.int p2), .val (.int p3), .val (.int p4), .val (.int p5), .val (.int (p0 &&& (1 : Int32))), .val (.int (p1 &&& (1 : Int32))), .val (.int (p2 &&& (1 : Int32))), .val (.ref a1), .val (.int (ad 0 (p2 &&& (1 : Int32)) (ad 0 (p1 &&& (1 : Int32)) (ad 0 (p0 &&& (1 : Int32)) (0 : Int32))))), .val (.long (adL 0 (p2 &&& (1 : Int32)) p5 (adL 0 (p1 &&& (1 : Int32)) p4 (adL 0 (p0 &&& (1 : Int32)) p3 (0 : Int64))))), .second, .val (.long (((p3.toInt64) + (p4.toInt64)) + (p5.toInt64))), .second, .val (.int ((3 : Int32) - (ad 0 (p2 &&& (1 : Int32)) (ad 0 (p1 &&& (1 : Int32)) (ad 0 (p0 &&& (1 : Int32)) (0 : Int32)))))), .val (.long ((((p3.toInt64) + (p4.toInt64)) + (p5.toInt64)) - (adL 0 (p2 &&& (1 : Int32)) p5 (adL 0 (p1 &&& (1 : Int32)) p4 (adL 0 (p0 &&& (1 : Int32)) p3 (0 : Int64)))))), .second, .val (.int (1 : Int32))]) rfl kq_) ?_
      show Go p e below s _ _ _ (T11.setTop (mkF m 230 #[.val (.int p0), .val (.int p1), .val (.int p2), .val (.int p3), .val (.int p4), .val (.int p5), .val (.int (p0 &&& (1 : Int32))), .val (.int (p1 &&& (1 : Int32))), .val (.int (p2 &&& (1 : Int32))), .val (.ref a1), .val (.int (ad 0 (p2 &&& (1 : Int32)) (ad 0 (p1 &&& (1 : Int32)) (ad 0 (p0 &&& (1 : Int32)) (0 : Int32))))), .val (.long (adL 0 (p2 &&& (1 : Int32)) p5 (adL 0 (p1 &&& (1 : Int32)) p4 (adL 0 (p0 &&& (1 : Int32)) p3 (0 : Int64))))), .second, .val (.long (((p3.toInt64) + (p4.toInt64)) + (p5.toInt64))), .second, .val (.int ((3 : Int32) - (ad 0 (p2 &&& (1 : Int32)) (ad 0 (p1 &&& (1 : Int32)) (ad 0 (p0 &&& (1 : Int32)) (0 : Int32)))))), .val (.long ((((p3.toInt64) + (p4.toInt64)) + (p5.toInt64)) - (adL 0 (p2 &&& (1 : Int32)) p5 (adL 0 (p1 &&& (1 : Int32)) p4 (adL 0 (p0 &&& (1 : Int32)) p3 (0 : Int64)))))), .second, .val (.int (1 : Int32))] []))
      refine Go.st (fun _ kq_ => XS.iload X11.here hx rfl (hb hby at_230) rfl kq_) ?_
      show Go p e below s _ _ _ (T11.setTop (mkF m 232 #[.val (.int p0), .val (.int p1), .val (.int p2), .val (.int p3), .val (.int p4), .val (.int p5), .val (.int (p0 &&& (1 : Int32))), .val (.int (p1 &&& (1 : Int32))), .val (.int (p2 &&& (1 : Int32))), .val (.ref a1), .val (.int (ad 0 (p2 &&& (1 : Int32)) (ad 0 (p1 &&& (1 : Int32)) (ad 0 (p0 &&& (1 : Int32)) (0 : Int32))))), .val (.long (adL 0 (p2 &&& (1 : Int32)) p5 (adL 0 (p1 &&& (1 : Int32)) p4 (adL 0 (p0 &&& (1 : Int32)) p3 (0 : Int64))))), .second, .val (.long (((p3.toInt64) + (p4.toInt64)) + (p5.toInt64))), .second, .val (.int ((3 : Int32) - (ad 0 (p2 &&& (1 : Int32)) (ad 0 (p1 &&& (1 : Int32)) (ad 0 (p0 &&& (1 : Int32)) (0 : Int32)))))), .val (.long ((((p3.toInt64) + (p4.toInt64)) + (p5.toInt64)) - (adL 0 (p2 &&& (1 : Int32)) p5 (adL 0 (p1 &&& (1 : Int32)) p4 (adL 0 (p0 &&& (1 : Int32)) p3 (0 : Int64)))))), .second, .val (.int (1 : Int32))] [(.int (1 : Int32))]))
      refine Go.st (fun _ kq_ => XS.ifNo X11.here hx rfl (hb hby at_232) rfl (by decide) kq_) ?_
      show Go p e below s _ _ _ (T11.setTop (mkF m 235 #[.val (.int p0), .val (.int p1), .val (.int p2), .val (.int p3), .val (.int p4), .val (.int p5), .val (.int (p0 &&& (1 : Int32))), .val (.int (p1 &&& (1 : Int32))), .val (.int (p2 &&& (1 : Int32))), .val (.ref a1), .val (.int (ad 0 (p2 &&& (1 : Int32)) (ad 0 (p1 &&& (1 : Int32)) (ad 0 (p0 &&& (1 : Int32)) (0 : Int32))))), .val (.long (adL 0 (p2 &&& (1 : Int32)) p5 (adL 0 (p1 &&& (1 : Int32)) p4 (adL 0 (p0 &&& (1 : Int32)) p3 (0 : Int64))))), .second, .val (.long (((p3.toInt64) + (p4.toInt64)) + (p5.toInt64))), .second, .val (.int ((3 : Int32) - (ad 0 (p2 &&& (1 : Int32)) (ad 0 (p1 &&& (1 : Int32)) (ad 0 (p0 &&& (1 : Int32)) (0 : Int32)))))), .val (.long ((((p3.toInt64) + (p4.toInt64)) + (p5.toInt64)) - (adL 0 (p2 &&& (1 : Int32)) p5 (adL 0 (p1 &&& (1 : Int32)) p4 (adL 0 (p0 &&& (1 : Int32)) p3 (0 : Int64)))))), .second, .val (.int (1 : Int32))] []))
      refine Go.st (fun _ kq_ => XS.aload X11.here hx rfl (hb hby at_235) rfl rfl kq_) ?_
      show Go p e below s _ _ _ (T11.setTop (mkF m 237 #[.val (.int p0), .val (.int p1), .val (.int p2), .val (.int p3), .val (.int p4), .val (.int p5), .val (.int (p0 &&& (1 : Int32))), .val (.int (p1 &&& (1 : Int32))), .val (.int (p2 &&& (1 : Int32))), .val (.ref a1), .val (.int (ad 0 (p2 &&& (1 : Int32)) (ad 0 (p1 &&& (1 : Int32)) (ad 0 (p0 &&& (1 : Int32)) (0 : Int32))))), .val (.long (adL 0 (p2 &&& (1 : Int32)) p5 (adL 0 (p1 &&& (1 : Int32)) p4 (adL 0 (p0 &&& (1 : Int32)) p3 (0 : Int64))))), .second, .val (.long (((p3.toInt64) + (p4.toInt64)) + (p5.toInt64))), .second, .val (.int ((3 : Int32) - (ad 0 (p2 &&& (1 : Int32)) (ad 0 (p1 &&& (1 : Int32)) (ad 0 (p0 &&& (1 : Int32)) (0 : Int32)))))), .val (.long ((((p3.toInt64) + (p4.toInt64)) + (p5.toInt64)) - (adL 0 (p2 &&& (1 : Int32)) p5 (adL 0 (p1 &&& (1 : Int32)) p4 (adL 0 (p0 &&& (1 : Int32)) p3 (0 : Int64)))))), .second, .val (.int (1 : Int32))] [(.ref a1)]))
      refine Go.st (fun _ kq_ => XS.iconst X11.here hx rfl (hb hby at_237) kq_) ?_
      show Go p e below s _ _ _ (T11.setTop (mkF m 238 #[.val (.int p0), .val (.int p1), .val (.int p2), .val (.int p3), .val (.int p4), .val (.int p5), .val (.int (p0 &&& (1 : Int32))), .val (.int (p1 &&& (1 : Int32))), .val (.int (p2 &&& (1 : Int32))), .val (.ref a1), .val (.int (ad 0 (p2 &&& (1 : Int32)) (ad 0 (p1 &&& (1 : Int32)) (ad 0 (p0 &&& (1 : Int32)) (0 : Int32))))), .val (.long (adL 0 (p2 &&& (1 : Int32)) p5 (adL 0 (p1 &&& (1 : Int32)) p4 (adL 0 (p0 &&& (1 : Int32)) p3 (0 : Int64))))), .second, .val (.long (((p3.toInt64) + (p4.toInt64)) + (p5.toInt64))), .second, .val (.int ((3 : Int32) - (ad 0 (p2 &&& (1 : Int32)) (ad 0 (p1 &&& (1 : Int32)) (ad 0 (p0 &&& (1 : Int32)) (0 : Int32)))))), .val (.long ((((p3.toInt64) + (p4.toInt64)) + (p5.toInt64)) - (adL 0 (p2 &&& (1 : Int32)) p5 (adL 0 (p1 &&& (1 : Int32)) p4 (adL 0 (p0 &&& (1 : Int32)) p3 (0 : Int64)))))), .second, .val (.int (1 : Int32))] [(.int (1 : Int32)), (.ref a1)]))
      obtain ⟨cq12, kq12, qa12, qb12, qc12⟩ := isOf hZ e11 E_a1
      obtain ⟨_, _, ⟨T12, L12, k12, n12⟩, -, X12, ⟨Lc12, hQ12, l12, y12, z12⟩, st12⟩ := X11.virtualBack hx (y := (⟨"com/example/element_ranker/elementranker/TagStatistics", "averageLength", "(I)D"⟩ : MethodName)) (z := (⟨"com/example/element_ranker/elementranker/TagStatistics", "averageLength", "(I)D"⟩ : MethodName)) hown (mvT hZ (own_w hw 29 rfl)) (mvT hZ (own_w hw 30 rfl)) (notFace_of_selects (args := #[]) (mvT hZ (own_w hw 32 rfl))) (mvT hZ (own_w hw 32 rfl)) (mvT hZ (own_w hw 31 rfl)) (by decide) (backOf (W := 0) (rml1 l Z a0 hw [] a1 b2 kb2 d2 kd2 (ad 0 (p2 &&& (1 : Int32)) (ad 0 (p1 &&& (1 : Int32)) (ad 0 (p0 &&& (1 : Int32)) (0 : Int32)))) (ad 1 (p2 &&& (1 : Int32)) (ad 1 (p1 &&& (1 : Int32)) (ad 1 (p0 &&& (1 : Int32)) (0 : Int32)))) (adL 0 (p2 &&& (1 : Int32)) p5 (adL 0 (p1 &&& (1 : Int32)) p4 (adL 0 (p0 &&& (1 : Int32)) p3 (0 : Int64)))) (adL 1 (p2 &&& (1 : Int32)) p5 (adL 1 (p1 &&& (1 : Int32)) p4 (adL 1 (p0 &&& (1 : Int32)) p3 (0 : Int64)))) ((((0 : Int32) + (1 : Int32)) + (1 : Int32)) + (1 : Int32)) ((((0 : Int64) + p3.toInt64) + p4.toInt64) + p5.toInt64) h6 n0 O6 E_a1 F_a1_elementCounts F_a1_totalLengths F_a1_elementCount F_a1_totalLength V_b2 V_d2) hZ (own_w hw 33 rfl) (own_w hw 2 rfl) (by decide) (by decide)) qa12 qc12 (g := (mkF m 238 #[.val (.int p0), .val (.int p1), .val (.int p2), .val (.int p3), .val (.int p4), .val (.int p5), .val (.int (p0 &&& (1 : Int32))), .val (.int (p1 &&& (1 : Int32))), .val (.int (p2 &&& (1 : Int32))), .val (.ref a1), .val (.int (ad 0 (p2 &&& (1 : Int32)) (ad 0 (p1 &&& (1 : Int32)) (ad 0 (p0 &&& (1 : Int32)) (0 : Int32))))), .val (.long (adL 0 (p2 &&& (1 : Int32)) p5 (adL 0 (p1 &&& (1 : Int32)) p4 (adL 0 (p0 &&& (1 : Int32)) p3 (0 : Int64))))), .second, .val (.long (((p3.toInt64) + (p4.toInt64)) + (p5.toInt64))), .second, .val (.int ((3 : Int32) - (ad 0 (p2 &&& (1 : Int32)) (ad 0 (p1 &&& (1 : Int32)) (ad 0 (p0 &&& (1 : Int32)) (0 : Int32)))))), .val (.long ((((p3.toInt64) + (p4.toInt64)) + (p5.toInt64)) - (adL 0 (p2 &&& (1 : Int32)) p5 (adL 0 (p1 &&& (1 : Int32)) p4 (adL 0 (p0 &&& (1 : Int32)) p3 (0 : Int64)))))), .second, .val (.int (1 : Int32))] [(.int (1 : Int32)), (.ref a1)])) rfl (by rw [hml]; rfl) (Steps.refl _) (argsL := [(.int (1 : Int32))]) (rest := []) (lenOf pd0_3 rfl) rfl (by show 2 * 0 + _ ≤ _; exact Nat.le_of_eq rfl) (hb hby at_238) (fun _ _ => ⟨rfl, e11, (by decide : 3 + 0 ≤ _), (by decide : 8 + 0 ≤ _)⟩)
      dsimp only [Pt.U, Pt.locs, Pt.cells, Pt.slots] at X12 l12 y12 z12 st12 hQ12
      subst l12 y12 z12
      obtain ⟨rfl, Nc12, e12⟩ := hQ12
      have N12 := Fr.app N11 Nc12
      refine Go.tr st12 ?_
      show Go p e below s _ _ _ (T12.setTop (mkF m 241 #[.val (.int p0), .val (.int p1), .val (.int p2), .val (.int p3), .val (.int p4), .val (.int p5), .val (.int (p0 &&& (1 : Int32))), .val (.int (p1 &&& (1 : Int32))), .val (.int (p2 &&& (1 : Int32))), .val (.ref a1), .val (.int (ad 0 (p2 &&& (1 : Int32)) (ad 0 (p1 &&& (1 : Int32)) (ad 0 (p0 &&& (1 : Int32)) (0 : Int32))))), .val (.long (adL 0 (p2 &&& (1 : Int32)) p5 (adL 0 (p1 &&& (1 : Int32)) p4 (adL 0 (p0 &&& (1 : Int32)) p3 (0 : Int64))))), .second, .val (.long (((p3.toInt64) + (p4.toInt64)) + (p5.toInt64))), .second, .val (.int ((3 : Int32) - (ad 0 (p2 &&& (1 : Int32)) (ad 0 (p1 &&& (1 : Int32)) (ad 0 (p0 &&& (1 : Int32)) (0 : Int32)))))), .val (.long ((((p3.toInt64) + (p4.toInt64)) + (p5.toInt64)) - (adL 0 (p2 &&& (1 : Int32)) p5 (adL 0 (p1 &&& (1 : Int32)) p4 (adL 0 (p0 &&& (1 : Int32)) p3 (0 : Int64)))))), .second, .val (.int (1 : Int32))] [(.double (fAvg (adL 1 (p2 &&& (1 : Int32)) p5 (adL 1 (p1 &&& (1 : Int32)) p4 (adL 1 (p0 &&& (1 : Int32)) p3 (0 : Int64)))) (ad 1 (p2 &&& (1 : Int32)) (ad 1 (p1 &&& (1 : Int32)) (ad 1 (p0 &&& (1 : Int32)) (0 : Int32))))))]))
      refine Go.st (fun _ kq_ => XT.lload X12.here hx rfl (hb hby at_241) rfl kq_) ?_
      show Go p e below s _ _ _ (T12.setTop (mkF m 243 #[.val (.int p0), .val (.int p1), .val (.int p2), .val (.int p3), .val (.int p4), .val (.int p5), .val (.int (p0 &&& (1 : Int32))), .val (.int (p1 &&& (1 : Int32))), .val (.int (p2 &&& (1 : Int32))), .val (.ref a1), .val (.int (ad 0 (p2 &&& (1 : Int32)) (ad 0 (p1 &&& (1 : Int32)) (ad 0 (p0 &&& (1 : Int32)) (0 : Int32))))), .val (.long (adL 0 (p2 &&& (1 : Int32)) p5 (adL 0 (p1 &&& (1 : Int32)) p4 (adL 0 (p0 &&& (1 : Int32)) p3 (0 : Int64))))), .second, .val (.long (((p3.toInt64) + (p4.toInt64)) + (p5.toInt64))), .second, .val (.int ((3 : Int32) - (ad 0 (p2 &&& (1 : Int32)) (ad 0 (p1 &&& (1 : Int32)) (ad 0 (p0 &&& (1 : Int32)) (0 : Int32)))))), .val (.long ((((p3.toInt64) + (p4.toInt64)) + (p5.toInt64)) - (adL 0 (p2 &&& (1 : Int32)) p5 (adL 0 (p1 &&& (1 : Int32)) p4 (adL 0 (p0 &&& (1 : Int32)) p3 (0 : Int64)))))), .second, .val (.int (1 : Int32))] [(.long ((((p3.toInt64) + (p4.toInt64)) + (p5.toInt64)) - (adL 0 (p2 &&& (1 : Int32)) p5 (adL 0 (p1 &&& (1 : Int32)) p4 (adL 0 (p0 &&& (1 : Int32)) p3 (0 : Int64)))))), (.double (fAvg (adL 1 (p2 &&& (1 : Int32)) p5 (adL 1 (p1 &&& (1 : Int32)) p4 (adL 1 (p0 &&& (1 : Int32)) p3 (0 : Int64)))) (ad 1 (p2 &&& (1 : Int32)) (ad 1 (p1 &&& (1 : Int32)) (ad 1 (p0 &&& (1 : Int32)) (0 : Int32))))))]))
      refine Go.st (fun _ kq_ => XS.iload X12.here hx rfl (hb hby at_243) rfl kq_) ?_
      show Go p e below s _ _ _ (T12.setTop (mkF m 245 #[.val (.int p0), .val (.int p1), .val (.int p2), .val (.int p3), .val (.int p4), .val (.int p5), .val (.int (p0 &&& (1 : Int32))), .val (.int (p1 &&& (1 : Int32))), .val (.int (p2 &&& (1 : Int32))), .val (.ref a1), .val (.int (ad 0 (p2 &&& (1 : Int32)) (ad 0 (p1 &&& (1 : Int32)) (ad 0 (p0 &&& (1 : Int32)) (0 : Int32))))), .val (.long (adL 0 (p2 &&& (1 : Int32)) p5 (adL 0 (p1 &&& (1 : Int32)) p4 (adL 0 (p0 &&& (1 : Int32)) p3 (0 : Int64))))), .second, .val (.long (((p3.toInt64) + (p4.toInt64)) + (p5.toInt64))), .second, .val (.int ((3 : Int32) - (ad 0 (p2 &&& (1 : Int32)) (ad 0 (p1 &&& (1 : Int32)) (ad 0 (p0 &&& (1 : Int32)) (0 : Int32)))))), .val (.long ((((p3.toInt64) + (p4.toInt64)) + (p5.toInt64)) - (adL 0 (p2 &&& (1 : Int32)) p5 (adL 0 (p1 &&& (1 : Int32)) p4 (adL 0 (p0 &&& (1 : Int32)) p3 (0 : Int64)))))), .second, .val (.int (1 : Int32))] [(.int ((3 : Int32) - (ad 0 (p2 &&& (1 : Int32)) (ad 0 (p1 &&& (1 : Int32)) (ad 0 (p0 &&& (1 : Int32)) (0 : Int32)))))), (.long ((((p3.toInt64) + (p4.toInt64)) + (p5.toInt64)) - (adL 0 (p2 &&& (1 : Int32)) p5 (adL 0 (p1 &&& (1 : Int32)) p4 (adL 0 (p0 &&& (1 : Int32)) p3 (0 : Int64)))))), (.double (fAvg (adL 1 (p2 &&& (1 : Int32)) p5 (adL 1 (p1 &&& (1 : Int32)) p4 (adL 1 (p0 &&& (1 : Int32)) p3 (0 : Int64)))) (ad 1 (p2 &&& (1 : Int32)) (ad 1 (p1 &&& (1 : Int32)) (ad 1 (p0 &&& (1 : Int32)) (0 : Int32))))))]))
      obtain ⟨_, _, ⟨T13, L13, k13, n13⟩, -, X13, ⟨Lc13, hQ13, l13, y13, z13⟩, st13⟩ := Jvm.LawKit.callS X12 hx (y := (⟨"com/example/element_ranker/elementranker/TagStatisticsAddPinLaw", "avg", "(JI)D"⟩ : MethodName)) hown (mvT hZ (own_w hw 35 rfl)) (mvT hZ (own_w hw 36 rfl)) (mvT hZ (own_w hw 37 rfl)) (mvT hZ (own_w hw 38 rfl)) (by decide) (backOf (W := 2) (rmv l Z a0 hw [] ((((p3.toInt64) + (p4.toInt64)) + (p5.toInt64)) - (adL 0 (p2 &&& (1 : Int32)) p5 (adL 0 (p1 &&& (1 : Int32)) p4 (adL 0 (p0 &&& (1 : Int32)) p3 (0 : Int64))))) ((3 : Int32) - (ad 0 (p2 &&& (1 : Int32)) (ad 0 (p1 &&& (1 : Int32)) (ad 0 (p0 &&& (1 : Int32)) (0 : Int32))))) h6 n0 O6 ) hZ (own_w hw 38 rfl) (own_w hw 37 rfl) (by decide) (by decide)) (g := (mkF m 245 #[.val (.int p0), .val (.int p1), .val (.int p2), .val (.int p3), .val (.int p4), .val (.int p5), .val (.int (p0 &&& (1 : Int32))), .val (.int (p1 &&& (1 : Int32))), .val (.int (p2 &&& (1 : Int32))), .val (.ref a1), .val (.int (ad 0 (p2 &&& (1 : Int32)) (ad 0 (p1 &&& (1 : Int32)) (ad 0 (p0 &&& (1 : Int32)) (0 : Int32))))), .val (.long (adL 0 (p2 &&& (1 : Int32)) p5 (adL 0 (p1 &&& (1 : Int32)) p4 (adL 0 (p0 &&& (1 : Int32)) p3 (0 : Int64))))), .second, .val (.long (((p3.toInt64) + (p4.toInt64)) + (p5.toInt64))), .second, .val (.int ((3 : Int32) - (ad 0 (p2 &&& (1 : Int32)) (ad 0 (p1 &&& (1 : Int32)) (ad 0 (p0 &&& (1 : Int32)) (0 : Int32)))))), .val (.long ((((p3.toInt64) + (p4.toInt64)) + (p5.toInt64)) - (adL 0 (p2 &&& (1 : Int32)) p5 (adL 0 (p1 &&& (1 : Int32)) p4 (adL 0 (p0 &&& (1 : Int32)) p3 (0 : Int64)))))), .second, .val (.int (1 : Int32))] [(.int ((3 : Int32) - (ad 0 (p2 &&& (1 : Int32)) (ad 0 (p1 &&& (1 : Int32)) (ad 0 (p0 &&& (1 : Int32)) (0 : Int32)))))), (.long ((((p3.toInt64) + (p4.toInt64)) + (p5.toInt64)) - (adL 0 (p2 &&& (1 : Int32)) p5 (adL 0 (p1 &&& (1 : Int32)) p4 (adL 0 (p0 &&& (1 : Int32)) p3 (0 : Int64)))))), (.double (fAvg (adL 1 (p2 &&& (1 : Int32)) p5 (adL 1 (p1 &&& (1 : Int32)) p4 (adL 1 (p0 &&& (1 : Int32)) p3 (0 : Int64)))) (ad 1 (p2 &&& (1 : Int32)) (ad 1 (p1 &&& (1 : Int32)) (ad 1 (p0 &&& (1 : Int32)) (0 : Int32))))))])) rfl (by rw [hml]; rfl) (argsL := [(.long ((((p3.toInt64) + (p4.toInt64)) + (p5.toInt64)) - (adL 0 (p2 &&& (1 : Int32)) p5 (adL 0 (p1 &&& (1 : Int32)) p4 (adL 0 (p0 &&& (1 : Int32)) p3 (0 : Int64)))))), (.int ((3 : Int32) - (ad 0 (p2 &&& (1 : Int32)) (ad 0 (p1 &&& (1 : Int32)) (ad 0 (p0 &&& (1 : Int32)) (0 : Int32))))))]) (rest := [(.double (fAvg (adL 1 (p2 &&& (1 : Int32)) p5 (adL 1 (p1 &&& (1 : Int32)) p4 (adL 1 (p0 &&& (1 : Int32)) p3 (0 : Int64)))) (ad 1 (p2 &&& (1 : Int32)) (ad 1 (p1 &&& (1 : Int32)) (ad 1 (p0 &&& (1 : Int32)) (0 : Int32))))))]) (lenOf pd0_4 rfl) rfl (by show 2 * 0 + _ ≤ _; exact Nat.le_of_eq rfl) (hb hby at_245) (fun _ _ => ⟨rfl, e12, (by decide : 3 + 0 ≤ _), (by decide : 8 + 0 ≤ _)⟩)
      dsimp only [Pt.U, Pt.locs, Pt.cells, Pt.slots] at X13 l13 y13 z13 st13 hQ13
      subst l13 y13 z13
      obtain ⟨rfl, Nc13, e13⟩ := hQ13
      have N13 := Fr.app N12 Nc13
      refine Go.st st13 ?_
      show Go p e below s _ _ _ (T13.setTop (mkF m 248 #[.val (.int p0), .val (.int p1), .val (.int p2), .val (.int p3), .val (.int p4), .val (.int p5), .val (.int (p0 &&& (1 : Int32))), .val (.int (p1 &&& (1 : Int32))), .val (.int (p2 &&& (1 : Int32))), .val (.ref a1), .val (.int (ad 0 (p2 &&& (1 : Int32)) (ad 0 (p1 &&& (1 : Int32)) (ad 0 (p0 &&& (1 : Int32)) (0 : Int32))))), .val (.long (adL 0 (p2 &&& (1 : Int32)) p5 (adL 0 (p1 &&& (1 : Int32)) p4 (adL 0 (p0 &&& (1 : Int32)) p3 (0 : Int64))))), .second, .val (.long (((p3.toInt64) + (p4.toInt64)) + (p5.toInt64))), .second, .val (.int ((3 : Int32) - (ad 0 (p2 &&& (1 : Int32)) (ad 0 (p1 &&& (1 : Int32)) (ad 0 (p0 &&& (1 : Int32)) (0 : Int32)))))), .val (.long ((((p3.toInt64) + (p4.toInt64)) + (p5.toInt64)) - (adL 0 (p2 &&& (1 : Int32)) p5 (adL 0 (p1 &&& (1 : Int32)) p4 (adL 0 (p0 &&& (1 : Int32)) p3 (0 : Int64)))))), .second, .val (.int (1 : Int32))] [(.double (fAvg ((((p3.toInt64) + (p4.toInt64)) + (p5.toInt64)) - (adL 0 (p2 &&& (1 : Int32)) p5 (adL 0 (p1 &&& (1 : Int32)) p4 (adL 0 (p0 &&& (1 : Int32)) p3 (0 : Int64))))) ((3 : Int32) - (ad 0 (p2 &&& (1 : Int32)) (ad 0 (p1 &&& (1 : Int32)) (ad 0 (p0 &&& (1 : Int32)) (0 : Int32))))))), (.double (fAvg (adL 1 (p2 &&& (1 : Int32)) p5 (adL 1 (p1 &&& (1 : Int32)) p4 (adL 1 (p0 &&& (1 : Int32)) p3 (0 : Int64)))) (ad 1 (p2 &&& (1 : Int32)) (ad 1 (p1 &&& (1 : Int32)) (ad 1 (p0 &&& (1 : Int32)) (0 : Int32))))))]))
      refine Go.st (fun _ kq_ => XS.dcmpS X13.here hx rfl (hb hby at_248) rfl (dcmpV_eq (by rw [own_n1 _ _ _ (own_bit p0) (own_bit p1) (own_bit p2), own_s1 _ _ _ _ _ _ (own_bit p0) (own_bit p1) (own_bit p2)]) (own_avg _ _) _) kq_) ?_
      show Go p e below s _ _ _ (T13.setTop (mkF m 249 #[.val (.int p0), .val (.int p1), .val (.int p2), .val (.int p3), .val (.int p4), .val (.int p5), .val (.int (p0 &&& (1 : Int32))), .val (.int (p1 &&& (1 : Int32))), .val (.int (p2 &&& (1 : Int32))), .val (.ref a1), .val (.int (ad 0 (p2 &&& (1 : Int32)) (ad 0 (p1 &&& (1 : Int32)) (ad 0 (p0 &&& (1 : Int32)) (0 : Int32))))), .val (.long (adL 0 (p2 &&& (1 : Int32)) p5 (adL 0 (p1 &&& (1 : Int32)) p4 (adL 0 (p0 &&& (1 : Int32)) p3 (0 : Int64))))), .second, .val (.long (((p3.toInt64) + (p4.toInt64)) + (p5.toInt64))), .second, .val (.int ((3 : Int32) - (ad 0 (p2 &&& (1 : Int32)) (ad 0 (p1 &&& (1 : Int32)) (ad 0 (p0 &&& (1 : Int32)) (0 : Int32)))))), .val (.long ((((p3.toInt64) + (p4.toInt64)) + (p5.toInt64)) - (adL 0 (p2 &&& (1 : Int32)) p5 (adL 0 (p1 &&& (1 : Int32)) p4 (adL 0 (p0 &&& (1 : Int32)) p3 (0 : Int64)))))), .second, .val (.int (1 : Int32))] [(.int (0 : Int32))]))
      refine Go.st (fun _ kq_ => XS.ifNo X13.here hx rfl (hb hby at_249) rfl (by decide) kq_) ?_
      show Go p e below s _ _ _ (T13.setTop (mkF m 252 #[.val (.int p0), .val (.int p1), .val (.int p2), .val (.int p3), .val (.int p4), .val (.int p5), .val (.int (p0 &&& (1 : Int32))), .val (.int (p1 &&& (1 : Int32))), .val (.int (p2 &&& (1 : Int32))), .val (.ref a1), .val (.int (ad 0 (p2 &&& (1 : Int32)) (ad 0 (p1 &&& (1 : Int32)) (ad 0 (p0 &&& (1 : Int32)) (0 : Int32))))), .val (.long (adL 0 (p2 &&& (1 : Int32)) p5 (adL 0 (p1 &&& (1 : Int32)) p4 (adL 0 (p0 &&& (1 : Int32)) p3 (0 : Int64))))), .second, .val (.long (((p3.toInt64) + (p4.toInt64)) + (p5.toInt64))), .second, .val (.int ((3 : Int32) - (ad 0 (p2 &&& (1 : Int32)) (ad 0 (p1 &&& (1 : Int32)) (ad 0 (p0 &&& (1 : Int32)) (0 : Int32)))))), .val (.long ((((p3.toInt64) + (p4.toInt64)) + (p5.toInt64)) - (adL 0 (p2 &&& (1 : Int32)) p5 (adL 0 (p1 &&& (1 : Int32)) p4 (adL 0 (p0 &&& (1 : Int32)) p3 (0 : Int64)))))), .second, .val (.int (1 : Int32))] []))
      refine Go.st (fun _ kq_ => XS.iconst X13.here hx rfl (hb hby at_252) kq_) ?_
      show Go p e below s _ _ _ (T13.setTop (mkF m 253 #[.val (.int p0), .val (.int p1), .val (.int p2), .val (.int p3), .val (.int p4), .val (.int p5), .val (.int (p0 &&& (1 : Int32))), .val (.int (p1 &&& (1 : Int32))), .val (.int (p2 &&& (1 : Int32))), .val (.ref a1), .val (.int (ad 0 (p2 &&& (1 : Int32)) (ad 0 (p1 &&& (1 : Int32)) (ad 0 (p0 &&& (1 : Int32)) (0 : Int32))))), .val (.long (adL 0 (p2 &&& (1 : Int32)) p5 (adL 0 (p1 &&& (1 : Int32)) p4 (adL 0 (p0 &&& (1 : Int32)) p3 (0 : Int64))))), .second, .val (.long (((p3.toInt64) + (p4.toInt64)) + (p5.toInt64))), .second, .val (.int ((3 : Int32) - (ad 0 (p2 &&& (1 : Int32)) (ad 0 (p1 &&& (1 : Int32)) (ad 0 (p0 &&& (1 : Int32)) (0 : Int32)))))), .val (.long ((((p3.toInt64) + (p4.toInt64)) + (p5.toInt64)) - (adL 0 (p2 &&& (1 : Int32)) p5 (adL 0 (p1 &&& (1 : Int32)) p4 (adL 0 (p0 &&& (1 : Int32)) p3 (0 : Int64)))))), .second, .val (.int (1 : Int32))] [(.int (1 : Int32))]))
      refine Go.st (fun _ kq_ => XS.goto X13.here hx rfl (pc0 := 253) (pc' := 257) rfl (hb hby at_253) (by decide) (by decide) kq_) ?_
      show Go p e below s _ _ _ (T13.setTop (mkF m 257 #[.val (.int p0), .val (.int p1), .val (.int p2), .val (.int p3), .val (.int p4), .val (.int p5), .val (.int (p0 &&& (1 : Int32))), .val (.int (p1 &&& (1 : Int32))), .val (.int (p2 &&& (1 : Int32))), .val (.ref a1), .val (.int (ad 0 (p2 &&& (1 : Int32)) (ad 0 (p1 &&& (1 : Int32)) (ad 0 (p0 &&& (1 : Int32)) (0 : Int32))))), .val (.long (adL 0 (p2 &&& (1 : Int32)) p5 (adL 0 (p1 &&& (1 : Int32)) p4 (adL 0 (p0 &&& (1 : Int32)) p3 (0 : Int64))))), .second, .val (.long (((p3.toInt64) + (p4.toInt64)) + (p5.toInt64))), .second, .val (.int ((3 : Int32) - (ad 0 (p2 &&& (1 : Int32)) (ad 0 (p1 &&& (1 : Int32)) (ad 0 (p0 &&& (1 : Int32)) (0 : Int32)))))), .val (.long ((((p3.toInt64) + (p4.toInt64)) + (p5.toInt64)) - (adL 0 (p2 &&& (1 : Int32)) p5 (adL 0 (p1 &&& (1 : Int32)) p4 (adL 0 (p0 &&& (1 : Int32)) p3 (0 : Int64)))))), .second, .val (.int (1 : Int32))] [(.int (1 : Int32))]))
      refine Go.st (fun _ kq_ => XS.istore X13.here hx rfl (hb hby at_257) rfl (l' := #[.val (.int p0), .val (.int p1), .val (.int p2), .val (.int p3), .val (.int p4), .val (.int p5), .val (.int (p0 &&& (1 : Int32))), .val (.int (p1 &&& (1 : Int32))), .val (.int (p2 &&& (1 : Int32))), .val (.ref a1), .val (.int (ad 0 (p2 &&& (1 : Int32)) (ad 0 (p1 &&& (1 : Int32)) (ad 0 (p0 &&& (1 : Int32)) (0 : Int32))))), .val (.long (adL 0 (p2 &&& (1 : Int32)) p5 (adL 0 (p1 &&& (1 : Int32)) p4 (adL 0 (p0 &&& (1 : Int32)) p3 (0 : Int64))))), .second, .val (.long (((p3.toInt64) + (p4.toInt64)) + (p5.toInt64))), .second, .val (.int ((3 : Int32) - (ad 0 (p2 &&& (1 : Int32)) (ad 0 (p1 &&& (1 : Int32)) (ad 0 (p0 &&& (1 : Int32)) (0 : Int32)))))), .val (.long ((((p3.toInt64) + (p4.toInt64)) + (p5.toInt64)) - (adL 0 (p2 &&& (1 : Int32)) p5 (adL 0 (p1 &&& (1 : Int32)) p4 (adL 0 (p0 &&& (1 : Int32)) p3 (0 : Int64)))))), .second, .val (.int (1 : Int32))]) rfl kq_) ?_
      show Go p e below s _ _ _ (T13.setTop (mkF m 259 #[.val (.int p0), .val (.int p1), .val (.int p2), .val (.int p3), .val (.int p4), .val (.int p5), .val (.int (p0 &&& (1 : Int32))), .val (.int (p1 &&& (1 : Int32))), .val (.int (p2 &&& (1 : Int32))), .val (.ref a1), .val (.int (ad 0 (p2 &&& (1 : Int32)) (ad 0 (p1 &&& (1 : Int32)) (ad 0 (p0 &&& (1 : Int32)) (0 : Int32))))), .val (.long (adL 0 (p2 &&& (1 : Int32)) p5 (adL 0 (p1 &&& (1 : Int32)) p4 (adL 0 (p0 &&& (1 : Int32)) p3 (0 : Int64))))), .second, .val (.long (((p3.toInt64) + (p4.toInt64)) + (p5.toInt64))), .second, .val (.int ((3 : Int32) - (ad 0 (p2 &&& (1 : Int32)) (ad 0 (p1 &&& (1 : Int32)) (ad 0 (p0 &&& (1 : Int32)) (0 : Int32)))))), .val (.long ((((p3.toInt64) + (p4.toInt64)) + (p5.toInt64)) - (adL 0 (p2 &&& (1 : Int32)) p5 (adL 0 (p1 &&& (1 : Int32)) p4 (adL 0 (p0 &&& (1 : Int32)) p3 (0 : Int64)))))), .second, .val (.int (1 : Int32))] []))
      refine Go.st (fun _ kq_ => XS.iload X13.here hx rfl (hb hby at_259) rfl kq_) ?_
      show Go p e below s _ _ _ (T13.setTop (mkF m 261 #[.val (.int p0), .val (.int p1), .val (.int p2), .val (.int p3), .val (.int p4), .val (.int p5), .val (.int (p0 &&& (1 : Int32))), .val (.int (p1 &&& (1 : Int32))), .val (.int (p2 &&& (1 : Int32))), .val (.ref a1), .val (.int (ad 0 (p2 &&& (1 : Int32)) (ad 0 (p1 &&& (1 : Int32)) (ad 0 (p0 &&& (1 : Int32)) (0 : Int32))))), .val (.long (adL 0 (p2 &&& (1 : Int32)) p5 (adL 0 (p1 &&& (1 : Int32)) p4 (adL 0 (p0 &&& (1 : Int32)) p3 (0 : Int64))))), .second, .val (.long (((p3.toInt64) + (p4.toInt64)) + (p5.toInt64))), .second, .val (.int ((3 : Int32) - (ad 0 (p2 &&& (1 : Int32)) (ad 0 (p1 &&& (1 : Int32)) (ad 0 (p0 &&& (1 : Int32)) (0 : Int32)))))), .val (.long ((((p3.toInt64) + (p4.toInt64)) + (p5.toInt64)) - (adL 0 (p2 &&& (1 : Int32)) p5 (adL 0 (p1 &&& (1 : Int32)) p4 (adL 0 (p0 &&& (1 : Int32)) p3 (0 : Int64)))))), .second, .val (.int (1 : Int32))] [(.int (1 : Int32))]))
      refine Go.st (fun _ kq_ => XS.ifNo X13.here hx rfl (hb hby at_261) rfl (by decide) kq_) ?_
      show Go p e below s _ _ _ (T13.setTop (mkF m 264 #[.val (.int p0), .val (.int p1), .val (.int p2), .val (.int p3), .val (.int p4), .val (.int p5), .val (.int (p0 &&& (1 : Int32))), .val (.int (p1 &&& (1 : Int32))), .val (.int (p2 &&& (1 : Int32))), .val (.ref a1), .val (.int (ad 0 (p2 &&& (1 : Int32)) (ad 0 (p1 &&& (1 : Int32)) (ad 0 (p0 &&& (1 : Int32)) (0 : Int32))))), .val (.long (adL 0 (p2 &&& (1 : Int32)) p5 (adL 0 (p1 &&& (1 : Int32)) p4 (adL 0 (p0 &&& (1 : Int32)) p3 (0 : Int64))))), .second, .val (.long (((p3.toInt64) + (p4.toInt64)) + (p5.toInt64))), .second, .val (.int ((3 : Int32) - (ad 0 (p2 &&& (1 : Int32)) (ad 0 (p1 &&& (1 : Int32)) (ad 0 (p0 &&& (1 : Int32)) (0 : Int32)))))), .val (.long ((((p3.toInt64) + (p4.toInt64)) + (p5.toInt64)) - (adL 0 (p2 &&& (1 : Int32)) p5 (adL 0 (p1 &&& (1 : Int32)) p4 (adL 0 (p0 &&& (1 : Int32)) p3 (0 : Int64)))))), .second, .val (.int (1 : Int32))] []))
      refine Go.st (fun _ kq_ => XS.aload X13.here hx rfl (hb hby at_264) rfl rfl kq_) ?_
      show Go p e below s _ _ _ (T13.setTop (mkF m 266 #[.val (.int p0), .val (.int p1), .val (.int p2), .val (.int p3), .val (.int p4), .val (.int p5), .val (.int (p0 &&& (1 : Int32))), .val (.int (p1 &&& (1 : Int32))), .val (.int (p2 &&& (1 : Int32))), .val (.ref a1), .val (.int (ad 0 (p2 &&& (1 : Int32)) (ad 0 (p1 &&& (1 : Int32)) (ad 0 (p0 &&& (1 : Int32)) (0 : Int32))))), .val (.long (adL 0 (p2 &&& (1 : Int32)) p5 (adL 0 (p1 &&& (1 : Int32)) p4 (adL 0 (p0 &&& (1 : Int32)) p3 (0 : Int64))))), .second, .val (.long (((p3.toInt64) + (p4.toInt64)) + (p5.toInt64))), .second, .val (.int ((3 : Int32) - (ad 0 (p2 &&& (1 : Int32)) (ad 0 (p1 &&& (1 : Int32)) (ad 0 (p0 &&& (1 : Int32)) (0 : Int32)))))), .val (.long ((((p3.toInt64) + (p4.toInt64)) + (p5.toInt64)) - (adL 0 (p2 &&& (1 : Int32)) p5 (adL 0 (p1 &&& (1 : Int32)) p4 (adL 0 (p0 &&& (1 : Int32)) p3 (0 : Int64)))))), .second, .val (.int (1 : Int32))] [(.ref a1)]))
      refine Go.st (fun _ kq_ => XS.iconst X13.here hx rfl (hb hby at_266) kq_) ?_
      show Go p e below s _ _ _ (T13.setTop (mkF m 267 #[.val (.int p0), .val (.int p1), .val (.int p2), .val (.int p3), .val (.int p4), .val (.int p5), .val (.int (p0 &&& (1 : Int32))), .val (.int (p1 &&& (1 : Int32))), .val (.int (p2 &&& (1 : Int32))), .val (.ref a1), .val (.int (ad 0 (p2 &&& (1 : Int32)) (ad 0 (p1 &&& (1 : Int32)) (ad 0 (p0 &&& (1 : Int32)) (0 : Int32))))), .val (.long (adL 0 (p2 &&& (1 : Int32)) p5 (adL 0 (p1 &&& (1 : Int32)) p4 (adL 0 (p0 &&& (1 : Int32)) p3 (0 : Int64))))), .second, .val (.long (((p3.toInt64) + (p4.toInt64)) + (p5.toInt64))), .second, .val (.int ((3 : Int32) - (ad 0 (p2 &&& (1 : Int32)) (ad 0 (p1 &&& (1 : Int32)) (ad 0 (p0 &&& (1 : Int32)) (0 : Int32)))))), .val (.long ((((p3.toInt64) + (p4.toInt64)) + (p5.toInt64)) - (adL 0 (p2 &&& (1 : Int32)) p5 (adL 0 (p1 &&& (1 : Int32)) p4 (adL 0 (p0 &&& (1 : Int32)) p3 (0 : Int64)))))), .second, .val (.int (1 : Int32))] [(.int (-1 : Int32)), (.ref a1)]))
      obtain ⟨cq14, kq14, qa14, qb14, qc14⟩ := isOf hZ e13 E_a1
      obtain ⟨_, _, ⟨T14, L14, k14, n14⟩, -, X14, ⟨Lc14, hQ14, l14, y14, z14⟩, st14⟩ := X13.virtualBack hx (y := (⟨"com/example/element_ranker/elementranker/TagStatistics", "averageLength", "(I)D"⟩ : MethodName)) (z := (⟨"com/example/element_ranker/elementranker/TagStatistics", "averageLength", "(I)D"⟩ : MethodName)) hown (mvT hZ (own_w hw 29 rfl)) (mvT hZ (own_w hw 30 rfl)) (notFace_of_selects (args := #[]) (mvT hZ (own_w hw 32 rfl))) (mvT hZ (own_w hw 32 rfl)) (mvT hZ (own_w hw 31 rfl)) (by decide) (backOf (W := 0) (rmlm1 l Z a0 hw [] a1 b2 kb2 d2 kd2 (ad 0 (p2 &&& (1 : Int32)) (ad 0 (p1 &&& (1 : Int32)) (ad 0 (p0 &&& (1 : Int32)) (0 : Int32)))) (ad 1 (p2 &&& (1 : Int32)) (ad 1 (p1 &&& (1 : Int32)) (ad 1 (p0 &&& (1 : Int32)) (0 : Int32)))) (adL 0 (p2 &&& (1 : Int32)) p5 (adL 0 (p1 &&& (1 : Int32)) p4 (adL 0 (p0 &&& (1 : Int32)) p3 (0 : Int64)))) (adL 1 (p2 &&& (1 : Int32)) p5 (adL 1 (p1 &&& (1 : Int32)) p4 (adL 1 (p0 &&& (1 : Int32)) p3 (0 : Int64)))) ((((0 : Int32) + (1 : Int32)) + (1 : Int32)) + (1 : Int32)) ((((0 : Int64) + p3.toInt64) + p4.toInt64) + p5.toInt64) h6 n0 O6 E_a1 F_a1_elementCounts F_a1_totalLengths F_a1_elementCount F_a1_totalLength V_b2 V_d2) hZ (own_w hw 33 rfl) (own_w hw 2 rfl) (by decide) (by decide)) qa14 qc14 (g := (mkF m 267 #[.val (.int p0), .val (.int p1), .val (.int p2), .val (.int p3), .val (.int p4), .val (.int p5), .val (.int (p0 &&& (1 : Int32))), .val (.int (p1 &&& (1 : Int32))), .val (.int (p2 &&& (1 : Int32))), .val (.ref a1), .val (.int (ad 0 (p2 &&& (1 : Int32)) (ad 0 (p1 &&& (1 : Int32)) (ad 0 (p0 &&& (1 : Int32)) (0 : Int32))))), .val (.long (adL 0 (p2 &&& (1 : Int32)) p5 (adL 0 (p1 &&& (1 : Int32)) p4 (adL 0 (p0 &&& (1 : Int32)) p3 (0 : Int64))))), .second, .val (.long (((p3.toInt64) + (p4.toInt64)) + (p5.toInt64))), .second, .val (.int ((3 : Int32) - (ad 0 (p2 &&& (1 : Int32)) (ad 0 (p1 &&& (1 : Int32)) (ad 0 (p0 &&& (1 : Int32)) (0 : Int32)))))), .val (.long ((((p3.toInt64) + (p4.toInt64)) + (p5.toInt64)) - (adL 0 (p2 &&& (1 : Int32)) p5 (adL 0 (p1 &&& (1 : Int32)) p4 (adL 0 (p0 &&& (1 : Int32)) p3 (0 : Int64)))))), .second, .val (.int (1 : Int32))] [(.int (-1 : Int32)), (.ref a1)])) rfl (by rw [hml]; rfl) (Steps.refl _) (argsL := [(.int (-1 : Int32))]) (rest := []) (lenOf pd0_3 rfl) rfl (by show 2 * 0 + _ ≤ _; exact Nat.le_of_eq rfl) (hb hby at_267) (fun _ _ => ⟨rfl, e13, (by decide : 3 + 0 ≤ _), (by decide : 8 + 0 ≤ _)⟩)
      dsimp only [Pt.U, Pt.locs, Pt.cells, Pt.slots] at X14 l14 y14 z14 st14 hQ14
      subst l14 y14 z14
      obtain ⟨rfl, Nc14, e14⟩ := hQ14
      have N14 := Fr.app N13 Nc14
      refine Go.tr st14 ?_
      show Go p e below s _ _ _ (T14.setTop (mkF m 270 #[.val (.int p0), .val (.int p1), .val (.int p2), .val (.int p3), .val (.int p4), .val (.int p5), .val (.int (p0 &&& (1 : Int32))), .val (.int (p1 &&& (1 : Int32))), .val (.int (p2 &&& (1 : Int32))), .val (.ref a1), .val (.int (ad 0 (p2 &&& (1 : Int32)) (ad 0 (p1 &&& (1 : Int32)) (ad 0 (p0 &&& (1 : Int32)) (0 : Int32))))), .val (.long (adL 0 (p2 &&& (1 : Int32)) p5 (adL 0 (p1 &&& (1 : Int32)) p4 (adL 0 (p0 &&& (1 : Int32)) p3 (0 : Int64))))), .second, .val (.long (((p3.toInt64) + (p4.toInt64)) + (p5.toInt64))), .second, .val (.int ((3 : Int32) - (ad 0 (p2 &&& (1 : Int32)) (ad 0 (p1 &&& (1 : Int32)) (ad 0 (p0 &&& (1 : Int32)) (0 : Int32)))))), .val (.long ((((p3.toInt64) + (p4.toInt64)) + (p5.toInt64)) - (adL 0 (p2 &&& (1 : Int32)) p5 (adL 0 (p1 &&& (1 : Int32)) p4 (adL 0 (p0 &&& (1 : Int32)) p3 (0 : Int64)))))), .second, .val (.int (1 : Int32))] [(.double (fAvg ((((0 : Int64) + p3.toInt64) + p4.toInt64) + p5.toInt64) ((((0 : Int32) + (1 : Int32)) + (1 : Int32)) + (1 : Int32))))]))
      refine Go.st (fun _ kq_ => XT.lload X14.here hx rfl (hb hby at_270) rfl kq_) ?_
      show Go p e below s _ _ _ (T14.setTop (mkF m 272 #[.val (.int p0), .val (.int p1), .val (.int p2), .val (.int p3), .val (.int p4), .val (.int p5), .val (.int (p0 &&& (1 : Int32))), .val (.int (p1 &&& (1 : Int32))), .val (.int (p2 &&& (1 : Int32))), .val (.ref a1), .val (.int (ad 0 (p2 &&& (1 : Int32)) (ad 0 (p1 &&& (1 : Int32)) (ad 0 (p0 &&& (1 : Int32)) (0 : Int32))))), .val (.long (adL 0 (p2 &&& (1 : Int32)) p5 (adL 0 (p1 &&& (1 : Int32)) p4 (adL 0 (p0 &&& (1 : Int32)) p3 (0 : Int64))))), .second, .val (.long (((p3.toInt64) + (p4.toInt64)) + (p5.toInt64))), .second, .val (.int ((3 : Int32) - (ad 0 (p2 &&& (1 : Int32)) (ad 0 (p1 &&& (1 : Int32)) (ad 0 (p0 &&& (1 : Int32)) (0 : Int32)))))), .val (.long ((((p3.toInt64) + (p4.toInt64)) + (p5.toInt64)) - (adL 0 (p2 &&& (1 : Int32)) p5 (adL 0 (p1 &&& (1 : Int32)) p4 (adL 0 (p0 &&& (1 : Int32)) p3 (0 : Int64)))))), .second, .val (.int (1 : Int32))] [(.long (((p3.toInt64) + (p4.toInt64)) + (p5.toInt64))), (.double (fAvg ((((0 : Int64) + p3.toInt64) + p4.toInt64) + p5.toInt64) ((((0 : Int32) + (1 : Int32)) + (1 : Int32)) + (1 : Int32))))]))
      refine Go.st (fun _ kq_ => XS.iconst X14.here hx rfl (hb hby at_272) kq_) ?_
      show Go p e below s _ _ _ (T14.setTop (mkF m 273 #[.val (.int p0), .val (.int p1), .val (.int p2), .val (.int p3), .val (.int p4), .val (.int p5), .val (.int (p0 &&& (1 : Int32))), .val (.int (p1 &&& (1 : Int32))), .val (.int (p2 &&& (1 : Int32))), .val (.ref a1), .val (.int (ad 0 (p2 &&& (1 : Int32)) (ad 0 (p1 &&& (1 : Int32)) (ad 0 (p0 &&& (1 : Int32)) (0 : Int32))))), .val (.long (adL 0 (p2 &&& (1 : Int32)) p5 (adL 0 (p1 &&& (1 : Int32)) p4 (adL 0 (p0 &&& (1 : Int32)) p3 (0 : Int64))))), .second, .val (.long (((p3.toInt64) + (p4.toInt64)) + (p5.toInt64))), .second, .val (.int ((3 : Int32) - (ad 0 (p2 &&& (1 : Int32)) (ad 0 (p1 &&& (1 : Int32)) (ad 0 (p0 &&& (1 : Int32)) (0 : Int32)))))), .val (.long ((((p3.toInt64) + (p4.toInt64)) + (p5.toInt64)) - (adL 0 (p2 &&& (1 : Int32)) p5 (adL 0 (p1 &&& (1 : Int32)) p4 (adL 0 (p0 &&& (1 : Int32)) p3 (0 : Int64)))))), .second, .val (.int (1 : Int32))] [(.int (3 : Int32)), (.long (((p3.toInt64) + (p4.toInt64)) + (p5.toInt64))), (.double (fAvg ((((0 : Int64) + p3.toInt64) + p4.toInt64) + p5.toInt64) ((((0 : Int32) + (1 : Int32)) + (1 : Int32)) + (1 : Int32))))]))
      obtain ⟨_, _, ⟨T15, L15, k15, n15⟩, -, X15, ⟨Lc15, hQ15, l15, y15, z15⟩, st15⟩ := Jvm.LawKit.callS X14 hx (y := (⟨"com/example/element_ranker/elementranker/TagStatisticsAddPinLaw", "avg", "(JI)D"⟩ : MethodName)) hown (mvT hZ (own_w hw 35 rfl)) (mvT hZ (own_w hw 36 rfl)) (mvT hZ (own_w hw 37 rfl)) (mvT hZ (own_w hw 38 rfl)) (by decide) (backOf (W := 2) (rmv l Z a0 hw [] (((p3.toInt64) + (p4.toInt64)) + (p5.toInt64)) (3 : Int32) h6 n0 O6 ) hZ (own_w hw 38 rfl) (own_w hw 37 rfl) (by decide) (by decide)) (g := (mkF m 273 #[.val (.int p0), .val (.int p1), .val (.int p2), .val (.int p3), .val (.int p4), .val (.int p5), .val (.int (p0 &&& (1 : Int32))), .val (.int (p1 &&& (1 : Int32))), .val (.int (p2 &&& (1 : Int32))), .val (.ref a1), .val (.int (ad 0 (p2 &&& (1 : Int32)) (ad 0 (p1 &&& (1 : Int32)) (ad 0 (p0 &&& (1 : Int32)) (0 : Int32))))), .val (.long (adL 0 (p2 &&& (1 : Int32)) p5 (adL 0 (p1 &&& (1 : Int32)) p4 (adL 0 (p0 &&& (1 : Int32)) p3 (0 : Int64))))), .second, .val (.long (((p3.toInt64) + (p4.toInt64)) + (p5.toInt64))), .second, .val (.int ((3 : Int32) - (ad 0 (p2 &&& (1 : Int32)) (ad 0 (p1 &&& (1 : Int32)) (ad 0 (p0 &&& (1 : Int32)) (0 : Int32)))))), .val (.long ((((p3.toInt64) + (p4.toInt64)) + (p5.toInt64)) - (adL 0 (p2 &&& (1 : Int32)) p5 (adL 0 (p1 &&& (1 : Int32)) p4 (adL 0 (p0 &&& (1 : Int32)) p3 (0 : Int64)))))), .second, .val (.int (1 : Int32))] [(.int (3 : Int32)), (.long (((p3.toInt64) + (p4.toInt64)) + (p5.toInt64))), (.double (fAvg ((((0 : Int64) + p3.toInt64) + p4.toInt64) + p5.toInt64) ((((0 : Int32) + (1 : Int32)) + (1 : Int32)) + (1 : Int32))))])) rfl (by rw [hml]; rfl) (argsL := [(.long (((p3.toInt64) + (p4.toInt64)) + (p5.toInt64))), (.int (3 : Int32))]) (rest := [(.double (fAvg ((((0 : Int64) + p3.toInt64) + p4.toInt64) + p5.toInt64) ((((0 : Int32) + (1 : Int32)) + (1 : Int32)) + (1 : Int32))))]) (lenOf pd0_4 rfl) rfl (by show 2 * 0 + _ ≤ _; exact Nat.le_of_eq rfl) (hb hby at_273) (fun _ _ => ⟨rfl, e14, (by decide : 3 + 0 ≤ _), (by decide : 8 + 0 ≤ _)⟩)
      dsimp only [Pt.U, Pt.locs, Pt.cells, Pt.slots] at X15 l15 y15 z15 st15 hQ15
      subst l15 y15 z15
      obtain ⟨rfl, Nc15, e15⟩ := hQ15
      have N15 := Fr.app N14 Nc15
      refine Go.st st15 ?_
      show Go p e below s _ _ _ (T15.setTop (mkF m 276 #[.val (.int p0), .val (.int p1), .val (.int p2), .val (.int p3), .val (.int p4), .val (.int p5), .val (.int (p0 &&& (1 : Int32))), .val (.int (p1 &&& (1 : Int32))), .val (.int (p2 &&& (1 : Int32))), .val (.ref a1), .val (.int (ad 0 (p2 &&& (1 : Int32)) (ad 0 (p1 &&& (1 : Int32)) (ad 0 (p0 &&& (1 : Int32)) (0 : Int32))))), .val (.long (adL 0 (p2 &&& (1 : Int32)) p5 (adL 0 (p1 &&& (1 : Int32)) p4 (adL 0 (p0 &&& (1 : Int32)) p3 (0 : Int64))))), .second, .val (.long (((p3.toInt64) + (p4.toInt64)) + (p5.toInt64))), .second, .val (.int ((3 : Int32) - (ad 0 (p2 &&& (1 : Int32)) (ad 0 (p1 &&& (1 : Int32)) (ad 0 (p0 &&& (1 : Int32)) (0 : Int32)))))), .val (.long ((((p3.toInt64) + (p4.toInt64)) + (p5.toInt64)) - (adL 0 (p2 &&& (1 : Int32)) p5 (adL 0 (p1 &&& (1 : Int32)) p4 (adL 0 (p0 &&& (1 : Int32)) p3 (0 : Int64)))))), .second, .val (.int (1 : Int32))] [(.double (fAvg (((p3.toInt64) + (p4.toInt64)) + (p5.toInt64)) (3 : Int32))), (.double (fAvg ((((0 : Int64) + p3.toInt64) + p4.toInt64) + p5.toInt64) ((((0 : Int32) + (1 : Int32)) + (1 : Int32)) + (1 : Int32))))]))
      refine Go.st (fun _ kq_ => XS.dcmpS X15.here hx rfl (hb hby at_276) rfl (dcmpV_eq (by rw [own_tl]; rfl) (own_avg _ _) _) kq_) ?_
      show Go p e below s _ _ _ (T15.setTop (mkF m 277 #[.val (.int p0), .val (.int p1), .val (.int p2), .val (.int p3), .val (.int p4), .val (.int p5), .val (.int (p0 &&& (1 : Int32))), .val (.int (p1 &&& (1 : Int32))), .val (.int (p2 &&& (1 : Int32))), .val (.ref a1), .val (.int (ad 0 (p2 &&& (1 : Int32)) (ad 0 (p1 &&& (1 : Int32)) (ad 0 (p0 &&& (1 : Int32)) (0 : Int32))))), .val (.long (adL 0 (p2 &&& (1 : Int32)) p5 (adL 0 (p1 &&& (1 : Int32)) p4 (adL 0 (p0 &&& (1 : Int32)) p3 (0 : Int64))))), .second, .val (.long (((p3.toInt64) + (p4.toInt64)) + (p5.toInt64))), .second, .val (.int ((3 : Int32) - (ad 0 (p2 &&& (1 : Int32)) (ad 0 (p1 &&& (1 : Int32)) (ad 0 (p0 &&& (1 : Int32)) (0 : Int32)))))), .val (.long ((((p3.toInt64) + (p4.toInt64)) + (p5.toInt64)) - (adL 0 (p2 &&& (1 : Int32)) p5 (adL 0 (p1 &&& (1 : Int32)) p4 (adL 0 (p0 &&& (1 : Int32)) p3 (0 : Int64)))))), .second, .val (.int (1 : Int32))] [(.int (0 : Int32))]))
      refine Go.st (fun _ kq_ => XS.ifNo X15.here hx rfl (hb hby at_277) rfl (by decide) kq_) ?_
      show Go p e below s _ _ _ (T15.setTop (mkF m 280 #[.val (.int p0), .val (.int p1), .val (.int p2), .val (.int p3), .val (.int p4), .val (.int p5), .val (.int (p0 &&& (1 : Int32))), .val (.int (p1 &&& (1 : Int32))), .val (.int (p2 &&& (1 : Int32))), .val (.ref a1), .val (.int (ad 0 (p2 &&& (1 : Int32)) (ad 0 (p1 &&& (1 : Int32)) (ad 0 (p0 &&& (1 : Int32)) (0 : Int32))))), .val (.long (adL 0 (p2 &&& (1 : Int32)) p5 (adL 0 (p1 &&& (1 : Int32)) p4 (adL 0 (p0 &&& (1 : Int32)) p3 (0 : Int64))))), .second, .val (.long (((p3.toInt64) + (p4.toInt64)) + (p5.toInt64))), .second, .val (.int ((3 : Int32) - (ad 0 (p2 &&& (1 : Int32)) (ad 0 (p1 &&& (1 : Int32)) (ad 0 (p0 &&& (1 : Int32)) (0 : Int32)))))), .val (.long ((((p3.toInt64) + (p4.toInt64)) + (p5.toInt64)) - (adL 0 (p2 &&& (1 : Int32)) p5 (adL 0 (p1 &&& (1 : Int32)) p4 (adL 0 (p0 &&& (1 : Int32)) p3 (0 : Int64)))))), .second, .val (.int (1 : Int32))] []))
      refine Go.st (fun _ kq_ => XS.iconst X15.here hx rfl (hb hby at_280) kq_) ?_
      show Go p e below s _ _ _ (T15.setTop (mkF m 281 #[.val (.int p0), .val (.int p1), .val (.int p2), .val (.int p3), .val (.int p4), .val (.int p5), .val (.int (p0 &&& (1 : Int32))), .val (.int (p1 &&& (1 : Int32))), .val (.int (p2 &&& (1 : Int32))), .val (.ref a1), .val (.int (ad 0 (p2 &&& (1 : Int32)) (ad 0 (p1 &&& (1 : Int32)) (ad 0 (p0 &&& (1 : Int32)) (0 : Int32))))), .val (.long (adL 0 (p2 &&& (1 : Int32)) p5 (adL 0 (p1 &&& (1 : Int32)) p4 (adL 0 (p0 &&& (1 : Int32)) p3 (0 : Int64))))), .second, .val (.long (((p3.toInt64) + (p4.toInt64)) + (p5.toInt64))), .second, .val (.int ((3 : Int32) - (ad 0 (p2 &&& (1 : Int32)) (ad 0 (p1 &&& (1 : Int32)) (ad 0 (p0 &&& (1 : Int32)) (0 : Int32)))))), .val (.long ((((p3.toInt64) + (p4.toInt64)) + (p5.toInt64)) - (adL 0 (p2 &&& (1 : Int32)) p5 (adL 0 (p1 &&& (1 : Int32)) p4 (adL 0 (p0 &&& (1 : Int32)) p3 (0 : Int64)))))), .second, .val (.int (1 : Int32))] [(.int (1 : Int32))]))
      refine Go.st (fun _ kq_ => XS.goto X15.here hx rfl (pc0 := 281) (pc' := 285) rfl (hb hby at_281) (by decide) (by decide) kq_) ?_
      show Go p e below s _ _ _ (T15.setTop (mkF m 285 #[.val (.int p0), .val (.int p1), .val (.int p2), .val (.int p3), .val (.int p4), .val (.int p5), .val (.int (p0 &&& (1 : Int32))), .val (.int (p1 &&& (1 : Int32))), .val (.int (p2 &&& (1 : Int32))), .val (.ref a1), .val (.int (ad 0 (p2 &&& (1 : Int32)) (ad 0 (p1 &&& (1 : Int32)) (ad 0 (p0 &&& (1 : Int32)) (0 : Int32))))), .val (.long (adL 0 (p2 &&& (1 : Int32)) p5 (adL 0 (p1 &&& (1 : Int32)) p4 (adL 0 (p0 &&& (1 : Int32)) p3 (0 : Int64))))), .second, .val (.long (((p3.toInt64) + (p4.toInt64)) + (p5.toInt64))), .second, .val (.int ((3 : Int32) - (ad 0 (p2 &&& (1 : Int32)) (ad 0 (p1 &&& (1 : Int32)) (ad 0 (p0 &&& (1 : Int32)) (0 : Int32)))))), .val (.long ((((p3.toInt64) + (p4.toInt64)) + (p5.toInt64)) - (adL 0 (p2 &&& (1 : Int32)) p5 (adL 0 (p1 &&& (1 : Int32)) p4 (adL 0 (p0 &&& (1 : Int32)) p3 (0 : Int64)))))), .second, .val (.int (1 : Int32))] [(.int (1 : Int32))]))
      refine Go.st (fun _ kq_ => XS.istore X15.here hx rfl (hb hby at_285) rfl (l' := #[.val (.int p0), .val (.int p1), .val (.int p2), .val (.int p3), .val (.int p4), .val (.int p5), .val (.int (p0 &&& (1 : Int32))), .val (.int (p1 &&& (1 : Int32))), .val (.int (p2 &&& (1 : Int32))), .val (.ref a1), .val (.int (ad 0 (p2 &&& (1 : Int32)) (ad 0 (p1 &&& (1 : Int32)) (ad 0 (p0 &&& (1 : Int32)) (0 : Int32))))), .val (.long (adL 0 (p2 &&& (1 : Int32)) p5 (adL 0 (p1 &&& (1 : Int32)) p4 (adL 0 (p0 &&& (1 : Int32)) p3 (0 : Int64))))), .second, .val (.long (((p3.toInt64) + (p4.toInt64)) + (p5.toInt64))), .second, .val (.int ((3 : Int32) - (ad 0 (p2 &&& (1 : Int32)) (ad 0 (p1 &&& (1 : Int32)) (ad 0 (p0 &&& (1 : Int32)) (0 : Int32)))))), .val (.long ((((p3.toInt64) + (p4.toInt64)) + (p5.toInt64)) - (adL 0 (p2 &&& (1 : Int32)) p5 (adL 0 (p1 &&& (1 : Int32)) p4 (adL 0 (p0 &&& (1 : Int32)) p3 (0 : Int64)))))), .second, .val (.int (1 : Int32))]) rfl kq_) ?_
      show Go p e below s _ _ _ (T15.setTop (mkF m 287 #[.val (.int p0), .val (.int p1), .val (.int p2), .val (.int p3), .val (.int p4), .val (.int p5), .val (.int (p0 &&& (1 : Int32))), .val (.int (p1 &&& (1 : Int32))), .val (.int (p2 &&& (1 : Int32))), .val (.ref a1), .val (.int (ad 0 (p2 &&& (1 : Int32)) (ad 0 (p1 &&& (1 : Int32)) (ad 0 (p0 &&& (1 : Int32)) (0 : Int32))))), .val (.long (adL 0 (p2 &&& (1 : Int32)) p5 (adL 0 (p1 &&& (1 : Int32)) p4 (adL 0 (p0 &&& (1 : Int32)) p3 (0 : Int64))))), .second, .val (.long (((p3.toInt64) + (p4.toInt64)) + (p5.toInt64))), .second, .val (.int ((3 : Int32) - (ad 0 (p2 &&& (1 : Int32)) (ad 0 (p1 &&& (1 : Int32)) (ad 0 (p0 &&& (1 : Int32)) (0 : Int32)))))), .val (.long ((((p3.toInt64) + (p4.toInt64)) + (p5.toInt64)) - (adL 0 (p2 &&& (1 : Int32)) p5 (adL 0 (p1 &&& (1 : Int32)) p4 (adL 0 (p0 &&& (1 : Int32)) p3 (0 : Int64)))))), .second, .val (.int (1 : Int32))] []))
      refine Go.st (fun _ kq_ => XS.iload X15.here hx rfl (hb hby at_287) rfl kq_) ?_
      show Go p e below s _ _ _ (T15.setTop (mkF m 289 #[.val (.int p0), .val (.int p1), .val (.int p2), .val (.int p3), .val (.int p4), .val (.int p5), .val (.int (p0 &&& (1 : Int32))), .val (.int (p1 &&& (1 : Int32))), .val (.int (p2 &&& (1 : Int32))), .val (.ref a1), .val (.int (ad 0 (p2 &&& (1 : Int32)) (ad 0 (p1 &&& (1 : Int32)) (ad 0 (p0 &&& (1 : Int32)) (0 : Int32))))), .val (.long (adL 0 (p2 &&& (1 : Int32)) p5 (adL 0 (p1 &&& (1 : Int32)) p4 (adL 0 (p0 &&& (1 : Int32)) p3 (0 : Int64))))), .second, .val (.long (((p3.toInt64) + (p4.toInt64)) + (p5.toInt64))), .second, .val (.int ((3 : Int32) - (ad 0 (p2 &&& (1 : Int32)) (ad 0 (p1 &&& (1 : Int32)) (ad 0 (p0 &&& (1 : Int32)) (0 : Int32)))))), .val (.long ((((p3.toInt64) + (p4.toInt64)) + (p5.toInt64)) - (adL 0 (p2 &&& (1 : Int32)) p5 (adL 0 (p1 &&& (1 : Int32)) p4 (adL 0 (p0 &&& (1 : Int32)) p3 (0 : Int64)))))), .second, .val (.int (1 : Int32))] [(.int (1 : Int32))]))
      exact Go.ret X15 hlk (some (.int (nar .boolean (1 : Int32)))) (fun h => by rw [Bd.returns] at h; cases h) (by rw [e15]; exact ⟨rfl, N15⟩) (by decide) (by decide) (fun fs hr => retN X15 hx (t := .boolean) Bd.returns (by simp) (hb hby at_289) hr)
    show Go p e below s room_1.cells room_1.slots (Q0 Z p0 p1 p2 p3 p4 p5 h0 n0) (T5.setTop (mkF m 57 #[.val (.int p0), .val (.int p1), .val (.int p2), .val (.int p3), .val (.int p4), .val (.int p5), .val (.int (p0 &&& (1 : Int32))), .val (.int (p1 &&& (1 : Int32))), .val (.int (p2 &&& (1 : Int32))), .val (.ref a1), .val (.int (0 : Int32)), .val (.long (0 : Int64)), .second, .unset, .unset, .unset, .unset, .unset, .unset] []))
    refine Go.st (fun _ kq_ => XS.iload X5.here hx rfl (hb hby at_57) rfl kq_) ?_
    show Go p e below s _ _ _ (T5.setTop (mkF m 59 #[.val (.int p0), .val (.int p1), .val (.int p2), .val (.int p3), .val (.int p4), .val (.int p5), .val (.int (p0 &&& (1 : Int32))), .val (.int (p1 &&& (1 : Int32))), .val (.int (p2 &&& (1 : Int32))), .val (.ref a1), .val (.int (0 : Int32)), .val (.long (0 : Int64)), .second, .unset, .unset, .unset, .unset, .unset, .unset] [(.int (p0 &&& (1 : Int32)))]))
    by_cases c59_16 : (p0 &&& (1 : Int32)) = (0 : Int32)
    · refine Go.st (fun _ kq_ => XS.ifNo X5.here hx rfl (hb hby at_59) rfl (XT.i0_ne_f c59_16) kq_) ?_
      show Go p e below s _ _ _ (T5.setTop (mkF m 62 #[.val (.int p0), .val (.int p1), .val (.int p2), .val (.int p3), .val (.int p4), .val (.int p5), .val (.int (p0 &&& (1 : Int32))), .val (.int (p1 &&& (1 : Int32))), .val (.int (p2 &&& (1 : Int32))), .val (.ref a1), .val (.int (0 : Int32)), .val (.long (0 : Int64)), .second, .unset, .unset, .unset, .unset, .unset, .unset] []))
      refine Go.st (fun _ kq_ => XS.iload X5.here hx rfl (hb hby at_62) rfl kq_) ?_
      show Go p e below s _ _ _ (T5.setTop (mkF m 64 #[.val (.int p0), .val (.int p1), .val (.int p2), .val (.int p3), .val (.int p4), .val (.int p5), .val (.int (p0 &&& (1 : Int32))), .val (.int (p1 &&& (1 : Int32))), .val (.int (p2 &&& (1 : Int32))), .val (.ref a1), .val (.int (0 : Int32)), .val (.long (0 : Int64)), .second, .unset, .unset, .unset, .unset, .unset, .unset] [(.int (0 : Int32))]))
      refine Go.st (fun _ kq_ => XS.iconst X5.here hx rfl (hb hby at_64) kq_) ?_
      show Go p e below s _ _ _ (T5.setTop (mkF m 65 #[.val (.int p0), .val (.int p1), .val (.int p2), .val (.int p3), .val (.int p4), .val (.int p5), .val (.int (p0 &&& (1 : Int32))), .val (.int (p1 &&& (1 : Int32))), .val (.int (p2 &&& (1 : Int32))), .val (.ref a1), .val (.int (0 : Int32)), .val (.long (0 : Int64)), .second, .unset, .unset, .unset, .unset, .unset, .unset] [(.int (1 : Int32)), (.int (0 : Int32))]))
      refine Go.st (fun _ kq_ => XS.iadd X5.here hx rfl (hb hby at_65) rfl kq_) ?_
      show Go p e below s _ _ _ (T5.setTop (mkF m 66 #[.val (.int p0), .val (.int p1), .val (.int p2), .val (.int p3), .val (.int p4), .val (.int p5), .val (.int (p0 &&& (1 : Int32))), .val (.int (p1 &&& (1 : Int32))), .val (.int (p2 &&& (1 : Int32))), .val (.ref a1), .val (.int (0 : Int32)), .val (.long (0 : Int64)), .second, .unset, .unset, .unset, .unset, .unset, .unset] [(.int (1 : Int32))]))
      refine Go.st (fun _ kq_ => XS.istore X5.here hx rfl (hb hby at_66) rfl (l' := #[.val (.int p0), .val (.int p1), .val (.int p2), .val (.int p3), .val (.int p4), .val (.int p5), .val (.int (p0 &&& (1 : Int32))), .val (.int (p1 &&& (1 : Int32))), .val (.int (p2 &&& (1 : Int32))), .val (.ref a1), .val (.int (1 : Int32)), .val (.long (0 : Int64)), .second, .unset, .unset, .unset, .unset, .unset, .unset]) rfl kq_) ?_
      show Go p e below s _ _ _ (T5.setTop (mkF m 68 #[.val (.int p0), .val (.int p1), .val (.int p2), .val (.int p3), .val (.int p4), .val (.int p5), .val (.int (p0 &&& (1 : Int32))), .val (.int (p1 &&& (1 : Int32))), .val (.int (p2 &&& (1 : Int32))), .val (.ref a1), .val (.int (1 : Int32)), .val (.long (0 : Int64)), .second, .unset, .unset, .unset, .unset, .unset, .unset] []))
      refine Go.st (fun _ kq_ => XT.lload X5.here hx rfl (hb hby at_68) rfl kq_) ?_
      show Go p e below s _ _ _ (T5.setTop (mkF m 70 #[.val (.int p0), .val (.int p1), .val (.int p2), .val (.int p3), .val (.int p4), .val (.int p5), .val (.int (p0 &&& (1 : Int32))), .val (.int (p1 &&& (1 : Int32))), .val (.int (p2 &&& (1 : Int32))), .val (.ref a1), .val (.int (1 : Int32)), .val (.long (0 : Int64)), .second, .unset, .unset, .unset, .unset, .unset, .unset] [(.long (0 : Int64))]))
      refine Go.st (fun _ kq_ => XS.iloadN X5.here hx rfl (hb hby at_70) rfl kq_) ?_
      show Go p e below s _ _ _ (T5.setTop (mkF m 71 #[.val (.int p0), .val (.int p1), .val (.int p2), .val (.int p3), .val (.int p4), .val (.int p5), .val (.int (p0 &&& (1 : Int32))), .val (.int (p1 &&& (1 : Int32))), .val (.int (p2 &&& (1 : Int32))), .val (.ref a1), .val (.int (1 : Int32)), .val (.long (0 : Int64)), .second, .unset, .unset, .unset, .unset, .unset, .unset] [(.int p3), (.long (0 : Int64))]))
      refine Go.st (fun _ kq_ => XT.i2l X5.here hx rfl (hb hby at_71) rfl kq_) ?_
      show Go p e below s _ _ _ (T5.setTop (mkF m 72 #[.val (.int p0), .val (.int p1), .val (.int p2), .val (.int p3), .val (.int p4), .val (.int p5), .val (.int (p0 &&& (1 : Int32))), .val (.int (p1 &&& (1 : Int32))), .val (.int (p2 &&& (1 : Int32))), .val (.ref a1), .val (.int (1 : Int32)), .val (.long (0 : Int64)), .second, .unset, .unset, .unset, .unset, .unset, .unset] [(.long (p3.toInt64)), (.long (0 : Int64))]))
      refine Go.st (fun _ kq_ => XT.ladd X5.here hx rfl (hb hby at_72) rfl kq_) ?_
      show Go p e below s _ _ _ (T5.setTop (mkF m 73 #[.val (.int p0), .val (.int p1), .val (.int p2), .val (.int p3), .val (.int p4), .val (.int p5), .val (.int (p0 &&& (1 : Int32))), .val (.int (p1 &&& (1 : Int32))), .val (.int (p2 &&& (1 : Int32))), .val (.ref a1), .val (.int (1 : Int32)), .val (.long (0 : Int64)), .second, .unset, .unset, .unset, .unset, .unset, .unset] [(.long ((0 : Int64) + (p3.toInt64)))]))
      refine Go.st (fun _ kq_ => XT.lstore X5.here hx rfl (hb hby at_73) rfl (l' := #[.val (.int p0), .val (.int p1), .val (.int p2), .val (.int p3), .val (.int p4), .val (.int p5), .val (.int (p0 &&& (1 : Int32))), .val (.int (p1 &&& (1 : Int32))), .val (.int (p2 &&& (1 : Int32))), .val (.ref a1), .val (.int (1 : Int32)), .val (.long ((0 : Int64) + (p3.toInt64))), .second, .unset, .unset, .unset, .unset, .unset, .unset]) rfl kq_) ?_
      show Go p e below s _ _ _ (T5.setTop (mkF m 75 #[.val (.int p0), .val (.int p1), .val (.int p2), .val (.int p3), .val (.int p4), .val (.int p5), .val (.int (p0 &&& (1 : Int32))), .val (.int (p1 &&& (1 : Int32))), .val (.int (p2 &&& (1 : Int32))), .val (.ref a1), .val (.int (1 : Int32)), .val (.long ((0 : Int64) + (p3.toInt64))), .second, .unset, .unset, .unset, .unset, .unset, .unset] []))
      refine Go.st (fun _ kq_ => XS.iload X5.here hx rfl (hb hby at_75) rfl kq_) ?_
      show Go p e below s _ _ _ (T5.setTop (mkF m 77 #[.val (.int p0), .val (.int p1), .val (.int p2), .val (.int p3), .val (.int p4), .val (.int p5), .val (.int (p0 &&& (1 : Int32))), .val (.int (p1 &&& (1 : Int32))), .val (.int (p2 &&& (1 : Int32))), .val (.ref a1), .val (.int (1 : Int32)), .val (.long ((0 : Int64) + (p3.toInt64))), .second, .unset, .unset, .unset, .unset, .unset, .unset] [(.int (p1 &&& (1 : Int32)))]))
      by_cases c77_17 : (p1 &&& (1 : Int32)) = (0 : Int32)
      · refine Go.st (fun _ kq_ => XS.ifNo X5.here hx rfl (hb hby at_77) rfl (XT.i0_ne_f c77_17) kq_) ?_
        show Go p e below s _ _ _ (T5.setTop (mkF m 80 #[.val (.int p0), .val (.int p1), .val (.int p2), .val (.int p3), .val (.int p4), .val (.int p5), .val (.int (p0 &&& (1 : Int32))), .val (.int (p1 &&& (1 : Int32))), .val (.int (p2 &&& (1 : Int32))), .val (.ref a1), .val (.int (1 : Int32)), .val (.long ((0 : Int64) + (p3.toInt64))), .second, .unset, .unset, .unset, .unset, .unset, .unset] []))
        refine Go.st (fun _ kq_ => XS.iload X5.here hx rfl (hb hby at_80) rfl kq_) ?_
        show Go p e below s _ _ _ (T5.setTop (mkF m 82 #[.val (.int p0), .val (.int p1), .val (.int p2), .val (.int p3), .val (.int p4), .val (.int p5), .val (.int (p0 &&& (1 : Int32))), .val (.int (p1 &&& (1 : Int32))), .val (.int (p2 &&& (1 : Int32))), .val (.ref a1), .val (.int (1 : Int32)), .val (.long ((0 : Int64) + (p3.toInt64))), .second, .unset, .unset, .unset, .unset, .unset, .unset] [(.int (1 : Int32))]))
        refine Go.st (fun _ kq_ => XS.iconst X5.here hx rfl (hb hby at_82) kq_) ?_
        show Go p e below s _ _ _ (T5.setTop (mkF m 83 #[.val (.int p0), .val (.int p1), .val (.int p2), .val (.int p3), .val (.int p4), .val (.int p5), .val (.int (p0 &&& (1 : Int32))), .val (.int (p1 &&& (1 : Int32))), .val (.int (p2 &&& (1 : Int32))), .val (.ref a1), .val (.int (1 : Int32)), .val (.long ((0 : Int64) + (p3.toInt64))), .second, .unset, .unset, .unset, .unset, .unset, .unset] [(.int (1 : Int32)), (.int (1 : Int32))]))
        refine Go.st (fun _ kq_ => XS.iadd X5.here hx rfl (hb hby at_83) rfl kq_) ?_
        show Go p e below s _ _ _ (T5.setTop (mkF m 84 #[.val (.int p0), .val (.int p1), .val (.int p2), .val (.int p3), .val (.int p4), .val (.int p5), .val (.int (p0 &&& (1 : Int32))), .val (.int (p1 &&& (1 : Int32))), .val (.int (p2 &&& (1 : Int32))), .val (.ref a1), .val (.int (1 : Int32)), .val (.long ((0 : Int64) + (p3.toInt64))), .second, .unset, .unset, .unset, .unset, .unset, .unset] [(.int (2 : Int32))]))
        refine Go.st (fun _ kq_ => XS.istore X5.here hx rfl (hb hby at_84) rfl (l' := #[.val (.int p0), .val (.int p1), .val (.int p2), .val (.int p3), .val (.int p4), .val (.int p5), .val (.int (p0 &&& (1 : Int32))), .val (.int (p1 &&& (1 : Int32))), .val (.int (p2 &&& (1 : Int32))), .val (.ref a1), .val (.int (2 : Int32)), .val (.long ((0 : Int64) + (p3.toInt64))), .second, .unset, .unset, .unset, .unset, .unset, .unset]) rfl kq_) ?_
        show Go p e below s _ _ _ (T5.setTop (mkF m 86 #[.val (.int p0), .val (.int p1), .val (.int p2), .val (.int p3), .val (.int p4), .val (.int p5), .val (.int (p0 &&& (1 : Int32))), .val (.int (p1 &&& (1 : Int32))), .val (.int (p2 &&& (1 : Int32))), .val (.ref a1), .val (.int (2 : Int32)), .val (.long ((0 : Int64) + (p3.toInt64))), .second, .unset, .unset, .unset, .unset, .unset, .unset] []))
        refine Go.st (fun _ kq_ => XT.lload X5.here hx rfl (hb hby at_86) rfl kq_) ?_
        show Go p e below s _ _ _ (T5.setTop (mkF m 88 #[.val (.int p0), .val (.int p1), .val (.int p2), .val (.int p3), .val (.int p4), .val (.int p5), .val (.int (p0 &&& (1 : Int32))), .val (.int (p1 &&& (1 : Int32))), .val (.int (p2 &&& (1 : Int32))), .val (.ref a1), .val (.int (2 : Int32)), .val (.long ((0 : Int64) + (p3.toInt64))), .second, .unset, .unset, .unset, .unset, .unset, .unset] [(.long ((0 : Int64) + (p3.toInt64)))]))
        refine Go.st (fun _ kq_ => XS.iload X5.here hx rfl (hb hby at_88) rfl kq_) ?_
        show Go p e below s _ _ _ (T5.setTop (mkF m 90 #[.val (.int p0), .val (.int p1), .val (.int p2), .val (.int p3), .val (.int p4), .val (.int p5), .val (.int (p0 &&& (1 : Int32))), .val (.int (p1 &&& (1 : Int32))), .val (.int (p2 &&& (1 : Int32))), .val (.ref a1), .val (.int (2 : Int32)), .val (.long ((0 : Int64) + (p3.toInt64))), .second, .unset, .unset, .unset, .unset, .unset, .unset] [(.int p4), (.long ((0 : Int64) + (p3.toInt64)))]))
        refine Go.st (fun _ kq_ => XT.i2l X5.here hx rfl (hb hby at_90) rfl kq_) ?_
        show Go p e below s _ _ _ (T5.setTop (mkF m 91 #[.val (.int p0), .val (.int p1), .val (.int p2), .val (.int p3), .val (.int p4), .val (.int p5), .val (.int (p0 &&& (1 : Int32))), .val (.int (p1 &&& (1 : Int32))), .val (.int (p2 &&& (1 : Int32))), .val (.ref a1), .val (.int (2 : Int32)), .val (.long ((0 : Int64) + (p3.toInt64))), .second, .unset, .unset, .unset, .unset, .unset, .unset] [(.long (p4.toInt64)), (.long ((0 : Int64) + (p3.toInt64)))]))
        refine Go.st (fun _ kq_ => XT.ladd X5.here hx rfl (hb hby at_91) rfl kq_) ?_
        show Go p e below s _ _ _ (T5.setTop (mkF m 92 #[.val (.int p0), .val (.int p1), .val (.int p2), .val (.int p3), .val (.int p4), .val (.int p5), .val (.int (p0 &&& (1 : Int32))), .val (.int (p1 &&& (1 : Int32))), .val (.int (p2 &&& (1 : Int32))), .val (.ref a1), .val (.int (2 : Int32)), .val (.long ((0 : Int64) + (p3.toInt64))), .second, .unset, .unset, .unset, .unset, .unset, .unset] [(.long (((0 : Int64) + (p3.toInt64)) + (p4.toInt64)))]))
        refine Go.st (fun _ kq_ => XT.lstore X5.here hx rfl (hb hby at_92) rfl (l' := #[.val (.int p0), .val (.int p1), .val (.int p2), .val (.int p3), .val (.int p4), .val (.int p5), .val (.int (p0 &&& (1 : Int32))), .val (.int (p1 &&& (1 : Int32))), .val (.int (p2 &&& (1 : Int32))), .val (.ref a1), .val (.int (2 : Int32)), .val (.long (((0 : Int64) + (p3.toInt64)) + (p4.toInt64))), .second, .unset, .unset, .unset, .unset, .unset, .unset]) rfl kq_) ?_
        show Go p e below s _ _ _ (T5.setTop (mkF m 94 #[.val (.int p0), .val (.int p1), .val (.int p2), .val (.int p3), .val (.int p4), .val (.int p5), .val (.int (p0 &&& (1 : Int32))), .val (.int (p1 &&& (1 : Int32))), .val (.int (p2 &&& (1 : Int32))), .val (.ref a1), .val (.int (2 : Int32)), .val (.long (((0 : Int64) + (p3.toInt64)) + (p4.toInt64))), .second, .unset, .unset, .unset, .unset, .unset, .unset] []))
        refine Go.st (fun _ kq_ => XS.iload X5.here hx rfl (hb hby at_94) rfl kq_) ?_
        show Go p e below s _ _ _ (T5.setTop (mkF m 96 #[.val (.int p0), .val (.int p1), .val (.int p2), .val (.int p3), .val (.int p4), .val (.int p5), .val (.int (p0 &&& (1 : Int32))), .val (.int (p1 &&& (1 : Int32))), .val (.int (p2 &&& (1 : Int32))), .val (.ref a1), .val (.int (2 : Int32)), .val (.long (((0 : Int64) + (p3.toInt64)) + (p4.toInt64))), .second, .unset, .unset, .unset, .unset, .unset, .unset] [(.int (p2 &&& (1 : Int32)))]))
        by_cases c96_18 : (p2 &&& (1 : Int32)) = (0 : Int32)
        · refine Go.st (fun _ kq_ => XS.ifNo X5.here hx rfl (hb hby at_96) rfl (XT.i0_ne_f c96_18) kq_) ?_
          show Go p e below s _ _ _ (T5.setTop (mkF m 99 #[.val (.int p0), .val (.int p1), .val (.int p2), .val (.int p3), .val (.int p4), .val (.int p5), .val (.int (p0 &&& (1 : Int32))), .val (.int (p1 &&& (1 : Int32))), .val (.int (p2 &&& (1 : Int32))), .val (.ref a1), .val (.int (2 : Int32)), .val (.long (((0 : Int64) + (p3.toInt64)) + (p4.toInt64))), .second, .unset, .unset, .unset, .unset, .unset, .unset] []))
          refine Go.st (fun _ kq_ => XS.iload X5.here hx rfl (hb hby at_99) rfl kq_) ?_
          show Go p e below s _ _ _ (T5.setTop (mkF m 101 #[.val (.int p0), .val (.int p1), .val (.int p2), .val (.int p3), .val (.int p4), .val (.int p5), .val (.int (p0 &&& (1 : Int32))), .val (.int (p1 &&& (1 : Int32))), .val (.int (p2 &&& (1 : Int32))), .val (.ref a1), .val (.int (2 : Int32)), .val (.long (((0 : Int64) + (p3.toInt64)) + (p4.toInt64))), .second, .unset, .unset, .unset, .unset, .unset, .unset] [(.int (2 : Int32))]))
          refine Go.st (fun _ kq_ => XS.iconst X5.here hx rfl (hb hby at_101) kq_) ?_
          show Go p e below s _ _ _ (T5.setTop (mkF m 102 #[.val (.int p0), .val (.int p1), .val (.int p2), .val (.int p3), .val (.int p4), .val (.int p5), .val (.int (p0 &&& (1 : Int32))), .val (.int (p1 &&& (1 : Int32))), .val (.int (p2 &&& (1 : Int32))), .val (.ref a1), .val (.int (2 : Int32)), .val (.long (((0 : Int64) + (p3.toInt64)) + (p4.toInt64))), .second, .unset, .unset, .unset, .unset, .unset, .unset] [(.int (1 : Int32)), (.int (2 : Int32))]))
          refine Go.st (fun _ kq_ => XS.iadd X5.here hx rfl (hb hby at_102) rfl kq_) ?_
          show Go p e below s _ _ _ (T5.setTop (mkF m 103 #[.val (.int p0), .val (.int p1), .val (.int p2), .val (.int p3), .val (.int p4), .val (.int p5), .val (.int (p0 &&& (1 : Int32))), .val (.int (p1 &&& (1 : Int32))), .val (.int (p2 &&& (1 : Int32))), .val (.ref a1), .val (.int (2 : Int32)), .val (.long (((0 : Int64) + (p3.toInt64)) + (p4.toInt64))), .second, .unset, .unset, .unset, .unset, .unset, .unset] [(.int (3 : Int32))]))
          refine Go.st (fun _ kq_ => XS.istore X5.here hx rfl (hb hby at_103) rfl (l' := #[.val (.int p0), .val (.int p1), .val (.int p2), .val (.int p3), .val (.int p4), .val (.int p5), .val (.int (p0 &&& (1 : Int32))), .val (.int (p1 &&& (1 : Int32))), .val (.int (p2 &&& (1 : Int32))), .val (.ref a1), .val (.int (3 : Int32)), .val (.long (((0 : Int64) + (p3.toInt64)) + (p4.toInt64))), .second, .unset, .unset, .unset, .unset, .unset, .unset]) rfl kq_) ?_
          show Go p e below s _ _ _ (T5.setTop (mkF m 105 #[.val (.int p0), .val (.int p1), .val (.int p2), .val (.int p3), .val (.int p4), .val (.int p5), .val (.int (p0 &&& (1 : Int32))), .val (.int (p1 &&& (1 : Int32))), .val (.int (p2 &&& (1 : Int32))), .val (.ref a1), .val (.int (3 : Int32)), .val (.long (((0 : Int64) + (p3.toInt64)) + (p4.toInt64))), .second, .unset, .unset, .unset, .unset, .unset, .unset] []))
          refine Go.st (fun _ kq_ => XT.lload X5.here hx rfl (hb hby at_105) rfl kq_) ?_
          show Go p e below s _ _ _ (T5.setTop (mkF m 107 #[.val (.int p0), .val (.int p1), .val (.int p2), .val (.int p3), .val (.int p4), .val (.int p5), .val (.int (p0 &&& (1 : Int32))), .val (.int (p1 &&& (1 : Int32))), .val (.int (p2 &&& (1 : Int32))), .val (.ref a1), .val (.int (3 : Int32)), .val (.long (((0 : Int64) + (p3.toInt64)) + (p4.toInt64))), .second, .unset, .unset, .unset, .unset, .unset, .unset] [(.long (((0 : Int64) + (p3.toInt64)) + (p4.toInt64)))]))
          refine Go.st (fun _ kq_ => XS.iload X5.here hx rfl (hb hby at_107) rfl kq_) ?_
          show Go p e below s _ _ _ (T5.setTop (mkF m 109 #[.val (.int p0), .val (.int p1), .val (.int p2), .val (.int p3), .val (.int p4), .val (.int p5), .val (.int (p0 &&& (1 : Int32))), .val (.int (p1 &&& (1 : Int32))), .val (.int (p2 &&& (1 : Int32))), .val (.ref a1), .val (.int (3 : Int32)), .val (.long (((0 : Int64) + (p3.toInt64)) + (p4.toInt64))), .second, .unset, .unset, .unset, .unset, .unset, .unset] [(.int p5), (.long (((0 : Int64) + (p3.toInt64)) + (p4.toInt64)))]))
          refine Go.st (fun _ kq_ => XT.i2l X5.here hx rfl (hb hby at_109) rfl kq_) ?_
          show Go p e below s _ _ _ (T5.setTop (mkF m 110 #[.val (.int p0), .val (.int p1), .val (.int p2), .val (.int p3), .val (.int p4), .val (.int p5), .val (.int (p0 &&& (1 : Int32))), .val (.int (p1 &&& (1 : Int32))), .val (.int (p2 &&& (1 : Int32))), .val (.ref a1), .val (.int (3 : Int32)), .val (.long (((0 : Int64) + (p3.toInt64)) + (p4.toInt64))), .second, .unset, .unset, .unset, .unset, .unset, .unset] [(.long (p5.toInt64)), (.long (((0 : Int64) + (p3.toInt64)) + (p4.toInt64)))]))
          refine Go.st (fun _ kq_ => XT.ladd X5.here hx rfl (hb hby at_110) rfl kq_) ?_
          show Go p e below s _ _ _ (T5.setTop (mkF m 111 #[.val (.int p0), .val (.int p1), .val (.int p2), .val (.int p3), .val (.int p4), .val (.int p5), .val (.int (p0 &&& (1 : Int32))), .val (.int (p1 &&& (1 : Int32))), .val (.int (p2 &&& (1 : Int32))), .val (.ref a1), .val (.int (3 : Int32)), .val (.long (((0 : Int64) + (p3.toInt64)) + (p4.toInt64))), .second, .unset, .unset, .unset, .unset, .unset, .unset] [(.long ((((0 : Int64) + (p3.toInt64)) + (p4.toInt64)) + (p5.toInt64)))]))
          refine Go.st (fun _ kq_ => XT.lstore X5.here hx rfl (hb hby at_111) rfl (l' := #[.val (.int p0), .val (.int p1), .val (.int p2), .val (.int p3), .val (.int p4), .val (.int p5), .val (.int (p0 &&& (1 : Int32))), .val (.int (p1 &&& (1 : Int32))), .val (.int (p2 &&& (1 : Int32))), .val (.ref a1), .val (.int (3 : Int32)), .val (.long ((((0 : Int64) + (p3.toInt64)) + (p4.toInt64)) + (p5.toInt64))), .second, .unset, .unset, .unset, .unset, .unset, .unset]) rfl kq_) ?_
          show Go p e below s _ _ _ (T5.setTop (mkF m 113 #[.val (.int p0), .val (.int p1), .val (.int p2), .val (.int p3), .val (.int p4), .val (.int p5), .val (.int (p0 &&& (1 : Int32))), .val (.int (p1 &&& (1 : Int32))), .val (.int (p2 &&& (1 : Int32))), .val (.ref a1), .val (.int (3 : Int32)), .val (.long ((((0 : Int64) + (p3.toInt64)) + (p4.toInt64)) + (p5.toInt64))), .second, .unset, .unset, .unset, .unset, .unset, .unset] []))
          exact J113 (3 : Int32) ((((0 : Int64) + (p3.toInt64)) + (p4.toInt64)) + (p5.toInt64)) _ _ _ X5 rfl N5 O5 E_a1 F_a1_elementCounts F_a1_totalLengths F_a1_elementCount F_a1_totalLength V_b2 V_d2 (by simp only [ad, if_pos c59_16, if_pos c77_17, if_pos c96_18]; try rfl) (by simp only [adL, if_pos c59_16, if_pos c77_17, if_pos c96_18]; try rfl)
        · refine Go.st (fun _ kq_ => XS.ifYes X5.here hx rfl (pc0 := 96) (pc' := 113) rfl (hb hby at_96) rfl (XT.i0_ne_t c96_18) (by decide) (by decide) kq_) ?_
          show Go p e below s _ _ _ (T5.setTop (mkF m 113 #[.val (.int p0), .val (.int p1), .val (.int p2), .val (.int p3), .val (.int p4), .val (.int p5), .val (.int (p0 &&& (1 : Int32))), .val (.int (p1 &&& (1 : Int32))), .val (.int (p2 &&& (1 : Int32))), .val (.ref a1), .val (.int (2 : Int32)), .val (.long (((0 : Int64) + (p3.toInt64)) + (p4.toInt64))), .second, .unset, .unset, .unset, .unset, .unset, .unset] []))
          exact J113 (2 : Int32) (((0 : Int64) + (p3.toInt64)) + (p4.toInt64)) _ _ _ X5 rfl N5 O5 E_a1 F_a1_elementCounts F_a1_totalLengths F_a1_elementCount F_a1_totalLength V_b2 V_d2 (by simp only [ad, if_pos c59_16, if_pos c77_17, if_neg c96_18]; try rfl) (by simp only [adL, if_pos c59_16, if_pos c77_17, if_neg c96_18]; try rfl)
      · refine Go.st (fun _ kq_ => XS.ifYes X5.here hx rfl (pc0 := 77) (pc' := 94) rfl (hb hby at_77) rfl (XT.i0_ne_t c77_17) (by decide) (by decide) kq_) ?_
        show Go p e below s _ _ _ (T5.setTop (mkF m 94 #[.val (.int p0), .val (.int p1), .val (.int p2), .val (.int p3), .val (.int p4), .val (.int p5), .val (.int (p0 &&& (1 : Int32))), .val (.int (p1 &&& (1 : Int32))), .val (.int (p2 &&& (1 : Int32))), .val (.ref a1), .val (.int (1 : Int32)), .val (.long ((0 : Int64) + (p3.toInt64))), .second, .unset, .unset, .unset, .unset, .unset, .unset] []))
        refine Go.st (fun _ kq_ => XS.iload X5.here hx rfl (hb hby at_94) rfl kq_) ?_
        show Go p e below s _ _ _ (T5.setTop (mkF m 96 #[.val (.int p0), .val (.int p1), .val (.int p2), .val (.int p3), .val (.int p4), .val (.int p5), .val (.int (p0 &&& (1 : Int32))), .val (.int (p1 &&& (1 : Int32))), .val (.int (p2 &&& (1 : Int32))), .val (.ref a1), .val (.int (1 : Int32)), .val (.long ((0 : Int64) + (p3.toInt64))), .second, .unset, .unset, .unset, .unset, .unset, .unset] [(.int (p2 &&& (1 : Int32)))]))
        by_cases c96_19 : (p2 &&& (1 : Int32)) = (0 : Int32)
        · refine Go.st (fun _ kq_ => XS.ifNo X5.here hx rfl (hb hby at_96) rfl (XT.i0_ne_f c96_19) kq_) ?_
          show Go p e below s _ _ _ (T5.setTop (mkF m 99 #[.val (.int p0), .val (.int p1), .val (.int p2), .val (.int p3), .val (.int p4), .val (.int p5), .val (.int (p0 &&& (1 : Int32))), .val (.int (p1 &&& (1 : Int32))), .val (.int (p2 &&& (1 : Int32))), .val (.ref a1), .val (.int (1 : Int32)), .val (.long ((0 : Int64) + (p3.toInt64))), .second, .unset, .unset, .unset, .unset, .unset, .unset] []))
          refine Go.st (fun _ kq_ => XS.iload X5.here hx rfl (hb hby at_99) rfl kq_) ?_
          show Go p e below s _ _ _ (T5.setTop (mkF m 101 #[.val (.int p0), .val (.int p1), .val (.int p2), .val (.int p3), .val (.int p4), .val (.int p5), .val (.int (p0 &&& (1 : Int32))), .val (.int (p1 &&& (1 : Int32))), .val (.int (p2 &&& (1 : Int32))), .val (.ref a1), .val (.int (1 : Int32)), .val (.long ((0 : Int64) + (p3.toInt64))), .second, .unset, .unset, .unset, .unset, .unset, .unset] [(.int (1 : Int32))]))
          refine Go.st (fun _ kq_ => XS.iconst X5.here hx rfl (hb hby at_101) kq_) ?_
          show Go p e below s _ _ _ (T5.setTop (mkF m 102 #[.val (.int p0), .val (.int p1), .val (.int p2), .val (.int p3), .val (.int p4), .val (.int p5), .val (.int (p0 &&& (1 : Int32))), .val (.int (p1 &&& (1 : Int32))), .val (.int (p2 &&& (1 : Int32))), .val (.ref a1), .val (.int (1 : Int32)), .val (.long ((0 : Int64) + (p3.toInt64))), .second, .unset, .unset, .unset, .unset, .unset, .unset] [(.int (1 : Int32)), (.int (1 : Int32))]))
          refine Go.st (fun _ kq_ => XS.iadd X5.here hx rfl (hb hby at_102) rfl kq_) ?_
          show Go p e below s _ _ _ (T5.setTop (mkF m 103 #[.val (.int p0), .val (.int p1), .val (.int p2), .val (.int p3), .val (.int p4), .val (.int p5), .val (.int (p0 &&& (1 : Int32))), .val (.int (p1 &&& (1 : Int32))), .val (.int (p2 &&& (1 : Int32))), .val (.ref a1), .val (.int (1 : Int32)), .val (.long ((0 : Int64) + (p3.toInt64))), .second, .unset, .unset, .unset, .unset, .unset, .unset] [(.int (2 : Int32))]))
          refine Go.st (fun _ kq_ => XS.istore X5.here hx rfl (hb hby at_103) rfl (l' := #[.val (.int p0), .val (.int p1), .val (.int p2), .val (.int p3), .val (.int p4), .val (.int p5), .val (.int (p0 &&& (1 : Int32))), .val (.int (p1 &&& (1 : Int32))), .val (.int (p2 &&& (1 : Int32))), .val (.ref a1), .val (.int (2 : Int32)), .val (.long ((0 : Int64) + (p3.toInt64))), .second, .unset, .unset, .unset, .unset, .unset, .unset]) rfl kq_) ?_
          show Go p e below s _ _ _ (T5.setTop (mkF m 105 #[.val (.int p0), .val (.int p1), .val (.int p2), .val (.int p3), .val (.int p4), .val (.int p5), .val (.int (p0 &&& (1 : Int32))), .val (.int (p1 &&& (1 : Int32))), .val (.int (p2 &&& (1 : Int32))), .val (.ref a1), .val (.int (2 : Int32)), .val (.long ((0 : Int64) + (p3.toInt64))), .second, .unset, .unset, .unset, .unset, .unset, .unset] []))
          refine Go.st (fun _ kq_ => XT.lload X5.here hx rfl (hb hby at_105) rfl kq_) ?_
          show Go p e below s _ _ _ (T5.setTop (mkF m 107 #[.val (.int p0), .val (.int p1), .val (.int p2), .val (.int p3), .val (.int p4), .val (.int p5), .val (.int (p0 &&& (1 : Int32))), .val (.int (p1 &&& (1 : Int32))), .val (.int (p2 &&& (1 : Int32))), .val (.ref a1), .val (.int (2 : Int32)), .val (.long ((0 : Int64) + (p3.toInt64))), .second, .unset, .unset, .unset, .unset, .unset, .unset] [(.long ((0 : Int64) + (p3.toInt64)))]))
          refine Go.st (fun _ kq_ => XS.iload X5.here hx rfl (hb hby at_107) rfl kq_) ?_
          show Go p e below s _ _ _ (T5.setTop (mkF m 109 #[.val (.int p0), .val (.int p1), .val (.int p2), .val (.int p3), .val (.int p4), .val (.int p5), .val (.int (p0 &&& (1 : Int32))), .val (.int (p1 &&& (1 : Int32))), .val (.int (p2 &&& (1 : Int32))), .val (.ref a1), .val (.int (2 : Int32)), .val (.long ((0 : Int64) + (p3.toInt64))), .second, .unset, .unset, .unset, .unset, .unset, .unset] [(.int p5), (.long ((0 : Int64) + (p3.toInt64)))]))
          refine Go.st (fun _ kq_ => XT.i2l X5.here hx rfl (hb hby at_109) rfl kq_) ?_
          show Go p e below s _ _ _ (T5.setTop (mkF m 110 #[.val (.int p0), .val (.int p1), .val (.int p2), .val (.int p3), .val (.int p4), .val (.int p5), .val (.int (p0 &&& (1 : Int32))), .val (.int (p1 &&& (1 : Int32))), .val (.int (p2 &&& (1 : Int32))), .val (.ref a1), .val (.int (2 : Int32)), .val (.long ((0 : Int64) + (p3.toInt64))), .second, .unset, .unset, .unset, .unset, .unset, .unset] [(.long (p5.toInt64)), (.long ((0 : Int64) + (p3.toInt64)))]))
          refine Go.st (fun _ kq_ => XT.ladd X5.here hx rfl (hb hby at_110) rfl kq_) ?_
          show Go p e below s _ _ _ (T5.setTop (mkF m 111 #[.val (.int p0), .val (.int p1), .val (.int p2), .val (.int p3), .val (.int p4), .val (.int p5), .val (.int (p0 &&& (1 : Int32))), .val (.int (p1 &&& (1 : Int32))), .val (.int (p2 &&& (1 : Int32))), .val (.ref a1), .val (.int (2 : Int32)), .val (.long ((0 : Int64) + (p3.toInt64))), .second, .unset, .unset, .unset, .unset, .unset, .unset] [(.long (((0 : Int64) + (p3.toInt64)) + (p5.toInt64)))]))
          refine Go.st (fun _ kq_ => XT.lstore X5.here hx rfl (hb hby at_111) rfl (l' := #[.val (.int p0), .val (.int p1), .val (.int p2), .val (.int p3), .val (.int p4), .val (.int p5), .val (.int (p0 &&& (1 : Int32))), .val (.int (p1 &&& (1 : Int32))), .val (.int (p2 &&& (1 : Int32))), .val (.ref a1), .val (.int (2 : Int32)), .val (.long (((0 : Int64) + (p3.toInt64)) + (p5.toInt64))), .second, .unset, .unset, .unset, .unset, .unset, .unset]) rfl kq_) ?_
          show Go p e below s _ _ _ (T5.setTop (mkF m 113 #[.val (.int p0), .val (.int p1), .val (.int p2), .val (.int p3), .val (.int p4), .val (.int p5), .val (.int (p0 &&& (1 : Int32))), .val (.int (p1 &&& (1 : Int32))), .val (.int (p2 &&& (1 : Int32))), .val (.ref a1), .val (.int (2 : Int32)), .val (.long (((0 : Int64) + (p3.toInt64)) + (p5.toInt64))), .second, .unset, .unset, .unset, .unset, .unset, .unset] []))
          exact J113 (2 : Int32) (((0 : Int64) + (p3.toInt64)) + (p5.toInt64)) _ _ _ X5 rfl N5 O5 E_a1 F_a1_elementCounts F_a1_totalLengths F_a1_elementCount F_a1_totalLength V_b2 V_d2 (by simp only [ad, if_pos c59_16, if_neg c77_17, if_pos c96_19]; try rfl) (by simp only [adL, if_pos c59_16, if_neg c77_17, if_pos c96_19]; try rfl)
        · refine Go.st (fun _ kq_ => XS.ifYes X5.here hx rfl (pc0 := 96) (pc' := 113) rfl (hb hby at_96) rfl (XT.i0_ne_t c96_19) (by decide) (by decide) kq_) ?_
          show Go p e below s _ _ _ (T5.setTop (mkF m 113 #[.val (.int p0), .val (.int p1), .val (.int p2), .val (.int p3), .val (.int p4), .val (.int p5), .val (.int (p0 &&& (1 : Int32))), .val (.int (p1 &&& (1 : Int32))), .val (.int (p2 &&& (1 : Int32))), .val (.ref a1), .val (.int (1 : Int32)), .val (.long ((0 : Int64) + (p3.toInt64))), .second, .unset, .unset, .unset, .unset, .unset, .unset] []))
          exact J113 (1 : Int32) ((0 : Int64) + (p3.toInt64)) _ _ _ X5 rfl N5 O5 E_a1 F_a1_elementCounts F_a1_totalLengths F_a1_elementCount F_a1_totalLength V_b2 V_d2 (by simp only [ad, if_pos c59_16, if_neg c77_17, if_neg c96_19]; try rfl) (by simp only [adL, if_pos c59_16, if_neg c77_17, if_neg c96_19]; try rfl)
    · refine Go.st (fun _ kq_ => XS.ifYes X5.here hx rfl (pc0 := 59) (pc' := 75) rfl (hb hby at_59) rfl (XT.i0_ne_t c59_16) (by decide) (by decide) kq_) ?_
      show Go p e below s _ _ _ (T5.setTop (mkF m 75 #[.val (.int p0), .val (.int p1), .val (.int p2), .val (.int p3), .val (.int p4), .val (.int p5), .val (.int (p0 &&& (1 : Int32))), .val (.int (p1 &&& (1 : Int32))), .val (.int (p2 &&& (1 : Int32))), .val (.ref a1), .val (.int (0 : Int32)), .val (.long (0 : Int64)), .second, .unset, .unset, .unset, .unset, .unset, .unset] []))
      refine Go.st (fun _ kq_ => XS.iload X5.here hx rfl (hb hby at_75) rfl kq_) ?_
      show Go p e below s _ _ _ (T5.setTop (mkF m 77 #[.val (.int p0), .val (.int p1), .val (.int p2), .val (.int p3), .val (.int p4), .val (.int p5), .val (.int (p0 &&& (1 : Int32))), .val (.int (p1 &&& (1 : Int32))), .val (.int (p2 &&& (1 : Int32))), .val (.ref a1), .val (.int (0 : Int32)), .val (.long (0 : Int64)), .second, .unset, .unset, .unset, .unset, .unset, .unset] [(.int (p1 &&& (1 : Int32)))]))
      by_cases c77_20 : (p1 &&& (1 : Int32)) = (0 : Int32)
      · refine Go.st (fun _ kq_ => XS.ifNo X5.here hx rfl (hb hby at_77) rfl (XT.i0_ne_f c77_20) kq_) ?_
        show Go p e below s _ _ _ (T5.setTop (mkF m 80 #[.val (.int p0), .val (.int p1), .val (.int p2), .val (.int p3), .val (.int p4), .val (.int p5), .val (.int (p0 &&& (1 : Int32))), .val (.int (p1 &&& (1 : Int32))), .val (.int (p2 &&& (1 : Int32))), .val (.ref a1), .val (.int (0 : Int32)), .val (.long (0 : Int64)), .second, .unset, .unset, .unset, .unset, .unset, .unset] []))
        refine Go.st (fun _ kq_ => XS.iload X5.here hx rfl (hb hby at_80) rfl kq_) ?_
        show Go p e below s _ _ _ (T5.setTop (mkF m 82 #[.val (.int p0), .val (.int p1), .val (.int p2), .val (.int p3), .val (.int p4), .val (.int p5), .val (.int (p0 &&& (1 : Int32))), .val (.int (p1 &&& (1 : Int32))), .val (.int (p2 &&& (1 : Int32))), .val (.ref a1), .val (.int (0 : Int32)), .val (.long (0 : Int64)), .second, .unset, .unset, .unset, .unset, .unset, .unset] [(.int (0 : Int32))]))
        refine Go.st (fun _ kq_ => XS.iconst X5.here hx rfl (hb hby at_82) kq_) ?_
        show Go p e below s _ _ _ (T5.setTop (mkF m 83 #[.val (.int p0), .val (.int p1), .val (.int p2), .val (.int p3), .val (.int p4), .val (.int p5), .val (.int (p0 &&& (1 : Int32))), .val (.int (p1 &&& (1 : Int32))), .val (.int (p2 &&& (1 : Int32))), .val (.ref a1), .val (.int (0 : Int32)), .val (.long (0 : Int64)), .second, .unset, .unset, .unset, .unset, .unset, .unset] [(.int (1 : Int32)), (.int (0 : Int32))]))
        refine Go.st (fun _ kq_ => XS.iadd X5.here hx rfl (hb hby at_83) rfl kq_) ?_
        show Go p e below s _ _ _ (T5.setTop (mkF m 84 #[.val (.int p0), .val (.int p1), .val (.int p2), .val (.int p3), .val (.int p4), .val (.int p5), .val (.int (p0 &&& (1 : Int32))), .val (.int (p1 &&& (1 : Int32))), .val (.int (p2 &&& (1 : Int32))), .val (.ref a1), .val (.int (0 : Int32)), .val (.long (0 : Int64)), .second, .unset, .unset, .unset, .unset, .unset, .unset] [(.int (1 : Int32))]))
        refine Go.st (fun _ kq_ => XS.istore X5.here hx rfl (hb hby at_84) rfl (l' := #[.val (.int p0), .val (.int p1), .val (.int p2), .val (.int p3), .val (.int p4), .val (.int p5), .val (.int (p0 &&& (1 : Int32))), .val (.int (p1 &&& (1 : Int32))), .val (.int (p2 &&& (1 : Int32))), .val (.ref a1), .val (.int (1 : Int32)), .val (.long (0 : Int64)), .second, .unset, .unset, .unset, .unset, .unset, .unset]) rfl kq_) ?_
        show Go p e below s _ _ _ (T5.setTop (mkF m 86 #[.val (.int p0), .val (.int p1), .val (.int p2), .val (.int p3), .val (.int p4), .val (.int p5), .val (.int (p0 &&& (1 : Int32))), .val (.int (p1 &&& (1 : Int32))), .val (.int (p2 &&& (1 : Int32))), .val (.ref a1), .val (.int (1 : Int32)), .val (.long (0 : Int64)), .second, .unset, .unset, .unset, .unset, .unset, .unset] []))
        refine Go.st (fun _ kq_ => XT.lload X5.here hx rfl (hb hby at_86) rfl kq_) ?_
        show Go p e below s _ _ _ (T5.setTop (mkF m 88 #[.val (.int p0), .val (.int p1), .val (.int p2), .val (.int p3), .val (.int p4), .val (.int p5), .val (.int (p0 &&& (1 : Int32))), .val (.int (p1 &&& (1 : Int32))), .val (.int (p2 &&& (1 : Int32))), .val (.ref a1), .val (.int (1 : Int32)), .val (.long (0 : Int64)), .second, .unset, .unset, .unset, .unset, .unset, .unset] [(.long (0 : Int64))]))
        refine Go.st (fun _ kq_ => XS.iload X5.here hx rfl (hb hby at_88) rfl kq_) ?_
        show Go p e below s _ _ _ (T5.setTop (mkF m 90 #[.val (.int p0), .val (.int p1), .val (.int p2), .val (.int p3), .val (.int p4), .val (.int p5), .val (.int (p0 &&& (1 : Int32))), .val (.int (p1 &&& (1 : Int32))), .val (.int (p2 &&& (1 : Int32))), .val (.ref a1), .val (.int (1 : Int32)), .val (.long (0 : Int64)), .second, .unset, .unset, .unset, .unset, .unset, .unset] [(.int p4), (.long (0 : Int64))]))
        refine Go.st (fun _ kq_ => XT.i2l X5.here hx rfl (hb hby at_90) rfl kq_) ?_
        show Go p e below s _ _ _ (T5.setTop (mkF m 91 #[.val (.int p0), .val (.int p1), .val (.int p2), .val (.int p3), .val (.int p4), .val (.int p5), .val (.int (p0 &&& (1 : Int32))), .val (.int (p1 &&& (1 : Int32))), .val (.int (p2 &&& (1 : Int32))), .val (.ref a1), .val (.int (1 : Int32)), .val (.long (0 : Int64)), .second, .unset, .unset, .unset, .unset, .unset, .unset] [(.long (p4.toInt64)), (.long (0 : Int64))]))
        refine Go.st (fun _ kq_ => XT.ladd X5.here hx rfl (hb hby at_91) rfl kq_) ?_
        show Go p e below s _ _ _ (T5.setTop (mkF m 92 #[.val (.int p0), .val (.int p1), .val (.int p2), .val (.int p3), .val (.int p4), .val (.int p5), .val (.int (p0 &&& (1 : Int32))), .val (.int (p1 &&& (1 : Int32))), .val (.int (p2 &&& (1 : Int32))), .val (.ref a1), .val (.int (1 : Int32)), .val (.long (0 : Int64)), .second, .unset, .unset, .unset, .unset, .unset, .unset] [(.long ((0 : Int64) + (p4.toInt64)))]))
        refine Go.st (fun _ kq_ => XT.lstore X5.here hx rfl (hb hby at_92) rfl (l' := #[.val (.int p0), .val (.int p1), .val (.int p2), .val (.int p3), .val (.int p4), .val (.int p5), .val (.int (p0 &&& (1 : Int32))), .val (.int (p1 &&& (1 : Int32))), .val (.int (p2 &&& (1 : Int32))), .val (.ref a1), .val (.int (1 : Int32)), .val (.long ((0 : Int64) + (p4.toInt64))), .second, .unset, .unset, .unset, .unset, .unset, .unset]) rfl kq_) ?_
        show Go p e below s _ _ _ (T5.setTop (mkF m 94 #[.val (.int p0), .val (.int p1), .val (.int p2), .val (.int p3), .val (.int p4), .val (.int p5), .val (.int (p0 &&& (1 : Int32))), .val (.int (p1 &&& (1 : Int32))), .val (.int (p2 &&& (1 : Int32))), .val (.ref a1), .val (.int (1 : Int32)), .val (.long ((0 : Int64) + (p4.toInt64))), .second, .unset, .unset, .unset, .unset, .unset, .unset] []))
        refine Go.st (fun _ kq_ => XS.iload X5.here hx rfl (hb hby at_94) rfl kq_) ?_
        show Go p e below s _ _ _ (T5.setTop (mkF m 96 #[.val (.int p0), .val (.int p1), .val (.int p2), .val (.int p3), .val (.int p4), .val (.int p5), .val (.int (p0 &&& (1 : Int32))), .val (.int (p1 &&& (1 : Int32))), .val (.int (p2 &&& (1 : Int32))), .val (.ref a1), .val (.int (1 : Int32)), .val (.long ((0 : Int64) + (p4.toInt64))), .second, .unset, .unset, .unset, .unset, .unset, .unset] [(.int (p2 &&& (1 : Int32)))]))
        by_cases c96_21 : (p2 &&& (1 : Int32)) = (0 : Int32)
        · refine Go.st (fun _ kq_ => XS.ifNo X5.here hx rfl (hb hby at_96) rfl (XT.i0_ne_f c96_21) kq_) ?_
          show Go p e below s _ _ _ (T5.setTop (mkF m 99 #[.val (.int p0), .val (.int p1), .val (.int p2), .val (.int p3), .val (.int p4), .val (.int p5), .val (.int (p0 &&& (1 : Int32))), .val (.int (p1 &&& (1 : Int32))), .val (.int (p2 &&& (1 : Int32))), .val (.ref a1), .val (.int (1 : Int32)), .val (.long ((0 : Int64) + (p4.toInt64))), .second, .unset, .unset, .unset, .unset, .unset, .unset] []))
          refine Go.st (fun _ kq_ => XS.iload X5.here hx rfl (hb hby at_99) rfl kq_) ?_
          show Go p e below s _ _ _ (T5.setTop (mkF m 101 #[.val (.int p0), .val (.int p1), .val (.int p2), .val (.int p3), .val (.int p4), .val (.int p5), .val (.int (p0 &&& (1 : Int32))), .val (.int (p1 &&& (1 : Int32))), .val (.int (p2 &&& (1 : Int32))), .val (.ref a1), .val (.int (1 : Int32)), .val (.long ((0 : Int64) + (p4.toInt64))), .second, .unset, .unset, .unset, .unset, .unset, .unset] [(.int (1 : Int32))]))
          refine Go.st (fun _ kq_ => XS.iconst X5.here hx rfl (hb hby at_101) kq_) ?_
          show Go p e below s _ _ _ (T5.setTop (mkF m 102 #[.val (.int p0), .val (.int p1), .val (.int p2), .val (.int p3), .val (.int p4), .val (.int p5), .val (.int (p0 &&& (1 : Int32))), .val (.int (p1 &&& (1 : Int32))), .val (.int (p2 &&& (1 : Int32))), .val (.ref a1), .val (.int (1 : Int32)), .val (.long ((0 : Int64) + (p4.toInt64))), .second, .unset, .unset, .unset, .unset, .unset, .unset] [(.int (1 : Int32)), (.int (1 : Int32))]))
          refine Go.st (fun _ kq_ => XS.iadd X5.here hx rfl (hb hby at_102) rfl kq_) ?_
          show Go p e below s _ _ _ (T5.setTop (mkF m 103 #[.val (.int p0), .val (.int p1), .val (.int p2), .val (.int p3), .val (.int p4), .val (.int p5), .val (.int (p0 &&& (1 : Int32))), .val (.int (p1 &&& (1 : Int32))), .val (.int (p2 &&& (1 : Int32))), .val (.ref a1), .val (.int (1 : Int32)), .val (.long ((0 : Int64) + (p4.toInt64))), .second, .unset, .unset, .unset, .unset, .unset, .unset] [(.int (2 : Int32))]))
          refine Go.st (fun _ kq_ => XS.istore X5.here hx rfl (hb hby at_103) rfl (l' := #[.val (.int p0), .val (.int p1), .val (.int p2), .val (.int p3), .val (.int p4), .val (.int p5), .val (.int (p0 &&& (1 : Int32))), .val (.int (p1 &&& (1 : Int32))), .val (.int (p2 &&& (1 : Int32))), .val (.ref a1), .val (.int (2 : Int32)), .val (.long ((0 : Int64) + (p4.toInt64))), .second, .unset, .unset, .unset, .unset, .unset, .unset]) rfl kq_) ?_
          show Go p e below s _ _ _ (T5.setTop (mkF m 105 #[.val (.int p0), .val (.int p1), .val (.int p2), .val (.int p3), .val (.int p4), .val (.int p5), .val (.int (p0 &&& (1 : Int32))), .val (.int (p1 &&& (1 : Int32))), .val (.int (p2 &&& (1 : Int32))), .val (.ref a1), .val (.int (2 : Int32)), .val (.long ((0 : Int64) + (p4.toInt64))), .second, .unset, .unset, .unset, .unset, .unset, .unset] []))
          refine Go.st (fun _ kq_ => XT.lload X5.here hx rfl (hb hby at_105) rfl kq_) ?_
          show Go p e below s _ _ _ (T5.setTop (mkF m 107 #[.val (.int p0), .val (.int p1), .val (.int p2), .val (.int p3), .val (.int p4), .val (.int p5), .val (.int (p0 &&& (1 : Int32))), .val (.int (p1 &&& (1 : Int32))), .val (.int (p2 &&& (1 : Int32))), .val (.ref a1), .val (.int (2 : Int32)), .val (.long ((0 : Int64) + (p4.toInt64))), .second, .unset, .unset, .unset, .unset, .unset, .unset] [(.long ((0 : Int64) + (p4.toInt64)))]))
          refine Go.st (fun _ kq_ => XS.iload X5.here hx rfl (hb hby at_107) rfl kq_) ?_
          show Go p e below s _ _ _ (T5.setTop (mkF m 109 #[.val (.int p0), .val (.int p1), .val (.int p2), .val (.int p3), .val (.int p4), .val (.int p5), .val (.int (p0 &&& (1 : Int32))), .val (.int (p1 &&& (1 : Int32))), .val (.int (p2 &&& (1 : Int32))), .val (.ref a1), .val (.int (2 : Int32)), .val (.long ((0 : Int64) + (p4.toInt64))), .second, .unset, .unset, .unset, .unset, .unset, .unset] [(.int p5), (.long ((0 : Int64) + (p4.toInt64)))]))
          refine Go.st (fun _ kq_ => XT.i2l X5.here hx rfl (hb hby at_109) rfl kq_) ?_
          show Go p e below s _ _ _ (T5.setTop (mkF m 110 #[.val (.int p0), .val (.int p1), .val (.int p2), .val (.int p3), .val (.int p4), .val (.int p5), .val (.int (p0 &&& (1 : Int32))), .val (.int (p1 &&& (1 : Int32))), .val (.int (p2 &&& (1 : Int32))), .val (.ref a1), .val (.int (2 : Int32)), .val (.long ((0 : Int64) + (p4.toInt64))), .second, .unset, .unset, .unset, .unset, .unset, .unset] [(.long (p5.toInt64)), (.long ((0 : Int64) + (p4.toInt64)))]))
          refine Go.st (fun _ kq_ => XT.ladd X5.here hx rfl (hb hby at_110) rfl kq_) ?_
          show Go p e below s _ _ _ (T5.setTop (mkF m 111 #[.val (.int p0), .val (.int p1), .val (.int p2), .val (.int p3), .val (.int p4), .val (.int p5), .val (.int (p0 &&& (1 : Int32))), .val (.int (p1 &&& (1 : Int32))), .val (.int (p2 &&& (1 : Int32))), .val (.ref a1), .val (.int (2 : Int32)), .val (.long ((0 : Int64) + (p4.toInt64))), .second, .unset, .unset, .unset, .unset, .unset, .unset] [(.long (((0 : Int64) + (p4.toInt64)) + (p5.toInt64)))]))
          refine Go.st (fun _ kq_ => XT.lstore X5.here hx rfl (hb hby at_111) rfl (l' := #[.val (.int p0), .val (.int p1), .val (.int p2), .val (.int p3), .val (.int p4), .val (.int p5), .val (.int (p0 &&& (1 : Int32))), .val (.int (p1 &&& (1 : Int32))), .val (.int (p2 &&& (1 : Int32))), .val (.ref a1), .val (.int (2 : Int32)), .val (.long (((0 : Int64) + (p4.toInt64)) + (p5.toInt64))), .second, .unset, .unset, .unset, .unset, .unset, .unset]) rfl kq_) ?_
          show Go p e below s _ _ _ (T5.setTop (mkF m 113 #[.val (.int p0), .val (.int p1), .val (.int p2), .val (.int p3), .val (.int p4), .val (.int p5), .val (.int (p0 &&& (1 : Int32))), .val (.int (p1 &&& (1 : Int32))), .val (.int (p2 &&& (1 : Int32))), .val (.ref a1), .val (.int (2 : Int32)), .val (.long (((0 : Int64) + (p4.toInt64)) + (p5.toInt64))), .second, .unset, .unset, .unset, .unset, .unset, .unset] []))
          exact J113 (2 : Int32) (((0 : Int64) + (p4.toInt64)) + (p5.toInt64)) _ _ _ X5 rfl N5 O5 E_a1 F_a1_elementCounts F_a1_totalLengths F_a1_elementCount F_a1_totalLength V_b2 V_d2 (by simp only [ad, if_neg c59_16, if_pos c77_20, if_pos c96_21]; try rfl) (by simp only [adL, if_neg c59_16, if_pos c77_20, if_pos c96_21]; try rfl)
        · refine Go.st (fun _ kq_ => XS.ifYes X5.here hx rfl (pc0 := 96) (pc' := 113) rfl (hb hby at_96) rfl (XT.i0_ne_t c96_21) (by decide) (by decide) kq_) ?_
          show Go p e below s _ _ _ (T5.setTop (mkF m 113 #[.val (.int p0), .val (.int p1), .val (.int p2), .val (.int p3), .val (.int p4), .val (.int p5), .val (.int (p0 &&& (1 : Int32))), .val (.int (p1 &&& (1 : Int32))), .val (.int (p2 &&& (1 : Int32))), .val (.ref a1), .val (.int (1 : Int32)), .val (.long ((0 : Int64) + (p4.toInt64))), .second, .unset, .unset, .unset, .unset, .unset, .unset] []))
          exact J113 (1 : Int32) ((0 : Int64) + (p4.toInt64)) _ _ _ X5 rfl N5 O5 E_a1 F_a1_elementCounts F_a1_totalLengths F_a1_elementCount F_a1_totalLength V_b2 V_d2 (by simp only [ad, if_neg c59_16, if_pos c77_20, if_neg c96_21]; try rfl) (by simp only [adL, if_neg c59_16, if_pos c77_20, if_neg c96_21]; try rfl)
      · refine Go.st (fun _ kq_ => XS.ifYes X5.here hx rfl (pc0 := 77) (pc' := 94) rfl (hb hby at_77) rfl (XT.i0_ne_t c77_20) (by decide) (by decide) kq_) ?_
        show Go p e below s _ _ _ (T5.setTop (mkF m 94 #[.val (.int p0), .val (.int p1), .val (.int p2), .val (.int p3), .val (.int p4), .val (.int p5), .val (.int (p0 &&& (1 : Int32))), .val (.int (p1 &&& (1 : Int32))), .val (.int (p2 &&& (1 : Int32))), .val (.ref a1), .val (.int (0 : Int32)), .val (.long (0 : Int64)), .second, .unset, .unset, .unset, .unset, .unset, .unset] []))
        refine Go.st (fun _ kq_ => XS.iload X5.here hx rfl (hb hby at_94) rfl kq_) ?_
        show Go p e below s _ _ _ (T5.setTop (mkF m 96 #[.val (.int p0), .val (.int p1), .val (.int p2), .val (.int p3), .val (.int p4), .val (.int p5), .val (.int (p0 &&& (1 : Int32))), .val (.int (p1 &&& (1 : Int32))), .val (.int (p2 &&& (1 : Int32))), .val (.ref a1), .val (.int (0 : Int32)), .val (.long (0 : Int64)), .second, .unset, .unset, .unset, .unset, .unset, .unset] [(.int (p2 &&& (1 : Int32)))]))
        by_cases c96_22 : (p2 &&& (1 : Int32)) = (0 : Int32)
        · refine Go.st (fun _ kq_ => XS.ifNo X5.here hx rfl (hb hby at_96) rfl (XT.i0_ne_f c96_22) kq_) ?_
          show Go p e below s _ _ _ (T5.setTop (mkF m 99 #[.val (.int p0), .val (.int p1), .val (.int p2), .val (.int p3), .val (.int p4), .val (.int p5), .val (.int (p0 &&& (1 : Int32))), .val (.int (p1 &&& (1 : Int32))), .val (.int (p2 &&& (1 : Int32))), .val (.ref a1), .val (.int (0 : Int32)), .val (.long (0 : Int64)), .second, .unset, .unset, .unset, .unset, .unset, .unset] []))
          refine Go.st (fun _ kq_ => XS.iload X5.here hx rfl (hb hby at_99) rfl kq_) ?_
          show Go p e below s _ _ _ (T5.setTop (mkF m 101 #[.val (.int p0), .val (.int p1), .val (.int p2), .val (.int p3), .val (.int p4), .val (.int p5), .val (.int (p0 &&& (1 : Int32))), .val (.int (p1 &&& (1 : Int32))), .val (.int (p2 &&& (1 : Int32))), .val (.ref a1), .val (.int (0 : Int32)), .val (.long (0 : Int64)), .second, .unset, .unset, .unset, .unset, .unset, .unset] [(.int (0 : Int32))]))
          refine Go.st (fun _ kq_ => XS.iconst X5.here hx rfl (hb hby at_101) kq_) ?_
          show Go p e below s _ _ _ (T5.setTop (mkF m 102 #[.val (.int p0), .val (.int p1), .val (.int p2), .val (.int p3), .val (.int p4), .val (.int p5), .val (.int (p0 &&& (1 : Int32))), .val (.int (p1 &&& (1 : Int32))), .val (.int (p2 &&& (1 : Int32))), .val (.ref a1), .val (.int (0 : Int32)), .val (.long (0 : Int64)), .second, .unset, .unset, .unset, .unset, .unset, .unset] [(.int (1 : Int32)), (.int (0 : Int32))]))
          refine Go.st (fun _ kq_ => XS.iadd X5.here hx rfl (hb hby at_102) rfl kq_) ?_
          show Go p e below s _ _ _ (T5.setTop (mkF m 103 #[.val (.int p0), .val (.int p1), .val (.int p2), .val (.int p3), .val (.int p4), .val (.int p5), .val (.int (p0 &&& (1 : Int32))), .val (.int (p1 &&& (1 : Int32))), .val (.int (p2 &&& (1 : Int32))), .val (.ref a1), .val (.int (0 : Int32)), .val (.long (0 : Int64)), .second, .unset, .unset, .unset, .unset, .unset, .unset] [(.int (1 : Int32))]))
          refine Go.st (fun _ kq_ => XS.istore X5.here hx rfl (hb hby at_103) rfl (l' := #[.val (.int p0), .val (.int p1), .val (.int p2), .val (.int p3), .val (.int p4), .val (.int p5), .val (.int (p0 &&& (1 : Int32))), .val (.int (p1 &&& (1 : Int32))), .val (.int (p2 &&& (1 : Int32))), .val (.ref a1), .val (.int (1 : Int32)), .val (.long (0 : Int64)), .second, .unset, .unset, .unset, .unset, .unset, .unset]) rfl kq_) ?_
          show Go p e below s _ _ _ (T5.setTop (mkF m 105 #[.val (.int p0), .val (.int p1), .val (.int p2), .val (.int p3), .val (.int p4), .val (.int p5), .val (.int (p0 &&& (1 : Int32))), .val (.int (p1 &&& (1 : Int32))), .val (.int (p2 &&& (1 : Int32))), .val (.ref a1), .val (.int (1 : Int32)), .val (.long (0 : Int64)), .second, .unset, .unset, .unset, .unset, .unset, .unset] []))
          refine Go.st (fun _ kq_ => XT.lload X5.here hx rfl (hb hby at_105) rfl kq_) ?_
          show Go p e below s _ _ _ (T5.setTop (mkF m 107 #[.val (.int p0), .val (.int p1), .val (.int p2), .val (.int p3), .val (.int p4), .val (.int p5), .val (.int (p0 &&& (1 : Int32))), .val (.int (p1 &&& (1 : Int32))), .val (.int (p2 &&& (1 : Int32))), .val (.ref a1), .val (.int (1 : Int32)), .val (.long (0 : Int64)), .second, .unset, .unset, .unset, .unset, .unset, .unset] [(.long (0 : Int64))]))
          refine Go.st (fun _ kq_ => XS.iload X5.here hx rfl (hb hby at_107) rfl kq_) ?_
          show Go p e below s _ _ _ (T5.setTop (mkF m 109 #[.val (.int p0), .val (.int p1), .val (.int p2), .val (.int p3), .val (.int p4), .val (.int p5), .val (.int (p0 &&& (1 : Int32))), .val (.int (p1 &&& (1 : Int32))), .val (.int (p2 &&& (1 : Int32))), .val (.ref a1), .val (.int (1 : Int32)), .val (.long (0 : Int64)), .second, .unset, .unset, .unset, .unset, .unset, .unset] [(.int p5), (.long (0 : Int64))]))
          refine Go.st (fun _ kq_ => XT.i2l X5.here hx rfl (hb hby at_109) rfl kq_) ?_
          show Go p e below s _ _ _ (T5.setTop (mkF m 110 #[.val (.int p0), .val (.int p1), .val (.int p2), .val (.int p3), .val (.int p4), .val (.int p5), .val (.int (p0 &&& (1 : Int32))), .val (.int (p1 &&& (1 : Int32))), .val (.int (p2 &&& (1 : Int32))), .val (.ref a1), .val (.int (1 : Int32)), .val (.long (0 : Int64)), .second, .unset, .unset, .unset, .unset, .unset, .unset] [(.long (p5.toInt64)), (.long (0 : Int64))]))
          refine Go.st (fun _ kq_ => XT.ladd X5.here hx rfl (hb hby at_110) rfl kq_) ?_
          show Go p e below s _ _ _ (T5.setTop (mkF m 111 #[.val (.int p0), .val (.int p1), .val (.int p2), .val (.int p3), .val (.int p4), .val (.int p5), .val (.int (p0 &&& (1 : Int32))), .val (.int (p1 &&& (1 : Int32))), .val (.int (p2 &&& (1 : Int32))), .val (.ref a1), .val (.int (1 : Int32)), .val (.long (0 : Int64)), .second, .unset, .unset, .unset, .unset, .unset, .unset] [(.long ((0 : Int64) + (p5.toInt64)))]))
          refine Go.st (fun _ kq_ => XT.lstore X5.here hx rfl (hb hby at_111) rfl (l' := #[.val (.int p0), .val (.int p1), .val (.int p2), .val (.int p3), .val (.int p4), .val (.int p5), .val (.int (p0 &&& (1 : Int32))), .val (.int (p1 &&& (1 : Int32))), .val (.int (p2 &&& (1 : Int32))), .val (.ref a1), .val (.int (1 : Int32)), .val (.long ((0 : Int64) + (p5.toInt64))), .second, .unset, .unset, .unset, .unset, .unset, .unset]) rfl kq_) ?_
          show Go p e below s _ _ _ (T5.setTop (mkF m 113 #[.val (.int p0), .val (.int p1), .val (.int p2), .val (.int p3), .val (.int p4), .val (.int p5), .val (.int (p0 &&& (1 : Int32))), .val (.int (p1 &&& (1 : Int32))), .val (.int (p2 &&& (1 : Int32))), .val (.ref a1), .val (.int (1 : Int32)), .val (.long ((0 : Int64) + (p5.toInt64))), .second, .unset, .unset, .unset, .unset, .unset, .unset] []))
          exact J113 (1 : Int32) ((0 : Int64) + (p5.toInt64)) _ _ _ X5 rfl N5 O5 E_a1 F_a1_elementCounts F_a1_totalLengths F_a1_elementCount F_a1_totalLength V_b2 V_d2 (by simp only [ad, if_neg c59_16, if_neg c77_20, if_pos c96_22]; try rfl) (by simp only [adL, if_neg c59_16, if_neg c77_20, if_pos c96_22]; try rfl)
        · refine Go.st (fun _ kq_ => XS.ifYes X5.here hx rfl (pc0 := 96) (pc' := 113) rfl (hb hby at_96) rfl (XT.i0_ne_t c96_22) (by decide) (by decide) kq_) ?_
          show Go p e below s _ _ _ (T5.setTop (mkF m 113 #[.val (.int p0), .val (.int p1), .val (.int p2), .val (.int p3), .val (.int p4), .val (.int p5), .val (.int (p0 &&& (1 : Int32))), .val (.int (p1 &&& (1 : Int32))), .val (.int (p2 &&& (1 : Int32))), .val (.ref a1), .val (.int (0 : Int32)), .val (.long (0 : Int64)), .second, .unset, .unset, .unset, .unset, .unset, .unset] []))
          exact J113 (0 : Int32) (0 : Int64) _ _ _ X5 rfl N5 O5 E_a1 F_a1_elementCounts F_a1_totalLengths F_a1_elementCount F_a1_totalLength V_b2 V_d2 (by simp only [ad, if_neg c59_16, if_neg c77_20, if_neg c96_22]; try rfl) (by simp only [adL, if_neg c59_16, if_neg c77_20, if_neg c96_22]; try rfl)
  obtain ⟨s2, o2, st2, r2⟩ := G
  exact ⟨s2, o2, castTop (ef0 m p0 p1 p2 p3 p4 p5) st2, r2⟩
set_option maxRecDepth 65536 in
set_option maxHeartbeats 40000000 in
theorem comes_1 {Post : Tables → Env → Array Value → State → Outcome → State → Prop} (hpost : ∀ tb e args s v u, (limb_1_1.after args s (.returned v) u = true ∧ limb_1_2.after args s (.returned v) u = true ∧ True) → FrameEnd s (.returned v) u (Jvm.fieldLocs frame_1_writes args s ++ Jvm.arrayLocs frame_1_arrays args s ++ Jvm.staticLocs frame_1_statics s) 16 128 → Post tb e args s (.returned v) u) :
    ArmFor flags0 classFile x code maxLocals ret World_1 tables_1 room_1 Calls_1 rest_1 Pre_1 Post := by
  intro l hfl _ _ p e ha hc hk s m args below hf hA hF happ hP
  obtain ⟨hcalls, hrest, hpre⟩ := hP
  obtain ⟨-, -, -, hnamed, -, -, -, hat⟩ := (Spec.applies_iff hf).mp happ
  obtain ⟨hg, hn⟩ := and_e (Cond.before_iff.mp (show (Jvm.Cond.and given_1 narrow_1).before args s = true from hpre))
  obtain ⟨h1, r1⟩ := and_e hg
  obtain ⟨a0, r2⟩ := and_e r1
  obtain ⟨a1, r3⟩ := and_e r2
  obtain ⟨a2, r4⟩ := and_e r3
  obtain ⟨a3, r5⟩ := and_e r4
  obtain ⟨a4, r6⟩ := and_e r5
  obtain ⟨w0, w1, w2, w3, w4, w5, rfl⟩ : ∃ w0 w1 w2 w3 w4 w5 : Value, args = #[w0, w1, w2, w3, w4, w5] := by
    have hs : args.size = 6 := by simpa [Cond.value, given_1] using h1
    obtain ⟨L⟩ := args
    match L, hs with
    | [w0, w1, w2, w3, w4, w5], _ => exact ⟨w0, w1, w2, w3, w4, w5, rfl⟩
  have hw := fun d (hd : d ∈ tables_1) => atoms_spec (ws := Jvm.Cond.code x code maxLocals ret :: tables_1) hat d (List.mem_cons_of_mem _ hd)
  have hfit : Fit s := fun {y c} hc i hi => by
    obtain ⟨ha, rfl⟩ := Array.getElem?_eq_some_iff.mp hc
    have q := List.all_eq_true.mp ((Array.all_eq_true_iff_forall_mem.mp hF) _ (Array.getElem_mem ha)) i (List.mem_range.mpr hi)
    simpa [Array.getElem?_eq_getElem hi] using q
  obtain ⟨i0, ei0⟩ := is_v a0
  obtain rfl : w0 = (.int i0) := Option.some.inj ei0
  obtain ⟨i1, ei1⟩ := is_v a1
  obtain rfl : w1 = (.int i1) := Option.some.inj ei1
  obtain ⟨i2, ei2⟩ := is_v a2
  obtain rfl : w2 = (.int i2) := Option.some.inj ei2
  obtain ⟨i3, ei3⟩ := is_v a3
  obtain rfl : w3 = (.int i3) := Option.some.inj ei3
  obtain ⟨i4, ei4⟩ := is_v a4
  obtain rfl : w4 = (.int i4) := Option.some.inj ei4
  obtain ⟨i5, ei5⟩ := is_v r6
  obtain rfl : w5 = (.int i5) := Option.some.inj ei5
  obtain ⟨n, o, h1, h2, h3, _, L, rfl, ⟨rfl, N⟩, hq⟩ := rm0 l s _ hw tables_1 i0 i1 i2 i3 i4 i5 s.heap s.heap.size (Old.start s) p e ha hc hk s m _ below hf ((Spec.applies_iff_loose hf).mp happ).1 ⟨rfl, State.Warmed39.refl s, rfl⟩ trivial
  refine ⟨n, _, h1, h2, h3, hpost _ _ _ _ _ _ ⟨Cond.after_iff.mpr rfl, Cond.after_iff.mpr (eq_i res_at (Term.int_eval (1)) rfl), trivial⟩ ⟨hq.1, hq.2.1, (hq.2.2.sift fun y hy => Or.inr (N y hy)).mono (by decide) (by decide)⟩⟩
theorem main_1_1 : Claimed_1_1 := comes_1 fun _ _ _ _ _ _ h hF => ⟨h.1, hF⟩
theorem main_1_2 : Claimed_1_2 := comes_1 fun _ _ _ _ _ _ h hF => ⟨h.2.1, hF⟩
end Jvm.Pilot.@@N@@
namespace Jvm.Pilot.@@N@@
open Jvm Jvm.ClassFile Sem Op Lib Jvm.Free Jvm.Stand Jvm.Pilot.@@N@@.Jvm.D
/-! MADE BY PROGRAM (witnessworld.py) out of the Statement's table words and the real class files: 11 classes; the members and pool entries that the words name. The judged class is class 1, her method 2. -/
namespace start1
open Jvm.ClassFile
def u (s : String) : CpInfo := .utf8 (stringToUtf16 s)
/-- a pool by its gaps: so many unusable entries, then the entry; so many at the end -/
def gap : Nat → List CpInfo → List CpInfo
  | 0, r => r
  | n + 1, r => .unusable :: gap n r
def poolList (es : List (Nat × CpInfo)) (last : Nat) : List CpInfo := es.foldr (fun e r => gap e.1 (e.2 :: r)) (gap last [])
def pool (es : List (Nat × CpInfo)) (last : Nat) : Array CpInfo := ⟨poolList es last⟩
def fileOf (pool : Array CpInfo) (this : Nat) (attrs : Array Attribute := #[]) (ms : Array MethodInfo := #[]) (fl : Nat := 33) (sup : Nat := 0) (ifs : Array Nat := #[]) (fds : Array FieldInfo := #[]) : ClassFile where
  minorVersion := 0
  majorVersion := 65
  constantPool := pool
  accessFlags := fl
  thisClass := this
  superClass := sup
  interfaces := ifs
  fields := fds
  methods := ms
  attributes := attrs
def plain (name : String) (sup : Option ClassId) : Class where
  name := name
  kind := .ordinary
  loader := none
  accessFlags := 33
  super := sup
  interfaces := #[]
  cf := none
  fields := #[]
  methods := #[]
  instanceTypes := #[]
  staticTypes := #[]
  resolved := #[]
  callSites := []
  init := .initialized
  statics := none
  mirror := none

def pool0 : Array CpInfo := pool [(5, u "<init>"), (0, u "()V"), (1, .class_ 10), (1, u "java/lang/Object")] 113

def k0c0 : Code := { maxStack := 0, maxLocals := 1, code := object_method_1_code, exceptionTable := #[], attributes := #[] }
def k0m0 : Method := { name := "<init>", desc := "()V", sig := { parameters := [], returnType := none }, accessFlags := 1, code := some k0c0 }
/-- java/lang/Object -/
def k0 : Class := { plain "java/lang/Object" none with
  accessFlags := 33
  interfaces := #[]
  cf := some (fileOf pool0 8 #[] #[{ accessFlags := 1, nameIndex := 5, descriptorIndex := 6, attributes := #[] }] 33 0 #[] #[])
  fields := #[]
  methods := #[k0m0]
  instanceTypes := #[]
  staticTypes := #[]
  resolved := Array.replicate 124 none
  statics := none }

def pool1 : Array CpInfo := pool [(2, .class_ 4), (1, u "java/lang/Object"), (0, u "<init>"), (0, u "()V"), (0, .class_ 8), (0, u "com/example/element_ranker/elementranker/TagStatistics"), (0, .methodref 7 10), (0, .nameAndType 5 11), (0, u "(I)V"), (0, .methodref 7 13), (0, .nameAndType 14 15), (0, u "add"), (0, u "(II)V"), (0, .methodref 7 17), (0, .nameAndType 18 19), (0, u "elementCount"), (0, u "(I)I"), (0, .methodref 7 21), (0, .nameAndType 22 23), (0, u "averageLength"), (0, u "(I)D"), (0, .methodref 25 26), (0, .class_ 27), (0, .nameAndType 28 29), (0, u "com/example/element_ranker/elementranker/TagStatisticsAddPinLaw"), (0, u "avg"), (0, u "(JI)D"), (3, u "law"), (0, u "(IIIIII)Z")] 2

def k1m0 : Method := { name := "<init>", desc := "()V", sig := { parameters := [], returnType := none }, accessFlags := 1, code := none }
def k1c1 : Code := { maxStack := 4, maxLocals := 3, code := method_2_code, exceptionTable := #[], attributes := #[] }
def k1m1 : Method := { name := "avg", desc := "(JI)D", sig := { parameters := [.long, .int], returnType := some .double }, accessFlags := 10, code := some k1c1 }
def k1c2 : Code := { maxStack := 5, maxLocals := 19, code := code, exceptionTable := #[], attributes := #[] }
def k1m2 : Method := { name := "law", desc := "(IIIIII)Z", sig := { parameters := [.int, .int, .int, .int, .int, .int], returnType := some .boolean }, accessFlags := 9, code := some k1c2 }
/-- com/example/element_ranker/elementranker/TagStatisticsAddPinLaw -/
def k1 : Class := { plain "com/example/element_ranker/elementranker/TagStatisticsAddPinLaw" (some 0) with
  accessFlags := 49
  interfaces := #[]
  cf := some (fileOf pool1 25 #[] #[{ accessFlags := 1, nameIndex := 5, descriptorIndex := 6, attributes := #[] }, { accessFlags := 10, nameIndex := 28, descriptorIndex := 29, attributes := #[] }, { accessFlags := 9, nameIndex := 33, descriptorIndex := 34, attributes := #[] }] 49 2 #[] #[])
  fields := #[]
  methods := #[k1m0, k1m1, k1m2]
  instanceTypes := #[]
  staticTypes := #[]
  resolved := Array.replicate 37 none
  statics := none }

def pool2 : Array CpInfo := pool [(1, .methodref 2 3), (0, .class_ 4), (0, .nameAndType 5 6), (0, u "java/lang/Object"), (0, u "<init>"), (0, u "()V"), (0, .fieldref 8 9), (0, .class_ 10), (0, .nameAndType 11 12), (0, u "com/example/element_ranker/elementranker/TagStatistics"), (0, u "elementCounts"), (0, u "[I"), (0, .fieldref 8 14), (0, .nameAndType 15 16), (0, u "totalLengths"), (0, u "[J"), (0, .fieldref 8 18), (0, .nameAndType 19 20), (0, u "elementCount"), (0, u "I"), (0, .fieldref 8 22), (0, .nameAndType 23 24), (0, u "totalLength"), (0, u "J"), (2, .methodref 8 28), (0, .nameAndType 19 29), (0, u "(I)I"), (0, u "(I)V"), (2, u "add"), (0, u "(II)V"), (1, u "averageLength"), (0, u "(I)D")] 2

def k2c0 : Code := { maxStack := 2, maxLocals := 2, code := prog_53_method_1_code, exceptionTable := #[], attributes := #[] }
def k2m0 : Method := { name := "<init>", desc := "(I)V", sig := { parameters := [.int], returnType := none }, accessFlags := 0, code := some k2c0 }
def k2c1 : Code := { maxStack := 6, maxLocals := 3, code := prog_53_method_2_code, exceptionTable := #[], attributes := #[] }
def k2m1 : Method := { name := "add", desc := "(II)V", sig := { parameters := [.int, .int], returnType := none }, accessFlags := 0, code := some k2c1 }
def k2c2 : Code := { maxStack := 2, maxLocals := 3, code := prog_53_method_3_code, exceptionTable := #[], attributes := #[] }
def k2m2 : Method := { name := "elementCount", desc := "(I)I", sig := { parameters := [.int], returnType := some .int }, accessFlags := 0, code := some k2c2 }
def k2c3 : Code := { maxStack := 4, maxLocals := 5, code := prog_53_method_4_code, exceptionTable := #[], attributes := #[] }
def k2m3 : Method := { name := "averageLength", desc := "(I)D", sig := { parameters := [.int], returnType := some .double }, accessFlags := 0, code := some k2c3 }
/-- com/example/element_ranker/elementranker/TagStatistics -/
def k2 : Class := { plain "com/example/element_ranker/elementranker/TagStatistics" (some 0) with
  accessFlags := 48
  interfaces := #[]
  cf := some (fileOf pool2 8 #[] #[{ accessFlags := 0, nameIndex := 5, descriptorIndex := 30, attributes := #[] }, { accessFlags := 0, nameIndex := 33, descriptorIndex := 34, attributes := #[] }, { accessFlags := 0, nameIndex := 19, descriptorIndex := 29, attributes := #[] }, { accessFlags := 0, nameIndex := 36, descriptorIndex := 37, attributes := #[] }] 48 2 #[] #[{ accessFlags := 18, nameIndex := 11, descriptorIndex := 12, attributes := #[] }, { accessFlags := 18, nameIndex := 15, descriptorIndex := 16, attributes := #[] }, { accessFlags := 2, nameIndex := 19, descriptorIndex := 20, attributes := #[] }, { accessFlags := 2, nameIndex := 23, descriptorIndex := 24, attributes := #[] }])
  fields := #[{ name := "elementCounts", type := (.array .int), accessFlags := 18, slot := 0, constantValue := 0 }, { name := "totalLengths", type := (.array .long), accessFlags := 18, slot := 1, constantValue := 0 }, { name := "elementCount", type := .int, accessFlags := 2, slot := 2, constantValue := 0 }, { name := "totalLength", type := .long, accessFlags := 2, slot := 3, constantValue := 0 }]
  methods := #[k2m0, k2m1, k2m2, k2m3]
  instanceTypes := #[(.array .int), (.array .long), .int, .long]
  staticTypes := #[]
  resolved := Array.replicate 40 none
  statics := none }

def pool3 : Array CpInfo := pool [(1, u "java/lang/Cloneable"), (0, .class_ 1), (0, u "java/lang/Object"), (0, .class_ 3)] 3

/-- java/lang/Cloneable -/
def k3 : Class := { plain "java/lang/Cloneable" (some 0) with
  accessFlags := 1537
  interfaces := #[]
  cf := some (fileOf pool3 2 #[] #[] 1537 4 #[] #[])
  fields := #[]
  methods := #[]
  instanceTypes := #[]
  staticTypes := #[]
  resolved := Array.replicate 8 none
  statics := none }

def pool4 : Array CpInfo := pool [(1, u "java/io/Serializable"), (0, .class_ 1), (0, u "java/lang/Object"), (0, .class_ 3)] 3

/-- java/io/Serializable -/
def k4 : Class := { plain "java/io/Serializable" (some 0) with
  accessFlags := 1537
  interfaces := #[]
  cf := some (fileOf pool4 2 #[] #[] 1537 4 #[] #[])
  fields := #[]
  methods := #[]
  instanceTypes := #[]
  staticTypes := #[]
  resolved := Array.replicate 8 none
  statics := none }

/-- the primitive byte -/
def k5 : Class := { plain "byte" none with kind := .primitive 'B', accessFlags := 0x411 }
/-- [B -/
def k6 : Class := { plain "[B" (some 0) with kind := .array 5 .byte, interfaces := #[3, 4], accessFlags := 1041 }

/-- the primitive int -/
def k7 : Class := { plain "int" none with kind := .primitive 'I', accessFlags := 0x411 }
/-- [I -/
def k8 : Class := { plain "[I" (some 0) with kind := .array 7 .int, interfaces := #[3, 4], accessFlags := 1041 }

/-- the primitive long -/
def k9 : Class := { plain "long" none with kind := .primitive 'J', accessFlags := 0x411 }
/-- [J -/
def k10 : Class := { plain "[J" (some 0) with kind := .array 9 .long, interfaces := #[3, 4], accessFlags := 1041 }

def heap : Heap := #[]
def classes : Array Class := #[k0, k1, k2, k3, k4, k5, k6, k7, k8, k9, k10]
def interned : List (Array UInt16 × Addr) := []
def slotsUsed : Nat := 0
def theMethod : MethodId := ⟨1, 2⟩
def args0 : Array Value := #[.int 7, .int 1, .int 2, .int 3, .int 4, .int 9]
def aboutOver (below : List Frame) : State where
  vm := { classes := classes, interned := interned.toArray }
  heap := heap
  slotsUsed := slotsUsed
  threads := #[{ frames := .invoking theMethod args0 :: below }]
def below0 : List Frame := [.native { method := ⟨0, 0⟩, args := #[] }]
def about1 : State := aboutOver below0
def p0 : Program := .bare "" "" ""
def e0 : Env := launch0.env 0 0 0
theorem w_frames : about1.frames = Frame.invoking theMethod args0 :: below0 := rfl
set_option maxRecDepth 65536 in
theorem w_args : argsFit about1.vm theMethod args0 = true := by decide +kernel
set_option maxRecDepth 65536 in
theorem w_heap : heapFits about1 = true := by decide +kernel
set_option maxRecDepth 65536 in
theorem w_runnable : about1.curStatus? = some .runnable := by decide +kernel
set_option maxRecDepth 65536 in
theorem w_alone : about1.alone = true := by decide +kernel
set_option maxRecDepth 65536 in
theorem w_named : about1.methodNamed? x = some theMethod := by decide +kernel
set_option maxRecDepth 65536 in
theorem w_hears : about1.hears theMethod below0 = true := by decide +kernel
set_option maxRecDepth 65536 in
theorem w_ripe : about1.ripe theMethod args0 below0 = true := by decide +kernel
theorem w_running : about1.status = .running := rfl
set_option maxRecDepth 65536 in
theorem w_room : about1.hasRoom e0.platform room_1 = true :=
  launch0.hasRoom_least _ room_1 (by decide +kernel) (by decide +kernel) (by decide +kernel) (by decide +kernel) (by decide +kernel) (by decide +kernel)
theorem allAtoms_all (ts : List Jvm.Cond) (a : Array Jvm.Value) (st : Jvm.State) : (allAtoms ts).before a st = ts.all (fun c => c.before a st) := by
  induction ts with
  | nil => rfl
  | cons c t ih =>
    show (Jvm.Cond.and c (allAtoms t)).before a st = _
    rw [Jvm.Cond.before_and, ih, List.all_cons]
def words1 : List Jvm.Cond := Jvm.Cond.code x code maxLocals ret :: tables_1
/-- a 'code' word, met by the world's own term for the bytes: nothing is compared byte by byte -/
theorem code_word {y : MethodName} {bytes : ByteArray} {mx : Nat} {rt : Option FieldType} {a : Array Value} {s : State} {m : MethodId} {meth : Method} {c : Code} (h1 : s.methodNamed? y = some m) (h2 : s.vm.method? m = some meth) (h3 : meth.code = some c) (h4 : c.code = bytes)
    (h5 : (c.maxLocals == mx && c.exceptionTable.isEmpty && decide (c.maxStack ≤ mostOperands) && decide (meth.sig.returnType = rt) && !meth.locks && decide (parseMethodDescriptor y.desc = some meth.sig)) = true) : (Jvm.Cond.code y bytes mx rt).before a s = true := by
  simp only [Bool.and_eq_true, beq_iff_eq, Bool.not_eq_true', decide_eq_true_eq] at h5
  obtain ⟨⟨⟨⟨⟨g1, g2⟩, g3⟩, g4⟩, g5⟩, g6⟩ := h5
  simp [Cond.before, Cond.holds, Cond.value, h1, h2, h3, h4, g1, g2, g3, g4, g5, g6]
def isCode : Jvm.Cond → Bool
  | .code _ _ _ _ => true
  | _ => false
theorem all_split {L : List Jvm.Cond} {P : Jvm.Cond → Bool} (h1 : L.all (fun c => isCode c || P c) = true) (h2 : ∀ c ∈ L.filter isCode, P c = true) : L.all P = true := by
  refine List.all_eq_true.mpr fun c hc => ?_
  have h := List.all_eq_true.mp h1 c hc
  rcases Bool.eq_false_or_eq_true (isCode c) with hi | hi
  · exact h2 c (List.mem_filter.mpr ⟨hc, hi⟩)
  · simpa [hi] using h
set_option maxRecDepth 65536 in
theorem w_c0 : (Jvm.Cond.code x code maxLocals ret).before args0 about1 = true := code_word (m := ⟨1, 2⟩) (meth := k1m2) (c := k1c2) (by decide +kernel) rfl rfl rfl (by decide +kernel)
set_option maxRecDepth 65536 in
theorem w_c1 : (Jvm.Cond.code ({ cls := "com/example/element_ranker/elementranker/TagStatistics", name := "<init>", desc := "(I)V" } : Jvm.MethodName) prog_53_method_1_code (2 : Nat) (Option.none : Option Jvm.ClassFile.FieldType)).before args0 about1 = true := code_word (m := ⟨2, 0⟩) (meth := k2m0) (c := k2c0) (by decide +kernel) rfl rfl rfl (by decide +kernel)
set_option maxRecDepth 65536 in
theorem w_c2 : (Jvm.Cond.code ({ cls := "java/lang/Object", name := "<init>", desc := "()V" } : Jvm.MethodName) object_method_1_code (1 : Nat) (Option.none : Option Jvm.ClassFile.FieldType)).before args0 about1 = true := code_word (m := ⟨0, 0⟩) (meth := k0m0) (c := k0c0) (by decide +kernel) rfl rfl rfl (by decide +kernel)
set_option maxRecDepth 65536 in
theorem w_c3 : (Jvm.Cond.code ({ cls := "com/example/element_ranker/elementranker/TagStatistics", name := "add", desc := "(II)V" } : Jvm.MethodName) prog_53_method_2_code (3 : Nat) (Option.none : Option Jvm.ClassFile.FieldType)).before args0 about1 = true := code_word (m := ⟨2, 1⟩) (meth := k2m1) (c := k2c1) (by decide +kernel) rfl rfl rfl (by decide +kernel)
set_option maxRecDepth 65536 in
theorem w_c4 : (Jvm.Cond.code ({ cls := "com/example/element_ranker/elementranker/TagStatistics", name := "elementCount", desc := "(I)I" } : Jvm.MethodName) prog_53_method_3_code (3 : Nat) (Option.some Jvm.ClassFile.FieldType.int)).before args0 about1 = true := code_word (m := ⟨2, 2⟩) (meth := k2m2) (c := k2c2) (by decide +kernel) rfl rfl rfl (by decide +kernel)
set_option maxRecDepth 65536 in
theorem w_c5 : (Jvm.Cond.code ({ cls := "com/example/element_ranker/elementranker/TagStatistics", name := "averageLength", desc := "(I)D" } : Jvm.MethodName) prog_53_method_4_code (5 : Nat) (Option.some Jvm.ClassFile.FieldType.double)).before args0 about1 = true := code_word (m := ⟨2, 3⟩) (meth := k2m3) (c := k2c3) (by decide +kernel) rfl rfl rfl (by decide +kernel)
set_option maxRecDepth 65536 in
theorem w_c6 : (Jvm.Cond.code ({ cls := "com/example/element_ranker/elementranker/TagStatisticsAddPinLaw", name := "avg", desc := "(JI)D" } : Jvm.MethodName) method_2_code (3 : Nat) (Option.some Jvm.ClassFile.FieldType.double)).before args0 about1 = true := code_word (m := ⟨1, 1⟩) (meth := k1m1) (c := k1c1) (by decide +kernel) rfl rfl rfl (by decide +kernel)
def codes1 : List Jvm.Cond := [Jvm.Cond.code x code maxLocals ret, Jvm.Cond.code ({ cls := "com/example/element_ranker/elementranker/TagStatistics", name := "<init>", desc := "(I)V" } : Jvm.MethodName) prog_53_method_1_code (2 : Nat) (Option.none : Option Jvm.ClassFile.FieldType), Jvm.Cond.code ({ cls := "java/lang/Object", name := "<init>", desc := "()V" } : Jvm.MethodName) object_method_1_code (1 : Nat) (Option.none : Option Jvm.ClassFile.FieldType), Jvm.Cond.code ({ cls := "com/example/element_ranker/elementranker/TagStatistics", name := "add", desc := "(II)V" } : Jvm.MethodName) prog_53_method_2_code (3 : Nat) (Option.none : Option Jvm.ClassFile.FieldType), Jvm.Cond.code ({ cls := "com/example/element_ranker/elementranker/TagStatistics", name := "elementCount", desc := "(I)I" } : Jvm.MethodName) prog_53_method_3_code (3 : Nat) (Option.some Jvm.ClassFile.FieldType.int), Jvm.Cond.code ({ cls := "com/example/element_ranker/elementranker/TagStatistics", name := "averageLength", desc := "(I)D" } : Jvm.MethodName) prog_53_method_4_code (5 : Nat) (Option.some Jvm.ClassFile.FieldType.double), Jvm.Cond.code ({ cls := "com/example/element_ranker/elementranker/TagStatisticsAddPinLaw", name := "avg", desc := "(JI)D" } : Jvm.MethodName) method_2_code (3 : Nat) (Option.some Jvm.ClassFile.FieldType.double)]
set_option maxRecDepth 65536 in
theorem codes_eq : words1.filter isCode = codes1 := rfl
theorem w_codes : ∀ c ∈ words1.filter isCode, c.before args0 about1 = true := by
  rw [codes_eq]
  intro c hc
  simp only [codes1, List.mem_cons, List.not_mem_nil, or_false] at hc
  rcases hc with rfl | rfl | rfl | rfl | rfl | rfl | rfl
  · exact w_c0
  · exact w_c1
  · exact w_c2
  · exact w_c3
  · exact w_c4
  · exact w_c5
  · exact w_c6
set_option maxRecDepth 65536 in
theorem w_t1 : (words1.take 24).all (fun c => isCode c || c.before args0 about1) = true := by decide +kernel
set_option maxRecDepth 65536 in
theorem w_t2 : (words1.drop 24).all (fun c => isCode c || c.before args0 about1) = true := by decide +kernel
theorem w_tables : (allAtoms (Jvm.Cond.code x code maxLocals ret :: tables_1)).before args0 about1 = true := by
  rw [allAtoms_all]
  show words1.all (fun c => c.before args0 about1) = true
  refine all_split ?_ w_codes
  rw [← List.take_append_drop 24 words1, List.all_append, w_t1, w_t2]
  rfl
set_option maxRecDepth 65536 in
theorem w_case : (Jvm.Cond.and given_1 narrow_1).before args0 about1 = true := by decide +kernel
theorem w_applies : (headSpec (Jvm.Cond.code x code maxLocals ret :: tables_1) room_1).applies x e0.platform about1 = true :=
  (Spec.applies_iff w_frames).mpr ⟨w_running, w_runnable, w_alone, w_named, w_hears, w_ripe, w_room, w_tables⟩
theorem atStart : AtStart classFile x code maxLocals ret World_1 tables_1 room_1 Calls_1 rest_1 Pre_1 launch0 p0 e0 about1 theMethod args0 below0 :=
  ⟨lists_1, trivial, launch0.admits_env _ _ _, launch0.least_env, fairChoices_fair.cas, fairChoices_fair.clock, w_frames, w_args, w_heap, w_applies, trivial, trivial, w_case⟩
end start1
theorem witness_1 : WitnessClaimed_1 := ⟨start1.p0, start1.e0, start1.about1, start1.theMethod, start1.args0, start1.below0, start1.atStart⟩
end Jvm.Pilot.@@N@@
