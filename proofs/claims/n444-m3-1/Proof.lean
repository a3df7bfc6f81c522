import JvmDerived
import JvmDerived.Pilot.@@N@@Statement
import JvmDerived.Pilot.@@N@@Code
set_option linter.unusedVariables false
set_option linter.unusedSimpArgs false
namespace Jvm.RoadKit
open Sem ClassFile Op Lib Jvm.Stand Jvm.Free Jvm.LawKit
section New
variable {p : Program} {l : Launch} {e : Env} {R : Room} {s : State} {m : MethodId} {args : Array Value} {below : List Frame} {meth : Method} {c : Code} {T : State} {locs : List Loc} {cells slots : Nat}
theorem retI (X : Stand p l e R s m args below meth c T locs cells slots) (hx : p.tables.exec = Jvm.exec) {pc : Nat} {Ls : Array Slot} {z : Int32} {rest : List Value} (hret : meth.sig.returnType = some .int) (hd : decode c.code pc = .ok (.ireturn, 1)) {fs : List Frame}
    (hl : ∀ (f : JFrame) (acts : List Action), f.method = m → f.locked = none → f.entered = [] → (doReturn e (T.setTop f) acts (some (.int z))).1 = T.setFrames fs) : Steps p.tables e below (T.setTop (mkF m pc Ls (.int z :: rest))) (T.setFrames fs) := by
  have hm' : T.vm.method? m = some meth := X.method'
  have hn : narrow .int (.int z) = .int z := rfl
  show Steps p.tables e below (T.setTop { method := m, pc := pc, locals := Ls, stack := _ :: rest, locked := none }) _
  jvm_step X.here [X.here.top, hx, hd, hm', hret, hn]
  first | (intro acts; rw [hl _ acts rfl rfl rfl]) | rw [hl _ _ rfl rfl rfl]
  exact Steps.refl _
end New
end Jvm.RoadKit
namespace Jvm.Pilot.@@N@@
open Jvm Jvm.ClassFile Sem Op Lib Jvm.Free Jvm.Stand Jvm.LawKit Jvm.RoadKit Bundle Jvm.Pilot.@@N@@.Jvm.D
/-! own small kit: a walk forward, state by state -/
section OwnKit
variable {p : Program} {l : Launch} {e : Env} {R : Room} {s : State} {m : MethodId} {args : Array Value} {below : List Frame} {meth : Method} {c : Code} {T : State} {locs : List Loc} {cells slots : Nat} {rc rs : Nat} {Q : Option Value → Heap → List Loc → Prop} {Z : State} {h h' : Heap} {a b : Addr} {S S' : State}
/-- from S the run comes to its return, and Q holds there -/
def Go (p : Program) (e : Env) (below : List Frame) (s : State) (rc rs : Nat) (Q : Option Value → Heap → List Loc → Prop) (S : State) : Prop :=
  ∃ s₂ o, Steps p.tables e below S s₂ ∧ s₂.status = .running ∧ Ended s₂ below o ∧ ∃ v L, o = .returned v ∧ Q v s₂.heap L ∧ FrameEnd s o s₂ L rc rs
theorem Go.st (k : ∀ t, Steps p.tables e below S' t → Steps p.tables e below S t) (g : Go p e below s rc rs Q S') : Go p e below s rc rs Q S := by
  obtain ⟨x, y, z, r⟩ := g
  exact ⟨x, y, k x z, r⟩
theorem Go.tr (k : Steps p.tables e below S S') (g : Go p e below s rc rs Q S') : Go p e below s rc rs Q S := by
  obtain ⟨x, y, z, r⟩ := g
  exact ⟨x, y, k.trans z, r⟩
theorem Go.ret (X : Stand p l e R s m args below meth c T locs cells slots) (hlk : meth.locks = false) (v : Option Value) (hv : meth.sig.returnType = none → v = none) {g : JFrame} (hQ : Q v T.heap locs) (hc : cells ≤ rc) (hs : slots ≤ rs)
    (k : ∀ fs, (∀ (f : JFrame) (acts : List Action), f.method = m → f.locked = none → f.entered = [] → (doReturn e (T.setTop f) acts v).1 = T.setFrames fs) → Steps p.tables e below (T.setTop g) (T.setFrames fs)) : Go p e below s rc rs Q (T.setTop g) := by
  obtain ⟨fs, hr, hrun, hended, hW, hsame⟩ := X.leave (v := v) hv hlk
  exact ⟨_, _, k fs hr, hrun, hended, _, _, rfl, hQ, ⟨_, rfl⟩, hW, hsame.mono hc hs⟩
theorem own_w {a0 : Array Value} (hw : ∀ d ∈ tables_1, d.before a0 Z = true) (k : Nat) {d : Jvm.Cond} (q : tables_1[k]? = some d) : d.before a0 Z = true := hw _ (List.mem_of_getElem? q)
theorem own_idx {n j : Int32} {cl : Cell} (S : cl.slots.size = n.toNatClampNeg) (q1 : ¬ j < 0) (q2 : j < n) : ¬ (j < 0 ∨ cl.slots.size ≤ j.toNatClampNeg) := inb_of S ⟨q1, q2⟩
theorem own_iaload (X : Stand p l e R s m args below meth c T locs cells slots) (hx : p.tables.exec = Jvm.exec) (hZ : Z.Warmed39 s.vm) (eT : T.heap = h) {k : ClassId} {n : Int32} {vs : List Value} {d : Value} (V : Arv Z h a k .int n vs d) {j : Int32} (q1 : ¬ j < 0) (q2 : j < n) {v : Value} (hv : vs.getD j.toNatClampNeg d = v) {g : JFrame} (hg : g.method = m) {rest : List Value} (hs : g.stack = .int j :: .ref a :: rest) (hd : decode c.code g.pc = .ok (.iaload, 1)) (t : State) (kk : Steps p.tables e below (T.setTop { g with pc := g.pc + 1, stack := v :: rest }) t) : Steps p.tables e below (T.setTop g) t := by
  obtain ⟨cl, A, -, S, -, H, -⟩ := V
  have hin := own_idx S q1 q2
  exact X.iaload hx (j := j) (v := v) (by rw [eT]; exact A.1) (State.isArrayOf_alike hZ.alike A.2.1) A.2.2 hin (H.at hin hv) (g := g) hg hs hd _ kk
theorem own_laload (X : Stand p l e R s m args below meth c T locs cells slots) (hx : p.tables.exec = Jvm.exec) (hZ : Z.Warmed39 s.vm) (eT : T.heap = h) {k : ClassId} {n : Int32} {vs : List Value} {d : Value} (V : Arv Z h a k .long n vs d) {j : Int32} (q1 : ¬ j < 0) (q2 : j < n) {v : Value} (hv : vs.getD j.toNatClampNeg d = v) {g : JFrame} (hg : g.method = m) {rest : List Value} (hs : g.stack = .int j :: .ref a :: rest) (hd : decode c.code g.pc = .ok (.laload, 1)) (t : State) (kk : Steps p.tables e below (T.setTop { g with pc := g.pc + 1, stack := v :: rest }) t) : Steps p.tables e below (T.setTop g) t := by
  obtain ⟨cl, A, -, S, -, H, -⟩ := V
  have hin := own_idx S q1 q2
  exact X.laload hx (j := j) (v := v) (by rw [eT]; exact A.1) (State.isArrayOf_alike hZ.alike A.2.1) A.2.2 hin (H.at hin hv) (g := g) hg hs hd _ kk
theorem own_caload (X : Stand p l e R s m args below meth c T locs cells slots) (hx : p.tables.exec = Jvm.exec) (hZ : Z.Warmed39 s.vm) (eT : T.heap = h) {k : ClassId} {n : Int32} {vs : List Value} {d : Value} (V : Arv Z h a k .char n vs d) {j : Int32} (q1 : ¬ j < 0) (q2 : j < n) {v : Value} (hv : vs.getD j.toNatClampNeg d = v) {g : JFrame} (hg : g.method = m) {rest : List Value} (hs : g.stack = .int j :: .ref a :: rest) (hd : decode c.code g.pc = .ok (.caload, 1)) (t : State) (kk : Steps p.tables e below (T.setTop { g with pc := g.pc + 1, stack := v :: rest }) t) : Steps p.tables e below (T.setTop g) t := by
  obtain ⟨cl, A, -, S, -, H, -⟩ := V
  have hin := own_idx S q1 q2
  exact X.caload hx (j := j) (v := v) (by rw [eT]; exact A.1) (State.isArrayOf_alike hZ.alike A.2.1) A.2.2 hin (H.at hin hv) (g := g) hg hs hd _ kk
theorem own_baloadB (X : Stand p l e R s m args below meth c T locs cells slots) (hx : p.tables.exec = Jvm.exec) (hZ : Z.Warmed39 s.vm) (eT : T.heap = h) {k : ClassId} {n : Int32} {vs : List Value} {d : Value} (V : Arv Z h a k .byte n vs d) {j : Int32} (q1 : ¬ j < 0) (q2 : j < n) {v : Value} (hv : vs.getD j.toNatClampNeg d = v) {g : JFrame} (hg : g.method = m) {rest : List Value} (hs : g.stack = .int j :: .ref a :: rest) (hd : decode c.code g.pc = .ok (.baload, 1)) (t : State) (kk : Steps p.tables e below (T.setTop { g with pc := g.pc + 1, stack := v :: rest }) t) : Steps p.tables e below (T.setTop g) t := by
  obtain ⟨cl, A, -, S, -, H, -⟩ := V
  have hin := own_idx S q1 q2
  exact X.baloadBytes hx (j := j) (v := v) (by rw [eT]; exact A.1) (State.isArrayOf_alike hZ.alike A.2.1) A.2.2 hin (H.at hin hv) (g := g) hg hs hd _ kk
theorem own_baloadZ (X : Stand p l e R s m args below meth c T locs cells slots) (hx : p.tables.exec = Jvm.exec) (hZ : Z.Warmed39 s.vm) (eT : T.heap = h) {k : ClassId} {n : Int32} {vs : List Value} {d : Value} (V : Arv Z h a k .boolean n vs d) {j : Int32} (q1 : ¬ j < 0) (q2 : j < n) {v : Value} (hv : vs.getD j.toNatClampNeg d = v) {g : JFrame} (hg : g.method = m) {rest : List Value} (hs : g.stack = .int j :: .ref a :: rest) (hd : decode c.code g.pc = .ok (.baload, 1)) (t : State) (kk : Steps p.tables e below (T.setTop { g with pc := g.pc + 1, stack := v :: rest }) t) : Steps p.tables e below (T.setTop g) t := by
  obtain ⟨cl, A, -, S, -, H, -⟩ := V
  have hin := own_idx S q1 q2
  exact X.baloadBooleans hx (j := j) (v := v) (by rw [eT]; exact A.1) (State.isArrayOf_alike hZ.alike A.2.1) A.2.2 hin (H.at hin hv) (g := g) hg hs hd _ kk
theorem own_aaload (X : Stand p l e R s m args below meth c T locs cells slots) (hx : p.tables.exec = Jvm.exec) (hZ : Z.Warmed39 s.vm) (eT : T.heap = h) {k : ClassId} {n : Int32} {vs : List Value} {d : Value} {ty : FieldType} (V : Arv Z h a k ty n vs d) (hty : ty.isReference = true) {j : Int32} (q1 : ¬ j < 0) (q2 : j < n) {v : Value} (hv : vs.getD j.toNatClampNeg d = v) {g : JFrame} (hg : g.method = m) {rest : List Value} (hs : g.stack = .int j :: .ref a :: rest) (hd : decode c.code g.pc = .ok (.aaload, 1)) (t : State) (kk : Steps p.tables e below (T.setTop { g with pc := g.pc + 1, stack := v :: rest }) t) : Steps p.tables e below (T.setTop g) t := by
  obtain ⟨cl, A, -, S, -, H, -⟩ := V
  have hin := own_idx S q1 q2
  exact X.aaload hx (j := j) (v := v) (by rw [eT]; exact A.1) (State.isArrayOf_alike hZ.alike A.2.1) hty A.2.2 hin (H.at hin hv) (g := g) hg hs hd _ kk
theorem own_len (X : Stand p l e R s m args below meth c T locs cells slots) (hx : p.tables.exec = Jvm.exec) (hZ : Z.Warmed39 s.vm) (eT : T.heap = h) {k : ClassId} {n : Int32} {vs : List Value} {d : Value} {ty : FieldType} (V : Arv Z h a k ty n vs d) {g : JFrame} (hg : g.method = m) {rest : List Value} (hs : g.stack = .ref a :: rest) (hd : decode c.code g.pc = .ok (.arraylength, 1)) (t : State) (kk : Steps p.tables e below (T.setTop { g with pc := g.pc + 1, stack := .int n :: rest }) t) : Steps p.tables e below (T.setTop g) t := by
  obtain ⟨cl, A, -, S, N, -, -⟩ := V
  refine X.arraylength hx (by rw [eT]; exact A.1) (State.isArrayOf_alike hZ.alike A.2.1) (g := g) hg hs hd _ ?_
  rw [len_of S N]
  exact kk
theorem own_stI (X : Stand p l e R s m args below meth c T locs cells slots) (hx : p.tables.exec = Jvm.exec) (hZ : Z.Warmed39 s.vm) (eT : T.heap = h) {k : ClassId} {n : Int32} {vs : List Value} {d : Value} (V : Arv Z h a k .int n vs d) {j x : Int32} (q1 : ¬ j < 0) (q2 : j < n) (i : Nat) (hi : j.toNatClampNeg = i) (hl : i < vs.length) {g : JFrame} (hg : g.method = m) {rest : List Value} (hs : g.stack = .int x :: .int j :: .ref a :: rest) (hd : decode c.code g.pc = .ok (.iastore, 1)) :
    ∃ T' h', Stand p l e R s m args below meth c T' (locs ++ [⟨a, j.toNatClampNeg⟩]) cells slots ∧ T'.heap = h' ∧ Wr h h' a j.toNatClampNeg (.int x) ∧ Arv Z h' a k .int n (vs.set i (.int x)) d ∧ ∀ t, Steps p.tables e below (T'.setTop { g with pc := g.pc + 1, stack := rest }) t → Steps p.tables e below (T.setTop g) t := by
  obtain ⟨cl, A, q, S, N, H, G⟩ := V
  obtain ⟨T', h', X', e', W', st⟩ := stI X hx hZ eT A (own_idx S q1 q2) (g := g) hg hs hd
  exact ⟨T', h', X', e', W', Arv.set A q S N H G rfl W' i hi hl, st⟩
theorem own_stJ (X : Stand p l e R s m args below meth c T locs cells slots) (hx : p.tables.exec = Jvm.exec) (hZ : Z.Warmed39 s.vm) (eT : T.heap = h) {k : ClassId} {n : Int32} {vs : List Value} {d : Value} (V : Arv Z h a k .long n vs d) {j : Int32} {x : Int64} (q1 : ¬ j < 0) (q2 : j < n) (i : Nat) (hi : j.toNatClampNeg = i) (hl : i < vs.length) {g : JFrame} (hg : g.method = m) {rest : List Value} (hs : g.stack = .long x :: .int j :: .ref a :: rest) (hd : decode c.code g.pc = .ok (.lastore, 1)) :
    ∃ T' h', Stand p l e R s m args below meth c T' (locs ++ [⟨a, j.toNatClampNeg⟩]) cells slots ∧ T'.heap = h' ∧ Wr h h' a j.toNatClampNeg (.long x) ∧ Arv Z h' a k .long n (vs.set i (.long x)) d ∧ ∀ t, Steps p.tables e below (T'.setTop { g with pc := g.pc + 1, stack := rest }) t → Steps p.tables e below (T.setTop g) t := by
  obtain ⟨cl, A, q, S, N, H, G⟩ := V
  obtain ⟨T', h', X', e', W', st⟩ := stJ X hx hZ eT A (own_idx S q1 q2) (g := g) hg hs hd
  exact ⟨T', h', X', e', W', Arv.set A q S N H G rfl W' i hi hl, st⟩
theorem own_stC (X : Stand p l e R s m args below meth c T locs cells slots) (hx : p.tables.exec = Jvm.exec) (hZ : Z.Warmed39 s.vm) (eT : T.heap = h) {k : ClassId} {n : Int32} {vs : List Value} {d : Value} (V : Arv Z h a k .char n vs d) {j x : Int32} (q1 : ¬ j < 0) (q2 : j < n) (i : Nat) (hi : j.toNatClampNeg = i) (hl : i < vs.length) {g : JFrame} (hg : g.method = m) {rest : List Value} (hs : g.stack = .int x :: .int j :: .ref a :: rest) (hd : decode c.code g.pc = .ok (.castore, 1)) :
    ∃ T' h', Stand p l e R s m args below meth c T' (locs ++ [⟨a, j.toNatClampNeg⟩]) cells slots ∧ T'.heap = h' ∧ Wr h h' a j.toNatClampNeg (.int (nar .char x)) ∧ Arv Z h' a k .char n (vs.set i (.int (nar .char x))) d ∧ ∀ t, Steps p.tables e below (T'.setTop { g with pc := g.pc + 1, stack := rest }) t → Steps p.tables e below (T.setTop g) t := by
  obtain ⟨cl, A, q, S, N, H, G⟩ := V
  obtain ⟨T', h', X', e', W', st⟩ := stC X hx hZ eT A (own_idx S q1 q2) (g := g) hg hs hd
  exact ⟨T', h', X', e', W', Arv.set A q S N H G (fits_nar_char _) W' i hi hl, st⟩
theorem own_stB (X : Stand p l e R s m args below meth c T locs cells slots) (hx : p.tables.exec = Jvm.exec) (hZ : Z.Warmed39 s.vm) (eT : T.heap = h) {k : ClassId} {n : Int32} {vs : List Value} {d : Value} (V : Arv Z h a k .byte n vs d) {j x : Int32} (q1 : ¬ j < 0) (q2 : j < n) (i : Nat) (hi : j.toNatClampNeg = i) (hl : i < vs.length) {g : JFrame} (hg : g.method = m) {rest : List Value} (hs : g.stack = .int x :: .int j :: .ref a :: rest) (hd : decode c.code g.pc = .ok (.bastore, 1)) :
    ∃ T' h', Stand p l e R s m args below meth c T' (locs ++ [⟨a, j.toNatClampNeg⟩]) cells slots ∧ T'.heap = h' ∧ Wr h h' a j.toNatClampNeg (.int (nar .byte x)) ∧ Arv Z h' a k .byte n (vs.set i (.int (nar .byte x))) d ∧ ∀ t, Steps p.tables e below (T'.setTop { g with pc := g.pc + 1, stack := rest }) t → Steps p.tables e below (T.setTop g) t := by
  obtain ⟨cl, A, q, S, N, H, G⟩ := V
  obtain ⟨T', h', X', e', W', st⟩ := stB X hx hZ eT A (own_idx S q1 q2) (g := g) hg hs hd
  exact ⟨T', h', X', e', W', Arv.set A q S N H G (fits_nar_byte _) W' i hi hl, st⟩
theorem own_stZ (X : Stand p l e R s m args below meth c T locs cells slots) (hx : p.tables.exec = Jvm.exec) (hZ : Z.Warmed39 s.vm) (eT : T.heap = h) {k : ClassId} {n : Int32} {vs : List Value} {d : Value} (V : Arv Z h a k .boolean n vs d) {j x : Int32} (q1 : ¬ j < 0) (q2 : j < n) (i : Nat) (hi : j.toNatClampNeg = i) (hl : i < vs.length) {g : JFrame} (hg : g.method = m) {rest : List Value} (hs : g.stack = .int x :: .int j :: .ref a :: rest) (hd : decode c.code g.pc = .ok (.bastore, 1)) :
    ∃ T' h', Stand p l e R s m args below meth c T' (locs ++ [⟨a, j.toNatClampNeg⟩]) cells slots ∧ T'.heap = h' ∧ Wr h h' a j.toNatClampNeg (.int (nar .boolean x)) ∧ Arv Z h' a k .boolean n (vs.set i (.int (nar .boolean x))) d ∧ ∀ t, Steps p.tables e below (T'.setTop { g with pc := g.pc + 1, stack := rest }) t → Steps p.tables e below (T.setTop g) t := by
  obtain ⟨cl, A, q, S, N, H, G⟩ := V
  obtain ⟨T', h', X', e', W', st⟩ := stZ X hx hZ eT A (own_idx S q1 q2) (g := g) hg hs hd
  exact ⟨T', h', X', e', W', Arv.set A q S N H G (fits_nar_bool _) W' i hi hl, st⟩
theorem own_old {n0 : Nat} (O : Old Z n0 h) : n0 ≤ h.size := O.1 ▸ O.2.1
theorem own_res {z z' y : Int32} (hq : y = z') (hz : z = z') : some (Value.int z) = some (Value.int y) := by rw [hq, hz]
theorem own_resJ {z z' y : Int64} (hq : y = z') (hz : z = z') : some (Value.long z) = some (Value.long y) := by rw [hq, hz]
theorem own_narR {v : Value} {t : FieldType} (q : v.isRef = true) (r : t.isReference = true := by rfl) : narrow t v = v := by
  rcases ref_cases q with rfl | ⟨_, rfl⟩ <;> cases t <;> first | rfl | (simp [FieldType.isReference] at r)
theorem own_fitR {v : Value} {t : FieldType} (q : v.isRef = true) (r : t.isReference = true := by rfl) : fits t v = true := by
  rcases ref_cases q with rfl | ⟨_, rfl⟩ <;> cases t <;> first | rfl | (simp [FieldType.isReference] at r)
theorem own_fld {ar : Array Value} {t : Term} {x : Addr} {C n d : String} {k : Int32} (ht : t.eval ar s none [] s = some (.ref x)) (q : (Jvm.Cond.eq (.field t C n d) (.int k)).value ar s none s [] = some true) : Fld s s.heap x C n d (.int k) := by
  obtain ⟨u, w, e1, e2, -, k2⟩ := cmp_v (Or.inl q)
  have e3 : (Term.int k).eval ar s none [] s = some (.int k) := Term.int_eval k
  rw [e3] at e2
  obtain rfl := Option.some.inj e2
  obtain ⟨z, rfl⟩ := k2
  have e4 : z = k := gotT (Cond.eq_ints e1 e3) q
  subst e4
  rw [fld_at ht] at e1
  exact Fld.start e1
theorem own_neI {u w : Int32} (q : u ≠ w) : Value.int u ≠ Value.int w := fun z => q (Value.int.inj z)
theorem own_stR (X : Stand p l e R s m args below meth c T locs cells slots) (hx : p.tables.exec = Jvm.exec) (hZ : Z.Warmed39 s.vm) (eT : T.heap = h) {k : ClassId} {n : Int32} {vs : List Value} {d : Value} {ty : FieldType} {C : String} (V : Arv Z h a k ty n vs d) (hty : ty.isReference = true) (O : Ovr Z k C) {y : Addr} (I : Ins Z h y C true) {j : Int32} (q1 : ¬ j < 0) (q2 : j < n) (i : Nat) (hi : j.toNatClampNeg = i) (hl : i < vs.length) {g : JFrame} (hg : g.method = m) {rest : List Value} (hs : g.stack = .ref y :: .int j :: .ref a :: rest) (hd : decode c.code g.pc = .ok (.aastore, 1)) :
    ∃ T' h', Stand p l e R s m args below meth c T' (locs ++ [⟨a, j.toNatClampNeg⟩]) cells slots ∧ T'.heap = h' ∧ Wr h h' a j.toNatClampNeg (.ref y) ∧ Arv Z h' a k ty n (vs.set i (.ref y)) d ∧ ∀ t, Steps p.tables e below (T'.setTop { g with pc := g.pc + 1, stack := rest }) t → Steps p.tables e below (T.setTop g) t := by
  obtain ⟨cl, A, q, S, N, H, G⟩ := V
  obtain ⟨T', h', X', e', W', st⟩ := stR X hx hZ eT A (own_idx S q1 q2) hty (Sto.ofV A q O I) (g := g) hg hs hd
  exact ⟨T', h', X', e', W', Arv.set A q S N H G (own_fitR rfl hty) W' i hi hl, st⟩
theorem own_dupx2 (X : Stand p l e R s m args below meth c T locs cells slots) (hx : p.tables.exec = Jvm.exec) {g : JFrame} (hg : g.method = m) {x y z : Value} {rest : List Value} (hd : decode c.code g.pc = .ok (.dup_x2, 1)) (hs : g.stack = x :: y :: z :: rest) (hc : x.category = 1) (hc' : y.category = 1) (hc'' : z.category = 1) (t : State) (kk : Steps p.tables e below (T.setTop { g with pc := g.pc + 1, stack := x :: y :: z :: x :: rest }) t) : Steps p.tables e below (T.setTop g) t := by
  subst hg
  jvm_step X.here [X.here.top, hx, hd, dup_x2.wp_sem, hs, hc, hc', hc'']
  exact kk
end OwnKit
theorem own_lt (x y : Int32) : (x < y) = (x.toInt < y.toInt) := propext Int32.lt_iff_toInt_lt
theorem own_eq (x y : Int32) : (x = y) = (x.toInt = y.toInt) := propext Int32.toInt_inj.symm
theorem own_rem (x k : Int32) (hk : 0 < k.toInt) : ¬ ((x &&& 2147483647) % k < 0) ∧ (x &&& 2147483647) % k < k := by
  have h1 := c_mask x 2147483647 31 (by decide) (by decide)
  have h2 := c_iremV (x &&& 2147483647) k
  have h3 : 0 ≤ (x &&& 2147483647).toInt := by rw [h1]; exact Int.emod_nonneg _ (by decide)
  have h4 := h2.1 h3 hk
  rw [own_lt, own_lt]
  have h5 : (0 : Int32).toInt = 0 := rfl
  omega
def ad (j t x : Int32) : Int32 := if t = j then x + 1 else x
def adL (j t l : Int32) (x : Int64) : Int64 := if t = j then x + l.toInt64 else x
theorem di_0 : decode prog_53_method_1_code 0 = .ok (.aload_n 0, 1) := by decide +kernel
theorem di_1 : decode prog_53_method_1_code 1 = .ok (.invokespecial 1, 3) := by decide +kernel
theorem di_4 : decode prog_53_method_1_code 4 = .ok (.aload_n 0, 1) := by decide +kernel
theorem di_5 : decode prog_53_method_1_code 5 = .ok (.iload_n 1, 1) := by decide +kernel
theorem di_6 : decode prog_53_method_1_code 6 = .ok (.newarray .int, 2) := by decide +kernel
theorem di_8 : decode prog_53_method_1_code 8 = .ok (.putfield 7, 3) := by decide +kernel
theorem di_11 : decode prog_53_method_1_code 11 = .ok (.aload_n 0, 1) := by decide +kernel
theorem di_12 : decode prog_53_method_1_code 12 = .ok (.iload_n 1, 1) := by decide +kernel
theorem di_13 : decode prog_53_method_1_code 13 = .ok (.newarray .long, 2) := by decide +kernel
theorem di_15 : decode prog_53_method_1_code 15 = .ok (.putfield 13, 3) := by decide +kernel
theorem di_18 : decode prog_53_method_1_code 18 = .ok (.return_, 1) := by decide +kernel
theorem pni : plainName "com/example/element_ranker/elementranker/TagStatistics" = true := by first | (simp [plainName, overriddenIn]; done) | decide +kernel
theorem efi (m : MethodId) (x0 : Addr) (x1 : Int32) : entryFrame m #[(.ref x0), (.int x1)] 2 = mkF m 0 #[.val (.ref x0), .val (.int x1)] [] := by first | (simp [entryFrame, mkF, argsToLocals, Value.category, maxLocals]; done) | rfl
def Qi (Z : State) (a : Addr) (h0 : Heap) (n0 : Nat) (v : Option Value) (h : Heap) (L : List Loc) : Prop := ∃ (b : Addr) (kb : ClassId) (d : Addr) (kd : ClassId), v = none ∧ Fr n0 L ∧ Keep h0 h [a] ∧ n0 ≤ b ∧ h0.size ≤ b ∧ n0 ≤ d ∧ h0.size ≤ d ∧ b ≠ d ∧ Exa Z h a "com/example/element_ranker/elementranker/TagStatistics" ∧ Fld Z h a "com/example/element_ranker/elementranker/TagStatistics" "elementCounts" "[I" (.ref b) ∧ Fld Z h a "com/example/element_ranker/elementranker/TagStatistics" "totalLengths" "[J" (.ref d) ∧ Fld Z h a "com/example/element_ranker/elementranker/TagStatistics" "elementCount" "I" (.int (0 : Int32)) ∧ Fld Z h a "com/example/element_ranker/elementranker/TagStatistics" "totalLength" "J" (.long (0 : Int64)) ∧ Arv Z h b kb .int (3 : Int32) [(.int (0 : Int32)), (.int (0 : Int32)), (.int (0 : Int32))] (.int (0 : Int32)) ∧ Arv Z h d kd .long (3 : Int32) [(.long (0 : Int64)), (.long (0 : Int64)), (.long (0 : Int64))] (.long (0 : Int64))
set_option maxRecDepth 65536 in
set_option maxHeartbeats 40000000 in
theorem rmi (l : Launch) (Z : State) (a0 : Array Value) (hw : ∀ d ∈ tables_1, d.before a0 Z = true) (ws : List Jvm.Cond) (a : Addr) (h0 : Heap) (n0 : Nat) (O0 : Old Z n0 h0) (E_a : Exa Z h0 a "com/example/element_ranker/elementranker/TagStatistics") (F_a_elementCounts : Fld Z h0 a "com/example/element_ranker/elementranker/TagStatistics" "elementCounts" "[I" .null) (F_a_totalLengths : Fld Z h0 a "com/example/element_ranker/elementranker/TagStatistics" "totalLengths" "[J" .null) (F_a_elementCount : Fld Z h0 a "com/example/element_ranker/elementranker/TagStatistics" "elementCount" "I" (.int (0 : Int32))) (F_a_totalLength : Fld Z h0 a "com/example/element_ranker/elementranker/TagStatistics" "totalLength" "J" (.long (0 : Int64))) (g_a : n0 ≤ a) :
    MetFree l (⟨"com/example/element_ranker/elementranker/TagStatistics", "<init>", "(I)V"⟩ : MethodName) (head1 (Jvm.Cond.code (⟨"com/example/element_ranker/elementranker/TagStatistics", "<init>", "(I)V"⟩ : MethodName) prog_53_method_1_code 2 none :: ws) ({ frames := 1, cells := 2, slots := 6, locals := 12 } : Room)) (fun A_ U_ => A_ = #[(.ref a), (.int (3 : Int32))] ∧ Z.Warmed39 U_.vm ∧ U_.heap = h0) (fun _ _ _ _ _ => True) (fun _ U o U' => ∃ v L, o = .returned v ∧ Qi Z a h0 n0 v U'.heap L ∧ FrameEnd U o U' L ({ frames := 1, cells := 2, slots := 6, locals := 12 } : Room).cells ({ frames := 1, cells := 2, slots := 6, locals := 12 } : Room).slots) := by
  refine MetFree.of_bodySF (plainFor_of_name pni) hisR ?_
  intro p e s m args below meth cd s₁ Bd hml0 hP hK
  obtain ⟨rfl, hZ, hh⟩ := hP
  have hx := Bd.exec
  have hby := Bd.bytes
  have hlk : meth.locks = false := BodyLoose.notSynchronized Bd
  have hml : cd.maxLocals = 2 := hml0
  have hown : s.vm.findClass "com/example/element_ranker/elementranker/TagStatistics" = some m.cls := findClass_of_methodNamed Bd.named
  have hnm := (name_of_methodNamed Bd.named Bd.method).1
  have X0 : Stand p l e ({ frames := 1, cells := 2, slots := 6, locals := 12 } : Room) s m #[(.ref a), (.int (3 : Int32))] below meth cd s₁ [] 0 0 := Stand.of_body Bd
  have e0 : s₁.heap = h0 := by rw [← hh, Bd.state]; rfl
  have N0 := Fr.nil n0
  have K0 : Keep h0 h0 [a] := Keep.refl _ _
  have G : Go p e below s 2 6 (Qi Z a h0 n0) (s₁.setTop (mkF m 0 #[.val (.ref a), .val (.int (3 : Int32))] [])) := by
    show Go p e below s _ _ _ (s₁.setTop (mkF m 0 #[.val (.ref a), .val (.int (3 : Int32))] []))
    refine Go.st (fun _ kq_ => XS.aloadN X0.here hx rfl (hb hby di_0) rfl rfl kq_) ?_
    show Go p e below s _ _ _ (s₁.setTop (mkF m 1 #[.val (.ref a), .val (.int (3 : Int32))] [(.ref a)]))
    obtain ⟨T1, X1, e1, st1⟩ := initO X0 hx hZ hown (own_w hw 7 rfl) (own_w hw 8 rfl) (own_w hw 9 rfl) e0 (g := (mkF m 1 #[.val (.ref a), .val (.int (3 : Int32))] [(.ref a)])) rfl (by rw [hml]; rfl) rfl (hb hby di_1) (by decide) (W := 0) (by show 2 * 0 + _ ≤ _; exact Nat.le_of_eq rfl) (by decide)
    refine Go.st st1 ?_
    show Go p e below s _ _ _ (T1.setTop (mkF m 4 #[.val (.ref a), .val (.int (3 : Int32))] []))
    refine Go.st (fun _ kq_ => XS.aloadN X1.here hx rfl (hb hby di_4) rfl rfl kq_) ?_
    show Go p e below s _ _ _ (T1.setTop (mkF m 5 #[.val (.ref a), .val (.int (3 : Int32))] [(.ref a)]))
    refine Go.st (fun _ kq_ => XS.iloadN X1.here hx rfl (hb hby di_5) rfl kq_) ?_
    show Go p e below s _ _ _ (T1.setTop (mkF m 6 #[.val (.ref a), .val (.int (3 : Int32))] [(.int (3 : Int32)), (.ref a)]))
    obtain ⟨T2, h2, k2, X2, e2, E2, A2, st2⟩ := newP X1 hx hZ (own_w hw 10 rfl) e1 (g := (mkF m 6 #[.val (.ref a), .val (.int (3 : Int32))] [(.int (3 : Int32)), (.ref a)])) rfl (hb hby di_6) rfl (by decide) (cap := 3) (by decide) (by decide) (by decide) (by decide)
    obtain ⟨b2, g2⟩ : ∃ z, z = h0.size := ⟨_, rfl⟩
    rw [← g2] at A2 st2
    have g_b2 : n0 ≤ b2 := Nat.le_trans (own_old O0) (Nat.le_of_eq g2.symm)
    have sz_b2 : h0.size ≤ b2 := Nat.le_trans K0.1 (Nat.le_of_eq g2.symm)
    have ne_a_b2 : a ≠ b2 := by rw [g2]; exact Nat.ne_of_lt E_a.lt
    have E_a := E_a.ext E2
    have F_a_elementCounts := F_a_elementCounts.ext E2
    have F_a_totalLengths := F_a_totalLengths.ext E2
    have F_a_elementCount := F_a_elementCount.ext E2
    have F_a_totalLength := F_a_totalLength.ext E2
    have O2 := O0.ext E2
    have K2 := K0.ext E2
    have V_b2 : Arv Z h2 b2 k2 .int (3 : Int32) [(.int (0 : Int32)), (.int (0 : Int32)), (.int (0 : Int32))] (.int (0 : Int32)) := (Arv.new A2 (by decide)).pad (pad_rep [] (.int (0 : Int32)) 3)
    refine Go.st st2 ?_
    show Go p e below s _ _ _ (T2.setTop (mkF m 8 #[.val (.ref a), .val (.int (3 : Int32))] [(.ref b2), (.ref a)]))
    obtain ⟨T3, h3, X3, e3, W3, st3⟩ := putF X2 hx hZ hown (host := "") (Or.inl (own_w hw 11 rfl)) Via.refl e2 F_a_elementCounts E_a (Or.inr ⟨(own_w hw 12 rfl), rfl, hnm⟩) (own_w hw 2 rfl) (ty := (.array .int)) (by decide) rfl rfl (g := (mkF m 8 #[.val (.ref a), .val (.int (3 : Int32))] [(.ref b2), (.ref a)])) rfl rfl (hb hby di_8)
    have N3 := Fr.snoc X3 N0 g_a
    have O3 := O2.wr W3 g_a
    have K3 := K2.wr W3 (Or.inl (List.mem_of_getElem? (i := 0) rfl))
    have E_a := E_a.wr W3
    have F_a_totalLengths := F_a_totalLengths.other W3 (Or.inr (slot_ne (Or.inr (own_w hw 15 rfl)) (Or.inr (own_w hw 12 rfl)) (by decide) (by decide : parseFieldDescriptor "[J" = some (.array .long)) (by decide : parseFieldDescriptor "[I" = some (.array .int))))
    have F_a_elementCount := F_a_elementCount.other W3 (Or.inr (slot_ne (Or.inl (own_w hw 22 rfl)) (Or.inr (own_w hw 12 rfl)) (by decide) (by decide : parseFieldDescriptor "I" = some .int) (by decide : parseFieldDescriptor "[I" = some (.array .int))))
    have F_a_totalLength := F_a_totalLength.other W3 (Or.inr (slot_ne (Or.inl (own_w hw 33 rfl)) (Or.inr (own_w hw 12 rfl)) (by decide) (by decide : parseFieldDescriptor "J" = some .long) (by decide : parseFieldDescriptor "[I" = some (.array .int))))
    have V_b2 := V_b2.other W3 (Ne.symm ne_a_b2)
    have F_a_elementCounts := F_a_elementCounts.same W3
    refine Go.st st3 ?_
    show Go p e below s _ _ _ (T3.setTop (mkF m 11 #[.val (.ref a), .val (.int (3 : Int32))] []))
    refine Go.st (fun _ kq_ => XS.aloadN X3.here hx rfl (hb hby di_11) rfl rfl kq_) ?_
    show Go p e below s _ _ _ (T3.setTop (mkF m 12 #[.val (.ref a), .val (.int (3 : Int32))] [(.ref a)]))
    refine Go.st (fun _ kq_ => XS.iloadN X3.here hx rfl (hb hby di_12) rfl kq_) ?_
    show Go p e below s _ _ _ (T3.setTop (mkF m 13 #[.val (.ref a), .val (.int (3 : Int32))] [(.int (3 : Int32)), (.ref a)]))
    obtain ⟨T4, h4, k4, X4, e4, E4, A4, st4⟩ := newP X3 hx hZ (own_w hw 13 rfl) e3 (g := (mkF m 13 #[.val (.ref a), .val (.int (3 : Int32))] [(.int (3 : Int32)), (.ref a)])) rfl (hb hby di_13) rfl (by decide) (cap := 3) (by decide) (by decide) (by decide) (by decide)
    obtain ⟨b4, g4⟩ : ∃ z, z = h3.size := ⟨_, rfl⟩
    rw [← g4] at A4 st4
    have g_b4 : n0 ≤ b4 := Nat.le_trans (own_old O3) (Nat.le_of_eq g4.symm)
    have sz_b4 : h0.size ≤ b4 := Nat.le_trans K3.1 (Nat.le_of_eq g4.symm)
    have ne_a_b4 : a ≠ b4 := by rw [g4]; exact Nat.ne_of_lt E_a.lt
    have ne_b2_b4 : b2 ≠ b4 := by rw [g4]; exact Nat.ne_of_lt V_b2.lt
    have E_a := E_a.ext E4
    have F_a_elementCounts := F_a_elementCounts.ext E4
    have F_a_totalLengths := F_a_totalLengths.ext E4
    have F_a_elementCount := F_a_elementCount.ext E4
    have F_a_totalLength := F_a_totalLength.ext E4
    have V_b2 := V_b2.ext E4
    have O4 := O3.ext E4
    have K4 := K3.ext E4
    have V_b4 : Arv Z h4 b4 k4 .long (3 : Int32) [(.long (0 : Int64)), (.long (0 : Int64)), (.long (0 : Int64))] (.long (0 : Int64)) := (Arv.new A4 (by decide)).pad (pad_rep [] (.long (0 : Int64)) 3)
    refine Go.st st4 ?_
    show Go p e below s _ _ _ (T4.setTop (mkF m 15 #[.val (.ref a), .val (.int (3 : Int32))] [(.ref b4), (.ref a)]))
    obtain ⟨T5, h5, X5, e5, W5, st5⟩ := putF X4 hx hZ hown (host := "") (Or.inl (own_w hw 14 rfl)) Via.refl e4 F_a_totalLengths E_a (Or.inr ⟨(own_w hw 15 rfl), rfl, hnm⟩) (own_w hw 2 rfl) (ty := (.array .long)) (by decide) rfl rfl (g := (mkF m 15 #[.val (.ref a), .val (.int (3 : Int32))] [(.ref b4), (.ref a)])) rfl rfl (hb hby di_15)
    have N5 := Fr.snoc X5 N3 g_a
    have O5 := O4.wr W5 g_a
    have K5 := K4.wr W5 (Or.inl (List.mem_of_getElem? (i := 0) rfl))
    have E_a := E_a.wr W5
    have F_a_elementCounts := F_a_elementCounts.other W5 (Or.inr (slot_ne (Or.inr (own_w hw 12 rfl)) (Or.inr (own_w hw 15 rfl)) (by decide) (by decide : parseFieldDescriptor "[I" = some (.array .int)) (by decide : parseFieldDescriptor "[J" = some (.array .long))))
    have F_a_elementCount := F_a_elementCount.other W5 (Or.inr (slot_ne (Or.inl (own_w hw 22 rfl)) (Or.inr (own_w hw 15 rfl)) (by decide) (by decide : parseFieldDescriptor "I" = some .int) (by decide : parseFieldDescriptor "[J" = some (.array .long))))
    have F_a_totalLength := F_a_totalLength.other W5 (Or.inr (slot_ne (Or.inl (own_w hw 33 rfl)) (Or.inr (own_w hw 15 rfl)) (by decide) (by decide : parseFieldDescriptor "J" = some .long) (by decide : parseFieldDescriptor "[J" = some (.array .long))))
    have V_b2 := V_b2.other W5 (Ne.symm ne_a_b2)
    have V_b4 := V_b4.other W5 (Ne.symm ne_a_b4)
    have F_a_totalLengths := F_a_totalLengths.same W5
    refine Go.st st5 ?_
    show Go p e below s _ _ _ (T5.setTop (mkF m 18 #[.val (.ref a), .val (.int (3 : Int32))] []))
    exact Go.ret X5 hlk (none) (fun _ => rfl) (by rw [e5]; exact ⟨b2, _, b4, _, rfl, N5, K5, g_b2, sz_b2, g_b4, sz_b4, ne_b2_b4, E_a, F_a_elementCounts, F_a_totalLengths, F_a_elementCount, F_a_totalLength, V_b2, V_b4⟩) (by decide) (by decide) (fun fs hr => X5.returnOut hx Bd.returns (hb hby di_18) hr)
  obtain ⟨s2, o2, st2, r2⟩ := G
  exact ⟨s2, o2, castTop (efi m a (3 : Int32)) st2, r2⟩
theorem own_N {k : Int32} (h : ¬ k < 0 ∧ k < 3) : k = 0 ∨ k = 1 ∨ k = 2 := by
  simp only [own_lt, own_eq, Int32.reduceToInt] at h ⊢
  omega
theorem da_0 : decode prog_53_method_2_code 0 = .ok (.aload_n 0, 1) := by decide +kernel
theorem da_1 : decode prog_53_method_2_code 1 = .ok (.getfield 7, 3) := by decide +kernel
theorem da_4 : decode prog_53_method_2_code 4 = .ok (.iload_n 1, 1) := by decide +kernel
theorem da_5 : decode prog_53_method_2_code 5 = .ok (.dup2, 1) := by decide +kernel
theorem da_6 : decode prog_53_method_2_code 6 = .ok (.iaload, 1) := by decide +kernel
theorem da_7 : decode prog_53_method_2_code 7 = .ok (.iconst 1, 1) := by decide +kernel
theorem da_8 : decode prog_53_method_2_code 8 = .ok (.iadd, 1) := by decide +kernel
theorem da_9 : decode prog_53_method_2_code 9 = .ok (.iastore, 1) := by decide +kernel
theorem da_10 : decode prog_53_method_2_code 10 = .ok (.aload_n 0, 1) := by decide +kernel
theorem da_11 : decode prog_53_method_2_code 11 = .ok (.getfield 13, 3) := by decide +kernel
theorem da_14 : decode prog_53_method_2_code 14 = .ok (.iload_n 1, 1) := by decide +kernel
theorem da_15 : decode prog_53_method_2_code 15 = .ok (.dup2, 1) := by decide +kernel
theorem da_16 : decode prog_53_method_2_code 16 = .ok (.laload, 1) := by decide +kernel
theorem da_17 : decode prog_53_method_2_code 17 = .ok (.iload_n 2, 1) := by decide +kernel
theorem da_18 : decode prog_53_method_2_code 18 = .ok (.i2l, 1) := by decide +kernel
theorem da_19 : decode prog_53_method_2_code 19 = .ok (.ladd, 1) := by decide +kernel
theorem da_20 : decode prog_53_method_2_code 20 = .ok (.lastore, 1) := by decide +kernel
theorem da_21 : decode prog_53_method_2_code 21 = .ok (.aload_n 0, 1) := by decide +kernel
theorem da_22 : decode prog_53_method_2_code 22 = .ok (.dup, 1) := by decide +kernel
theorem da_23 : decode prog_53_method_2_code 23 = .ok (.getfield 17, 3) := by decide +kernel
theorem da_26 : decode prog_53_method_2_code 26 = .ok (.iconst 1, 1) := by decide +kernel
theorem da_27 : decode prog_53_method_2_code 27 = .ok (.iadd, 1) := by decide +kernel
theorem da_28 : decode prog_53_method_2_code 28 = .ok (.putfield 17, 3) := by decide +kernel
theorem da_31 : decode prog_53_method_2_code 31 = .ok (.aload_n 0, 1) := by decide +kernel
theorem da_32 : decode prog_53_method_2_code 32 = .ok (.dup, 1) := by decide +kernel
theorem da_33 : decode prog_53_method_2_code 33 = .ok (.getfield 21, 3) := by decide +kernel
theorem da_36 : decode prog_53_method_2_code 36 = .ok (.iload_n 2, 1) := by decide +kernel
theorem da_37 : decode prog_53_method_2_code 37 = .ok (.i2l, 1) := by decide +kernel
theorem da_38 : decode prog_53_method_2_code 38 = .ok (.ladd, 1) := by decide +kernel
theorem da_39 : decode prog_53_method_2_code 39 = .ok (.putfield 21, 3) := by decide +kernel
theorem da_42 : decode prog_53_method_2_code 42 = .ok (.return_, 1) := by decide +kernel
theorem pna : plainName "com/example/element_ranker/elementranker/TagStatistics" = true := by first | (simp [plainName, overriddenIn]; done) | decide +kernel
theorem efa (m : MethodId) (x0 : Addr) (x1 : Int32) (x2 : Int32) : entryFrame m #[(.ref x0), (.int x1), (.int x2)] 3 = mkF m 0 #[.val (.ref x0), .val (.int x1), .val (.int x2)] [] := by first | (simp [entryFrame, mkF, argsToLocals, Value.category, maxLocals]; done) | rfl
def Qa (Z : State) (a : Addr) (b : Addr) (kb : ClassId) (d : Addr) (kd : ClassId) (x0 : Int32) (x1 : Int32) (x2 : Int32) (y0 : Int64) (y1 : Int64) (y2 : Int64) (cn : Int32) (tl : Int64) (p1 : Int32) (p2 : Int32) (h0 : Heap) (n0 : Nat) (v : Option Value) (h : Heap) (L : List Loc) : Prop := v = none ∧ Fr n0 L ∧ Keep h0 h [a, b, d] ∧ Exa Z h a "com/example/element_ranker/elementranker/TagStatistics" ∧ Fld Z h a "com/example/element_ranker/elementranker/TagStatistics" "elementCounts" "[I" (.ref b) ∧ Fld Z h a "com/example/element_ranker/elementranker/TagStatistics" "totalLengths" "[J" (.ref d) ∧ Fld Z h a "com/example/element_ranker/elementranker/TagStatistics" "elementCount" "I" (.int (cn + (1 : Int32))) ∧ Fld Z h a "com/example/element_ranker/elementranker/TagStatistics" "totalLength" "J" (.long (tl + p2.toInt64)) ∧ Arv Z h b kb .int (3 : Int32) [(.int (ad 0 p1 x0)), (.int (ad 1 p1 x1)), (.int (ad 2 p1 x2))] (.int (0 : Int32)) ∧ Arv Z h d kd .long (3 : Int32) [(.long (adL 0 p1 p2 y0)), (.long (adL 1 p1 p2 y1)), (.long (adL 2 p1 p2 y2))] (.long (0 : Int64))
set_option maxRecDepth 65536 in
set_option maxHeartbeats 40000000 in
theorem rma (l : Launch) (Z : State) (a0 : Array Value) (hw : ∀ d ∈ tables_1, d.before a0 Z = true) (ws : List Jvm.Cond) (a : Addr) (b : Addr) (kb : ClassId) (d : Addr) (kd : ClassId) (x0 : Int32) (x1 : Int32) (x2 : Int32) (y0 : Int64) (y1 : Int64) (y2 : Int64) (cn : Int32) (tl : Int64) (p1 : Int32) (p2 : Int32) (h0 : Heap) (n0 : Nat) (O0 : Old Z n0 h0) (E_a : Exa Z h0 a "com/example/element_ranker/elementranker/TagStatistics") (F_a_elementCounts : Fld Z h0 a "com/example/element_ranker/elementranker/TagStatistics" "elementCounts" "[I" (.ref b)) (F_a_totalLengths : Fld Z h0 a "com/example/element_ranker/elementranker/TagStatistics" "totalLengths" "[J" (.ref d)) (F_a_elementCount : Fld Z h0 a "com/example/element_ranker/elementranker/TagStatistics" "elementCount" "I" (.int cn)) (F_a_totalLength : Fld Z h0 a "com/example/element_ranker/elementranker/TagStatistics" "totalLength" "J" (.long tl)) (V_b : Arv Z h0 b kb .int (3 : Int32) [(.int x0), (.int x1), (.int x2)] (.int (0 : Int32))) (V_d : Arv Z h0 d kd .long (3 : Int32) [(.long y0), (.long y1), (.long y2)] (.long (0 : Int64))) (ga : n0 ≤ a) (gb : n0 ≤ b) (gd : n0 ≤ d) (nab : a ≠ b) (nad : a ≠ d) (nbd : b ≠ d) (hp : ¬ p1 < 0 ∧ p1 < 3) :
    MetFree l (⟨"com/example/element_ranker/elementranker/TagStatistics", "add", "(II)V"⟩ : MethodName) (head1 (Jvm.Cond.code (⟨"com/example/element_ranker/elementranker/TagStatistics", "add", "(II)V"⟩ : MethodName) prog_53_method_2_code 3 none :: ws) ({ frames := 0, cells := 0, slots := 0, locals := 0 } : Room)) (fun A_ U_ => A_ = #[(.ref a), (.int p1), (.int p2)] ∧ Z.Warmed39 U_.vm ∧ U_.heap = h0) (fun _ _ _ _ _ => True) (fun _ U o U' => ∃ v L, o = .returned v ∧ Qa Z a b kb d kd x0 x1 x2 y0 y1 y2 cn tl p1 p2 h0 n0 v U'.heap L ∧ FrameEnd U o U' L ({ frames := 0, cells := 0, slots := 0, locals := 0 } : Room).cells ({ frames := 0, cells := 0, slots := 0, locals := 0 } : Room).slots) := by
  refine MetFree.of_bodySF (plainFor_of_name pna) hisR ?_
  intro p e s m args below meth cd s₁ Bd hml0 hP hK
  obtain ⟨rfl, hZ, hh⟩ := hP
  have hx := Bd.exec
  have hby := Bd.bytes
  have hlk : meth.locks = false := BodyLoose.notSynchronized Bd
  have hml : cd.maxLocals = 3 := hml0
  have hown : s.vm.findClass "com/example/element_ranker/elementranker/TagStatistics" = some m.cls := findClass_of_methodNamed Bd.named
  have hnm := (name_of_methodNamed Bd.named Bd.method).1
  have X0 : Stand p l e ({ frames := 0, cells := 0, slots := 0, locals := 0 } : Room) s m #[(.ref a), (.int p1), (.int p2)] below meth cd s₁ [] 0 0 := Stand.of_body Bd
  have e0 : s₁.heap = h0 := by rw [← hh, Bd.state]; rfl
  have N0 := Fr.nil n0
  have K0 : Keep h0 h0 [a, b, d] := Keep.refl _ _
  have G : Go p e below s 0 0 (Qa Z a b kb d kd x0 x1 x2 y0 y1 y2 cn tl p1 p2 h0 n0) (s₁.setTop (mkF m 0 #[.val (.ref a), .val (.int p1), .val (.int p2)] [])) := by
    show Go p e below s _ _ _ (s₁.setTop (mkF m 0 #[.val (.ref a), .val (.int p1), .val (.int p2)] []))
    rcases own_N hp with rfl | rfl | rfl
    · show Go p e below s _ _ _ (s₁.setTop (mkF m 0 #[.val (.ref a), .val (.int (0 : Int32)), .val (.int p2)] []))
      refine Go.st (fun _ kq_ => XS.aloadN X0.here hx rfl (hb hby da_0) rfl rfl kq_) ?_
      show Go p e below s _ _ _ (s₁.setTop (mkF m 1 #[.val (.ref a), .val (.int (0 : Int32)), .val (.int p2)] [(.ref a)]))
      obtain ⟨T1, X1, e1, st1⟩ := getF X0 hx hZ hown (host := "") (Or.inl (own_w hw 11 rfl)) Via.refl e0 F_a_elementCounts (g := (mkF m 1 #[.val (.ref a), .val (.int (0 : Int32)), .val (.int p2)] [(.ref a)])) rfl rfl (hb hby da_1)
      refine Go.st st1 ?_
      show Go p e below s _ _ _ (T1.setTop (mkF m 4 #[.val (.ref a), .val (.int (0 : Int32)), .val (.int p2)] [(.ref b)]))
      refine Go.st (fun _ kq_ => XS.iloadN X1.here hx rfl (hb hby da_4) rfl kq_) ?_
      show Go p e below s _ _ _ (T1.setTop (mkF m 5 #[.val (.ref a), .val (.int (0 : Int32)), .val (.int p2)] [(.int (0 : Int32)), (.ref b)]))
      refine Go.st (fun _ kq_ => XT.dup2 X1.here hx rfl (hb hby da_5) rfl rfl rfl kq_) ?_
      show Go p e below s _ _ _ (T1.setTop (mkF m 6 #[.val (.ref a), .val (.int (0 : Int32)), .val (.int p2)] [(.int (0 : Int32)), (.ref b), (.int (0 : Int32)), (.ref b)]))
      refine Go.st (fun _ kq_ => own_iaload X1 hx hZ e1 V_b (by decide) (by decide) (v := (.int x0)) rfl (g := (mkF m 6 #[.val (.ref a), .val (.int (0 : Int32)), .val (.int p2)] [(.int (0 : Int32)), (.ref b), (.int (0 : Int32)), (.ref b)])) rfl rfl (hb hby da_6) _ kq_) ?_
      show Go p e below s _ _ _ (T1.setTop (mkF m 7 #[.val (.ref a), .val (.int (0 : Int32)), .val (.int p2)] [(.int x0), (.int (0 : Int32)), (.ref b)]))
      refine Go.st (fun _ kq_ => XS.iconst X1.here hx rfl (hb hby da_7) kq_) ?_
      show Go p e below s _ _ _ (T1.setTop (mkF m 8 #[.val (.ref a), .val (.int (0 : Int32)), .val (.int p2)] [(.int (1 : Int32)), (.int x0), (.int (0 : Int32)), (.ref b)]))
      refine Go.st (fun _ kq_ => XS.iadd X1.here hx rfl (hb hby da_8) rfl kq_) ?_
      show Go p e below s _ _ _ (T1.setTop (mkF m 9 #[.val (.ref a), .val (.int (0 : Int32)), .val (.int p2)] [(.int (x0 + (1 : Int32))), (.int (0 : Int32)), (.ref b)]))
      obtain ⟨T2, h2, X2, e2, W2, V2, st2⟩ := own_stI X1 hx hZ e1 V_b (j := (0 : Int32)) (by decide) (by decide) 0 rfl (Nat.le_of_ble_eq_true rfl) (g := (mkF m 9 #[.val (.ref a), .val (.int (0 : Int32)), .val (.int p2)] [(.int (x0 + (1 : Int32))), (.int (0 : Int32)), (.ref b)])) rfl rfl (hb hby da_9)
      have N2 := Fr.snoc X2 N0 gb
      have O2 := O0.wr W2 gb
      have K2 := K0.wr W2 (Or.inl (List.mem_of_getElem? (i := 1) rfl))
      have E_a := E_a.wr W2
      have F_a_elementCounts := F_a_elementCounts.other W2 (Or.inl nab)
      have F_a_totalLengths := F_a_totalLengths.other W2 (Or.inl nab)
      have F_a_elementCount := F_a_elementCount.other W2 (Or.inl nab)
      have F_a_totalLength := F_a_totalLength.other W2 (Or.inl nab)
      have V_d := V_d.other W2 (Ne.symm nbd)
      have V_b : Arv Z h2 b kb .int (3 : Int32) [(.int (x0 + (1 : Int32))), (.int x1), (.int x2)] (.int (0 : Int32)) := V2
      refine Go.st st2 ?_
      show Go p e below s _ _ _ (T2.setTop (mkF m 10 #[.val (.ref a), .val (.int (0 : Int32)), .val (.int p2)] []))
      refine Go.st (fun _ kq_ => XS.aloadN X2.here hx rfl (hb hby da_10) rfl rfl kq_) ?_
      show Go p e below s _ _ _ (T2.setTop (mkF m 11 #[.val (.ref a), .val (.int (0 : Int32)), .val (.int p2)] [(.ref a)]))
      obtain ⟨T3, X3, e3, st3⟩ := getF X2 hx hZ hown (host := "") (Or.inl (own_w hw 14 rfl)) Via.refl e2 F_a_totalLengths (g := (mkF m 11 #[.val (.ref a), .val (.int (0 : Int32)), .val (.int p2)] [(.ref a)])) rfl rfl (hb hby da_11)
      refine Go.st st3 ?_
      show Go p e below s _ _ _ (T3.setTop (mkF m 14 #[.val (.ref a), .val (.int (0 : Int32)), .val (.int p2)] [(.ref d)]))
      refine Go.st (fun _ kq_ => XS.iloadN X3.here hx rfl (hb hby da_14) rfl kq_) ?_
      show Go p e below s _ _ _ (T3.setTop (mkF m 15 #[.val (.ref a), .val (.int (0 : Int32)), .val (.int p2)] [(.int (0 : Int32)), (.ref d)]))
      refine Go.st (fun _ kq_ => XT.dup2 X3.here hx rfl (hb hby da_15) rfl rfl rfl kq_) ?_
      show Go p e below s _ _ _ (T3.setTop (mkF m 16 #[.val (.ref a), .val (.int (0 : Int32)), .val (.int p2)] [(.int (0 : Int32)), (.ref d), (.int (0 : Int32)), (.ref d)]))
      refine Go.st (fun _ kq_ => own_laload X3 hx hZ e3 V_d (by decide) (by decide) (v := (.long y0)) rfl (g := (mkF m 16 #[.val (.ref a), .val (.int (0 : Int32)), .val (.int p2)] [(.int (0 : Int32)), (.ref d), (.int (0 : Int32)), (.ref d)])) rfl rfl (hb hby da_16) _ kq_) ?_
      show Go p e below s _ _ _ (T3.setTop (mkF m 17 #[.val (.ref a), .val (.int (0 : Int32)), .val (.int p2)] [(.long y0), (.int (0 : Int32)), (.ref d)]))
      refine Go.st (fun _ kq_ => XS.iloadN X3.here hx rfl (hb hby da_17) rfl kq_) ?_
      show Go p e below s _ _ _ (T3.setTop (mkF m 18 #[.val (.ref a), .val (.int (0 : Int32)), .val (.int p2)] [(.int p2), (.long y0), (.int (0 : Int32)), (.ref d)]))
      refine Go.st (fun _ kq_ => XT.i2l X3.here hx rfl (hb hby da_18) rfl kq_) ?_
      show Go p e below s _ _ _ (T3.setTop (mkF m 19 #[.val (.ref a), .val (.int (0 : Int32)), .val (.int p2)] [(.long (p2.toInt64)), (.long y0), (.int (0 : Int32)), (.ref d)]))
      refine Go.st (fun _ kq_ => XT.ladd X3.here hx rfl (hb hby da_19) rfl kq_) ?_
      show Go p e below s _ _ _ (T3.setTop (mkF m 20 #[.val (.ref a), .val (.int (0 : Int32)), .val (.int p2)] [(.long (y0 + (p2.toInt64))), (.int (0 : Int32)), (.ref d)]))
      obtain ⟨T4, h4, X4, e4, W4, V4, st4⟩ := own_stJ X3 hx hZ e3 V_d (j := (0 : Int32)) (by decide) (by decide) 0 rfl (Nat.le_of_ble_eq_true rfl) (g := (mkF m 20 #[.val (.ref a), .val (.int (0 : Int32)), .val (.int p2)] [(.long (y0 + (p2.toInt64))), (.int (0 : Int32)), (.ref d)])) rfl rfl (hb hby da_20)
      have N4 := Fr.snoc X4 N2 gd
      have O4 := O2.wr W4 gd
      have K4 := K2.wr W4 (Or.inl (List.mem_of_getElem? (i := 2) rfl))
      have E_a := E_a.wr W4
      have F_a_elementCounts := F_a_elementCounts.other W4 (Or.inl nad)
      have F_a_totalLengths := F_a_totalLengths.other W4 (Or.inl nad)
      have F_a_elementCount := F_a_elementCount.other W4 (Or.inl nad)
      have F_a_totalLength := F_a_totalLength.other W4 (Or.inl nad)
      have V_b := V_b.other W4 nbd
      have V_d : Arv Z h4 d kd .long (3 : Int32) [(.long (y0 + (p2.toInt64))), (.long y1), (.long y2)] (.long (0 : Int64)) := V4
      refine Go.st st4 ?_
      show Go p e below s _ _ _ (T4.setTop (mkF m 21 #[.val (.ref a), .val (.int (0 : Int32)), .val (.int p2)] []))
      refine Go.st (fun _ kq_ => XS.aloadN X4.here hx rfl (hb hby da_21) rfl rfl kq_) ?_
      show Go p e below s _ _ _ (T4.setTop (mkF m 22 #[.val (.ref a), .val (.int (0 : Int32)), .val (.int p2)] [(.ref a)]))
      refine Go.st (fun _ kq_ => XS.dup X4.here hx rfl (hb hby da_22) rfl rfl kq_) ?_
      show Go p e below s _ _ _ (T4.setTop (mkF m 23 #[.val (.ref a), .val (.int (0 : Int32)), .val (.int p2)] [(.ref a), (.ref a)]))
      obtain ⟨T5, X5, e5, st5⟩ := getF X4 hx hZ hown (host := "") (Or.inl (own_w hw 21 rfl)) Via.refl e4 F_a_elementCount (g := (mkF m 23 #[.val (.ref a), .val (.int (0 : Int32)), .val (.int p2)] [(.ref a), (.ref a)])) rfl rfl (hb hby da_23)
      refine Go.st st5 ?_
      show Go p e below s _ _ _ (T5.setTop (mkF m 26 #[.val (.ref a), .val (.int (0 : Int32)), .val (.int p2)] [(.int cn), (.ref a)]))
      refine Go.st (fun _ kq_ => XS.iconst X5.here hx rfl (hb hby da_26) kq_) ?_
      show Go p e below s _ _ _ (T5.setTop (mkF m 27 #[.val (.ref a), .val (.int (0 : Int32)), .val (.int p2)] [(.int (1 : Int32)), (.int cn), (.ref a)]))
      refine Go.st (fun _ kq_ => XS.iadd X5.here hx rfl (hb hby da_27) rfl kq_) ?_
      show Go p e below s _ _ _ (T5.setTop (mkF m 28 #[.val (.ref a), .val (.int (0 : Int32)), .val (.int p2)] [(.int (cn + (1 : Int32))), (.ref a)]))
      obtain ⟨T6, h6, X6, e6, W6, st6⟩ := putF X5 hx hZ hown (host := "") (Or.inl (own_w hw 21 rfl)) Via.refl e5 F_a_elementCount E_a (Or.inl (own_w hw 22 rfl)) (own_w hw 2 rfl) (ty := .int) (by decide) rfl rfl (g := (mkF m 28 #[.val (.ref a), .val (.int (0 : Int32)), .val (.int p2)] [(.int (cn + (1 : Int32))), (.ref a)])) rfl rfl (hb hby da_28)
      have N6 := Fr.snoc X6 N4 ga
      have O6 := O4.wr W6 ga
      have K6 := K4.wr W6 (Or.inl (List.mem_of_getElem? (i := 0) rfl))
      have E_a := E_a.wr W6
      have F_a_elementCounts := F_a_elementCounts.other W6 (Or.inr (slot_ne (Or.inr (own_w hw 12 rfl)) (Or.inl (own_w hw 22 rfl)) (by decide) (by decide : parseFieldDescriptor "[I" = some (.array .int)) (by decide : parseFieldDescriptor "I" = some .int)))
      have F_a_totalLengths := F_a_totalLengths.other W6 (Or.inr (slot_ne (Or.inr (own_w hw 15 rfl)) (Or.inl (own_w hw 22 rfl)) (by decide) (by decide : parseFieldDescriptor "[J" = some (.array .long)) (by decide : parseFieldDescriptor "I" = some .int)))
      have F_a_totalLength := F_a_totalLength.other W6 (Or.inr (slot_ne (Or.inl (own_w hw 33 rfl)) (Or.inl (own_w hw 22 rfl)) (by decide) (by decide : parseFieldDescriptor "J" = some .long) (by decide : parseFieldDescriptor "I" = some .int)))
      have V_b := V_b.other W6 (Ne.symm nab)
      have V_d := V_d.other W6 (Ne.symm nad)
      have F_a_elementCount := F_a_elementCount.same W6
      refine Go.st st6 ?_
      show Go p e below s _ _ _ (T6.setTop (mkF m 31 #[.val (.ref a), .val (.int (0 : Int32)), .val (.int p2)] []))
      refine Go.st (fun _ kq_ => XS.aloadN X6.here hx rfl (hb hby da_31) rfl rfl kq_) ?_
      show Go p e below s _ _ _ (T6.setTop (mkF m 32 #[.val (.ref a), .val (.int (0 : Int32)), .val (.int p2)] [(.ref a)]))
      refine Go.st (fun _ kq_ => XS.dup X6.here hx rfl (hb hby da_32) rfl rfl kq_) ?_
      show Go p e below s _ _ _ (T6.setTop (mkF m 33 #[.val (.ref a), .val (.int (0 : Int32)), .val (.int p2)] [(.ref a), (.ref a)]))
      obtain ⟨T7, X7, e7, st7⟩ := getF X6 hx hZ hown (host := "") (Or.inl (own_w hw 32 rfl)) Via.refl e6 F_a_totalLength (g := (mkF m 33 #[.val (.ref a), .val (.int (0 : Int32)), .val (.int p2)] [(.ref a), (.ref a)])) rfl rfl (hb hby da_33)
      refine Go.st st7 ?_
      show Go p e below s _ _ _ (T7.setTop (mkF m 36 #[.val (.ref a), .val (.int (0 : Int32)), .val (.int p2)] [(.long tl), (.ref a)]))
      refine Go.st (fun _ kq_ => XS.iloadN X7.here hx rfl (hb hby da_36) rfl kq_) ?_
      show Go p e below s _ _ _ (T7.setTop (mkF m 37 #[.val (.ref a), .val (.int (0 : Int32)), .val (.int p2)] [(.int p2), (.long tl), (.ref a)]))
      refine Go.st (fun _ kq_ => XT.i2l X7.here hx rfl (hb hby da_37) rfl kq_) ?_
      show Go p e below s _ _ _ (T7.setTop (mkF m 38 #[.val (.ref a), .val (.int (0 : Int32)), .val (.int p2)] [(.long (p2.toInt64)), (.long tl), (.ref a)]))
      refine Go.st (fun _ kq_ => XT.ladd X7.here hx rfl (hb hby da_38) rfl kq_) ?_
      show Go p e below s _ _ _ (T7.setTop (mkF m 39 #[.val (.ref a), .val (.int (0 : Int32)), .val (.int p2)] [(.long (tl + (p2.toInt64))), (.ref a)]))
      obtain ⟨T8, h8, X8, e8, W8, st8⟩ := putF X7 hx hZ hown (host := "") (Or.inl (own_w hw 32 rfl)) Via.refl e7 F_a_totalLength E_a (Or.inl (own_w hw 33 rfl)) (own_w hw 2 rfl) (ty := .long) (by decide) rfl rfl (g := (mkF m 39 #[.val (.ref a), .val (.int (0 : Int32)), .val (.int p2)] [(.long (tl + (p2.toInt64))), (.ref a)])) rfl rfl (hb hby da_39)
      have N8 := Fr.snoc X8 N6 ga
      have O8 := O6.wr W8 ga
      have K8 := K6.wr W8 (Or.inl (List.mem_of_getElem? (i := 0) rfl))
      have E_a := E_a.wr W8
      have F_a_elementCounts := F_a_elementCounts.other W8 (Or.inr (slot_ne (Or.inr (own_w hw 12 rfl)) (Or.inl (own_w hw 33 rfl)) (by decide) (by decide : parseFieldDescriptor "[I" = some (.array .int)) (by decide : parseFieldDescriptor "J" = some .long)))
      have F_a_totalLengths := F_a_totalLengths.other W8 (Or.inr (slot_ne (Or.inr (own_w hw 15 rfl)) (Or.inl (own_w hw 33 rfl)) (by decide) (by decide : parseFieldDescriptor "[J" = some (.array .long)) (by decide : parseFieldDescriptor "J" = some .long)))
      have F_a_elementCount := F_a_elementCount.other W8 (Or.inr (slot_ne (Or.inl (own_w hw 22 rfl)) (Or.inl (own_w hw 33 rfl)) (by decide) (by decide : parseFieldDescriptor "I" = some .int) (by decide : parseFieldDescriptor "J" = some .long)))
      have V_b := V_b.other W8 (Ne.symm nab)
      have V_d := V_d.other W8 (Ne.symm nad)
      have F_a_totalLength := F_a_totalLength.same W8
      refine Go.st st8 ?_
      show Go p e below s _ _ _ (T8.setTop (mkF m 42 #[.val (.ref a), .val (.int (0 : Int32)), .val (.int p2)] []))
      exact Go.ret X8 hlk (none) (fun _ => rfl) (by rw [e8]; exact ⟨rfl, N8, K8, E_a, F_a_elementCounts, F_a_totalLengths, F_a_elementCount, F_a_totalLength, V_b, V_d⟩) (by decide) (by decide) (fun fs hr => X8.returnOut hx Bd.returns (hb hby da_42) hr)
    · show Go p e below s _ _ _ (s₁.setTop (mkF m 0 #[.val (.ref a), .val (.int (1 : Int32)), .val (.int p2)] []))
      refine Go.st (fun _ kq_ => XS.aloadN X0.here hx rfl (hb hby da_0) rfl rfl kq_) ?_
      show Go p e below s _ _ _ (s₁.setTop (mkF m 1 #[.val (.ref a), .val (.int (1 : Int32)), .val (.int p2)] [(.ref a)]))
      obtain ⟨T9, X9, e9, st9⟩ := getF X0 hx hZ hown (host := "") (Or.inl (own_w hw 11 rfl)) Via.refl e0 F_a_elementCounts (g := (mkF m 1 #[.val (.ref a), .val (.int (1 : Int32)), .val (.int p2)] [(.ref a)])) rfl rfl (hb hby da_1)
      refine Go.st st9 ?_
      show Go p e below s _ _ _ (T9.setTop (mkF m 4 #[.val (.ref a), .val (.int (1 : Int32)), .val (.int p2)] [(.ref b)]))
      refine Go.st (fun _ kq_ => XS.iloadN X9.here hx rfl (hb hby da_4) rfl kq_) ?_
      show Go p e below s _ _ _ (T9.setTop (mkF m 5 #[.val (.ref a), .val (.int (1 : Int32)), .val (.int p2)] [(.int (1 : Int32)), (.ref b)]))
      refine Go.st (fun _ kq_ => XT.dup2 X9.here hx rfl (hb hby da_5) rfl rfl rfl kq_) ?_
      show Go p e below s _ _ _ (T9.setTop (mkF m 6 #[.val (.ref a), .val (.int (1 : Int32)), .val (.int p2)] [(.int (1 : Int32)), (.ref b), (.int (1 : Int32)), (.ref b)]))
      refine Go.st (fun _ kq_ => own_iaload X9 hx hZ e9 V_b (by decide) (by decide) (v := (.int x1)) rfl (g := (mkF m 6 #[.val (.ref a), .val (.int (1 : Int32)), .val (.int p2)] [(.int (1 : Int32)), (.ref b), (.int (1 : Int32)), (.ref b)])) rfl rfl (hb hby da_6) _ kq_) ?_
      show Go p e below s _ _ _ (T9.setTop (mkF m 7 #[.val (.ref a), .val (.int (1 : Int32)), .val (.int p2)] [(.int x1), (.int (1 : Int32)), (.ref b)]))
      refine Go.st (fun _ kq_ => XS.iconst X9.here hx rfl (hb hby da_7) kq_) ?_
      show Go p e below s _ _ _ (T9.setTop (mkF m 8 #[.val (.ref a), .val (.int (1 : Int32)), .val (.int p2)] [(.int (1 : Int32)), (.int x1), (.int (1 : Int32)), (.ref b)]))
      refine Go.st (fun _ kq_ => XS.iadd X9.here hx rfl (hb hby da_8) rfl kq_) ?_
      show Go p e below s _ _ _ (T9.setTop (mkF m 9 #[.val (.ref a), .val (.int (1 : Int32)), .val (.int p2)] [(.int (x1 + (1 : Int32))), (.int (1 : Int32)), (.ref b)]))
      obtain ⟨T10, h10, X10, e10, W10, V10, st10⟩ := own_stI X9 hx hZ e9 V_b (j := (1 : Int32)) (by decide) (by decide) 1 rfl (Nat.le_of_ble_eq_true rfl) (g := (mkF m 9 #[.val (.ref a), .val (.int (1 : Int32)), .val (.int p2)] [(.int (x1 + (1 : Int32))), (.int (1 : Int32)), (.ref b)])) rfl rfl (hb hby da_9)
      have N10 := Fr.snoc X10 N0 gb
      have O10 := O0.wr W10 gb
      have K10 := K0.wr W10 (Or.inl (List.mem_of_getElem? (i := 1) rfl))
      have E_a := E_a.wr W10
      have F_a_elementCounts := F_a_elementCounts.other W10 (Or.inl nab)
      have F_a_totalLengths := F_a_totalLengths.other W10 (Or.inl nab)
      have F_a_elementCount := F_a_elementCount.other W10 (Or.inl nab)
      have F_a_totalLength := F_a_totalLength.other W10 (Or.inl nab)
      have V_d := V_d.other W10 (Ne.symm nbd)
      have V_b : Arv Z h10 b kb .int (3 : Int32) [(.int x0), (.int (x1 + (1 : Int32))), (.int x2)] (.int (0 : Int32)) := V10
      refine Go.st st10 ?_
      show Go p e below s _ _ _ (T10.setTop (mkF m 10 #[.val (.ref a), .val (.int (1 : Int32)), .val (.int p2)] []))
      refine Go.st (fun _ kq_ => XS.aloadN X10.here hx rfl (hb hby da_10) rfl rfl kq_) ?_
      show Go p e below s _ _ _ (T10.setTop (mkF m 11 #[.val (.ref a), .val (.int (1 : Int32)), .val (.int p2)] [(.ref a)]))
      obtain ⟨T11, X11, e11, st11⟩ := getF X10 hx hZ hown (host := "") (Or.inl (own_w hw 14 rfl)) Via.refl e10 F_a_totalLengths (g := (mkF m 11 #[.val (.ref a), .val (.int (1 : Int32)), .val (.int p2)] [(.ref a)])) rfl rfl (hb hby da_11)
      refine Go.st st11 ?_
      show Go p e below s _ _ _ (T11.setTop (mkF m 14 #[.val (.ref a), .val (.int (1 : Int32)), .val (.int p2)] [(.ref d)]))
      refine Go.st (fun _ kq_ => XS.iloadN X11.here hx rfl (hb hby da_14) rfl kq_) ?_
      show Go p e below s _ _ _ (T11.setTop (mkF m 15 #[.val (.ref a), .val (.int (1 : Int32)), .val (.int p2)] [(.int (1 : Int32)), (.ref d)]))
      refine Go.st (fun _ kq_ => XT.dup2 X11.here hx rfl (hb hby da_15) rfl rfl rfl kq_) ?_
      show Go p e below s _ _ _ (T11.setTop (mkF m 16 #[.val (.ref a), .val (.int (1 : Int32)), .val (.int p2)] [(.int (1 : Int32)), (.ref d), (.int (1 : Int32)), (.ref d)]))
      refine Go.st (fun _ kq_ => own_laload X11 hx hZ e11 V_d (by decide) (by decide) (v := (.long y1)) rfl (g := (mkF m 16 #[.val (.ref a), .val (.int (1 : Int32)), .val (.int p2)] [(.int (1 : Int32)), (.ref d), (.int (1 : Int32)), (.ref d)])) rfl rfl (hb hby da_16) _ kq_) ?_
      show Go p e below s _ _ _ (T11.setTop (mkF m 17 #[.val (.ref a), .val (.int (1 : Int32)), .val (.int p2)] [(.long y1), (.int (1 : Int32)), (.ref d)]))
      refine Go.st (fun _ kq_ => XS.iloadN X11.here hx rfl (hb hby da_17) rfl kq_) ?_
      show Go p e below s _ _ _ (T11.setTop (mkF m 18 #[.val (.ref a), .val (.int (1 : Int32)), .val (.int p2)] [(.int p2), (.long y1), (.int (1 : Int32)), (.ref d)]))
      refine Go.st (fun _ kq_ => XT.i2l X11.here hx rfl (hb hby da_18) rfl kq_) ?_
      show Go p e below s _ _ _ (T11.setTop (mkF m 19 #[.val (.ref a), .val (.int (1 : Int32)), .val (.int p2)] [(.long (p2.toInt64)), (.long y1), (.int (1 : Int32)), (.ref d)]))
      refine Go.st (fun _ kq_ => XT.ladd X11.here hx rfl (hb hby da_19) rfl kq_) ?_
      show Go p e below s _ _ _ (T11.setTop (mkF m 20 #[.val (.ref a), .val (.int (1 : Int32)), .val (.int p2)] [(.long (y1 + (p2.toInt64))), (.int (1 : Int32)), (.ref d)]))
      obtain ⟨T12, h12, X12, e12, W12, V12, st12⟩ := own_stJ X11 hx hZ e11 V_d (j := (1 : Int32)) (by decide) (by decide) 1 rfl (Nat.le_of_ble_eq_true rfl) (g := (mkF m 20 #[.val (.ref a), .val (.int (1 : Int32)), .val (.int p2)] [(.long (y1 + (p2.toInt64))), (.int (1 : Int32)), (.ref d)])) rfl rfl (hb hby da_20)
      have N12 := Fr.snoc X12 N10 gd
      have O12 := O10.wr W12 gd
      have K12 := K10.wr W12 (Or.inl (List.mem_of_getElem? (i := 2) rfl))
      have E_a := E_a.wr W12
      have F_a_elementCounts := F_a_elementCounts.other W12 (Or.inl nad)
      have F_a_totalLengths := F_a_totalLengths.other W12 (Or.inl nad)
      have F_a_elementCount := F_a_elementCount.other W12 (Or.inl nad)
      have F_a_totalLength := F_a_totalLength.other W12 (Or.inl nad)
      have V_b := V_b.other W12 nbd
      have V_d : Arv Z h12 d kd .long (3 : Int32) [(.long y0), (.long (y1 + (p2.toInt64))), (.long y2)] (.long (0 : Int64)) := V12
      refine Go.st st12 ?_
      show Go p e below s _ _ _ (T12.setTop (mkF m 21 #[.val (.ref a), .val (.int (1 : Int32)), .val (.int p2)] []))
      refine Go.st (fun _ kq_ => XS.aloadN X12.here hx rfl (hb hby da_21) rfl rfl kq_) ?_
      show Go p e below s _ _ _ (T12.setTop (mkF m 22 #[.val (.ref a), .val (.int (1 : Int32)), .val (.int p2)] [(.ref a)]))
      refine Go.st (fun _ kq_ => XS.dup X12.here hx rfl (hb hby da_22) rfl rfl kq_) ?_
      show Go p e below s _ _ _ (T12.setTop (mkF m 23 #[.val (.ref a), .val (.int (1 : Int32)), .val (.int p2)] [(.ref a), (.ref a)]))
      obtain ⟨T13, X13, e13, st13⟩ := getF X12 hx hZ hown (host := "") (Or.inl (own_w hw 21 rfl)) Via.refl e12 F_a_elementCount (g := (mkF m 23 #[.val (.ref a), .val (.int (1 : Int32)), .val (.int p2)] [(.ref a), (.ref a)])) rfl rfl (hb hby da_23)
      refine Go.st st13 ?_
      show Go p e below s _ _ _ (T13.setTop (mkF m 26 #[.val (.ref a), .val (.int (1 : Int32)), .val (.int p2)] [(.int cn), (.ref a)]))
      refine Go.st (fun _ kq_ => XS.iconst X13.here hx rfl (hb hby da_26) kq_) ?_
      show Go p e below s _ _ _ (T13.setTop (mkF m 27 #[.val (.ref a), .val (.int (1 : Int32)), .val (.int p2)] [(.int (1 : Int32)), (.int cn), (.ref a)]))
      refine Go.st (fun _ kq_ => XS.iadd X13.here hx rfl (hb hby da_27) rfl kq_) ?_
      show Go p e below s _ _ _ (T13.setTop (mkF m 28 #[.val (.ref a), .val (.int (1 : Int32)), .val (.int p2)] [(.int (cn + (1 : Int32))), (.ref a)]))
      obtain ⟨T14, h14, X14, e14, W14, st14⟩ := putF X13 hx hZ hown (host := "") (Or.inl (own_w hw 21 rfl)) Via.refl e13 F_a_elementCount E_a (Or.inl (own_w hw 22 rfl)) (own_w hw 2 rfl) (ty := .int) (by decide) rfl rfl (g := (mkF m 28 #[.val (.ref a), .val (.int (1 : Int32)), .val (.int p2)] [(.int (cn + (1 : Int32))), (.ref a)])) rfl rfl (hb hby da_28)
      have N14 := Fr.snoc X14 N12 ga
      have O14 := O12.wr W14 ga
      have K14 := K12.wr W14 (Or.inl (List.mem_of_getElem? (i := 0) rfl))
      have E_a := E_a.wr W14
      have F_a_elementCounts := F_a_elementCounts.other W14 (Or.inr (slot_ne (Or.inr (own_w hw 12 rfl)) (Or.inl (own_w hw 22 rfl)) (by decide) (by decide : parseFieldDescriptor "[I" = some (.array .int)) (by decide : parseFieldDescriptor "I" = some .int)))
      have F_a_totalLengths := F_a_totalLengths.other W14 (Or.inr (slot_ne (Or.inr (own_w hw 15 rfl)) (Or.inl (own_w hw 22 rfl)) (by decide) (by decide : parseFieldDescriptor "[J" = some (.array .long)) (by decide : parseFieldDescriptor "I" = some .int)))
      have F_a_totalLength := F_a_totalLength.other W14 (Or.inr (slot_ne (Or.inl (own_w hw 33 rfl)) (Or.inl (own_w hw 22 rfl)) (by decide) (by decide : parseFieldDescriptor "J" = some .long) (by decide : parseFieldDescriptor "I" = some .int)))
      have V_b := V_b.other W14 (Ne.symm nab)
      have V_d := V_d.other W14 (Ne.symm nad)
      have F_a_elementCount := F_a_elementCount.same W14
      refine Go.st st14 ?_
      show Go p e below s _ _ _ (T14.setTop (mkF m 31 #[.val (.ref a), .val (.int (1 : Int32)), .val (.int p2)] []))
      refine Go.st (fun _ kq_ => XS.aloadN X14.here hx rfl (hb hby da_31) rfl rfl kq_) ?_
      show Go p e below s _ _ _ (T14.setTop (mkF m 32 #[.val (.ref a), .val (.int (1 : Int32)), .val (.int p2)] [(.ref a)]))
      refine Go.st (fun _ kq_ => XS.dup X14.here hx rfl (hb hby da_32) rfl rfl kq_) ?_
      show Go p e below s _ _ _ (T14.setTop (mkF m 33 #[.val (.ref a), .val (.int (1 : Int32)), .val (.int p2)] [(.ref a), (.ref a)]))
      obtain ⟨T15, X15, e15, st15⟩ := getF X14 hx hZ hown (host := "") (Or.inl (own_w hw 32 rfl)) Via.refl e14 F_a_totalLength (g := (mkF m 33 #[.val (.ref a), .val (.int (1 : Int32)), .val (.int p2)] [(.ref a), (.ref a)])) rfl rfl (hb hby da_33)
      refine Go.st st15 ?_
      show Go p e below s _ _ _ (T15.setTop (mkF m 36 #[.val (.ref a), .val (.int (1 : Int32)), .val (.int p2)] [(.long tl), (.ref a)]))
      refine Go.st (fun _ kq_ => XS.iloadN X15.here hx rfl (hb hby da_36) rfl kq_) ?_
      show Go p e below s _ _ _ (T15.setTop (mkF m 37 #[.val (.ref a), .val (.int (1 : Int32)), .val (.int p2)] [(.int p2), (.long tl), (.ref a)]))
      refine Go.st (fun _ kq_ => XT.i2l X15.here hx rfl (hb hby da_37) rfl kq_) ?_
      show Go p e below s _ _ _ (T15.setTop (mkF m 38 #[.val (.ref a), .val (.int (1 : Int32)), .val (.int p2)] [(.long (p2.toInt64)), (.long tl), (.ref a)]))
      refine Go.st (fun _ kq_ => XT.ladd X15.here hx rfl (hb hby da_38) rfl kq_) ?_
      show Go p e below s _ _ _ (T15.setTop (mkF m 39 #[.val (.ref a), .val (.int (1 : Int32)), .val (.int p2)] [(.long (tl + (p2.toInt64))), (.ref a)]))
      obtain ⟨T16, h16, X16, e16, W16, st16⟩ := putF X15 hx hZ hown (host := "") (Or.inl (own_w hw 32 rfl)) Via.refl e15 F_a_totalLength E_a (Or.inl (own_w hw 33 rfl)) (own_w hw 2 rfl) (ty := .long) (by decide) rfl rfl (g := (mkF m 39 #[.val (.ref a), .val (.int (1 : Int32)), .val (.int p2)] [(.long (tl + (p2.toInt64))), (.ref a)])) rfl rfl (hb hby da_39)
      have N16 := Fr.snoc X16 N14 ga
      have O16 := O14.wr W16 ga
      have K16 := K14.wr W16 (Or.inl (List.mem_of_getElem? (i := 0) rfl))
      have E_a := E_a.wr W16
      have F_a_elementCounts := F_a_elementCounts.other W16 (Or.inr (slot_ne (Or.inr (own_w hw 12 rfl)) (Or.inl (own_w hw 33 rfl)) (by decide) (by decide : parseFieldDescriptor "[I" = some (.array .int)) (by decide : parseFieldDescriptor "J" = some .long)))
      have F_a_totalLengths := F_a_totalLengths.other W16 (Or.inr (slot_ne (Or.inr (own_w hw 15 rfl)) (Or.inl (own_w hw 33 rfl)) (by decide) (by decide : parseFieldDescriptor "[J" = some (.array .long)) (by decide : parseFieldDescriptor "J" = some .long)))
      have F_a_elementCount := F_a_elementCount.other W16 (Or.inr (slot_ne (Or.inl (own_w hw 22 rfl)) (Or.inl (own_w hw 33 rfl)) (by decide) (by decide : parseFieldDescriptor "I" = some .int) (by decide : parseFieldDescriptor "J" = some .long)))
      have V_b := V_b.other W16 (Ne.symm nab)
      have V_d := V_d.other W16 (Ne.symm nad)
      have F_a_totalLength := F_a_totalLength.same W16
      refine Go.st st16 ?_
      show Go p e below s _ _ _ (T16.setTop (mkF m 42 #[.val (.ref a), .val (.int (1 : Int32)), .val (.int p2)] []))
      exact Go.ret X16 hlk (none) (fun _ => rfl) (by rw [e16]; exact ⟨rfl, N16, K16, E_a, F_a_elementCounts, F_a_totalLengths, F_a_elementCount, F_a_totalLength, V_b, V_d⟩) (by decide) (by decide) (fun fs hr => X16.returnOut hx Bd.returns (hb hby da_42) hr)
    · show Go p e below s _ _ _ (s₁.setTop (mkF m 0 #[.val (.ref a), .val (.int (2 : Int32)), .val (.int p2)] []))
      refine Go.st (fun _ kq_ => XS.aloadN X0.here hx rfl (hb hby da_0) rfl rfl kq_) ?_
      show Go p e below s _ _ _ (s₁.setTop (mkF m 1 #[.val (.ref a), .val (.int (2 : Int32)), .val (.int p2)] [(.ref a)]))
      obtain ⟨T17, X17, e17, st17⟩ := getF X0 hx hZ hown (host := "") (Or.inl (own_w hw 11 rfl)) Via.refl e0 F_a_elementCounts (g := (mkF m 1 #[.val (.ref a), .val (.int (2 : Int32)), .val (.int p2)] [(.ref a)])) rfl rfl (hb hby da_1)
      refine Go.st st17 ?_
      show Go p e below s _ _ _ (T17.setTop (mkF m 4 #[.val (.ref a), .val (.int (2 : Int32)), .val (.int p2)] [(.ref b)]))
      refine Go.st (fun _ kq_ => XS.iloadN X17.here hx rfl (hb hby da_4) rfl kq_) ?_
      show Go p e below s _ _ _ (T17.setTop (mkF m 5 #[.val (.ref a), .val (.int (2 : Int32)), .val (.int p2)] [(.int (2 : Int32)), (.ref b)]))
      refine Go.st (fun _ kq_ => XT.dup2 X17.here hx rfl (hb hby da_5) rfl rfl rfl kq_) ?_
      show Go p e below s _ _ _ (T17.setTop (mkF m 6 #[.val (.ref a), .val (.int (2 : Int32)), .val (.int p2)] [(.int (2 : Int32)), (.ref b), (.int (2 : Int32)), (.ref b)]))
      refine Go.st (fun _ kq_ => own_iaload X17 hx hZ e17 V_b (by decide) (by decide) (v := (.int x2)) rfl (g := (mkF m 6 #[.val (.ref a), .val (.int (2 : Int32)), .val (.int p2)] [(.int (2 : Int32)), (.ref b), (.int (2 : Int32)), (.ref b)])) rfl rfl (hb hby da_6) _ kq_) ?_
      show Go p e below s _ _ _ (T17.setTop (mkF m 7 #[.val (.ref a), .val (.int (2 : Int32)), .val (.int p2)] [(.int x2), (.int (2 : Int32)), (.ref b)]))
      refine Go.st (fun _ kq_ => XS.iconst X17.here hx rfl (hb hby da_7) kq_) ?_
      show Go p e below s _ _ _ (T17.setTop (mkF m 8 #[.val (.ref a), .val (.int (2 : Int32)), .val (.int p2)] [(.int (1 : Int32)), (.int x2), (.int (2 : Int32)), (.ref b)]))
      refine Go.st (fun _ kq_ => XS.iadd X17.here hx rfl (hb hby da_8) rfl kq_) ?_
      show Go p e below s _ _ _ (T17.setTop (mkF m 9 #[.val (.ref a), .val (.int (2 : Int32)), .val (.int p2)] [(.int (x2 + (1 : Int32))), (.int (2 : Int32)), (.ref b)]))
      obtain ⟨T18, h18, X18, e18, W18, V18, st18⟩ := own_stI X17 hx hZ e17 V_b (j := (2 : Int32)) (by decide) (by decide) 2 rfl (Nat.le_of_ble_eq_true rfl) (g := (mkF m 9 #[.val (.ref a), .val (.int (2 : Int32)), .val (.int p2)] [(.int (x2 + (1 : Int32))), (.int (2 : Int32)), (.ref b)])) rfl rfl (hb hby da_9)
      have N18 := Fr.snoc X18 N0 gb
      have O18 := O0.wr W18 gb
      have K18 := K0.wr W18 (Or.inl (List.mem_of_getElem? (i := 1) rfl))
      have E_a := E_a.wr W18
      have F_a_elementCounts := F_a_elementCounts.other W18 (Or.inl nab)
      have F_a_totalLengths := F_a_totalLengths.other W18 (Or.inl nab)
      have F_a_elementCount := F_a_elementCount.other W18 (Or.inl nab)
      have F_a_totalLength := F_a_totalLength.other W18 (Or.inl nab)
      have V_d := V_d.other W18 (Ne.symm nbd)
      have V_b : Arv Z h18 b kb .int (3 : Int32) [(.int x0), (.int x1), (.int (x2 + (1 : Int32)))] (.int (0 : Int32)) := V18
      refine Go.st st18 ?_
      show Go p e below s _ _ _ (T18.setTop (mkF m 10 #[.val (.ref a), .val (.int (2 : Int32)), .val (.int p2)] []))
      refine Go.st (fun _ kq_ => XS.aloadN X18.here hx rfl (hb hby da_10) rfl rfl kq_) ?_
      show Go p e below s _ _ _ (T18.setTop (mkF m 11 #[.val (.ref a), .val (.int (2 : Int32)), .val (.int p2)] [(.ref a)]))
      obtain ⟨T19, X19, e19, st19⟩ := getF X18 hx hZ hown (host := "") (Or.inl (own_w hw 14 rfl)) Via.refl e18 F_a_totalLengths (g := (mkF m 11 #[.val (.ref a), .val (.int (2 : Int32)), .val (.int p2)] [(.ref a)])) rfl rfl (hb hby da_11)
      refine Go.st st19 ?_
      show Go p e below s _ _ _ (T19.setTop (mkF m 14 #[.val (.ref a), .val (.int (2 : Int32)), .val (.int p2)] [(.ref d)]))
      refine Go.st (fun _ kq_ => XS.iloadN X19.here hx rfl (hb hby da_14) rfl kq_) ?_
      show Go p e below s _ _ _ (T19.setTop (mkF m 15 #[.val (.ref a), .val (.int (2 : Int32)), .val (.int p2)] [(.int (2 : Int32)), (.ref d)]))
      refine Go.st (fun _ kq_ => XT.dup2 X19.here hx rfl (hb hby da_15) rfl rfl rfl kq_) ?_
      show Go p e below s _ _ _ (T19.setTop (mkF m 16 #[.val (.ref a), .val (.int (2 : Int32)), .val (.int p2)] [(.int (2 : Int32)), (.ref d), (.int (2 : Int32)), (.ref d)]))
      refine Go.st (fun _ kq_ => own_laload X19 hx hZ e19 V_d (by decide) (by decide) (v := (.long y2)) rfl (g := (mkF m 16 #[.val (.ref a), .val (.int (2 : Int32)), .val (.int p2)] [(.int (2 : Int32)), (.ref d), (.int (2 : Int32)), (.ref d)])) rfl rfl (hb hby da_16) _ kq_) ?_
      show Go p e below s _ _ _ (T19.setTop (mkF m 17 #[.val (.ref a), .val (.int (2 : Int32)), .val (.int p2)] [(.long y2), (.int (2 : Int32)), (.ref d)]))
      refine Go.st (fun _ kq_ => XS.iloadN X19.here hx rfl (hb hby da_17) rfl kq_) ?_
      show Go p e below s _ _ _ (T19.setTop (mkF m 18 #[.val (.ref a), .val (.int (2 : Int32)), .val (.int p2)] [(.int p2), (.long y2), (.int (2 : Int32)), (.ref d)]))
      refine Go.st (fun _ kq_ => XT.i2l X19.here hx rfl (hb hby da_18) rfl kq_) ?_
      show Go p e below s _ _ _ (T19.setTop (mkF m 19 #[.val (.ref a), .val (.int (2 : Int32)), .val (.int p2)] [(.long (p2.toInt64)), (.long y2), (.int (2 : Int32)), (.ref d)]))
      refine Go.st (fun _ kq_ => XT.ladd X19.here hx rfl (hb hby da_19) rfl kq_) ?_
      show Go p e below s _ _ _ (T19.setTop (mkF m 20 #[.val (.ref a), .val (.int (2 : Int32)), .val (.int p2)] [(.long (y2 + (p2.toInt64))), (.int (2 : Int32)), (.ref d)]))
      obtain ⟨T20, h20, X20, e20, W20, V20, st20⟩ := own_stJ X19 hx hZ e19 V_d (j := (2 : Int32)) (by decide) (by decide) 2 rfl (Nat.le_of_ble_eq_true rfl) (g := (mkF m 20 #[.val (.ref a), .val (.int (2 : Int32)), .val (.int p2)] [(.long (y2 + (p2.toInt64))), (.int (2 : Int32)), (.ref d)])) rfl rfl (hb hby da_20)
      have N20 := Fr.snoc X20 N18 gd
      have O20 := O18.wr W20 gd
      have K20 := K18.wr W20 (Or.inl (List.mem_of_getElem? (i := 2) rfl))
      have E_a := E_a.wr W20
      have F_a_elementCounts := F_a_elementCounts.other W20 (Or.inl nad)
      have F_a_totalLengths := F_a_totalLengths.other W20 (Or.inl nad)
      have F_a_elementCount := F_a_elementCount.other W20 (Or.inl nad)
      have F_a_totalLength := F_a_totalLength.other W20 (Or.inl nad)
      have V_b := V_b.other W20 nbd
      have V_d : Arv Z h20 d kd .long (3 : Int32) [(.long y0), (.long y1), (.long (y2 + (p2.toInt64)))] (.long (0 : Int64)) := V20
      refine Go.st st20 ?_
      show Go p e below s _ _ _ (T20.setTop (mkF m 21 #[.val (.ref a), .val (.int (2 : Int32)), .val (.int p2)] []))
      refine Go.st (fun _ kq_ => XS.aloadN X20.here hx rfl (hb hby da_21) rfl rfl kq_) ?_
      show Go p e below s _ _ _ (T20.setTop (mkF m 22 #[.val (.ref a), .val (.int (2 : Int32)), .val (.int p2)] [(.ref a)]))
      refine Go.st (fun _ kq_ => XS.dup X20.here hx rfl (hb hby da_22) rfl rfl kq_) ?_
      show Go p e below s _ _ _ (T20.setTop (mkF m 23 #[.val (.ref a), .val (.int (2 : Int32)), .val (.int p2)] [(.ref a), (.ref a)]))
      obtain ⟨T21, X21, e21, st21⟩ := getF X20 hx hZ hown (host := "") (Or.inl (own_w hw 21 rfl)) Via.refl e20 F_a_elementCount (g := (mkF m 23 #[.val (.ref a), .val (.int (2 : Int32)), .val (.int p2)] [(.ref a), (.ref a)])) rfl rfl (hb hby da_23)
      refine Go.st st21 ?_
      show Go p e below s _ _ _ (T21.setTop (mkF m 26 #[.val (.ref a), .val (.int (2 : Int32)), .val (.int p2)] [(.int cn), (.ref a)]))
      refine Go.st (fun _ kq_ => XS.iconst X21.here hx rfl (hb hby da_26) kq_) ?_
      show Go p e below s _ _ _ (T21.setTop (mkF m 27 #[.val (.ref a), .val (.int (2 : Int32)), .val (.int p2)] [(.int (1 : Int32)), (.int cn), (.ref a)]))
      refine Go.st (fun _ kq_ => XS.iadd X21.here hx rfl (hb hby da_27) rfl kq_) ?_
      show Go p e below s _ _ _ (T21.setTop (mkF m 28 #[.val (.ref a), .val (.int (2 : Int32)), .val (.int p2)] [(.int (cn + (1 : Int32))), (.ref a)]))
      obtain ⟨T22, h22, X22, e22, W22, st22⟩ := putF X21 hx hZ hown (host := "") (Or.inl (own_w hw 21 rfl)) Via.refl e21 F_a_elementCount E_a (Or.inl (own_w hw 22 rfl)) (own_w hw 2 rfl) (ty := .int) (by decide) rfl rfl (g := (mkF m 28 #[.val (.ref a), .val (.int (2 : Int32)), .val (.int p2)] [(.int (cn + (1 : Int32))), (.ref a)])) rfl rfl (hb hby da_28)
      have N22 := Fr.snoc X22 N20 ga
      have O22 := O20.wr W22 ga
      have K22 := K20.wr W22 (Or.inl (List.mem_of_getElem? (i := 0) rfl))
      have E_a := E_a.wr W22
      have F_a_elementCounts := F_a_elementCounts.other W22 (Or.inr (slot_ne (Or.inr (own_w hw 12 rfl)) (Or.inl (own_w hw 22 rfl)) (by decide) (by decide : parseFieldDescriptor "[I" = some (.array .int)) (by decide : parseFieldDescriptor "I" = some .int)))
      have F_a_totalLengths := F_a_totalLengths.other W22 (Or.inr (slot_ne (Or.inr (own_w hw 15 rfl)) (Or.inl (own_w hw 22 rfl)) (by decide) (by decide : parseFieldDescriptor "[J" = some (.array .long)) (by decide : parseFieldDescriptor "I" = some .int)))
      have F_a_totalLength := F_a_totalLength.other W22 (Or.inr (slot_ne (Or.inl (own_w hw 33 rfl)) (Or.inl (own_w hw 22 rfl)) (by decide) (by decide : parseFieldDescriptor "J" = some .long) (by decide : parseFieldDescriptor "I" = some .int)))
      have V_b := V_b.other W22 (Ne.symm nab)
      have V_d := V_d.other W22 (Ne.symm nad)
      have F_a_elementCount := F_a_elementCount.same W22
      refine Go.st st22 ?_
      show Go p e below s _ _ _ (T22.setTop (mkF m 31 #[.val (.ref a), .val (.int (2 : Int32)), .val (.int p2)] []))
      refine Go.st (fun _ kq_ => XS.aloadN X22.here hx rfl (hb hby da_31) rfl rfl kq_) ?_
      show Go p e below s _ _ _ (T22.setTop (mkF m 32 #[.val (.ref a), .val (.int (2 : Int32)), .val (.int p2)] [(.ref a)]))
      refine Go.st (fun _ kq_ => XS.dup X22.here hx rfl (hb hby da_32) rfl rfl kq_) ?_
      show Go p e below s _ _ _ (T22.setTop (mkF m 33 #[.val (.ref a), .val (.int (2 : Int32)), .val (.int p2)] [(.ref a), (.ref a)]))
      obtain ⟨T23, X23, e23, st23⟩ := getF X22 hx hZ hown (host := "") (Or.inl (own_w hw 32 rfl)) Via.refl e22 F_a_totalLength (g := (mkF m 33 #[.val (.ref a), .val (.int (2 : Int32)), .val (.int p2)] [(.ref a), (.ref a)])) rfl rfl (hb hby da_33)
      refine Go.st st23 ?_
      show Go p e below s _ _ _ (T23.setTop (mkF m 36 #[.val (.ref a), .val (.int (2 : Int32)), .val (.int p2)] [(.long tl), (.ref a)]))
      refine Go.st (fun _ kq_ => XS.iloadN X23.here hx rfl (hb hby da_36) rfl kq_) ?_
      show Go p e below s _ _ _ (T23.setTop (mkF m 37 #[.val (.ref a), .val (.int (2 : Int32)), .val (.int p2)] [(.int p2), (.long tl), (.ref a)]))
      refine Go.st (fun _ kq_ => XT.i2l X23.here hx rfl (hb hby da_37) rfl kq_) ?_
      show Go p e below s _ _ _ (T23.setTop (mkF m 38 #[.val (.ref a), .val (.int (2 : Int32)), .val (.int p2)] [(.long (p2.toInt64)), (.long tl), (.ref a)]))
      refine Go.st (fun _ kq_ => XT.ladd X23.here hx rfl (hb hby da_38) rfl kq_) ?_
      show Go p e below s _ _ _ (T23.setTop (mkF m 39 #[.val (.ref a), .val (.int (2 : Int32)), .val (.int p2)] [(.long (tl + (p2.toInt64))), (.ref a)]))
      obtain ⟨T24, h24, X24, e24, W24, st24⟩ := putF X23 hx hZ hown (host := "") (Or.inl (own_w hw 32 rfl)) Via.refl e23 F_a_totalLength E_a (Or.inl (own_w hw 33 rfl)) (own_w hw 2 rfl) (ty := .long) (by decide) rfl rfl (g := (mkF m 39 #[.val (.ref a), .val (.int (2 : Int32)), .val (.int p2)] [(.long (tl + (p2.toInt64))), (.ref a)])) rfl rfl (hb hby da_39)
      have N24 := Fr.snoc X24 N22 ga
      have O24 := O22.wr W24 ga
      have K24 := K22.wr W24 (Or.inl (List.mem_of_getElem? (i := 0) rfl))
      have E_a := E_a.wr W24
      have F_a_elementCounts := F_a_elementCounts.other W24 (Or.inr (slot_ne (Or.inr (own_w hw 12 rfl)) (Or.inl (own_w hw 33 rfl)) (by decide) (by decide : parseFieldDescriptor "[I" = some (.array .int)) (by decide : parseFieldDescriptor "J" = some .long)))
      have F_a_totalLengths := F_a_totalLengths.other W24 (Or.inr (slot_ne (Or.inr (own_w hw 15 rfl)) (Or.inl (own_w hw 33 rfl)) (by decide) (by decide : parseFieldDescriptor "[J" = some (.array .long)) (by decide : parseFieldDescriptor "J" = some .long)))
      have F_a_elementCount := F_a_elementCount.other W24 (Or.inr (slot_ne (Or.inl (own_w hw 22 rfl)) (Or.inl (own_w hw 33 rfl)) (by decide) (by decide : parseFieldDescriptor "I" = some .int) (by decide : parseFieldDescriptor "J" = some .long)))
      have V_b := V_b.other W24 (Ne.symm nab)
      have V_d := V_d.other W24 (Ne.symm nad)
      have F_a_totalLength := F_a_totalLength.same W24
      refine Go.st st24 ?_
      show Go p e below s _ _ _ (T24.setTop (mkF m 42 #[.val (.ref a), .val (.int (2 : Int32)), .val (.int p2)] []))
      exact Go.ret X24 hlk (none) (fun _ => rfl) (by rw [e24]; exact ⟨rfl, N24, K24, E_a, F_a_elementCounts, F_a_totalLengths, F_a_elementCount, F_a_totalLength, V_b, V_d⟩) (by decide) (by decide) (fun fs hr => X24.returnOut hx Bd.returns (hb hby da_42) hr)
  obtain ⟨s2, o2, st2, r2⟩ := G
  exact ⟨s2, o2, castTop (efa m a p1 p2) st2, r2⟩
theorem dem1_0 : decode prog_53_method_3_code 0 = .ok (.iload_n 1, 1) := by decide +kernel
theorem dem1_1 : decode prog_53_method_3_code 1 = .ok (.iconst (-1), 1) := by decide +kernel
theorem dem1_2 : decode prog_53_method_3_code 2 = .ok (.if_icmp .ne 11, 3) := by decide +kernel
theorem dem1_5 : decode prog_53_method_3_code 5 = .ok (.aload_n 0, 1) := by decide +kernel
theorem dem1_6 : decode prog_53_method_3_code 6 = .ok (.getfield 17, 3) := by decide +kernel
theorem dem1_9 : decode prog_53_method_3_code 9 = .ok (.istore_n 2, 1) := by decide +kernel
theorem dem1_10 : decode prog_53_method_3_code 10 = .ok (.goto 21, 3) := by decide +kernel
theorem dem1_31 : decode prog_53_method_3_code 31 = .ok (.iload_n 2, 1) := by decide +kernel
theorem dem1_32 : decode prog_53_method_3_code 32 = .ok (.ireturn, 1) := by decide +kernel
theorem pnem1 : plainName "com/example/element_ranker/elementranker/TagStatistics" = true := by first | (simp [plainName, overriddenIn]; done) | decide +kernel
theorem efem1 (m : MethodId) (x0 : Addr) (x1 : Int32) : entryFrame m #[(.ref x0), (.int x1)] 3 = mkF m 0 #[.val (.ref x0), .val (.int x1), .unset] [] := by first | (simp [entryFrame, mkF, argsToLocals, Value.category, maxLocals]; done) | rfl
def Qem1 (Z : State) (a : Addr) (b : Addr) (kb : ClassId) (d : Addr) (kd : ClassId) (x0 : Int32) (x1 : Int32) (x2 : Int32) (y0 : Int64) (y1 : Int64) (y2 : Int64) (cn : Int32) (tl : Int64) (h0 : Heap) (n0 : Nat) (v : Option Value) (h : Heap) (L : List Loc) : Prop := v = some (.int cn) ∧ Fr n0 L ∧ h = h0
set_option maxRecDepth 65536 in
set_option maxHeartbeats 40000000 in
theorem rmem1 (l : Launch) (Z : State) (a0 : Array Value) (hw : ∀ d ∈ tables_1, d.before a0 Z = true) (ws : List Jvm.Cond) (a : Addr) (b : Addr) (kb : ClassId) (d : Addr) (kd : ClassId) (x0 : Int32) (x1 : Int32) (x2 : Int32) (y0 : Int64) (y1 : Int64) (y2 : Int64) (cn : Int32) (tl : Int64) (h0 : Heap) (n0 : Nat) (O0 : Old Z n0 h0) (E_a : Exa Z h0 a "com/example/element_ranker/elementranker/TagStatistics") (F_a_elementCounts : Fld Z h0 a "com/example/element_ranker/elementranker/TagStatistics" "elementCounts" "[I" (.ref b)) (F_a_totalLengths : Fld Z h0 a "com/example/element_ranker/elementranker/TagStatistics" "totalLengths" "[J" (.ref d)) (F_a_elementCount : Fld Z h0 a "com/example/element_ranker/elementranker/TagStatistics" "elementCount" "I" (.int cn)) (F_a_totalLength : Fld Z h0 a "com/example/element_ranker/elementranker/TagStatistics" "totalLength" "J" (.long tl)) (V_b : Arv Z h0 b kb .int (3 : Int32) [(.int x0), (.int x1), (.int x2)] (.int (0 : Int32))) (V_d : Arv Z h0 d kd .long (3 : Int32) [(.long y0), (.long y1), (.long y2)] (.long (0 : Int64))) :
    MetFree l (⟨"com/example/element_ranker/elementranker/TagStatistics", "elementCount", "(I)I"⟩ : MethodName) (head1 (Jvm.Cond.code (⟨"com/example/element_ranker/elementranker/TagStatistics", "elementCount", "(I)I"⟩ : MethodName) prog_53_method_3_code 3 (some .int) :: ws) ({ frames := 0, cells := 0, slots := 0, locals := 0 } : Room)) (fun A_ U_ => A_ = #[(.ref a), (.int (-1 : Int32))] ∧ Z.Warmed39 U_.vm ∧ U_.heap = h0) (fun _ _ _ _ _ => True) (fun _ U o U' => ∃ v L, o = .returned v ∧ Qem1 Z a b kb d kd x0 x1 x2 y0 y1 y2 cn tl h0 n0 v U'.heap L ∧ FrameEnd U o U' L ({ frames := 0, cells := 0, slots := 0, locals := 0 } : Room).cells ({ frames := 0, cells := 0, slots := 0, locals := 0 } : Room).slots) := by
  refine MetFree.of_bodySF (plainFor_of_name pnem1) hisR ?_
  intro p e s m args below meth cd s₁ Bd hml0 hP hK
  obtain ⟨rfl, hZ, hh⟩ := hP
  have hx := Bd.exec
  have hby := Bd.bytes
  have hlk : meth.locks = false := BodyLoose.notSynchronized Bd
  have hml : cd.maxLocals = 3 := hml0
  have hown : s.vm.findClass "com/example/element_ranker/elementranker/TagStatistics" = some m.cls := findClass_of_methodNamed Bd.named
  have hnm := (name_of_methodNamed Bd.named Bd.method).1
  have X0 : Stand p l e ({ frames := 0, cells := 0, slots := 0, locals := 0 } : Room) s m #[(.ref a), (.int (-1 : Int32))] below meth cd s₁ [] 0 0 := Stand.of_body Bd
  have e0 : s₁.heap = h0 := by rw [← hh, Bd.state]; rfl
  have N0 := Fr.nil n0
  have G : Go p e below s 0 0 (Qem1 Z a b kb d kd x0 x1 x2 y0 y1 y2 cn tl h0 n0) (s₁.setTop (mkF m 0 #[.val (.ref a), .val (.int (-1 : Int32)), .unset] [])) := by
    show Go p e below s _ _ _ (s₁.setTop (mkF m 0 #[.val (.ref a), .val (.int (-1 : Int32)), .unset] []))
    refine Go.st (fun _ kq_ => XS.iloadN X0.here hx rfl (hb hby dem1_0) rfl kq_) ?_
    show Go p e below s _ _ _ (s₁.setTop (mkF m 1 #[.val (.ref a), .val (.int (-1 : Int32)), .unset] [(.int (-1 : Int32))]))
    refine Go.st (fun _ kq_ => XS.iconst X0.here hx rfl (hb hby dem1_1) kq_) ?_
    show Go p e below s _ _ _ (s₁.setTop (mkF m 2 #[.val (.ref a), .val (.int (-1 : Int32)), .unset] [(.int (-1 : Int32)), (.int (-1 : Int32))]))
    refine Go.st (fun _ kq_ => XS.icmpNo X0.here hx rfl (hb hby dem1_2) rfl (by decide) kq_) ?_
    show Go p e below s _ _ _ (s₁.setTop (mkF m 5 #[.val (.ref a), .val (.int (-1 : Int32)), .unset] []))
    refine Go.st (fun _ kq_ => XS.aloadN X0.here hx rfl (hb hby dem1_5) rfl rfl kq_) ?_
    show Go p e below s _ _ _ (s₁.setTop (mkF m 6 #[.val (.ref a), .val (.int (-1 : Int32)), .unset] [(.ref a)]))
    obtain ⟨T1, X1, e1, st1⟩ := getF X0 hx hZ hown (host := "") (Or.inl (own_w hw 21 rfl)) Via.refl e0 F_a_elementCount (g := (mkF m 6 #[.val (.ref a), .val (.int (-1 : Int32)), .unset] [(.ref a)])) rfl rfl (hb hby dem1_6)
    refine Go.st st1 ?_
    show Go p e below s _ _ _ (T1.setTop (mkF m 9 #[.val (.ref a), .val (.int (-1 : Int32)), .unset] [(.int cn)]))
    refine Go.st (fun _ kq_ => XS.istoreN X1.here hx rfl (hb hby dem1_9) rfl (l' := #[.val (.ref a), .val (.int (-1 : Int32)), .val (.int cn)]) rfl kq_) ?_
    show Go p e below s _ _ _ (T1.setTop (mkF m 10 #[.val (.ref a), .val (.int (-1 : Int32)), .val (.int cn)] []))
    refine Go.st (fun _ kq_ => XS.goto X1.here hx rfl (pc0 := 10) (pc' := 31) rfl (hb hby dem1_10) (by decide) (by decide) kq_) ?_
    show Go p e below s _ _ _ (T1.setTop (mkF m 31 #[.val (.ref a), .val (.int (-1 : Int32)), .val (.int cn)] []))
    refine Go.st (fun _ kq_ => XS.iloadN X1.here hx rfl (hb hby dem1_31) rfl kq_) ?_
    show Go p e below s _ _ _ (T1.setTop (mkF m 32 #[.val (.ref a), .val (.int (-1 : Int32)), .val (.int cn)] [(.int cn)]))
    exact Go.ret X1 hlk (some (.int cn)) (fun h => by rw [Bd.returns] at h; cases h) (by rw [e1]; exact ⟨rfl, N0, rfl⟩) (by decide) (by decide) (fun fs hr => retI X1 hx Bd.returns (hb hby dem1_32) hr)
  obtain ⟨s2, o2, st2, r2⟩ := G
  exact ⟨s2, o2, castTop (efem1 m a (-1 : Int32)) st2, r2⟩
theorem dem2_0 : decode prog_53_method_3_code 0 = .ok (.iload_n 1, 1) := by decide +kernel
theorem dem2_1 : decode prog_53_method_3_code 1 = .ok (.iconst (-1), 1) := by decide +kernel
theorem dem2_2 : decode prog_53_method_3_code 2 = .ok (.if_icmp .ne 11, 3) := by decide +kernel
theorem dem2_13 : decode prog_53_method_3_code 13 = .ok (.iload_n 1, 1) := by decide +kernel
theorem dem2_14 : decode prog_53_method_3_code 14 = .ok (.bipush (-2), 2) := by decide +kernel
theorem dem2_16 : decode prog_53_method_3_code 16 = .ok (.if_icmp .ne 8, 3) := by decide +kernel
theorem dem2_19 : decode prog_53_method_3_code 19 = .ok (.iconst 0, 1) := by decide +kernel
theorem dem2_20 : decode prog_53_method_3_code 20 = .ok (.istore_n 2, 1) := by decide +kernel
theorem dem2_21 : decode prog_53_method_3_code 21 = .ok (.goto 10, 3) := by decide +kernel
theorem dem2_31 : decode prog_53_method_3_code 31 = .ok (.iload_n 2, 1) := by decide +kernel
theorem dem2_32 : decode prog_53_method_3_code 32 = .ok (.ireturn, 1) := by decide +kernel
theorem pnem2 : plainName "com/example/element_ranker/elementranker/TagStatistics" = true := by first | (simp [plainName, overriddenIn]; done) | decide +kernel
theorem efem2 (m : MethodId) (x0 : Addr) (x1 : Int32) : entryFrame m #[(.ref x0), (.int x1)] 3 = mkF m 0 #[.val (.ref x0), .val (.int x1), .unset] [] := by first | (simp [entryFrame, mkF, argsToLocals, Value.category, maxLocals]; done) | rfl
def Qem2 (Z : State) (a : Addr) (b : Addr) (kb : ClassId) (d : Addr) (kd : ClassId) (x0 : Int32) (x1 : Int32) (x2 : Int32) (y0 : Int64) (y1 : Int64) (y2 : Int64) (cn : Int32) (tl : Int64) (h0 : Heap) (n0 : Nat) (v : Option Value) (h : Heap) (L : List Loc) : Prop := v = some (.int (0 : Int32)) ∧ Fr n0 L ∧ h = h0
set_option maxRecDepth 65536 in
set_option maxHeartbeats 40000000 in
theorem rmem2 (l : Launch) (Z : State) (a0 : Array Value) (hw : ∀ d ∈ tables_1, d.before a0 Z = true) (ws : List Jvm.Cond) (a : Addr) (b : Addr) (kb : ClassId) (d : Addr) (kd : ClassId) (x0 : Int32) (x1 : Int32) (x2 : Int32) (y0 : Int64) (y1 : Int64) (y2 : Int64) (cn : Int32) (tl : Int64) (h0 : Heap) (n0 : Nat) (O0 : Old Z n0 h0) (E_a : Exa Z h0 a "com/example/element_ranker/elementranker/TagStatistics") (F_a_elementCounts : Fld Z h0 a "com/example/element_ranker/elementranker/TagStatistics" "elementCounts" "[I" (.ref b)) (F_a_totalLengths : Fld Z h0 a "com/example/element_ranker/elementranker/TagStatistics" "totalLengths" "[J" (.ref d)) (F_a_elementCount : Fld Z h0 a "com/example/element_ranker/elementranker/TagStatistics" "elementCount" "I" (.int cn)) (F_a_totalLength : Fld Z h0 a "com/example/element_ranker/elementranker/TagStatistics" "totalLength" "J" (.long tl)) (V_b : Arv Z h0 b kb .int (3 : Int32) [(.int x0), (.int x1), (.int x2)] (.int (0 : Int32))) (V_d : Arv Z h0 d kd .long (3 : Int32) [(.long y0), (.long y1), (.long y2)] (.long (0 : Int64))) :
    MetFree l (⟨"com/example/element_ranker/elementranker/TagStatistics", "elementCount", "(I)I"⟩ : MethodName) (head1 (Jvm.Cond.code (⟨"com/example/element_ranker/elementranker/TagStatistics", "elementCount", "(I)I"⟩ : MethodName) prog_53_method_3_code 3 (some .int) :: ws) ({ frames := 0, cells := 0, slots := 0, locals := 0 } : Room)) (fun A_ U_ => A_ = #[(.ref a), (.int (-2 : Int32))] ∧ Z.Warmed39 U_.vm ∧ U_.heap = h0) (fun _ _ _ _ _ => True) (fun _ U o U' => ∃ v L, o = .returned v ∧ Qem2 Z a b kb d kd x0 x1 x2 y0 y1 y2 cn tl h0 n0 v U'.heap L ∧ FrameEnd U o U' L ({ frames := 0, cells := 0, slots := 0, locals := 0 } : Room).cells ({ frames := 0, cells := 0, slots := 0, locals := 0 } : Room).slots) := by
  refine MetFree.of_bodySF (plainFor_of_name pnem2) hisR ?_
  intro p e s m args below meth cd s₁ Bd hml0 hP hK
  obtain ⟨rfl, hZ, hh⟩ := hP
  have hx := Bd.exec
  have hby := Bd.bytes
  have hlk : meth.locks = false := BodyLoose.notSynchronized Bd
  have hml : cd.maxLocals = 3 := hml0
  have hown : s.vm.findClass "com/example/element_ranker/elementranker/TagStatistics" = some m.cls := findClass_of_methodNamed Bd.named
  have hnm := (name_of_methodNamed Bd.named Bd.method).1
  have X0 : Stand p l e ({ frames := 0, cells := 0, slots := 0, locals := 0 } : Room) s m #[(.ref a), (.int (-2 : Int32))] below meth cd s₁ [] 0 0 := Stand.of_body Bd
  have e0 : s₁.heap = h0 := by rw [← hh, Bd.state]; rfl
  have N0 := Fr.nil n0
  have G : Go p e below s 0 0 (Qem2 Z a b kb d kd x0 x1 x2 y0 y1 y2 cn tl h0 n0) (s₁.setTop (mkF m 0 #[.val (.ref a), .val (.int (-2 : Int32)), .unset] [])) := by
    show Go p e below s _ _ _ (s₁.setTop (mkF m 0 #[.val (.ref a), .val (.int (-2 : Int32)), .unset] []))
    refine Go.st (fun _ kq_ => XS.iloadN X0.here hx rfl (hb hby dem2_0) rfl kq_) ?_
    show Go p e below s _ _ _ (s₁.setTop (mkF m 1 #[.val (.ref a), .val (.int (-2 : Int32)), .unset] [(.int (-2 : Int32))]))
    refine Go.st (fun _ kq_ => XS.iconst X0.here hx rfl (hb hby dem2_1) kq_) ?_
    show Go p e below s _ _ _ (s₁.setTop (mkF m 2 #[.val (.ref a), .val (.int (-2 : Int32)), .unset] [(.int (-1 : Int32)), (.int (-2 : Int32))]))
    refine Go.st (fun _ kq_ => XS.icmpYes X0.here hx rfl (pc0 := 2) (pc' := 13) rfl (hb hby dem2_2) rfl (by decide) (by decide) (by decide) kq_) ?_
    show Go p e below s _ _ _ (s₁.setTop (mkF m 13 #[.val (.ref a), .val (.int (-2 : Int32)), .unset] []))
    refine Go.st (fun _ kq_ => XS.iloadN X0.here hx rfl (hb hby dem2_13) rfl kq_) ?_
    show Go p e below s _ _ _ (s₁.setTop (mkF m 14 #[.val (.ref a), .val (.int (-2 : Int32)), .unset] [(.int (-2 : Int32))]))
    refine Go.st (fun _ kq_ => XS.bipush X0.here hx rfl (hb hby dem2_14) kq_) ?_
    show Go p e below s _ _ _ (s₁.setTop (mkF m 16 #[.val (.ref a), .val (.int (-2 : Int32)), .unset] [(.int (-2 : Int32)), (.int (-2 : Int32))]))
    refine Go.st (fun _ kq_ => XS.icmpNo X0.here hx rfl (hb hby dem2_16) rfl (by decide) kq_) ?_
    show Go p e below s _ _ _ (s₁.setTop (mkF m 19 #[.val (.ref a), .val (.int (-2 : Int32)), .unset] []))
    refine Go.st (fun _ kq_ => XS.iconst X0.here hx rfl (hb hby dem2_19) kq_) ?_
    show Go p e below s _ _ _ (s₁.setTop (mkF m 20 #[.val (.ref a), .val (.int (-2 : Int32)), .unset] [(.int (0 : Int32))]))
    refine Go.st (fun _ kq_ => XS.istoreN X0.here hx rfl (hb hby dem2_20) rfl (l' := #[.val (.ref a), .val (.int (-2 : Int32)), .val (.int (0 : Int32))]) rfl kq_) ?_
    show Go p e below s _ _ _ (s₁.setTop (mkF m 21 #[.val (.ref a), .val (.int (-2 : Int32)), .val (.int (0 : Int32))] []))
    refine Go.st (fun _ kq_ => XS.goto X0.here hx rfl (pc0 := 21) (pc' := 31) rfl (hb hby dem2_21) (by decide) (by decide) kq_) ?_
    show Go p e below s _ _ _ (s₁.setTop (mkF m 31 #[.val (.ref a), .val (.int (-2 : Int32)), .val (.int (0 : Int32))] []))
    refine Go.st (fun _ kq_ => XS.iloadN X0.here hx rfl (hb hby dem2_31) rfl kq_) ?_
    show Go p e below s _ _ _ (s₁.setTop (mkF m 32 #[.val (.ref a), .val (.int (-2 : Int32)), .val (.int (0 : Int32))] [(.int (0 : Int32))]))
    exact Go.ret X0 hlk (some (.int (0 : Int32))) (fun h => by rw [Bd.returns] at h; cases h) (by rw [e0]; exact ⟨rfl, N0, rfl⟩) (by decide) (by decide) (fun fs hr => retI X0 hx Bd.returns (hb hby dem2_32) hr)
  obtain ⟨s2, o2, st2, r2⟩ := G
  exact ⟨s2, o2, castTop (efem2 m a (-2 : Int32)) st2, r2⟩
theorem de0_0 : decode prog_53_method_3_code 0 = .ok (.iload_n 1, 1) := by decide +kernel
theorem de0_1 : decode prog_53_method_3_code 1 = .ok (.iconst (-1), 1) := by decide +kernel
theorem de0_2 : decode prog_53_method_3_code 2 = .ok (.if_icmp .ne 11, 3) := by decide +kernel
theorem de0_13 : decode prog_53_method_3_code 13 = .ok (.iload_n 1, 1) := by decide +kernel
theorem de0_14 : decode prog_53_method_3_code 14 = .ok (.bipush (-2), 2) := by decide +kernel
theorem de0_16 : decode prog_53_method_3_code 16 = .ok (.if_icmp .ne 8, 3) := by decide +kernel
theorem de0_24 : decode prog_53_method_3_code 24 = .ok (.aload_n 0, 1) := by decide +kernel
theorem de0_25 : decode prog_53_method_3_code 25 = .ok (.getfield 7, 3) := by decide +kernel
theorem de0_28 : decode prog_53_method_3_code 28 = .ok (.iload_n 1, 1) := by decide +kernel
theorem de0_29 : decode prog_53_method_3_code 29 = .ok (.iaload, 1) := by decide +kernel
theorem de0_30 : decode prog_53_method_3_code 30 = .ok (.istore_n 2, 1) := by decide +kernel
theorem de0_31 : decode prog_53_method_3_code 31 = .ok (.iload_n 2, 1) := by decide +kernel
theorem de0_32 : decode prog_53_method_3_code 32 = .ok (.ireturn, 1) := by decide +kernel
theorem pne0 : plainName "com/example/element_ranker/elementranker/TagStatistics" = true := by first | (simp [plainName, overriddenIn]; done) | decide +kernel
theorem efe0 (m : MethodId) (x0 : Addr) (x1 : Int32) : entryFrame m #[(.ref x0), (.int x1)] 3 = mkF m 0 #[.val (.ref x0), .val (.int x1), .unset] [] := by first | (simp [entryFrame, mkF, argsToLocals, Value.category, maxLocals]; done) | rfl
def Qe0 (Z : State) (a : Addr) (b : Addr) (kb : ClassId) (d : Addr) (kd : ClassId) (x0 : Int32) (x1 : Int32) (x2 : Int32) (y0 : Int64) (y1 : Int64) (y2 : Int64) (cn : Int32) (tl : Int64) (h0 : Heap) (n0 : Nat) (v : Option Value) (h : Heap) (L : List Loc) : Prop := v = some (.int x0) ∧ Fr n0 L ∧ h = h0
set_option maxRecDepth 65536 in
set_option maxHeartbeats 40000000 in
theorem rme0 (l : Launch) (Z : State) (a0 : Array Value) (hw : ∀ d ∈ tables_1, d.before a0 Z = true) (ws : List Jvm.Cond) (a : Addr) (b : Addr) (kb : ClassId) (d : Addr) (kd : ClassId) (x0 : Int32) (x1 : Int32) (x2 : Int32) (y0 : Int64) (y1 : Int64) (y2 : Int64) (cn : Int32) (tl : Int64) (h0 : Heap) (n0 : Nat) (O0 : Old Z n0 h0) (E_a : Exa Z h0 a "com/example/element_ranker/elementranker/TagStatistics") (F_a_elementCounts : Fld Z h0 a "com/example/element_ranker/elementranker/TagStatistics" "elementCounts" "[I" (.ref b)) (F_a_totalLengths : Fld Z h0 a "com/example/element_ranker/elementranker/TagStatistics" "totalLengths" "[J" (.ref d)) (F_a_elementCount : Fld Z h0 a "com/example/element_ranker/elementranker/TagStatistics" "elementCount" "I" (.int cn)) (F_a_totalLength : Fld Z h0 a "com/example/element_ranker/elementranker/TagStatistics" "totalLength" "J" (.long tl)) (V_b : Arv Z h0 b kb .int (3 : Int32) [(.int x0), (.int x1), (.int x2)] (.int (0 : Int32))) (V_d : Arv Z h0 d kd .long (3 : Int32) [(.long y0), (.long y1), (.long y2)] (.long (0 : Int64))) :
    MetFree l (⟨"com/example/element_ranker/elementranker/TagStatistics", "elementCount", "(I)I"⟩ : MethodName) (head1 (Jvm.Cond.code (⟨"com/example/element_ranker/elementranker/TagStatistics", "elementCount", "(I)I"⟩ : MethodName) prog_53_method_3_code 3 (some .int) :: ws) ({ frames := 0, cells := 0, slots := 0, locals := 0 } : Room)) (fun A_ U_ => A_ = #[(.ref a), (.int (0 : Int32))] ∧ Z.Warmed39 U_.vm ∧ U_.heap = h0) (fun _ _ _ _ _ => True) (fun _ U o U' => ∃ v L, o = .returned v ∧ Qe0 Z a b kb d kd x0 x1 x2 y0 y1 y2 cn tl h0 n0 v U'.heap L ∧ FrameEnd U o U' L ({ frames := 0, cells := 0, slots := 0, locals := 0 } : Room).cells ({ frames := 0, cells := 0, slots := 0, locals := 0 } : Room).slots) := by
  refine MetFree.of_bodySF (plainFor_of_name pne0) hisR ?_
  intro p e s m args below meth cd s₁ Bd hml0 hP hK
  obtain ⟨rfl, hZ, hh⟩ := hP
  have hx := Bd.exec
  have hby := Bd.bytes
  have hlk : meth.locks = false := BodyLoose.notSynchronized Bd
  have hml : cd.maxLocals = 3 := hml0
  have hown : s.vm.findClass "com/example/element_ranker/elementranker/TagStatistics" = some m.cls := findClass_of_methodNamed Bd.named
  have hnm := (name_of_methodNamed Bd.named Bd.method).1
  have X0 : Stand p l e ({ frames := 0, cells := 0, slots := 0, locals := 0 } : Room) s m #[(.ref a), (.int (0 : Int32))] below meth cd s₁ [] 0 0 := Stand.of_body Bd
  have e0 : s₁.heap = h0 := by rw [← hh, Bd.state]; rfl
  have N0 := Fr.nil n0
  have G : Go p e below s 0 0 (Qe0 Z a b kb d kd x0 x1 x2 y0 y1 y2 cn tl h0 n0) (s₁.setTop (mkF m 0 #[.val (.ref a), .val (.int (0 : Int32)), .unset] [])) := by
    show Go p e below s _ _ _ (s₁.setTop (mkF m 0 #[.val (.ref a), .val (.int (0 : Int32)), .unset] []))
    refine Go.st (fun _ kq_ => XS.iloadN X0.here hx rfl (hb hby de0_0) rfl kq_) ?_
    show Go p e below s _ _ _ (s₁.setTop (mkF m 1 #[.val (.ref a), .val (.int (0 : Int32)), .unset] [(.int (0 : Int32))]))
    refine Go.st (fun _ kq_ => XS.iconst X0.here hx rfl (hb hby de0_1) kq_) ?_
    show Go p e below s _ _ _ (s₁.setTop (mkF m 2 #[.val (.ref a), .val (.int (0 : Int32)), .unset] [(.int (-1 : Int32)), (.int (0 : Int32))]))
    refine Go.st (fun _ kq_ => XS.icmpYes X0.here hx rfl (pc0 := 2) (pc' := 13) rfl (hb hby de0_2) rfl (by decide) (by decide) (by decide) kq_) ?_
    show Go p e below s _ _ _ (s₁.setTop (mkF m 13 #[.val (.ref a), .val (.int (0 : Int32)), .unset] []))
    refine Go.st (fun _ kq_ => XS.iloadN X0.here hx rfl (hb hby de0_13) rfl kq_) ?_
    show Go p e below s _ _ _ (s₁.setTop (mkF m 14 #[.val (.ref a), .val (.int (0 : Int32)), .unset] [(.int (0 : Int32))]))
    refine Go.st (fun _ kq_ => XS.bipush X0.here hx rfl (hb hby de0_14) kq_) ?_
    show Go p e below s _ _ _ (s₁.setTop (mkF m 16 #[.val (.ref a), .val (.int (0 : Int32)), .unset] [(.int (-2 : Int32)), (.int (0 : Int32))]))
    refine Go.st (fun _ kq_ => XS.icmpYes X0.here hx rfl (pc0 := 16) (pc' := 24) rfl (hb hby de0_16) rfl (by decide) (by decide) (by decide) kq_) ?_
    show Go p e below s _ _ _ (s₁.setTop (mkF m 24 #[.val (.ref a), .val (.int (0 : Int32)), .unset] []))
    refine Go.st (fun _ kq_ => XS.aloadN X0.here hx rfl (hb hby de0_24) rfl rfl kq_) ?_
    show Go p e below s _ _ _ (s₁.setTop (mkF m 25 #[.val (.ref a), .val (.int (0 : Int32)), .unset] [(.ref a)]))
    obtain ⟨T1, X1, e1, st1⟩ := getF X0 hx hZ hown (host := "") (Or.inl (own_w hw 11 rfl)) Via.refl e0 F_a_elementCounts (g := (mkF m 25 #[.val (.ref a), .val (.int (0 : Int32)), .unset] [(.ref a)])) rfl rfl (hb hby de0_25)
    refine Go.st st1 ?_
    show Go p e below s _ _ _ (T1.setTop (mkF m 28 #[.val (.ref a), .val (.int (0 : Int32)), .unset] [(.ref b)]))
    refine Go.st (fun _ kq_ => XS.iloadN X1.here hx rfl (hb hby de0_28) rfl kq_) ?_
    show Go p e below s _ _ _ (T1.setTop (mkF m 29 #[.val (.ref a), .val (.int (0 : Int32)), .unset] [(.int (0 : Int32)), (.ref b)]))
    refine Go.st (fun _ kq_ => own_iaload X1 hx hZ e1 V_b (by decide) (by decide) (v := (.int x0)) rfl (g := (mkF m 29 #[.val (.ref a), .val (.int (0 : Int32)), .unset] [(.int (0 : Int32)), (.ref b)])) rfl rfl (hb hby de0_29) _ kq_) ?_
    show Go p e below s _ _ _ (T1.setTop (mkF m 30 #[.val (.ref a), .val (.int (0 : Int32)), .unset] [(.int x0)]))
    refine Go.st (fun _ kq_ => XS.istoreN X1.here hx rfl (hb hby de0_30) rfl (l' := #[.val (.ref a), .val (.int (0 : Int32)), .val (.int x0)]) rfl kq_) ?_
    show Go p e below s _ _ _ (T1.setTop (mkF m 31 #[.val (.ref a), .val (.int (0 : Int32)), .val (.int x0)] []))
    refine Go.st (fun _ kq_ => XS.iloadN X1.here hx rfl (hb hby de0_31) rfl kq_) ?_
    show Go p e below s _ _ _ (T1.setTop (mkF m 32 #[.val (.ref a), .val (.int (0 : Int32)), .val (.int x0)] [(.int x0)]))
    exact Go.ret X1 hlk (some (.int x0)) (fun h => by rw [Bd.returns] at h; cases h) (by rw [e1]; exact ⟨rfl, N0, rfl⟩) (by decide) (by decide) (fun fs hr => retI X1 hx Bd.returns (hb hby de0_32) hr)
  obtain ⟨s2, o2, st2, r2⟩ := G
  exact ⟨s2, o2, castTop (efe0 m a (0 : Int32)) st2, r2⟩
theorem de1_0 : decode prog_53_method_3_code 0 = .ok (.iload_n 1, 1) := by decide +kernel
theorem de1_1 : decode prog_53_method_3_code 1 = .ok (.iconst (-1), 1) := by decide +kernel
theorem de1_2 : decode prog_53_method_3_code 2 = .ok (.if_icmp .ne 11, 3) := by decide +kernel
theorem de1_13 : decode prog_53_method_3_code 13 = .ok (.iload_n 1, 1) := by decide +kernel
theorem de1_14 : decode prog_53_method_3_code 14 = .ok (.bipush (-2), 2) := by decide +kernel
theorem de1_16 : decode prog_53_method_3_code 16 = .ok (.if_icmp .ne 8, 3) := by decide +kernel
theorem de1_24 : decode prog_53_method_3_code 24 = .ok (.aload_n 0, 1) := by decide +kernel
theorem de1_25 : decode prog_53_method_3_code 25 = .ok (.getfield 7, 3) := by decide +kernel
theorem de1_28 : decode prog_53_method_3_code 28 = .ok (.iload_n 1, 1) := by decide +kernel
theorem de1_29 : decode prog_53_method_3_code 29 = .ok (.iaload, 1) := by decide +kernel
theorem de1_30 : decode prog_53_method_3_code 30 = .ok (.istore_n 2, 1) := by decide +kernel
theorem de1_31 : decode prog_53_method_3_code 31 = .ok (.iload_n 2, 1) := by decide +kernel
theorem de1_32 : decode prog_53_method_3_code 32 = .ok (.ireturn, 1) := by decide +kernel
theorem pne1 : plainName "com/example/element_ranker/elementranker/TagStatistics" = true := by first | (simp [plainName, overriddenIn]; done) | decide +kernel
theorem efe1 (m : MethodId) (x0 : Addr) (x1 : Int32) : entryFrame m #[(.ref x0), (.int x1)] 3 = mkF m 0 #[.val (.ref x0), .val (.int x1), .unset] [] := by first | (simp [entryFrame, mkF, argsToLocals, Value.category, maxLocals]; done) | rfl
def Qe1 (Z : State) (a : Addr) (b : Addr) (kb : ClassId) (d : Addr) (kd : ClassId) (x0 : Int32) (x1 : Int32) (x2 : Int32) (y0 : Int64) (y1 : Int64) (y2 : Int64) (cn : Int32) (tl : Int64) (h0 : Heap) (n0 : Nat) (v : Option Value) (h : Heap) (L : List Loc) : Prop := v = some (.int x1) ∧ Fr n0 L ∧ h = h0
set_option maxRecDepth 65536 in
set_option maxHeartbeats 40000000 in
theorem rme1 (l : Launch) (Z : State) (a0 : Array Value) (hw : ∀ d ∈ tables_1, d.before a0 Z = true) (ws : List Jvm.Cond) (a : Addr) (b : Addr) (kb : ClassId) (d : Addr) (kd : ClassId) (x0 : Int32) (x1 : Int32) (x2 : Int32) (y0 : Int64) (y1 : Int64) (y2 : Int64) (cn : Int32) (tl : Int64) (h0 : Heap) (n0 : Nat) (O0 : Old Z n0 h0) (E_a : Exa Z h0 a "com/example/element_ranker/elementranker/TagStatistics") (F_a_elementCounts : Fld Z h0 a "com/example/element_ranker/elementranker/TagStatistics" "elementCounts" "[I" (.ref b)) (F_a_totalLengths : Fld Z h0 a "com/example/element_ranker/elementranker/TagStatistics" "totalLengths" "[J" (.ref d)) (F_a_elementCount : Fld Z h0 a "com/example/element_ranker/elementranker/TagStatistics" "elementCount" "I" (.int cn)) (F_a_totalLength : Fld Z h0 a "com/example/element_ranker/elementranker/TagStatistics" "totalLength" "J" (.long tl)) (V_b : Arv Z h0 b kb .int (3 : Int32) [(.int x0), (.int x1), (.int x2)] (.int (0 : Int32))) (V_d : Arv Z h0 d kd .long (3 : Int32) [(.long y0), (.long y1), (.long y2)] (.long (0 : Int64))) :
    MetFree l (⟨"com/example/element_ranker/elementranker/TagStatistics", "elementCount", "(I)I"⟩ : MethodName) (head1 (Jvm.Cond.code (⟨"com/example/element_ranker/elementranker/TagStatistics", "elementCount", "(I)I"⟩ : MethodName) prog_53_method_3_code 3 (some .int) :: ws) ({ frames := 0, cells := 0, slots := 0, locals := 0 } : Room)) (fun A_ U_ => A_ = #[(.ref a), (.int (1 : Int32))] ∧ Z.Warmed39 U_.vm ∧ U_.heap = h0) (fun _ _ _ _ _ => True) (fun _ U o U' => ∃ v L, o = .returned v ∧ Qe1 Z a b kb d kd x0 x1 x2 y0 y1 y2 cn tl h0 n0 v U'.heap L ∧ FrameEnd U o U' L ({ frames := 0, cells := 0, slots := 0, locals := 0 } : Room).cells ({ frames := 0, cells := 0, slots := 0, locals := 0 } : Room).slots) := by
  refine MetFree.of_bodySF (plainFor_of_name pne1) hisR ?_
  intro p e s m args below meth cd s₁ Bd hml0 hP hK
  obtain ⟨rfl, hZ, hh⟩ := hP
  have hx := Bd.exec
  have hby := Bd.bytes
  have hlk : meth.locks = false := BodyLoose.notSynchronized Bd
  have hml : cd.maxLocals = 3 := hml0
  have hown : s.vm.findClass "com/example/element_ranker/elementranker/TagStatistics" = some m.cls := findClass_of_methodNamed Bd.named
  have hnm := (name_of_methodNamed Bd.named Bd.method).1
  have X0 : Stand p l e ({ frames := 0, cells := 0, slots := 0, locals := 0 } : Room) s m #[(.ref a), (.int (1 : Int32))] below meth cd s₁ [] 0 0 := Stand.of_body Bd
  have e0 : s₁.heap = h0 := by rw [← hh, Bd.state]; rfl
  have N0 := Fr.nil n0
  have G : Go p e below s 0 0 (Qe1 Z a b kb d kd x0 x1 x2 y0 y1 y2 cn tl h0 n0) (s₁.setTop (mkF m 0 #[.val (.ref a), .val (.int (1 : Int32)), .unset] [])) := by
    show Go p e below s _ _ _ (s₁.setTop (mkF m 0 #[.val (.ref a), .val (.int (1 : Int32)), .unset] []))
    refine Go.st (fun _ kq_ => XS.iloadN X0.here hx rfl (hb hby de1_0) rfl kq_) ?_
    show Go p e below s _ _ _ (s₁.setTop (mkF m 1 #[.val (.ref a), .val (.int (1 : Int32)), .unset] [(.int (1 : Int32))]))
    refine Go.st (fun _ kq_ => XS.iconst X0.here hx rfl (hb hby de1_1) kq_) ?_
    show Go p e below s _ _ _ (s₁.setTop (mkF m 2 #[.val (.ref a), .val (.int (1 : Int32)), .unset] [(.int (-1 : Int32)), (.int (1 : Int32))]))
    refine Go.st (fun _ kq_ => XS.icmpYes X0.here hx rfl (pc0 := 2) (pc' := 13) rfl (hb hby de1_2) rfl (by decide) (by decide) (by decide) kq_) ?_
    show Go p e below s _ _ _ (s₁.setTop (mkF m 13 #[.val (.ref a), .val (.int (1 : Int32)), .unset] []))
    refine Go.st (fun _ kq_ => XS.iloadN X0.here hx rfl (hb hby de1_13) rfl kq_) ?_
    show Go p e below s _ _ _ (s₁.setTop (mkF m 14 #[.val (.ref a), .val (.int (1 : Int32)), .unset] [(.int (1 : Int32))]))
    refine Go.st (fun _ kq_ => XS.bipush X0.here hx rfl (hb hby de1_14) kq_) ?_
    show Go p e below s _ _ _ (s₁.setTop (mkF m 16 #[.val (.ref a), .val (.int (1 : Int32)), .unset] [(.int (-2 : Int32)), (.int (1 : Int32))]))
    refine Go.st (fun _ kq_ => XS.icmpYes X0.here hx rfl (pc0 := 16) (pc' := 24) rfl (hb hby de1_16) rfl (by decide) (by decide) (by decide) kq_) ?_
    show Go p e below s _ _ _ (s₁.setTop (mkF m 24 #[.val (.ref a), .val (.int (1 : Int32)), .unset] []))
    refine Go.st (fun _ kq_ => XS.aloadN X0.here hx rfl (hb hby de1_24) rfl rfl kq_) ?_
    show Go p e below s _ _ _ (s₁.setTop (mkF m 25 #[.val (.ref a), .val (.int (1 : Int32)), .unset] [(.ref a)]))
    obtain ⟨T1, X1, e1, st1⟩ := getF X0 hx hZ hown (host := "") (Or.inl (own_w hw 11 rfl)) Via.refl e0 F_a_elementCounts (g := (mkF m 25 #[.val (.ref a), .val (.int (1 : Int32)), .unset] [(.ref a)])) rfl rfl (hb hby de1_25)
    refine Go.st st1 ?_
    show Go p e below s _ _ _ (T1.setTop (mkF m 28 #[.val (.ref a), .val (.int (1 : Int32)), .unset] [(.ref b)]))
    refine Go.st (fun _ kq_ => XS.iloadN X1.here hx rfl (hb hby de1_28) rfl kq_) ?_
    show Go p e below s _ _ _ (T1.setTop (mkF m 29 #[.val (.ref a), .val (.int (1 : Int32)), .unset] [(.int (1 : Int32)), (.ref b)]))
    refine Go.st (fun _ kq_ => own_iaload X1 hx hZ e1 V_b (by decide) (by decide) (v := (.int x1)) rfl (g := (mkF m 29 #[.val (.ref a), .val (.int (1 : Int32)), .unset] [(.int (1 : Int32)), (.ref b)])) rfl rfl (hb hby de1_29) _ kq_) ?_
    show Go p e below s _ _ _ (T1.setTop (mkF m 30 #[.val (.ref a), .val (.int (1 : Int32)), .unset] [(.int x1)]))
    refine Go.st (fun _ kq_ => XS.istoreN X1.here hx rfl (hb hby de1_30) rfl (l' := #[.val (.ref a), .val (.int (1 : Int32)), .val (.int x1)]) rfl kq_) ?_
    show Go p e below s _ _ _ (T1.setTop (mkF m 31 #[.val (.ref a), .val (.int (1 : Int32)), .val (.int x1)] []))
    refine Go.st (fun _ kq_ => XS.iloadN X1.here hx rfl (hb hby de1_31) rfl kq_) ?_
    show Go p e below s _ _ _ (T1.setTop (mkF m 32 #[.val (.ref a), .val (.int (1 : Int32)), .val (.int x1)] [(.int x1)]))
    exact Go.ret X1 hlk (some (.int x1)) (fun h => by rw [Bd.returns] at h; cases h) (by rw [e1]; exact ⟨rfl, N0, rfl⟩) (by decide) (by decide) (fun fs hr => retI X1 hx Bd.returns (hb hby de1_32) hr)
  obtain ⟨s2, o2, st2, r2⟩ := G
  exact ⟨s2, o2, castTop (efe1 m a (1 : Int32)) st2, r2⟩
theorem de2_0 : decode prog_53_method_3_code 0 = .ok (.iload_n 1, 1) := by decide +kernel
theorem de2_1 : decode prog_53_method_3_code 1 = .ok (.iconst (-1), 1) := by decide +kernel
theorem de2_2 : decode prog_53_method_3_code 2 = .ok (.if_icmp .ne 11, 3) := by decide +kernel
theorem de2_13 : decode prog_53_method_3_code 13 = .ok (.iload_n 1, 1) := by decide +kernel
theorem de2_14 : decode prog_53_method_3_code 14 = .ok (.bipush (-2), 2) := by decide +kernel
theorem de2_16 : decode prog_53_method_3_code 16 = .ok (.if_icmp .ne 8, 3) := by decide +kernel
theorem de2_24 : decode prog_53_method_3_code 24 = .ok (.aload_n 0, 1) := by decide +kernel
theorem de2_25 : decode prog_53_method_3_code 25 = .ok (.getfield 7, 3) := by decide +kernel
theorem de2_28 : decode prog_53_method_3_code 28 = .ok (.iload_n 1, 1) := by decide +kernel
theorem de2_29 : decode prog_53_method_3_code 29 = .ok (.iaload, 1) := by decide +kernel
theorem de2_30 : decode prog_53_method_3_code 30 = .ok (.istore_n 2, 1) := by decide +kernel
theorem de2_31 : decode prog_53_method_3_code 31 = .ok (.iload_n 2, 1) := by decide +kernel
theorem de2_32 : decode prog_53_method_3_code 32 = .ok (.ireturn, 1) := by decide +kernel
theorem pne2 : plainName "com/example/element_ranker/elementranker/TagStatistics" = true := by first | (simp [plainName, overriddenIn]; done) | decide +kernel
theorem efe2 (m : MethodId) (x0 : Addr) (x1 : Int32) : entryFrame m #[(.ref x0), (.int x1)] 3 = mkF m 0 #[.val (.ref x0), .val (.int x1), .unset] [] := by first | (simp [entryFrame, mkF, argsToLocals, Value.category, maxLocals]; done) | rfl
def Qe2 (Z : State) (a : Addr) (b : Addr) (kb : ClassId) (d : Addr) (kd : ClassId) (x0 : Int32) (x1 : Int32) (x2 : Int32) (y0 : Int64) (y1 : Int64) (y2 : Int64) (cn : Int32) (tl : Int64) (h0 : Heap) (n0 : Nat) (v : Option Value) (h : Heap) (L : List Loc) : Prop := v = some (.int x2) ∧ Fr n0 L ∧ h = h0
set_option maxRecDepth 65536 in
set_option maxHeartbeats 40000000 in
theorem rme2 (l : Launch) (Z : State) (a0 : Array Value) (hw : ∀ d ∈ tables_1, d.before a0 Z = true) (ws : List Jvm.Cond) (a : Addr) (b : Addr) (kb : ClassId) (d : Addr) (kd : ClassId) (x0 : Int32) (x1 : Int32) (x2 : Int32) (y0 : Int64) (y1 : Int64) (y2 : Int64) (cn : Int32) (tl : Int64) (h0 : Heap) (n0 : Nat) (O0 : Old Z n0 h0) (E_a : Exa Z h0 a "com/example/element_ranker/elementranker/TagStatistics") (F_a_elementCounts : Fld Z h0 a "com/example/element_ranker/elementranker/TagStatistics" "elementCounts" "[I" (.ref b)) (F_a_totalLengths : Fld Z h0 a "com/example/element_ranker/elementranker/TagStatistics" "totalLengths" "[J" (.ref d)) (F_a_elementCount : Fld Z h0 a "com/example/element_ranker/elementranker/TagStatistics" "elementCount" "I" (.int cn)) (F_a_totalLength : Fld Z h0 a "com/example/element_ranker/elementranker/TagStatistics" "totalLength" "J" (.long tl)) (V_b : Arv Z h0 b kb .int (3 : Int32) [(.int x0), (.int x1), (.int x2)] (.int (0 : Int32))) (V_d : Arv Z h0 d kd .long (3 : Int32) [(.long y0), (.long y1), (.long y2)] (.long (0 : Int64))) :
    MetFree l (⟨"com/example/element_ranker/elementranker/TagStatistics", "elementCount", "(I)I"⟩ : MethodName) (head1 (Jvm.Cond.code (⟨"com/example/element_ranker/elementranker/TagStatistics", "elementCount", "(I)I"⟩ : MethodName) prog_53_method_3_code 3 (some .int) :: ws) ({ frames := 0, cells := 0, slots := 0, locals := 0 } : Room)) (fun A_ U_ => A_ = #[(.ref a), (.int (2 : Int32))] ∧ Z.Warmed39 U_.vm ∧ U_.heap = h0) (fun _ _ _ _ _ => True) (fun _ U o U' => ∃ v L, o = .returned v ∧ Qe2 Z a b kb d kd x0 x1 x2 y0 y1 y2 cn tl h0 n0 v U'.heap L ∧ FrameEnd U o U' L ({ frames := 0, cells := 0, slots := 0, locals := 0 } : Room).cells ({ frames := 0, cells := 0, slots := 0, locals := 0 } : Room).slots) := by
  refine MetFree.of_bodySF (plainFor_of_name pne2) hisR ?_
  intro p e s m args below meth cd s₁ Bd hml0 hP hK
  obtain ⟨rfl, hZ, hh⟩ := hP
  have hx := Bd.exec
  have hby := Bd.bytes
  have hlk : meth.locks = false := BodyLoose.notSynchronized Bd
  have hml : cd.maxLocals = 3 := hml0
  have hown : s.vm.findClass "com/example/element_ranker/elementranker/TagStatistics" = some m.cls := findClass_of_methodNamed Bd.named
  have hnm := (name_of_methodNamed Bd.named Bd.method).1
  have X0 : Stand p l e ({ frames := 0, cells := 0, slots := 0, locals := 0 } : Room) s m #[(.ref a), (.int (2 : Int32))] below meth cd s₁ [] 0 0 := Stand.of_body Bd
  have e0 : s₁.heap = h0 := by rw [← hh, Bd.state]; rfl
  have N0 := Fr.nil n0
  have G : Go p e below s 0 0 (Qe2 Z a b kb d kd x0 x1 x2 y0 y1 y2 cn tl h0 n0) (s₁.setTop (mkF m 0 #[.val (.ref a), .val (.int (2 : Int32)), .unset] [])) := by
    show Go p e below s _ _ _ (s₁.setTop (mkF m 0 #[.val (.ref a), .val (.int (2 : Int32)), .unset] []))
    refine Go.st (fun _ kq_ => XS.iloadN X0.here hx rfl (hb hby de2_0) rfl kq_) ?_
    show Go p e below s _ _ _ (s₁.setTop (mkF m 1 #[.val (.ref a), .val (.int (2 : Int32)), .unset] [(.int (2 : Int32))]))
    refine Go.st (fun _ kq_ => XS.iconst X0.here hx rfl (hb hby de2_1) kq_) ?_
    show Go p e below s _ _ _ (s₁.setTop (mkF m 2 #[.val (.ref a), .val (.int (2 : Int32)), .unset] [(.int (-1 : Int32)), (.int (2 : Int32))]))
    refine Go.st (fun _ kq_ => XS.icmpYes X0.here hx rfl (pc0 := 2) (pc' := 13) rfl (hb hby de2_2) rfl (by decide) (by decide) (by decide) kq_) ?_
    show Go p e below s _ _ _ (s₁.setTop (mkF m 13 #[.val (.ref a), .val (.int (2 : Int32)), .unset] []))
    refine Go.st (fun _ kq_ => XS.iloadN X0.here hx rfl (hb hby de2_13) rfl kq_) ?_
    show Go p e below s _ _ _ (s₁.setTop (mkF m 14 #[.val (.ref a), .val (.int (2 : Int32)), .unset] [(.int (2 : Int32))]))
    refine Go.st (fun _ kq_ => XS.bipush X0.here hx rfl (hb hby de2_14) kq_) ?_
    show Go p e below s _ _ _ (s₁.setTop (mkF m 16 #[.val (.ref a), .val (.int (2 : Int32)), .unset] [(.int (-2 : Int32)), (.int (2 : Int32))]))
    refine Go.st (fun _ kq_ => XS.icmpYes X0.here hx rfl (pc0 := 16) (pc' := 24) rfl (hb hby de2_16) rfl (by decide) (by decide) (by decide) kq_) ?_
    show Go p e below s _ _ _ (s₁.setTop (mkF m 24 #[.val (.ref a), .val (.int (2 : Int32)), .unset] []))
    refine Go.st (fun _ kq_ => XS.aloadN X0.here hx rfl (hb hby de2_24) rfl rfl kq_) ?_
    show Go p e below s _ _ _ (s₁.setTop (mkF m 25 #[.val (.ref a), .val (.int (2 : Int32)), .unset] [(.ref a)]))
    obtain ⟨T1, X1, e1, st1⟩ := getF X0 hx hZ hown (host := "") (Or.inl (own_w hw 11 rfl)) Via.refl e0 F_a_elementCounts (g := (mkF m 25 #[.val (.ref a), .val (.int (2 : Int32)), .unset] [(.ref a)])) rfl rfl (hb hby de2_25)
    refine Go.st st1 ?_
    show Go p e below s _ _ _ (T1.setTop (mkF m 28 #[.val (.ref a), .val (.int (2 : Int32)), .unset] [(.ref b)]))
    refine Go.st (fun _ kq_ => XS.iloadN X1.here hx rfl (hb hby de2_28) rfl kq_) ?_
    show Go p e below s _ _ _ (T1.setTop (mkF m 29 #[.val (.ref a), .val (.int (2 : Int32)), .unset] [(.int (2 : Int32)), (.ref b)]))
    refine Go.st (fun _ kq_ => own_iaload X1 hx hZ e1 V_b (by decide) (by decide) (v := (.int x2)) rfl (g := (mkF m 29 #[.val (.ref a), .val (.int (2 : Int32)), .unset] [(.int (2 : Int32)), (.ref b)])) rfl rfl (hb hby de2_29) _ kq_) ?_
    show Go p e below s _ _ _ (T1.setTop (mkF m 30 #[.val (.ref a), .val (.int (2 : Int32)), .unset] [(.int x2)]))
    refine Go.st (fun _ kq_ => XS.istoreN X1.here hx rfl (hb hby de2_30) rfl (l' := #[.val (.ref a), .val (.int (2 : Int32)), .val (.int x2)]) rfl kq_) ?_
    show Go p e below s _ _ _ (T1.setTop (mkF m 31 #[.val (.ref a), .val (.int (2 : Int32)), .val (.int x2)] []))
    refine Go.st (fun _ kq_ => XS.iloadN X1.here hx rfl (hb hby de2_31) rfl kq_) ?_
    show Go p e below s _ _ _ (T1.setTop (mkF m 32 #[.val (.ref a), .val (.int (2 : Int32)), .val (.int x2)] [(.int x2)]))
    exact Go.ret X1 hlk (some (.int x2)) (fun h => by rw [Bd.returns] at h; cases h) (by rw [e1]; exact ⟨rfl, N0, rfl⟩) (by decide) (by decide) (fun fs hr => retI X1 hx Bd.returns (hb hby de2_32) hr)
  obtain ⟨s2, o2, st2, r2⟩ := G
  exact ⟨s2, o2, castTop (efe2 m a (2 : Int32)) st2, r2⟩
theorem dx_0 : decode method_2_code 0 = .ok (.iload 4, 2) := by decide +kernel
theorem dx_2 : decode method_2_code 2 = .ok (.iconst (-1), 1) := by decide +kernel
theorem dx_3 : decode method_2_code 3 = .ok (.if_icmp .ne 5, 3) := by decide +kernel
theorem dx_6 : decode method_2_code 6 = .ok (.iload_n 0, 1) := by decide +kernel
theorem dx_7 : decode method_2_code 7 = .ok (.ireturn, 1) := by decide +kernel
theorem dx_8 : decode method_2_code 8 = .ok (.iload 4, 2) := by decide +kernel
theorem dx_10 : decode method_2_code 10 = .ok (.bipush (-2), 2) := by decide +kernel
theorem dx_12 : decode method_2_code 12 = .ok (.if_icmp .ne 5, 3) := by decide +kernel
theorem dx_15 : decode method_2_code 15 = .ok (.iconst 0, 1) := by decide +kernel
theorem dx_16 : decode method_2_code 16 = .ok (.ireturn, 1) := by decide +kernel
theorem dx_17 : decode method_2_code 17 = .ok (.iconst 0, 1) := by decide +kernel
theorem dx_18 : decode method_2_code 18 = .ok (.istore 5, 2) := by decide +kernel
theorem dx_20 : decode method_2_code 20 = .ok (.iload_n 0, 1) := by decide +kernel
theorem dx_21 : decode method_2_code 21 = .ok (.iconst 1, 1) := by decide +kernel
theorem dx_22 : decode method_2_code 22 = .ok (.if_icmp .lt 12, 3) := by decide +kernel
theorem dx_25 : decode method_2_code 25 = .ok (.iload_n 1, 1) := by decide +kernel
theorem dx_26 : decode method_2_code 26 = .ok (.iload 4, 2) := by decide +kernel
theorem dx_28 : decode method_2_code 28 = .ok (.if_icmp .ne 6, 3) := by decide +kernel
theorem dx_31 : decode method_2_code 31 = .ok (.iinc 5 1, 3) := by decide +kernel
theorem dx_34 : decode method_2_code 34 = .ok (.iload_n 0, 1) := by decide +kernel
theorem dx_35 : decode method_2_code 35 = .ok (.iconst 2, 1) := by decide +kernel
theorem dx_36 : decode method_2_code 36 = .ok (.if_icmp .lt 12, 3) := by decide +kernel
theorem dx_39 : decode method_2_code 39 = .ok (.iload_n 2, 1) := by decide +kernel
theorem dx_40 : decode method_2_code 40 = .ok (.iload 4, 2) := by decide +kernel
theorem dx_42 : decode method_2_code 42 = .ok (.if_icmp .ne 6, 3) := by decide +kernel
theorem dx_45 : decode method_2_code 45 = .ok (.iinc 5 1, 3) := by decide +kernel
theorem dx_48 : decode method_2_code 48 = .ok (.iload_n 0, 1) := by decide +kernel
theorem dx_49 : decode method_2_code 49 = .ok (.iconst 3, 1) := by decide +kernel
theorem dx_50 : decode method_2_code 50 = .ok (.if_icmp .lt 12, 3) := by decide +kernel
theorem dx_53 : decode method_2_code 53 = .ok (.iload_n 3, 1) := by decide +kernel
theorem dx_54 : decode method_2_code 54 = .ok (.iload 4, 2) := by decide +kernel
theorem dx_56 : decode method_2_code 56 = .ok (.if_icmp .ne 6, 3) := by decide +kernel
theorem dx_59 : decode method_2_code 59 = .ok (.iinc 5 1, 3) := by decide +kernel
theorem dx_62 : decode method_2_code 62 = .ok (.iload 5, 2) := by decide +kernel
theorem dx_64 : decode method_2_code 64 = .ok (.ireturn, 1) := by decide +kernel
theorem pnx : plainName "com/example/element_ranker/elementranker/TagStatisticsElementCountPinLaw" = true := by first | (simp [plainName, overriddenIn]; done) | decide +kernel
theorem efx (m : MethodId) (x0 : Int32) (x1 : Int32) (x2 : Int32) (x3 : Int32) (x4 : Int32) : entryFrame m #[(.int x0), (.int x1), (.int x2), (.int x3), (.int x4)] 6 = mkF m 0 #[.val (.int x0), .val (.int x1), .val (.int x2), .val (.int x3), .val (.int x4), .unset] [] := by first | (simp [entryFrame, mkF, argsToLocals, Value.category, maxLocals]; done) | rfl
def fEx (p0 : Int32) (p1 : Int32) (p2 : Int32) (p3 : Int32) (p4 : Int32) : Int32 := (if p4 = (-1 : Int32) then p0 else (if p4 = (-2 : Int32) then (0 : Int32) else (if p0 < (1 : Int32) then (if p0 < (2 : Int32) then (if p0 < (3 : Int32) then (0 : Int32) else (if p3 = p4 then (1 : Int32) else (0 : Int32))) else (if p2 = p4 then (if p0 < (3 : Int32) then (1 : Int32) else (if p3 = p4 then (2 : Int32) else (1 : Int32))) else (if p0 < (3 : Int32) then (0 : Int32) else (if p3 = p4 then (1 : Int32) else (0 : Int32))))) else (if p1 = p4 then (if p0 < (2 : Int32) then (if p0 < (3 : Int32) then (1 : Int32) else (if p3 = p4 then (2 : Int32) else (1 : Int32))) else (if p2 = p4 then (if p0 < (3 : Int32) then (2 : Int32) else (if p3 = p4 then (3 : Int32) else (2 : Int32))) else (if p0 < (3 : Int32) then (1 : Int32) else (if p3 = p4 then (2 : Int32) else (1 : Int32))))) else (if p0 < (2 : Int32) then (if p0 < (3 : Int32) then (0 : Int32) else (if p3 = p4 then (1 : Int32) else (0 : Int32))) else (if p2 = p4 then (if p0 < (3 : Int32) then (1 : Int32) else (if p3 = p4 then (2 : Int32) else (1 : Int32))) else (if p0 < (3 : Int32) then (0 : Int32) else (if p3 = p4 then (1 : Int32) else (0 : Int32)))))))))
def Qx (Z : State) (p0 : Int32) (p1 : Int32) (p2 : Int32) (p3 : Int32) (p4 : Int32) (h0 : Heap) (n0 : Nat) (v : Option Value) (h : Heap) (L : List Loc) : Prop := v = some (.int (fEx p0 p1 p2 p3 p4)) ∧ Fr n0 L ∧ h = h0
set_option maxRecDepth 65536 in
set_option maxHeartbeats 40000000 in
theorem rmx (l : Launch) (Z : State) (a0 : Array Value) (hw : ∀ d ∈ tables_1, d.before a0 Z = true) (ws : List Jvm.Cond) (p0 : Int32) (p1 : Int32) (p2 : Int32) (p3 : Int32) (p4 : Int32) (h0 : Heap) (n0 : Nat) (O0 : Old Z n0 h0)  :
    MetFree l (⟨"com/example/element_ranker/elementranker/TagStatisticsElementCountPinLaw", "expected", "(IIIII)I"⟩ : MethodName) (head1 (Jvm.Cond.code (⟨"com/example/element_ranker/elementranker/TagStatisticsElementCountPinLaw", "expected", "(IIIII)I"⟩ : MethodName) method_2_code 6 (some .int) :: ws) ({ frames := 0, cells := 0, slots := 0, locals := 0 } : Room)) (fun A_ U_ => A_ = #[(.int p0), (.int p1), (.int p2), (.int p3), (.int p4)] ∧ Z.Warmed39 U_.vm ∧ U_.heap = h0) (fun _ _ _ _ _ => True) (fun _ U o U' => ∃ v L, o = .returned v ∧ Qx Z p0 p1 p2 p3 p4 h0 n0 v U'.heap L ∧ FrameEnd U o U' L ({ frames := 0, cells := 0, slots := 0, locals := 0 } : Room).cells ({ frames := 0, cells := 0, slots := 0, locals := 0 } : Room).slots) := by
  refine MetFree.of_bodySF (plainFor_of_name pnx) hisR ?_
  intro p e s m args below meth cd s₁ Bd hml0 hP hK
  obtain ⟨rfl, hZ, hh⟩ := hP
  have hx := Bd.exec
  have hby := Bd.bytes
  have hlk : meth.locks = false := BodyLoose.notSynchronized Bd
  have hml : cd.maxLocals = 6 := hml0
  have hown : s.vm.findClass "com/example/element_ranker/elementranker/TagStatisticsElementCountPinLaw" = some m.cls := findClass_of_methodNamed Bd.named
  have hnm := (name_of_methodNamed Bd.named Bd.method).1
  have X0 : Stand p l e ({ frames := 0, cells := 0, slots := 0, locals := 0 } : Room) s m #[(.int p0), (.int p1), (.int p2), (.int p3), (.int p4)] below meth cd s₁ [] 0 0 := Stand.of_body Bd
  have e0 : s₁.heap = h0 := by rw [← hh, Bd.state]; rfl
  have N0 := Fr.nil n0
  have G : Go p e below s 0 0 (Qx Z p0 p1 p2 p3 p4 h0 n0) (s₁.setTop (mkF m 0 #[.val (.int p0), .val (.int p1), .val (.int p2), .val (.int p3), .val (.int p4), .unset] [])) := by
    show Go p e below s _ _ _ (s₁.setTop (mkF m 0 #[.val (.int p0), .val (.int p1), .val (.int p2), .val (.int p3), .val (.int p4), .unset] []))
    refine Go.st (fun _ kq_ => XS.iload X0.here hx rfl (hb hby dx_0) rfl kq_) ?_
    show Go p e below s _ _ _ (s₁.setTop (mkF m 2 #[.val (.int p0), .val (.int p1), .val (.int p2), .val (.int p3), .val (.int p4), .unset] [(.int p4)]))
    refine Go.st (fun _ kq_ => XS.iconst X0.here hx rfl (hb hby dx_2) kq_) ?_
    show Go p e below s _ _ _ (s₁.setTop (mkF m 3 #[.val (.int p0), .val (.int p1), .val (.int p2), .val (.int p3), .val (.int p4), .unset] [(.int (-1 : Int32)), (.int p4)]))
    by_cases c3_1 : p4 = (-1 : Int32)
    · refine Go.st (fun _ kq_ => XS.icmpNo X0.here hx rfl (hb hby dx_3) rfl (XT.ii_ne_f c3_1) kq_) ?_
      show Go p e below s _ _ _ (s₁.setTop (mkF m 6 #[.val (.int p0), .val (.int p1), .val (.int p2), .val (.int p3), .val (.int p4), .unset] []))
      refine Go.st (fun _ kq_ => XS.iloadN X0.here hx rfl (hb hby dx_6) rfl kq_) ?_
      show Go p e below s _ _ _ (s₁.setTop (mkF m 7 #[.val (.int p0), .val (.int p1), .val (.int p2), .val (.int p3), .val (.int p4), .unset] [(.int p0)]))
      exact Go.ret X0 hlk (some (.int p0)) (fun h => by rw [Bd.returns] at h; cases h) (by rw [e0]; exact ⟨own_res (z' := p0) (by unfold fEx; rw [if_pos c3_1]) rfl, N0, rfl⟩) (by decide) (by decide) (fun fs hr => retI X0 hx Bd.returns (hb hby dx_7) hr)
    · refine Go.st (fun _ kq_ => XS.icmpYes X0.here hx rfl (pc0 := 3) (pc' := 8) rfl (hb hby dx_3) rfl (XT.ii_ne_t c3_1) (by decide) (by decide) kq_) ?_
      show Go p e below s _ _ _ (s₁.setTop (mkF m 8 #[.val (.int p0), .val (.int p1), .val (.int p2), .val (.int p3), .val (.int p4), .unset] []))
      refine Go.st (fun _ kq_ => XS.iload X0.here hx rfl (hb hby dx_8) rfl kq_) ?_
      show Go p e below s _ _ _ (s₁.setTop (mkF m 10 #[.val (.int p0), .val (.int p1), .val (.int p2), .val (.int p3), .val (.int p4), .unset] [(.int p4)]))
      refine Go.st (fun _ kq_ => XS.bipush X0.here hx rfl (hb hby dx_10) kq_) ?_
      show Go p e below s _ _ _ (s₁.setTop (mkF m 12 #[.val (.int p0), .val (.int p1), .val (.int p2), .val (.int p3), .val (.int p4), .unset] [(.int (-2 : Int32)), (.int p4)]))
      by_cases c12_2 : p4 = (-2 : Int32)
      · refine Go.st (fun _ kq_ => XS.icmpNo X0.here hx rfl (hb hby dx_12) rfl (XT.ii_ne_f c12_2) kq_) ?_
        show Go p e below s _ _ _ (s₁.setTop (mkF m 15 #[.val (.int p0), .val (.int p1), .val (.int p2), .val (.int p3), .val (.int p4), .unset] []))
        refine Go.st (fun _ kq_ => XS.iconst X0.here hx rfl (hb hby dx_15) kq_) ?_
        show Go p e below s _ _ _ (s₁.setTop (mkF m 16 #[.val (.int p0), .val (.int p1), .val (.int p2), .val (.int p3), .val (.int p4), .unset] [(.int (0 : Int32))]))
        exact Go.ret X0 hlk (some (.int (0 : Int32))) (fun h => by rw [Bd.returns] at h; cases h) (by rw [e0]; exact ⟨own_res (z' := (0 : Int32)) (by unfold fEx; rw [if_neg c3_1, if_pos c12_2]) rfl, N0, rfl⟩) (by decide) (by decide) (fun fs hr => retI X0 hx Bd.returns (hb hby dx_16) hr)
      · refine Go.st (fun _ kq_ => XS.icmpYes X0.here hx rfl (pc0 := 12) (pc' := 17) rfl (hb hby dx_12) rfl (XT.ii_ne_t c12_2) (by decide) (by decide) kq_) ?_
        show Go p e below s _ _ _ (s₁.setTop (mkF m 17 #[.val (.int p0), .val (.int p1), .val (.int p2), .val (.int p3), .val (.int p4), .unset] []))
        refine Go.st (fun _ kq_ => XS.iconst X0.here hx rfl (hb hby dx_17) kq_) ?_
        show Go p e below s _ _ _ (s₁.setTop (mkF m 18 #[.val (.int p0), .val (.int p1), .val (.int p2), .val (.int p3), .val (.int p4), .unset] [(.int (0 : Int32))]))
        refine Go.st (fun _ kq_ => XS.istore X0.here hx rfl (hb hby dx_18) rfl (l' := #[.val (.int p0), .val (.int p1), .val (.int p2), .val (.int p3), .val (.int p4), .val (.int (0 : Int32))]) rfl kq_) ?_
        show Go p e below s _ _ _ (s₁.setTop (mkF m 20 #[.val (.int p0), .val (.int p1), .val (.int p2), .val (.int p3), .val (.int p4), .val (.int (0 : Int32))] []))
        refine Go.st (fun _ kq_ => XS.iloadN X0.here hx rfl (hb hby dx_20) rfl kq_) ?_
        show Go p e below s _ _ _ (s₁.setTop (mkF m 21 #[.val (.int p0), .val (.int p1), .val (.int p2), .val (.int p3), .val (.int p4), .val (.int (0 : Int32))] [(.int p0)]))
        refine Go.st (fun _ kq_ => XS.iconst X0.here hx rfl (hb hby dx_21) kq_) ?_
        show Go p e below s _ _ _ (s₁.setTop (mkF m 22 #[.val (.int p0), .val (.int p1), .val (.int p2), .val (.int p3), .val (.int p4), .val (.int (0 : Int32))] [(.int (1 : Int32)), (.int p0)]))
        by_cases c22_3 : p0 < (1 : Int32)
        · refine Go.st (fun _ kq_ => XS.icmpYes X0.here hx rfl (pc0 := 22) (pc' := 34) rfl (hb hby dx_22) rfl (XT.ii_lt_t c22_3) (by decide) (by decide) kq_) ?_
          show Go p e below s _ _ _ (s₁.setTop (mkF m 34 #[.val (.int p0), .val (.int p1), .val (.int p2), .val (.int p3), .val (.int p4), .val (.int (0 : Int32))] []))
          refine Go.st (fun _ kq_ => XS.iloadN X0.here hx rfl (hb hby dx_34) rfl kq_) ?_
          show Go p e below s _ _ _ (s₁.setTop (mkF m 35 #[.val (.int p0), .val (.int p1), .val (.int p2), .val (.int p3), .val (.int p4), .val (.int (0 : Int32))] [(.int p0)]))
          refine Go.st (fun _ kq_ => XS.iconst X0.here hx rfl (hb hby dx_35) kq_) ?_
          show Go p e below s _ _ _ (s₁.setTop (mkF m 36 #[.val (.int p0), .val (.int p1), .val (.int p2), .val (.int p3), .val (.int p4), .val (.int (0 : Int32))] [(.int (2 : Int32)), (.int p0)]))
          by_cases c36_4 : p0 < (2 : Int32)
          · refine Go.st (fun _ kq_ => XS.icmpYes X0.here hx rfl (pc0 := 36) (pc' := 48) rfl (hb hby dx_36) rfl (XT.ii_lt_t c36_4) (by decide) (by decide) kq_) ?_
            show Go p e below s _ _ _ (s₁.setTop (mkF m 48 #[.val (.int p0), .val (.int p1), .val (.int p2), .val (.int p3), .val (.int p4), .val (.int (0 : Int32))] []))
            refine Go.st (fun _ kq_ => XS.iloadN X0.here hx rfl (hb hby dx_48) rfl kq_) ?_
            show Go p e below s _ _ _ (s₁.setTop (mkF m 49 #[.val (.int p0), .val (.int p1), .val (.int p2), .val (.int p3), .val (.int p4), .val (.int (0 : Int32))] [(.int p0)]))
            refine Go.st (fun _ kq_ => XS.iconst X0.here hx rfl (hb hby dx_49) kq_) ?_
            show Go p e below s _ _ _ (s₁.setTop (mkF m 50 #[.val (.int p0), .val (.int p1), .val (.int p2), .val (.int p3), .val (.int p4), .val (.int (0 : Int32))] [(.int (3 : Int32)), (.int p0)]))
            by_cases c50_5 : p0 < (3 : Int32)
            · refine Go.st (fun _ kq_ => XS.icmpYes X0.here hx rfl (pc0 := 50) (pc' := 62) rfl (hb hby dx_50) rfl (XT.ii_lt_t c50_5) (by decide) (by decide) kq_) ?_
              show Go p e below s _ _ _ (s₁.setTop (mkF m 62 #[.val (.int p0), .val (.int p1), .val (.int p2), .val (.int p3), .val (.int p4), .val (.int (0 : Int32))] []))
              refine Go.st (fun _ kq_ => XS.iload X0.here hx rfl (hb hby dx_62) rfl kq_) ?_
              show Go p e below s _ _ _ (s₁.setTop (mkF m 64 #[.val (.int p0), .val (.int p1), .val (.int p2), .val (.int p3), .val (.int p4), .val (.int (0 : Int32))] [(.int (0 : Int32))]))
              exact Go.ret X0 hlk (some (.int (0 : Int32))) (fun h => by rw [Bd.returns] at h; cases h) (by rw [e0]; exact ⟨own_res (z' := (0 : Int32)) (by unfold fEx; rw [if_neg c3_1, if_neg c12_2, if_pos c22_3, if_pos c36_4, if_pos c50_5]) rfl, N0, rfl⟩) (by decide) (by decide) (fun fs hr => retI X0 hx Bd.returns (hb hby dx_64) hr)
            · refine Go.st (fun _ kq_ => XS.icmpNo X0.here hx rfl (hb hby dx_50) rfl (XT.ii_lt_f c50_5) kq_) ?_
              show Go p e below s _ _ _ (s₁.setTop (mkF m 53 #[.val (.int p0), .val (.int p1), .val (.int p2), .val (.int p3), .val (.int p4), .val (.int (0 : Int32))] []))
              refine Go.st (fun _ kq_ => XS.iloadN X0.here hx rfl (hb hby dx_53) rfl kq_) ?_
              show Go p e below s _ _ _ (s₁.setTop (mkF m 54 #[.val (.int p0), .val (.int p1), .val (.int p2), .val (.int p3), .val (.int p4), .val (.int (0 : Int32))] [(.int p3)]))
              refine Go.st (fun _ kq_ => XS.iload X0.here hx rfl (hb hby dx_54) rfl kq_) ?_
              show Go p e below s _ _ _ (s₁.setTop (mkF m 56 #[.val (.int p0), .val (.int p1), .val (.int p2), .val (.int p3), .val (.int p4), .val (.int (0 : Int32))] [(.int p4), (.int p3)]))
              by_cases c56_6 : p3 = p4
              · refine Go.st (fun _ kq_ => XS.icmpNo X0.here hx rfl (hb hby dx_56) rfl (XT.ii_ne_f c56_6) kq_) ?_
                show Go p e below s _ _ _ (s₁.setTop (mkF m 59 #[.val (.int p0), .val (.int p1), .val (.int p2), .val (.int p3), .val (.int p4), .val (.int (0 : Int32))] []))
                refine Go.st (fun _ kq_ => XT.iincV X0.here hx rfl (1 : Int32) (hb hby dx_59) rfl rfl (l' := #[.val (.int p0), .val (.int p1), .val (.int p2), .val (.int p3), .val (.int p4), .val (.int (1 : Int32))]) rfl kq_) ?_
                show Go p e below s _ _ _ (s₁.setTop (mkF m 62 #[.val (.int p0), .val (.int p1), .val (.int p2), .val (.int p3), .val (.int p4), .val (.int (1 : Int32))] []))
                refine Go.st (fun _ kq_ => XS.iload X0.here hx rfl (hb hby dx_62) rfl kq_) ?_
                show Go p e below s _ _ _ (s₁.setTop (mkF m 64 #[.val (.int p0), .val (.int p1), .val (.int p2), .val (.int p3), .val (.int p4), .val (.int (1 : Int32))] [(.int (1 : Int32))]))
                exact Go.ret X0 hlk (some (.int (1 : Int32))) (fun h => by rw [Bd.returns] at h; cases h) (by rw [e0]; exact ⟨own_res (z' := (1 : Int32)) (by unfold fEx; rw [if_neg c3_1, if_neg c12_2, if_pos c22_3, if_pos c36_4, if_neg c50_5, if_pos c56_6]) rfl, N0, rfl⟩) (by decide) (by decide) (fun fs hr => retI X0 hx Bd.returns (hb hby dx_64) hr)
              · refine Go.st (fun _ kq_ => XS.icmpYes X0.here hx rfl (pc0 := 56) (pc' := 62) rfl (hb hby dx_56) rfl (XT.ii_ne_t c56_6) (by decide) (by decide) kq_) ?_
                show Go p e below s _ _ _ (s₁.setTop (mkF m 62 #[.val (.int p0), .val (.int p1), .val (.int p2), .val (.int p3), .val (.int p4), .val (.int (0 : Int32))] []))
                refine Go.st (fun _ kq_ => XS.iload X0.here hx rfl (hb hby dx_62) rfl kq_) ?_
                show Go p e below s _ _ _ (s₁.setTop (mkF m 64 #[.val (.int p0), .val (.int p1), .val (.int p2), .val (.int p3), .val (.int p4), .val (.int (0 : Int32))] [(.int (0 : Int32))]))
                exact Go.ret X0 hlk (some (.int (0 : Int32))) (fun h => by rw [Bd.returns] at h; cases h) (by rw [e0]; exact ⟨own_res (z' := (0 : Int32)) (by unfold fEx; rw [if_neg c3_1, if_neg c12_2, if_pos c22_3, if_pos c36_4, if_neg c50_5, if_neg c56_6]) rfl, N0, rfl⟩) (by decide) (by decide) (fun fs hr => retI X0 hx Bd.returns (hb hby dx_64) hr)
          · refine Go.st (fun _ kq_ => XS.icmpNo X0.here hx rfl (hb hby dx_36) rfl (XT.ii_lt_f c36_4) kq_) ?_
            show Go p e below s _ _ _ (s₁.setTop (mkF m 39 #[.val (.int p0), .val (.int p1), .val (.int p2), .val (.int p3), .val (.int p4), .val (.int (0 : Int32))] []))
            refine Go.st (fun _ kq_ => XS.iloadN X0.here hx rfl (hb hby dx_39) rfl kq_) ?_
            show Go p e below s _ _ _ (s₁.setTop (mkF m 40 #[.val (.int p0), .val (.int p1), .val (.int p2), .val (.int p3), .val (.int p4), .val (.int (0 : Int32))] [(.int p2)]))
            refine Go.st (fun _ kq_ => XS.iload X0.here hx rfl (hb hby dx_40) rfl kq_) ?_
            show Go p e below s _ _ _ (s₁.setTop (mkF m 42 #[.val (.int p0), .val (.int p1), .val (.int p2), .val (.int p3), .val (.int p4), .val (.int (0 : Int32))] [(.int p4), (.int p2)]))
            by_cases c42_7 : p2 = p4
            · refine Go.st (fun _ kq_ => XS.icmpNo X0.here hx rfl (hb hby dx_42) rfl (XT.ii_ne_f c42_7) kq_) ?_
              show Go p e below s _ _ _ (s₁.setTop (mkF m 45 #[.val (.int p0), .val (.int p1), .val (.int p2), .val (.int p3), .val (.int p4), .val (.int (0 : Int32))] []))
              refine Go.st (fun _ kq_ => XT.iincV X0.here hx rfl (1 : Int32) (hb hby dx_45) rfl rfl (l' := #[.val (.int p0), .val (.int p1), .val (.int p2), .val (.int p3), .val (.int p4), .val (.int (1 : Int32))]) rfl kq_) ?_
              show Go p e below s _ _ _ (s₁.setTop (mkF m 48 #[.val (.int p0), .val (.int p1), .val (.int p2), .val (.int p3), .val (.int p4), .val (.int (1 : Int32))] []))
              refine Go.st (fun _ kq_ => XS.iloadN X0.here hx rfl (hb hby dx_48) rfl kq_) ?_
              show Go p e below s _ _ _ (s₁.setTop (mkF m 49 #[.val (.int p0), .val (.int p1), .val (.int p2), .val (.int p3), .val (.int p4), .val (.int (1 : Int32))] [(.int p0)]))
              refine Go.st (fun _ kq_ => XS.iconst X0.here hx rfl (hb hby dx_49) kq_) ?_
              show Go p e below s _ _ _ (s₁.setTop (mkF m 50 #[.val (.int p0), .val (.int p1), .val (.int p2), .val (.int p3), .val (.int p4), .val (.int (1 : Int32))] [(.int (3 : Int32)), (.int p0)]))
              by_cases c50_8 : p0 < (3 : Int32)
              · refine Go.st (fun _ kq_ => XS.icmpYes X0.here hx rfl (pc0 := 50) (pc' := 62) rfl (hb hby dx_50) rfl (XT.ii_lt_t c50_8) (by decide) (by decide) kq_) ?_
                show Go p e below s _ _ _ (s₁.setTop (mkF m 62 #[.val (.int p0), .val (.int p1), .val (.int p2), .val (.int p3), .val (.int p4), .val (.int (1 : Int32))] []))
                refine Go.st (fun _ kq_ => XS.iload X0.here hx rfl (hb hby dx_62) rfl kq_) ?_
                show Go p e below s _ _ _ (s₁.setTop (mkF m 64 #[.val (.int p0), .val (.int p1), .val (.int p2), .val (.int p3), .val (.int p4), .val (.int (1 : Int32))] [(.int (1 : Int32))]))
                exact Go.ret X0 hlk (some (.int (1 : Int32))) (fun h => by rw [Bd.returns] at h; cases h) (by rw [e0]; exact ⟨own_res (z' := (1 : Int32)) (by unfold fEx; rw [if_neg c3_1, if_neg c12_2, if_pos c22_3, if_neg c36_4, if_pos c42_7, if_pos c50_8]) rfl, N0, rfl⟩) (by decide) (by decide) (fun fs hr => retI X0 hx Bd.returns (hb hby dx_64) hr)
              · refine Go.st (fun _ kq_ => XS.icmpNo X0.here hx rfl (hb hby dx_50) rfl (XT.ii_lt_f c50_8) kq_) ?_
                show Go p e below s _ _ _ (s₁.setTop (mkF m 53 #[.val (.int p0), .val (.int p1), .val (.int p2), .val (.int p3), .val (.int p4), .val (.int (1 : Int32))] []))
                refine Go.st (fun _ kq_ => XS.iloadN X0.here hx rfl (hb hby dx_53) rfl kq_) ?_
                show Go p e below s _ _ _ (s₁.setTop (mkF m 54 #[.val (.int p0), .val (.int p1), .val (.int p2), .val (.int p3), .val (.int p4), .val (.int (1 : Int32))] [(.int p3)]))
                refine Go.st (fun _ kq_ => XS.iload X0.here hx rfl (hb hby dx_54) rfl kq_) ?_
                show Go p e below s _ _ _ (s₁.setTop (mkF m 56 #[.val (.int p0), .val (.int p1), .val (.int p2), .val (.int p3), .val (.int p4), .val (.int (1 : Int32))] [(.int p4), (.int p3)]))
                by_cases c56_9 : p3 = p4
                · refine Go.st (fun _ kq_ => XS.icmpNo X0.here hx rfl (hb hby dx_56) rfl (XT.ii_ne_f c56_9) kq_) ?_
                  show Go p e below s _ _ _ (s₁.setTop (mkF m 59 #[.val (.int p0), .val (.int p1), .val (.int p2), .val (.int p3), .val (.int p4), .val (.int (1 : Int32))] []))
                  refine Go.st (fun _ kq_ => XT.iincV X0.here hx rfl (1 : Int32) (hb hby dx_59) rfl rfl (l' := #[.val (.int p0), .val (.int p1), .val (.int p2), .val (.int p3), .val (.int p4), .val (.int (2 : Int32))]) rfl kq_) ?_
                  show Go p e below s _ _ _ (s₁.setTop (mkF m 62 #[.val (.int p0), .val (.int p1), .val (.int p2), .val (.int p3), .val (.int p4), .val (.int (2 : Int32))] []))
                  refine Go.st (fun _ kq_ => XS.iload X0.here hx rfl (hb hby dx_62) rfl kq_) ?_
                  show Go p e below s _ _ _ (s₁.setTop (mkF m 64 #[.val (.int p0), .val (.int p1), .val (.int p2), .val (.int p3), .val (.int p4), .val (.int (2 : Int32))] [(.int (2 : Int32))]))
                  exact Go.ret X0 hlk (some (.int (2 : Int32))) (fun h => by rw [Bd.returns] at h; cases h) (by rw [e0]; exact ⟨own_res (z' := (2 : Int32)) (by unfold fEx; rw [if_neg c3_1, if_neg c12_2, if_pos c22_3, if_neg c36_4, if_pos c42_7, if_neg c50_8, if_pos c56_9]) rfl, N0, rfl⟩) (by decide) (by decide) (fun fs hr => retI X0 hx Bd.returns (hb hby dx_64) hr)
                · refine Go.st (fun _ kq_ => XS.icmpYes X0.here hx rfl (pc0 := 56) (pc' := 62) rfl (hb hby dx_56) rfl (XT.ii_ne_t c56_9) (by decide) (by decide) kq_) ?_
                  show Go p e below s _ _ _ (s₁.setTop (mkF m 62 #[.val (.int p0), .val (.int p1), .val (.int p2), .val (.int p3), .val (.int p4), .val (.int (1 : Int32))] []))
                  refine Go.st (fun _ kq_ => XS.iload X0.here hx rfl (hb hby dx_62) rfl kq_) ?_
                  show Go p e below s _ _ _ (s₁.setTop (mkF m 64 #[.val (.int p0), .val (.int p1), .val (.int p2), .val (.int p3), .val (.int p4), .val (.int (1 : Int32))] [(.int (1 : Int32))]))
                  exact Go.ret X0 hlk (some (.int (1 : Int32))) (fun h => by rw [Bd.returns] at h; cases h) (by rw [e0]; exact ⟨own_res (z' := (1 : Int32)) (by unfold fEx; rw [if_neg c3_1, if_neg c12_2, if_pos c22_3, if_neg c36_4, if_pos c42_7, if_neg c50_8, if_neg c56_9]) rfl, N0, rfl⟩) (by decide) (by decide) (fun fs hr => retI X0 hx Bd.returns (hb hby dx_64) hr)
            · refine Go.st (fun _ kq_ => XS.icmpYes X0.here hx rfl (pc0 := 42) (pc' := 48) rfl (hb hby dx_42) rfl (XT.ii_ne_t c42_7) (by decide) (by decide) kq_) ?_
              show Go p e below s _ _ _ (s₁.setTop (mkF m 48 #[.val (.int p0), .val (.int p1), .val (.int p2), .val (.int p3), .val (.int p4), .val (.int (0 : Int32))] []))
              refine Go.st (fun _ kq_ => XS.iloadN X0.here hx rfl (hb hby dx_48) rfl kq_) ?_
              show Go p e below s _ _ _ (s₁.setTop (mkF m 49 #[.val (.int p0), .val (.int p1), .val (.int p2), .val (.int p3), .val (.int p4), .val (.int (0 : Int32))] [(.int p0)]))
              refine Go.st (fun _ kq_ => XS.iconst X0.here hx rfl (hb hby dx_49) kq_) ?_
              show Go p e below s _ _ _ (s₁.setTop (mkF m 50 #[.val (.int p0), .val (.int p1), .val (.int p2), .val (.int p3), .val (.int p4), .val (.int (0 : Int32))] [(.int (3 : Int32)), (.int p0)]))
              by_cases c50_10 : p0 < (3 : Int32)
              · refine Go.st (fun _ kq_ => XS.icmpYes X0.here hx rfl (pc0 := 50) (pc' := 62) rfl (hb hby dx_50) rfl (XT.ii_lt_t c50_10) (by decide) (by decide) kq_) ?_
                show Go p e below s _ _ _ (s₁.setTop (mkF m 62 #[.val (.int p0), .val (.int p1), .val (.int p2), .val (.int p3), .val (.int p4), .val (.int (0 : Int32))] []))
                refine Go.st (fun _ kq_ => XS.iload X0.here hx rfl (hb hby dx_62) rfl kq_) ?_
                show Go p e below s _ _ _ (s₁.setTop (mkF m 64 #[.val (.int p0), .val (.int p1), .val (.int p2), .val (.int p3), .val (.int p4), .val (.int (0 : Int32))] [(.int (0 : Int32))]))
                exact Go.ret X0 hlk (some (.int (0 : Int32))) (fun h => by rw [Bd.returns] at h; cases h) (by rw [e0]; exact ⟨own_res (z' := (0 : Int32)) (by unfold fEx; rw [if_neg c3_1, if_neg c12_2, if_pos c22_3, if_neg c36_4, if_neg c42_7, if_pos c50_10]) rfl, N0, rfl⟩) (by decide) (by decide) (fun fs hr => retI X0 hx Bd.returns (hb hby dx_64) hr)
              · refine Go.st (fun _ kq_ => XS.icmpNo X0.here hx rfl (hb hby dx_50) rfl (XT.ii_lt_f c50_10) kq_) ?_
                show Go p e below s _ _ _ (s₁.setTop (mkF m 53 #[.val (.int p0), .val (.int p1), .val (.int p2), .val (.int p3), .val (.int p4), .val (.int (0 : Int32))] []))
                refine Go.st (fun _ kq_ => XS.iloadN X0.here hx rfl (hb hby dx_53) rfl kq_) ?_
                show Go p e below s _ _ _ (s₁.setTop (mkF m 54 #[.val (.int p0), .val (.int p1), .val (.int p2), .val (.int p3), .val (.int p4), .val (.int (0 : Int32))] [(.int p3)]))
                refine Go.st (fun _ kq_ => XS.iload X0.here hx rfl (hb hby dx_54) rfl kq_) ?_
                show Go p e below s _ _ _ (s₁.setTop (mkF m 56 #[.val (.int p0), .val (.int p1), .val (.int p2), .val (.int p3), .val (.int p4), .val (.int (0 : Int32))] [(.int p4), (.int p3)]))
                by_cases c56_11 : p3 = p4
                · refine Go.st (fun _ kq_ => XS.icmpNo X0.here hx rfl (hb hby dx_56) rfl (XT.ii_ne_f c56_11) kq_) ?_
                  show Go p e below s _ _ _ (s₁.setTop (mkF m 59 #[.val (.int p0), .val (.int p1), .val (.int p2), .val (.int p3), .val (.int p4), .val (.int (0 : Int32))] []))
                  refine Go.st (fun _ kq_ => XT.iincV X0.here hx rfl (1 : Int32) (hb hby dx_59) rfl rfl (l' := #[.val (.int p0), .val (.int p1), .val (.int p2), .val (.int p3), .val (.int p4), .val (.int (1 : Int32))]) rfl kq_) ?_
                  show Go p e below s _ _ _ (s₁.setTop (mkF m 62 #[.val (.int p0), .val (.int p1), .val (.int p2), .val (.int p3), .val (.int p4), .val (.int (1 : Int32))] []))
                  refine Go.st (fun _ kq_ => XS.iload X0.here hx rfl (hb hby dx_62) rfl kq_) ?_
                  show Go p e below s _ _ _ (s₁.setTop (mkF m 64 #[.val (.int p0), .val (.int p1), .val (.int p2), .val (.int p3), .val (.int p4), .val (.int (1 : Int32))] [(.int (1 : Int32))]))
                  exact Go.ret X0 hlk (some (.int (1 : Int32))) (fun h => by rw [Bd.returns] at h; cases h) (by rw [e0]; exact ⟨own_res (z' := (1 : Int32)) (by unfold fEx; rw [if_neg c3_1, if_neg c12_2, if_pos c22_3, if_neg c36_4, if_neg c42_7, if_neg c50_10, if_pos c56_11]) rfl, N0, rfl⟩) (by decide) (by decide) (fun fs hr => retI X0 hx Bd.returns (hb hby dx_64) hr)
                · refine Go.st (fun _ kq_ => XS.icmpYes X0.here hx rfl (pc0 := 56) (pc' := 62) rfl (hb hby dx_56) rfl (XT.ii_ne_t c56_11) (by decide) (by decide) kq_) ?_
                  show Go p e below s _ _ _ (s₁.setTop (mkF m 62 #[.val (.int p0), .val (.int p1), .val (.int p2), .val (.int p3), .val (.int p4), .val (.int (0 : Int32))] []))
                  refine Go.st (fun _ kq_ => XS.iload X0.here hx rfl (hb hby dx_62) rfl kq_) ?_
                  show Go p e below s _ _ _ (s₁.setTop (mkF m 64 #[.val (.int p0), .val (.int p1), .val (.int p2), .val (.int p3), .val (.int p4), .val (.int (0 : Int32))] [(.int (0 : Int32))]))
                  exact Go.ret X0 hlk (some (.int (0 : Int32))) (fun h => by rw [Bd.returns] at h; cases h) (by rw [e0]; exact ⟨own_res (z' := (0 : Int32)) (by unfold fEx; rw [if_neg c3_1, if_neg c12_2, if_pos c22_3, if_neg c36_4, if_neg c42_7, if_neg c50_10, if_neg c56_11]) rfl, N0, rfl⟩) (by decide) (by decide) (fun fs hr => retI X0 hx Bd.returns (hb hby dx_64) hr)
        · refine Go.st (fun _ kq_ => XS.icmpNo X0.here hx rfl (hb hby dx_22) rfl (XT.ii_lt_f c22_3) kq_) ?_
          show Go p e below s _ _ _ (s₁.setTop (mkF m 25 #[.val (.int p0), .val (.int p1), .val (.int p2), .val (.int p3), .val (.int p4), .val (.int (0 : Int32))] []))
          refine Go.st (fun _ kq_ => XS.iloadN X0.here hx rfl (hb hby dx_25) rfl kq_) ?_
          show Go p e below s _ _ _ (s₁.setTop (mkF m 26 #[.val (.int p0), .val (.int p1), .val (.int p2), .val (.int p3), .val (.int p4), .val (.int (0 : Int32))] [(.int p1)]))
          refine Go.st (fun _ kq_ => XS.iload X0.here hx rfl (hb hby dx_26) rfl kq_) ?_
          show Go p e below s _ _ _ (s₁.setTop (mkF m 28 #[.val (.int p0), .val (.int p1), .val (.int p2), .val (.int p3), .val (.int p4), .val (.int (0 : Int32))] [(.int p4), (.int p1)]))
          by_cases c28_12 : p1 = p4
          · refine Go.st (fun _ kq_ => XS.icmpNo X0.here hx rfl (hb hby dx_28) rfl (XT.ii_ne_f c28_12) kq_) ?_
            show Go p e below s _ _ _ (s₁.setTop (mkF m 31 #[.val (.int p0), .val (.int p1), .val (.int p2), .val (.int p3), .val (.int p4), .val (.int (0 : Int32))] []))
            refine Go.st (fun _ kq_ => XT.iincV X0.here hx rfl (1 : Int32) (hb hby dx_31) rfl rfl (l' := #[.val (.int p0), .val (.int p1), .val (.int p2), .val (.int p3), .val (.int p4), .val (.int (1 : Int32))]) rfl kq_) ?_
            show Go p e below s _ _ _ (s₁.setTop (mkF m 34 #[.val (.int p0), .val (.int p1), .val (.int p2), .val (.int p3), .val (.int p4), .val (.int (1 : Int32))] []))
            refine Go.st (fun _ kq_ => XS.iloadN X0.here hx rfl (hb hby dx_34) rfl kq_) ?_
            show Go p e below s _ _ _ (s₁.setTop (mkF m 35 #[.val (.int p0), .val (.int p1), .val (.int p2), .val (.int p3), .val (.int p4), .val (.int (1 : Int32))] [(.int p0)]))
            refine Go.st (fun _ kq_ => XS.iconst X0.here hx rfl (hb hby dx_35) kq_) ?_
            show Go p e below s _ _ _ (s₁.setTop (mkF m 36 #[.val (.int p0), .val (.int p1), .val (.int p2), .val (.int p3), .val (.int p4), .val (.int (1 : Int32))] [(.int (2 : Int32)), (.int p0)]))
            by_cases c36_13 : p0 < (2 : Int32)
            · refine Go.st (fun _ kq_ => XS.icmpYes X0.here hx rfl (pc0 := 36) (pc' := 48) rfl (hb hby dx_36) rfl (XT.ii_lt_t c36_13) (by decide) (by decide) kq_) ?_
              show Go p e below s _ _ _ (s₁.setTop (mkF m 48 #[.val (.int p0), .val (.int p1), .val (.int p2), .val (.int p3), .val (.int p4), .val (.int (1 : Int32))] []))
              refine Go.st (fun _ kq_ => XS.iloadN X0.here hx rfl (hb hby dx_48) rfl kq_) ?_
              show Go p e below s _ _ _ (s₁.setTop (mkF m 49 #[.val (.int p0), .val (.int p1), .val (.int p2), .val (.int p3), .val (.int p4), .val (.int (1 : Int32))] [(.int p0)]))
              refine Go.st (fun _ kq_ => XS.iconst X0.here hx rfl (hb hby dx_49) kq_) ?_
              show Go p e below s _ _ _ (s₁.setTop (mkF m 50 #[.val (.int p0), .val (.int p1), .val (.int p2), .val (.int p3), .val (.int p4), .val (.int (1 : Int32))] [(.int (3 : Int32)), (.int p0)]))
              by_cases c50_14 : p0 < (3 : Int32)
              · refine Go.st (fun _ kq_ => XS.icmpYes X0.here hx rfl (pc0 := 50) (pc' := 62) rfl (hb hby dx_50) rfl (XT.ii_lt_t c50_14) (by decide) (by decide) kq_) ?_
                show Go p e below s _ _ _ (s₁.setTop (mkF m 62 #[.val (.int p0), .val (.int p1), .val (.int p2), .val (.int p3), .val (.int p4), .val (.int (1 : Int32))] []))
                refine Go.st (fun _ kq_ => XS.iload X0.here hx rfl (hb hby dx_62) rfl kq_) ?_
                show Go p e below s _ _ _ (s₁.setTop (mkF m 64 #[.val (.int p0), .val (.int p1), .val (.int p2), .val (.int p3), .val (.int p4), .val (.int (1 : Int32))] [(.int (1 : Int32))]))
                exact Go.ret X0 hlk (some (.int (1 : Int32))) (fun h => by rw [Bd.returns] at h; cases h) (by rw [e0]; exact ⟨own_res (z' := (1 : Int32)) (by unfold fEx; rw [if_neg c3_1, if_neg c12_2, if_neg c22_3, if_pos c28_12, if_pos c36_13, if_pos c50_14]) rfl, N0, rfl⟩) (by decide) (by decide) (fun fs hr => retI X0 hx Bd.returns (hb hby dx_64) hr)
              · refine Go.st (fun _ kq_ => XS.icmpNo X0.here hx rfl (hb hby dx_50) rfl (XT.ii_lt_f c50_14) kq_) ?_
                show Go p e below s _ _ _ (s₁.setTop (mkF m 53 #[.val (.int p0), .val (.int p1), .val (.int p2), .val (.int p3), .val (.int p4), .val (.int (1 : Int32))] []))
                refine Go.st (fun _ kq_ => XS.iloadN X0.here hx rfl (hb hby dx_53) rfl kq_) ?_
                show Go p e below s _ _ _ (s₁.setTop (mkF m 54 #[.val (.int p0), .val (.int p1), .val (.int p2), .val (.int p3), .val (.int p4), .val (.int (1 : Int32))] [(.int p3)]))
                refine Go.st (fun _ kq_ => XS.iload X0.here hx rfl (hb hby dx_54) rfl kq_) ?_
                show Go p e below s _ _ _ (s₁.setTop (mkF m 56 #[.val (.int p0), .val (.int p1), .val (.int p2), .val (.int p3), .val (.int p4), .val (.int (1 : Int32))] [(.int p4), (.int p3)]))
                by_cases c56_15 : p3 = p4
                · refine Go.st (fun _ kq_ => XS.icmpNo X0.here hx rfl (hb hby dx_56) rfl (XT.ii_ne_f c56_15) kq_) ?_
                  show Go p e below s _ _ _ (s₁.setTop (mkF m 59 #[.val (.int p0), .val (.int p1), .val (.int p2), .val (.int p3), .val (.int p4), .val (.int (1 : Int32))] []))
                  refine Go.st (fun _ kq_ => XT.iincV X0.here hx rfl (1 : Int32) (hb hby dx_59) rfl rfl (l' := #[.val (.int p0), .val (.int p1), .val (.int p2), .val (.int p3), .val (.int p4), .val (.int (2 : Int32))]) rfl kq_) ?_
                  show Go p e below s _ _ _ (s₁.setTop (mkF m 62 #[.val (.int p0), .val (.int p1), .val (.int p2), .val (.int p3), .val (.int p4), .val (.int (2 : Int32))] []))
                  refine Go.st (fun _ kq_ => XS.iload X0.here hx rfl (hb hby dx_62) rfl kq_) ?_
                  show Go p e below s _ _ _ (s₁.setTop (mkF m 64 #[.val (.int p0), .val (.int p1), .val (.int p2), .val (.int p3), .val (.int p4), .val (.int (2 : Int32))] [(.int (2 : Int32))]))
                  exact Go.ret X0 hlk (some (.int (2 : Int32))) (fun h => by rw [Bd.returns] at h; cases h) (by rw [e0]; exact ⟨own_res (z' := (2 : Int32)) (by unfold fEx; rw [if_neg c3_1, if_neg c12_2, if_neg c22_3, if_pos c28_12, if_pos c36_13, if_neg c50_14, if_pos c56_15]) rfl, N0, rfl⟩) (by decide) (by decide) (fun fs hr => retI X0 hx Bd.returns (hb hby dx_64) hr)
                · refine Go.st (fun _ kq_ => XS.icmpYes X0.here hx rfl (pc0 := 56) (pc' := 62) rfl (hb hby dx_56) rfl (XT.ii_ne_t c56_15) (by decide) (by decide) kq_) ?_
                  show Go p e below s _ _ _ (s₁.setTop (mkF m 62 #[.val (.int p0), .val (.int p1), .val (.int p2), .val (.int p3), .val (.int p4), .val (.int (1 : Int32))] []))
                  refine Go.st (fun _ kq_ => XS.iload X0.here hx rfl (hb hby dx_62) rfl kq_) ?_
                  show Go p e below s _ _ _ (s₁.setTop (mkF m 64 #[.val (.int p0), .val (.int p1), .val (.int p2), .val (.int p3), .val (.int p4), .val (.int (1 : Int32))] [(.int (1 : Int32))]))
                  exact Go.ret X0 hlk (some (.int (1 : Int32))) (fun h => by rw [Bd.returns] at h; cases h) (by rw [e0]; exact ⟨own_res (z' := (1 : Int32)) (by unfold fEx; rw [if_neg c3_1, if_neg c12_2, if_neg c22_3, if_pos c28_12, if_pos c36_13, if_neg c50_14, if_neg c56_15]) rfl, N0, rfl⟩) (by decide) (by decide) (fun fs hr => retI X0 hx Bd.returns (hb hby dx_64) hr)
            · refine Go.st (fun _ kq_ => XS.icmpNo X0.here hx rfl (hb hby dx_36) rfl (XT.ii_lt_f c36_13) kq_) ?_
              show Go p e below s _ _ _ (s₁.setTop (mkF m 39 #[.val (.int p0), .val (.int p1), .val (.int p2), .val (.int p3), .val (.int p4), .val (.int (1 : Int32))] []))
              refine Go.st (fun _ kq_ => XS.iloadN X0.here hx rfl (hb hby dx_39) rfl kq_) ?_
              show Go p e below s _ _ _ (s₁.setTop (mkF m 40 #[.val (.int p0), .val (.int p1), .val (.int p2), .val (.int p3), .val (.int p4), .val (.int (1 : Int32))] [(.int p2)]))
              refine Go.st (fun _ kq_ => XS.iload X0.here hx rfl (hb hby dx_40) rfl kq_) ?_
              show Go p e below s _ _ _ (s₁.setTop (mkF m 42 #[.val (.int p0), .val (.int p1), .val (.int p2), .val (.int p3), .val (.int p4), .val (.int (1 : Int32))] [(.int p4), (.int p2)]))
              by_cases c42_16 : p2 = p4
              · refine Go.st (fun _ kq_ => XS.icmpNo X0.here hx rfl (hb hby dx_42) rfl (XT.ii_ne_f c42_16) kq_) ?_
                show Go p e below s _ _ _ (s₁.setTop (mkF m 45 #[.val (.int p0), .val (.int p1), .val (.int p2), .val (.int p3), .val (.int p4), .val (.int (1 : Int32))] []))
                refine Go.st (fun _ kq_ => XT.iincV X0.here hx rfl (1 : Int32) (hb hby dx_45) rfl rfl (l' := #[.val (.int p0), .val (.int p1), .val (.int p2), .val (.int p3), .val (.int p4), .val (.int (2 : Int32))]) rfl kq_) ?_
                show Go p e below s _ _ _ (s₁.setTop (mkF m 48 #[.val (.int p0), .val (.int p1), .val (.int p2), .val (.int p3), .val (.int p4), .val (.int (2 : Int32))] []))
                refine Go.st (fun _ kq_ => XS.iloadN X0.here hx rfl (hb hby dx_48) rfl kq_) ?_
                show Go p e below s _ _ _ (s₁.setTop (mkF m 49 #[.val (.int p0), .val (.int p1), .val (.int p2), .val (.int p3), .val (.int p4), .val (.int (2 : Int32))] [(.int p0)]))
                refine Go.st (fun _ kq_ => XS.iconst X0.here hx rfl (hb hby dx_49) kq_) ?_
                show Go p e below s _ _ _ (s₁.setTop (mkF m 50 #[.val (.int p0), .val (.int p1), .val (.int p2), .val (.int p3), .val (.int p4), .val (.int (2 : Int32))] [(.int (3 : Int32)), (.int p0)]))
                by_cases c50_17 : p0 < (3 : Int32)
                · refine Go.st (fun _ kq_ => XS.icmpYes X0.here hx rfl (pc0 := 50) (pc' := 62) rfl (hb hby dx_50) rfl (XT.ii_lt_t c50_17) (by decide) (by decide) kq_) ?_
                  show Go p e below s _ _ _ (s₁.setTop (mkF m 62 #[.val (.int p0), .val (.int p1), .val (.int p2), .val (.int p3), .val (.int p4), .val (.int (2 : Int32))] []))
                  refine Go.st (fun _ kq_ => XS.iload X0.here hx rfl (hb hby dx_62) rfl kq_) ?_
                  show Go p e below s _ _ _ (s₁.setTop (mkF m 64 #[.val (.int p0), .val (.int p1), .val (.int p2), .val (.int p3), .val (.int p4), .val (.int (2 : Int32))] [(.int (2 : Int32))]))
                  exact Go.ret X0 hlk (some (.int (2 : Int32))) (fun h => by rw [Bd.returns] at h; cases h) (by rw [e0]; exact ⟨own_res (z' := (2 : Int32)) (by unfold fEx; rw [if_neg c3_1, if_neg c12_2, if_neg c22_3, if_pos c28_12, if_neg c36_13, if_pos c42_16, if_pos c50_17]) rfl, N0, rfl⟩) (by decide) (by decide) (fun fs hr => retI X0 hx Bd.returns (hb hby dx_64) hr)
                · refine Go.st (fun _ kq_ => XS.icmpNo X0.here hx rfl (hb hby dx_50) rfl (XT.ii_lt_f c50_17) kq_) ?_
                  show Go p e below s _ _ _ (s₁.setTop (mkF m 53 #[.val (.int p0), .val (.int p1), .val (.int p2), .val (.int p3), .val (.int p4), .val (.int (2 : Int32))] []))
                  refine Go.st (fun _ kq_ => XS.iloadN X0.here hx rfl (hb hby dx_53) rfl kq_) ?_
                  show Go p e below s _ _ _ (s₁.setTop (mkF m 54 #[.val (.int p0), .val (.int p1), .val (.int p2), .val (.int p3), .val (.int p4), .val (.int (2 : Int32))] [(.int p3)]))
                  refine Go.st (fun _ kq_ => XS.iload X0.here hx rfl (hb hby dx_54) rfl kq_) ?_
                  show Go p e below s _ _ _ (s₁.setTop (mkF m 56 #[.val (.int p0), .val (.int p1), .val (.int p2), .val (.int p3), .val (.int p4), .val (.int (2 : Int32))] [(.int p4), (.int p3)]))
                  by_cases c56_18 : p3 = p4
                  · refine Go.st (fun _ kq_ => XS.icmpNo X0.here hx rfl (hb hby dx_56) rfl (XT.ii_ne_f c56_18) kq_) ?_
                    show Go p e below s _ _ _ (s₁.setTop (mkF m 59 #[.val (.int p0), .val (.int p1), .val (.int p2), .val (.int p3), .val (.int p4), .val (.int (2 : Int32))] []))
                    refine Go.st (fun _ kq_ => XT.iincV X0.here hx rfl (1 : Int32) (hb hby dx_59) rfl rfl (l' := #[.val (.int p0), .val (.int p1), .val (.int p2), .val (.int p3), .val (.int p4), .val (.int (3 : Int32))]) rfl kq_) ?_
                    show Go p e below s _ _ _ (s₁.setTop (mkF m 62 #[.val (.int p0), .val (.int p1), .val (.int p2), .val (.int p3), .val (.int p4), .val (.int (3 : Int32))] []))
                    refine Go.st (fun _ kq_ => XS.iload X0.here hx rfl (hb hby dx_62) rfl kq_) ?_
                    show Go p e below s _ _ _ (s₁.setTop (mkF m 64 #[.val (.int p0), .val (.int p1), .val (.int p2), .val (.int p3), .val (.int p4), .val (.int (3 : Int32))] [(.int (3 : Int32))]))
                    exact Go.ret X0 hlk (some (.int (3 : Int32))) (fun h => by rw [Bd.returns] at h; cases h) (by rw [e0]; exact ⟨own_res (z' := (3 : Int32)) (by unfold fEx; rw [if_neg c3_1, if_neg c12_2, if_neg c22_3, if_pos c28_12, if_neg c36_13, if_pos c42_16, if_neg c50_17, if_pos c56_18]) rfl, N0, rfl⟩) (by decide) (by decide) (fun fs hr => retI X0 hx Bd.returns (hb hby dx_64) hr)
                  · refine Go.st (fun _ kq_ => XS.icmpYes X0.here hx rfl (pc0 := 56) (pc' := 62) rfl (hb hby dx_56) rfl (XT.ii_ne_t c56_18) (by decide) (by decide) kq_) ?_
                    show Go p e below s _ _ _ (s₁.setTop (mkF m 62 #[.val (.int p0), .val (.int p1), .val (.int p2), .val (.int p3), .val (.int p4), .val (.int (2 : Int32))] []))
                    refine Go.st (fun _ kq_ => XS.iload X0.here hx rfl (hb hby dx_62) rfl kq_) ?_
                    show Go p e below s _ _ _ (s₁.setTop (mkF m 64 #[.val (.int p0), .val (.int p1), .val (.int p2), .val (.int p3), .val (.int p4), .val (.int (2 : Int32))] [(.int (2 : Int32))]))
                    exact Go.ret X0 hlk (some (.int (2 : Int32))) (fun h => by rw [Bd.returns] at h; cases h) (by rw [e0]; exact ⟨own_res (z' := (2 : Int32)) (by unfold fEx; rw [if_neg c3_1, if_neg c12_2, if_neg c22_3, if_pos c28_12, if_neg c36_13, if_pos c42_16, if_neg c50_17, if_neg c56_18]) rfl, N0, rfl⟩) (by decide) (by decide) (fun fs hr => retI X0 hx Bd.returns (hb hby dx_64) hr)
              · refine Go.st (fun _ kq_ => XS.icmpYes X0.here hx rfl (pc0 := 42) (pc' := 48) rfl (hb hby dx_42) rfl (XT.ii_ne_t c42_16) (by decide) (by decide) kq_) ?_
                show Go p e below s _ _ _ (s₁.setTop (mkF m 48 #[.val (.int p0), .val (.int p1), .val (.int p2), .val (.int p3), .val (.int p4), .val (.int (1 : Int32))] []))
                refine Go.st (fun _ kq_ => XS.iloadN X0.here hx rfl (hb hby dx_48) rfl kq_) ?_
                show Go p e below s _ _ _ (s₁.setTop (mkF m 49 #[.val (.int p0), .val (.int p1), .val (.int p2), .val (.int p3), .val (.int p4), .val (.int (1 : Int32))] [(.int p0)]))
                refine Go.st (fun _ kq_ => XS.iconst X0.here hx rfl (hb hby dx_49) kq_) ?_
                show Go p e below s _ _ _ (s₁.setTop (mkF m 50 #[.val (.int p0), .val (.int p1), .val (.int p2), .val (.int p3), .val (.int p4), .val (.int (1 : Int32))] [(.int (3 : Int32)), (.int p0)]))
                by_cases c50_19 : p0 < (3 : Int32)
                · refine Go.st (fun _ kq_ => XS.icmpYes X0.here hx rfl (pc0 := 50) (pc' := 62) rfl (hb hby dx_50) rfl (XT.ii_lt_t c50_19) (by decide) (by decide) kq_) ?_
                  show Go p e below s _ _ _ (s₁.setTop (mkF m 62 #[.val (.int p0), .val (.int p1), .val (.int p2), .val (.int p3), .val (.int p4), .val (.int (1 : Int32))] []))
                  refine Go.st (fun _ kq_ => XS.iload X0.here hx rfl (hb hby dx_62) rfl kq_) ?_
                  show Go p e below s _ _ _ (s₁.setTop (mkF m 64 #[.val (.int p0), .val (.int p1), .val (.int p2), .val (.int p3), .val (.int p4), .val (.int (1 : Int32))] [(.int (1 : Int32))]))
                  exact Go.ret X0 hlk (some (.int (1 : Int32))) (fun h => by rw [Bd.returns] at h; cases h) (by rw [e0]; exact ⟨own_res (z' := (1 : Int32)) (by unfold fEx; rw [if_neg c3_1, if_neg c12_2, if_neg c22_3, if_pos c28_12, if_neg c36_13, if_neg c42_16, if_pos c50_19]) rfl, N0, rfl⟩) (by decide) (by decide) (fun fs hr => retI X0 hx Bd.returns (hb hby dx_64) hr)
                · refine Go.st (fun _ kq_ => XS.icmpNo X0.here hx rfl (hb hby dx_50) rfl (XT.ii_lt_f c50_19) kq_) ?_
                  show Go p e below s _ _ _ (s₁.setTop (mkF m 53 #[.val (.int p0), .val (.int p1), .val (.int p2), .val (.int p3), .val (.int p4), .val (.int (1 : Int32))] []))
                  refine Go.st (fun _ kq_ => XS.iloadN X0.here hx rfl (hb hby dx_53) rfl kq_) ?_
                  show Go p e below s _ _ _ (s₁.setTop (mkF m 54 #[.val (.int p0), .val (.int p1), .val (.int p2), .val (.int p3), .val (.int p4), .val (.int (1 : Int32))] [(.int p3)]))
                  refine Go.st (fun _ kq_ => XS.iload X0.here hx rfl (hb hby dx_54) rfl kq_) ?_
                  show Go p e below s _ _ _ (s₁.setTop (mkF m 56 #[.val (.int p0), .val (.int p1), .val (.int p2), .val (.int p3), .val (.int p4), .val (.int (1 : Int32))] [(.int p4), (.int p3)]))
                  by_cases c56_20 : p3 = p4
                  · refine Go.st (fun _ kq_ => XS.icmpNo X0.here hx rfl (hb hby dx_56) rfl (XT.ii_ne_f c56_20) kq_) ?_
                    show Go p e below s _ _ _ (s₁.setTop (mkF m 59 #[.val (.int p0), .val (.int p1), .val (.int p2), .val (.int p3), .val (.int p4), .val (.int (1 : Int32))] []))
                    refine Go.st (fun _ kq_ => XT.iincV X0.here hx rfl (1 : Int32) (hb hby dx_59) rfl rfl (l' := #[.val (.int p0), .val (.int p1), .val (.int p2), .val (.int p3), .val (.int p4), .val (.int (2 : Int32))]) rfl kq_) ?_
                    show Go p e below s _ _ _ (s₁.setTop (mkF m 62 #[.val (.int p0), .val (.int p1), .val (.int p2), .val (.int p3), .val (.int p4), .val (.int (2 : Int32))] []))
                    refine Go.st (fun _ kq_ => XS.iload X0.here hx rfl (hb hby dx_62) rfl kq_) ?_
                    show Go p e below s _ _ _ (s₁.setTop (mkF m 64 #[.val (.int p0), .val (.int p1), .val (.int p2), .val (.int p3), .val (.int p4), .val (.int (2 : Int32))] [(.int (2 : Int32))]))
                    exact Go.ret X0 hlk (some (.int (2 : Int32))) (fun h => by rw [Bd.returns] at h; cases h) (by rw [e0]; exact ⟨own_res (z' := (2 : Int32)) (by unfold fEx; rw [if_neg c3_1, if_neg c12_2, if_neg c22_3, if_pos c28_12, if_neg c36_13, if_neg c42_16, if_neg c50_19, if_pos c56_20]) rfl, N0, rfl⟩) (by decide) (by decide) (fun fs hr => retI X0 hx Bd.returns (hb hby dx_64) hr)
                  · refine Go.st (fun _ kq_ => XS.icmpYes X0.here hx rfl (pc0 := 56) (pc' := 62) rfl (hb hby dx_56) rfl (XT.ii_ne_t c56_20) (by decide) (by decide) kq_) ?_
                    show Go p e below s _ _ _ (s₁.setTop (mkF m 62 #[.val (.int p0), .val (.int p1), .val (.int p2), .val (.int p3), .val (.int p4), .val (.int (1 : Int32))] []))
                    refine Go.st (fun _ kq_ => XS.iload X0.here hx rfl (hb hby dx_62) rfl kq_) ?_
                    show Go p e below s _ _ _ (s₁.setTop (mkF m 64 #[.val (.int p0), .val (.int p1), .val (.int p2), .val (.int p3), .val (.int p4), .val (.int (1 : Int32))] [(.int (1 : Int32))]))
                    exact Go.ret X0 hlk (some (.int (1 : Int32))) (fun h => by rw [Bd.returns] at h; cases h) (by rw [e0]; exact ⟨own_res (z' := (1 : Int32)) (by unfold fEx; rw [if_neg c3_1, if_neg c12_2, if_neg c22_3, if_pos c28_12, if_neg c36_13, if_neg c42_16, if_neg c50_19, if_neg c56_20]) rfl, N0, rfl⟩) (by decide) (by decide) (fun fs hr => retI X0 hx Bd.returns (hb hby dx_64) hr)
          · refine Go.st (fun _ kq_ => XS.icmpYes X0.here hx rfl (pc0 := 28) (pc' := 34) rfl (hb hby dx_28) rfl (XT.ii_ne_t c28_12) (by decide) (by decide) kq_) ?_
            show Go p e below s _ _ _ (s₁.setTop (mkF m 34 #[.val (.int p0), .val (.int p1), .val (.int p2), .val (.int p3), .val (.int p4), .val (.int (0 : Int32))] []))
            refine Go.st (fun _ kq_ => XS.iloadN X0.here hx rfl (hb hby dx_34) rfl kq_) ?_
            show Go p e below s _ _ _ (s₁.setTop (mkF m 35 #[.val (.int p0), .val (.int p1), .val (.int p2), .val (.int p3), .val (.int p4), .val (.int (0 : Int32))] [(.int p0)]))
            refine Go.st (fun _ kq_ => XS.iconst X0.here hx rfl (hb hby dx_35) kq_) ?_
            show Go p e below s _ _ _ (s₁.setTop (mkF m 36 #[.val (.int p0), .val (.int p1), .val (.int p2), .val (.int p3), .val (.int p4), .val (.int (0 : Int32))] [(.int (2 : Int32)), (.int p0)]))
            by_cases c36_21 : p0 < (2 : Int32)
            · refine Go.st (fun _ kq_ => XS.icmpYes X0.here hx rfl (pc0 := 36) (pc' := 48) rfl (hb hby dx_36) rfl (XT.ii_lt_t c36_21) (by decide) (by decide) kq_) ?_
              show Go p e below s _ _ _ (s₁.setTop (mkF m 48 #[.val (.int p0), .val (.int p1), .val (.int p2), .val (.int p3), .val (.int p4), .val (.int (0 : Int32))] []))
              refine Go.st (fun _ kq_ => XS.iloadN X0.here hx rfl (hb hby dx_48) rfl kq_) ?_
              show Go p e below s _ _ _ (s₁.setTop (mkF m 49 #[.val (.int p0), .val (.int p1), .val (.int p2), .val (.int p3), .val (.int p4), .val (.int (0 : Int32))] [(.int p0)]))
              refine Go.st (fun _ kq_ => XS.iconst X0.here hx rfl (hb hby dx_49) kq_) ?_
              show Go p e below s _ _ _ (s₁.setTop (mkF m 50 #[.val (.int p0), .val (.int p1), .val (.int p2), .val (.int p3), .val (.int p4), .val (.int (0 : Int32))] [(.int (3 : Int32)), (.int p0)]))
              by_cases c50_22 : p0 < (3 : Int32)
              · refine Go.st (fun _ kq_ => XS.icmpYes X0.here hx rfl (pc0 := 50) (pc' := 62) rfl (hb hby dx_50) rfl (XT.ii_lt_t c50_22) (by decide) (by decide) kq_) ?_
                show Go p e below s _ _ _ (s₁.setTop (mkF m 62 #[.val (.int p0), .val (.int p1), .val (.int p2), .val (.int p3), .val (.int p4), .val (.int (0 : Int32))] []))
                refine Go.st (fun _ kq_ => XS.iload X0.here hx rfl (hb hby dx_62) rfl kq_) ?_
                show Go p e below s _ _ _ (s₁.setTop (mkF m 64 #[.val (.int p0), .val (.int p1), .val (.int p2), .val (.int p3), .val (.int p4), .val (.int (0 : Int32))] [(.int (0 : Int32))]))
                exact Go.ret X0 hlk (some (.int (0 : Int32))) (fun h => by rw [Bd.returns] at h; cases h) (by rw [e0]; exact ⟨own_res (z' := (0 : Int32)) (by unfold fEx; rw [if_neg c3_1, if_neg c12_2, if_neg c22_3, if_neg c28_12, if_pos c36_21, if_pos c50_22]) rfl, N0, rfl⟩) (by decide) (by decide) (fun fs hr => retI X0 hx Bd.returns (hb hby dx_64) hr)
              · refine Go.st (fun _ kq_ => XS.icmpNo X0.here hx rfl (hb hby dx_50) rfl (XT.ii_lt_f c50_22) kq_) ?_
                show Go p e below s _ _ _ (s₁.setTop (mkF m 53 #[.val (.int p0), .val (.int p1), .val (.int p2), .val (.int p3), .val (.int p4), .val (.int (0 : Int32))] []))
                refine Go.st (fun _ kq_ => XS.iloadN X0.here hx rfl (hb hby dx_53) rfl kq_) ?_
                show Go p e below s _ _ _ (s₁.setTop (mkF m 54 #[.val (.int p0), .val (.int p1), .val (.int p2), .val (.int p3), .val (.int p4), .val (.int (0 : Int32))] [(.int p3)]))
                refine Go.st (fun _ kq_ => XS.iload X0.here hx rfl (hb hby dx_54) rfl kq_) ?_
                show Go p e below s _ _ _ (s₁.setTop (mkF m 56 #[.val (.int p0), .val (.int p1), .val (.int p2), .val (.int p3), .val (.int p4), .val (.int (0 : Int32))] [(.int p4), (.int p3)]))
                by_cases c56_23 : p3 = p4
                · refine Go.st (fun _ kq_ => XS.icmpNo X0.here hx rfl (hb hby dx_56) rfl (XT.ii_ne_f c56_23) kq_) ?_
                  show Go p e below s _ _ _ (s₁.setTop (mkF m 59 #[.val (.int p0), .val (.int p1), .val (.int p2), .val (.int p3), .val (.int p4), .val (.int (0 : Int32))] []))
                  refine Go.st (fun _ kq_ => XT.iincV X0.here hx rfl (1 : Int32) (hb hby dx_59) rfl rfl (l' := #[.val (.int p0), .val (.int p1), .val (.int p2), .val (.int p3), .val (.int p4), .val (.int (1 : Int32))]) rfl kq_) ?_
                  show Go p e below s _ _ _ (s₁.setTop (mkF m 62 #[.val (.int p0), .val (.int p1), .val (.int p2), .val (.int p3), .val (.int p4), .val (.int (1 : Int32))] []))
                  refine Go.st (fun _ kq_ => XS.iload X0.here hx rfl (hb hby dx_62) rfl kq_) ?_
                  show Go p e below s _ _ _ (s₁.setTop (mkF m 64 #[.val (.int p0), .val (.int p1), .val (.int p2), .val (.int p3), .val (.int p4), .val (.int (1 : Int32))] [(.int (1 : Int32))]))
                  exact Go.ret X0 hlk (some (.int (1 : Int32))) (fun h => by rw [Bd.returns] at h; cases h) (by rw [e0]; exact ⟨own_res (z' := (1 : Int32)) (by unfold fEx; rw [if_neg c3_1, if_neg c12_2, if_neg c22_3, if_neg c28_12, if_pos c36_21, if_neg c50_22, if_pos c56_23]) rfl, N0, rfl⟩) (by decide) (by decide) (fun fs hr => retI X0 hx Bd.returns (hb hby dx_64) hr)
                · refine Go.st (fun _ kq_ => XS.icmpYes X0.here hx rfl (pc0 := 56) (pc' := 62) rfl (hb hby dx_56) rfl (XT.ii_ne_t c56_23) (by decide) (by decide) kq_) ?_
                  show Go p e below s _ _ _ (s₁.setTop (mkF m 62 #[.val (.int p0), .val (.int p1), .val (.int p2), .val (.int p3), .val (.int p4), .val (.int (0 : Int32))] []))
                  refine Go.st (fun _ kq_ => XS.iload X0.here hx rfl (hb hby dx_62) rfl kq_) ?_
                  show Go p e below s _ _ _ (s₁.setTop (mkF m 64 #[.val (.int p0), .val (.int p1), .val (.int p2), .val (.int p3), .val (.int p4), .val (.int (0 : Int32))] [(.int (0 : Int32))]))
                  exact Go.ret X0 hlk (some (.int (0 : Int32))) (fun h => by rw [Bd.returns] at h; cases h) (by rw [e0]; exact ⟨own_res (z' := (0 : Int32)) (by unfold fEx; rw [if_neg c3_1, if_neg c12_2, if_neg c22_3, if_neg c28_12, if_pos c36_21, if_neg c50_22, if_neg c56_23]) rfl, N0, rfl⟩) (by decide) (by decide) (fun fs hr => retI X0 hx Bd.returns (hb hby dx_64) hr)
            · refine Go.st (fun _ kq_ => XS.icmpNo X0.here hx rfl (hb hby dx_36) rfl (XT.ii_lt_f c36_21) kq_) ?_
              show Go p e below s _ _ _ (s₁.setTop (mkF m 39 #[.val (.int p0), .val (.int p1), .val (.int p2), .val (.int p3), .val (.int p4), .val (.int (0 : Int32))] []))
              refine Go.st (fun _ kq_ => XS.iloadN X0.here hx rfl (hb hby dx_39) rfl kq_) ?_
              show Go p e below s _ _ _ (s₁.setTop (mkF m 40 #[.val (.int p0), .val (.int p1), .val (.int p2), .val (.int p3), .val (.int p4), .val (.int (0 : Int32))] [(.int p2)]))
              refine Go.st (fun _ kq_ => XS.iload X0.here hx rfl (hb hby dx_40) rfl kq_) ?_
              show Go p e below s _ _ _ (s₁.setTop (mkF m 42 #[.val (.int p0), .val (.int p1), .val (.int p2), .val (.int p3), .val (.int p4), .val (.int (0 : Int32))] [(.int p4), (.int p2)]))
              by_cases c42_24 : p2 = p4
              · refine Go.st (fun _ kq_ => XS.icmpNo X0.here hx rfl (hb hby dx_42) rfl (XT.ii_ne_f c42_24) kq_) ?_
                show Go p e below s _ _ _ (s₁.setTop (mkF m 45 #[.val (.int p0), .val (.int p1), .val (.int p2), .val (.int p3), .val (.int p4), .val (.int (0 : Int32))] []))
                refine Go.st (fun _ kq_ => XT.iincV X0.here hx rfl (1 : Int32) (hb hby dx_45) rfl rfl (l' := #[.val (.int p0), .val (.int p1), .val (.int p2), .val (.int p3), .val (.int p4), .val (.int (1 : Int32))]) rfl kq_) ?_
                show Go p e below s _ _ _ (s₁.setTop (mkF m 48 #[.val (.int p0), .val (.int p1), .val (.int p2), .val (.int p3), .val (.int p4), .val (.int (1 : Int32))] []))
                refine Go.st (fun _ kq_ => XS.iloadN X0.here hx rfl (hb hby dx_48) rfl kq_) ?_
                show Go p e below s _ _ _ (s₁.setTop (mkF m 49 #[.val (.int p0), .val (.int p1), .val (.int p2), .val (.int p3), .val (.int p4), .val (.int (1 : Int32))] [(.int p0)]))
                refine Go.st (fun _ kq_ => XS.iconst X0.here hx rfl (hb hby dx_49) kq_) ?_
                show Go p e below s _ _ _ (s₁.setTop (mkF m 50 #[.val (.int p0), .val (.int p1), .val (.int p2), .val (.int p3), .val (.int p4), .val (.int (1 : Int32))] [(.int (3 : Int32)), (.int p0)]))
                by_cases c50_25 : p0 < (3 : Int32)
                · refine Go.st (fun _ kq_ => XS.icmpYes X0.here hx rfl (pc0 := 50) (pc' := 62) rfl (hb hby dx_50) rfl (XT.ii_lt_t c50_25) (by decide) (by decide) kq_) ?_
                  show Go p e below s _ _ _ (s₁.setTop (mkF m 62 #[.val (.int p0), .val (.int p1), .val (.int p2), .val (.int p3), .val (.int p4), .val (.int (1 : Int32))] []))
                  refine Go.st (fun _ kq_ => XS.iload X0.here hx rfl (hb hby dx_62) rfl kq_) ?_
                  show Go p e below s _ _ _ (s₁.setTop (mkF m 64 #[.val (.int p0), .val (.int p1), .val (.int p2), .val (.int p3), .val (.int p4), .val (.int (1 : Int32))] [(.int (1 : Int32))]))
                  exact Go.ret X0 hlk (some (.int (1 : Int32))) (fun h => by rw [Bd.returns] at h; cases h) (by rw [e0]; exact ⟨own_res (z' := (1 : Int32)) (by unfold fEx; rw [if_neg c3_1, if_neg c12_2, if_neg c22_3, if_neg c28_12, if_neg c36_21, if_pos c42_24, if_pos c50_25]) rfl, N0, rfl⟩) (by decide) (by decide) (fun fs hr => retI X0 hx Bd.returns (hb hby dx_64) hr)
                · refine Go.st (fun _ kq_ => XS.icmpNo X0.here hx rfl (hb hby dx_50) rfl (XT.ii_lt_f c50_25) kq_) ?_
                  show Go p e below s _ _ _ (s₁.setTop (mkF m 53 #[.val (.int p0), .val (.int p1), .val (.int p2), .val (.int p3), .val (.int p4), .val (.int (1 : Int32))] []))
                  refine Go.st (fun _ kq_ => XS.iloadN X0.here hx rfl (hb hby dx_53) rfl kq_) ?_
                  show Go p e below s _ _ _ (s₁.setTop (mkF m 54 #[.val (.int p0), .val (.int p1), .val (.int p2), .val (.int p3), .val (.int p4), .val (.int (1 : Int32))] [(.int p3)]))
                  refine Go.st (fun _ kq_ => XS.iload X0.here hx rfl (hb hby dx_54) rfl kq_) ?_
                  show Go p e below s _ _ _ (s₁.setTop (mkF m 56 #[.val (.int p0), .val (.int p1), .val (.int p2), .val (.int p3), .val (.int p4), .val (.int (1 : Int32))] [(.int p4), (.int p3)]))
                  by_cases c56_26 : p3 = p4
                  · refine Go.st (fun _ kq_ => XS.icmpNo X0.here hx rfl (hb hby dx_56) rfl (XT.ii_ne_f c56_26) kq_) ?_
                    show Go p e below s _ _ _ (s₁.setTop (mkF m 59 #[.val (.int p0), .val (.int p1), .val (.int p2), .val (.int p3), .val (.int p4), .val (.int (1 : Int32))] []))
                    refine Go.st (fun _ kq_ => XT.iincV X0.here hx rfl (1 : Int32) (hb hby dx_59) rfl rfl (l' := #[.val (.int p0), .val (.int p1), .val (.int p2), .val (.int p3), .val (.int p4), .val (.int (2 : Int32))]) rfl kq_) ?_
                    show Go p e below s _ _ _ (s₁.setTop (mkF m 62 #[.val (.int p0), .val (.int p1), .val (.int p2), .val (.int p3), .val (.int p4), .val (.int (2 : Int32))] []))
                    refine Go.st (fun _ kq_ => XS.iload X0.here hx rfl (hb hby dx_62) rfl kq_) ?_
                    show Go p e below s _ _ _ (s₁.setTop (mkF m 64 #[.val (.int p0), .val (.int p1), .val (.int p2), .val (.int p3), .val (.int p4), .val (.int (2 : Int32))] [(.int (2 : Int32))]))
                    exact Go.ret X0 hlk (some (.int (2 : Int32))) (fun h => by rw [Bd.returns] at h; cases h) (by rw [e0]; exact ⟨own_res (z' := (2 : Int32)) (by unfold fEx; rw [if_neg c3_1, if_neg c12_2, if_neg c22_3, if_neg c28_12, if_neg c36_21, if_pos c42_24, if_neg c50_25, if_pos c56_26]) rfl, N0, rfl⟩) (by decide) (by decide) (fun fs hr => retI X0 hx Bd.returns (hb hby dx_64) hr)
                  · refine Go.st (fun _ kq_ => XS.icmpYes X0.here hx rfl (pc0 := 56) (pc' := 62) rfl (hb hby dx_56) rfl (XT.ii_ne_t c56_26) (by decide) (by decide) kq_) ?_
                    show Go p e below s _ _ _ (s₁.setTop (mkF m 62 #[.val (.int p0), .val (.int p1), .val (.int p2), .val (.int p3), .val (.int p4), .val (.int (1 : Int32))] []))
                    refine Go.st (fun _ kq_ => XS.iload X0.here hx rfl (hb hby dx_62) rfl kq_) ?_
                    show Go p e below s _ _ _ (s₁.setTop (mkF m 64 #[.val (.int p0), .val (.int p1), .val (.int p2), .val (.int p3), .val (.int p4), .val (.int (1 : Int32))] [(.int (1 : Int32))]))
                    exact Go.ret X0 hlk (some (.int (1 : Int32))) (fun h => by rw [Bd.returns] at h; cases h) (by rw [e0]; exact ⟨own_res (z' := (1 : Int32)) (by unfold fEx; rw [if_neg c3_1, if_neg c12_2, if_neg c22_3, if_neg c28_12, if_neg c36_21, if_pos c42_24, if_neg c50_25, if_neg c56_26]) rfl, N0, rfl⟩) (by decide) (by decide) (fun fs hr => retI X0 hx Bd.returns (hb hby dx_64) hr)
              · refine Go.st (fun _ kq_ => XS.icmpYes X0.here hx rfl (pc0 := 42) (pc' := 48) rfl (hb hby dx_42) rfl (XT.ii_ne_t c42_24) (by decide) (by decide) kq_) ?_
                show Go p e below s _ _ _ (s₁.setTop (mkF m 48 #[.val (.int p0), .val (.int p1), .val (.int p2), .val (.int p3), .val (.int p4), .val (.int (0 : Int32))] []))
                refine Go.st (fun _ kq_ => XS.iloadN X0.here hx rfl (hb hby dx_48) rfl kq_) ?_
                show Go p e below s _ _ _ (s₁.setTop (mkF m 49 #[.val (.int p0), .val (.int p1), .val (.int p2), .val (.int p3), .val (.int p4), .val (.int (0 : Int32))] [(.int p0)]))
                refine Go.st (fun _ kq_ => XS.iconst X0.here hx rfl (hb hby dx_49) kq_) ?_
                show Go p e below s _ _ _ (s₁.setTop (mkF m 50 #[.val (.int p0), .val (.int p1), .val (.int p2), .val (.int p3), .val (.int p4), .val (.int (0 : Int32))] [(.int (3 : Int32)), (.int p0)]))
                by_cases c50_27 : p0 < (3 : Int32)
                · refine Go.st (fun _ kq_ => XS.icmpYes X0.here hx rfl (pc0 := 50) (pc' := 62) rfl (hb hby dx_50) rfl (XT.ii_lt_t c50_27) (by decide) (by decide) kq_) ?_
                  show Go p e below s _ _ _ (s₁.setTop (mkF m 62 #[.val (.int p0), .val (.int p1), .val (.int p2), .val (.int p3), .val (.int p4), .val (.int (0 : Int32))] []))
                  refine Go.st (fun _ kq_ => XS.iload X0.here hx rfl (hb hby dx_62) rfl kq_) ?_
                  show Go p e below s _ _ _ (s₁.setTop (mkF m 64 #[.val (.int p0), .val (.int p1), .val (.int p2), .val (.int p3), .val (.int p4), .val (.int (0 : Int32))] [(.int (0 : Int32))]))
                  exact Go.ret X0 hlk (some (.int (0 : Int32))) (fun h => by rw [Bd.returns] at h; cases h) (by rw [e0]; exact ⟨own_res (z' := (0 : Int32)) (by unfold fEx; rw [if_neg c3_1, if_neg c12_2, if_neg c22_3, if_neg c28_12, if_neg c36_21, if_neg c42_24, if_pos c50_27]) rfl, N0, rfl⟩) (by decide) (by decide) (fun fs hr => retI X0 hx Bd.returns (hb hby dx_64) hr)
                · refine Go.st (fun _ kq_ => XS.icmpNo X0.here hx rfl (hb hby dx_50) rfl (XT.ii_lt_f c50_27) kq_) ?_
                  show Go p e below s _ _ _ (s₁.setTop (mkF m 53 #[.val (.int p0), .val (.int p1), .val (.int p2), .val (.int p3), .val (.int p4), .val (.int (0 : Int32))] []))
                  refine Go.st (fun _ kq_ => XS.iloadN X0.here hx rfl (hb hby dx_53) rfl kq_) ?_
                  show Go p e below s _ _ _ (s₁.setTop (mkF m 54 #[.val (.int p0), .val (.int p1), .val (.int p2), .val (.int p3), .val (.int p4), .val (.int (0 : Int32))] [(.int p3)]))
                  refine Go.st (fun _ kq_ => XS.iload X0.here hx rfl (hb hby dx_54) rfl kq_) ?_
                  show Go p e below s _ _ _ (s₁.setTop (mkF m 56 #[.val (.int p0), .val (.int p1), .val (.int p2), .val (.int p3), .val (.int p4), .val (.int (0 : Int32))] [(.int p4), (.int p3)]))
                  by_cases c56_28 : p3 = p4
                  · refine Go.st (fun _ kq_ => XS.icmpNo X0.here hx rfl (hb hby dx_56) rfl (XT.ii_ne_f c56_28) kq_) ?_
                    show Go p e below s _ _ _ (s₁.setTop (mkF m 59 #[.val (.int p0), .val (.int p1), .val (.int p2), .val (.int p3), .val (.int p4), .val (.int (0 : Int32))] []))
                    refine Go.st (fun _ kq_ => XT.iincV X0.here hx rfl (1 : Int32) (hb hby dx_59) rfl rfl (l' := #[.val (.int p0), .val (.int p1), .val (.int p2), .val (.int p3), .val (.int p4), .val (.int (1 : Int32))]) rfl kq_) ?_
                    show Go p e below s _ _ _ (s₁.setTop (mkF m 62 #[.val (.int p0), .val (.int p1), .val (.int p2), .val (.int p3), .val (.int p4), .val (.int (1 : Int32))] []))
                    refine Go.st (fun _ kq_ => XS.iload X0.here hx rfl (hb hby dx_62) rfl kq_) ?_
                    show Go p e below s _ _ _ (s₁.setTop (mkF m 64 #[.val (.int p0), .val (.int p1), .val (.int p2), .val (.int p3), .val (.int p4), .val (.int (1 : Int32))] [(.int (1 : Int32))]))
                    exact Go.ret X0 hlk (some (.int (1 : Int32))) (fun h => by rw [Bd.returns] at h; cases h) (by rw [e0]; exact ⟨own_res (z' := (1 : Int32)) (by unfold fEx; rw [if_neg c3_1, if_neg c12_2, if_neg c22_3, if_neg c28_12, if_neg c36_21, if_neg c42_24, if_neg c50_27, if_pos c56_28]) rfl, N0, rfl⟩) (by decide) (by decide) (fun fs hr => retI X0 hx Bd.returns (hb hby dx_64) hr)
                  · refine Go.st (fun _ kq_ => XS.icmpYes X0.here hx rfl (pc0 := 56) (pc' := 62) rfl (hb hby dx_56) rfl (XT.ii_ne_t c56_28) (by decide) (by decide) kq_) ?_
                    show Go p e below s _ _ _ (s₁.setTop (mkF m 62 #[.val (.int p0), .val (.int p1), .val (.int p2), .val (.int p3), .val (.int p4), .val (.int (0 : Int32))] []))
                    refine Go.st (fun _ kq_ => XS.iload X0.here hx rfl (hb hby dx_62) rfl kq_) ?_
                    show Go p e below s _ _ _ (s₁.setTop (mkF m 64 #[.val (.int p0), .val (.int p1), .val (.int p2), .val (.int p3), .val (.int p4), .val (.int (0 : Int32))] [(.int (0 : Int32))]))
                    exact Go.ret X0 hlk (some (.int (0 : Int32))) (fun h => by rw [Bd.returns] at h; cases h) (by rw [e0]; exact ⟨own_res (z' := (0 : Int32)) (by unfold fEx; rw [if_neg c3_1, if_neg c12_2, if_neg c22_3, if_neg c28_12, if_neg c36_21, if_neg c42_24, if_neg c50_27, if_neg c56_28]) rfl, N0, rfl⟩) (by decide) (by decide) (fun fs hr => retI X0 hx Bd.returns (hb hby dx_64) hr)
  obtain ⟨s2, o2, st2, r2⟩ := G
  exact ⟨s2, o2, castTop (efx m p0 p1 p2 p3 p4) st2, r2⟩
theorem own_n3 (x : Int32) : 0 ≤ (x &&& 3).toInt ∧ (x &&& 3).toInt ≤ 3 := by
  have h1 := c_mask x 3 2 (by decide) (by decide)
  omega
theorem own_up {n : Int32} {j k : Int32} (q : n < j) (h : j < k) : n < k := by
  rw [own_lt] at *
  omega
set_option maxHeartbeats 4000000 in
theorem own_q0_m1 (n t1 t2 t3 : Int32) (h0 : 0 ≤ n.toInt ∧ n.toInt ≤ 3) (h1 : n < 1) : (0 : Int32) = fEx n t1 t2 t3 (-1) := by
  unfold fEx
  simp only [own_lt, own_eq, Int32.reduceToInt] at *
  repeat' split
  all_goals (try simp only [Int32.reduceAdd, Int32.reduceToInt])
  all_goals first | rfl | omega | (exfalso; omega) | exact absurd trivial (by assumption)
set_option maxHeartbeats 4000000 in
theorem own_q0_m2 (n t1 t2 t3 : Int32) (h0 : 0 ≤ n.toInt ∧ n.toInt ≤ 3) (h1 : n < 1) : (0 : Int32) = fEx n t1 t2 t3 (-2) := by
  unfold fEx
  simp only [own_lt, own_eq, Int32.reduceToInt] at *
  repeat' split
  all_goals (try simp only [Int32.reduceAdd, Int32.reduceToInt])
  all_goals first | rfl | omega | (exfalso; omega) | exact absurd trivial (by assumption)
set_option maxHeartbeats 4000000 in
theorem own_q0_0 (n t1 t2 t3 : Int32) (h0 : 0 ≤ n.toInt ∧ n.toInt ≤ 3) (h1 : n < 1) : (0 : Int32) = fEx n t1 t2 t3 (0) := by
  unfold fEx
  simp only [own_lt, own_eq, Int32.reduceToInt] at *
  repeat' split
  all_goals (try simp only [Int32.reduceAdd, Int32.reduceToInt])
  all_goals first | rfl | omega | (exfalso; omega) | exact absurd trivial (by assumption)
set_option maxHeartbeats 4000000 in
theorem own_q0_1 (n t1 t2 t3 : Int32) (h0 : 0 ≤ n.toInt ∧ n.toInt ≤ 3) (h1 : n < 1) : (0 : Int32) = fEx n t1 t2 t3 (1) := by
  unfold fEx
  simp only [own_lt, own_eq, Int32.reduceToInt] at *
  repeat' split
  all_goals (try simp only [Int32.reduceAdd, Int32.reduceToInt])
  all_goals first | rfl | omega | (exfalso; omega) | exact absurd trivial (by assumption)
set_option maxHeartbeats 4000000 in
theorem own_q0_2 (n t1 t2 t3 : Int32) (h0 : 0 ≤ n.toInt ∧ n.toInt ≤ 3) (h1 : n < 1) : (0 : Int32) = fEx n t1 t2 t3 (2) := by
  unfold fEx
  simp only [own_lt, own_eq, Int32.reduceToInt] at *
  repeat' split
  all_goals (try simp only [Int32.reduceAdd, Int32.reduceToInt])
  all_goals first | rfl | omega | (exfalso; omega) | exact absurd trivial (by assumption)
set_option maxHeartbeats 4000000 in
theorem own_q1_m1 (n t1 t2 t3 : Int32) (h0 : 0 ≤ n.toInt ∧ n.toInt ≤ 3) (h1 : ¬ n < 1) (h2 : n < 2) : (0 : Int32) + 1 = fEx n t1 t2 t3 (-1) := by
  unfold fEx
  simp only [own_lt, own_eq, Int32.reduceToInt] at *
  repeat' split
  all_goals (try simp only [Int32.reduceAdd, Int32.reduceToInt])
  all_goals first | rfl | omega | (exfalso; omega) | exact absurd trivial (by assumption)
set_option maxHeartbeats 4000000 in
theorem own_q1_m2 (n t1 t2 t3 : Int32) (h0 : 0 ≤ n.toInt ∧ n.toInt ≤ 3) (h1 : ¬ n < 1) (h2 : n < 2) : (0 : Int32) = fEx n t1 t2 t3 (-2) := by
  unfold fEx
  simp only [own_lt, own_eq, Int32.reduceToInt] at *
  repeat' split
  all_goals (try simp only [Int32.reduceAdd, Int32.reduceToInt])
  all_goals first | rfl | omega | (exfalso; omega) | exact absurd trivial (by assumption)
set_option maxHeartbeats 4000000 in
theorem own_q1_0 (n t1 t2 t3 : Int32) (h0 : 0 ≤ n.toInt ∧ n.toInt ≤ 3) (h1 : ¬ n < 1) (h2 : n < 2) : (ad 0 t1 (0 : Int32)) = fEx n t1 t2 t3 (0) := by
  unfold fEx
  unfold ad
  simp only [own_lt, own_eq, Int32.reduceToInt] at *
  repeat' split
  all_goals (try simp only [Int32.reduceAdd, Int32.reduceToInt])
  all_goals first | rfl | omega | (exfalso; omega) | exact absurd trivial (by assumption)
set_option maxHeartbeats 4000000 in
theorem own_q1_1 (n t1 t2 t3 : Int32) (h0 : 0 ≤ n.toInt ∧ n.toInt ≤ 3) (h1 : ¬ n < 1) (h2 : n < 2) : (ad 1 t1 (0 : Int32)) = fEx n t1 t2 t3 (1) := by
  unfold fEx
  unfold ad
  simp only [own_lt, own_eq, Int32.reduceToInt] at *
  repeat' split
  all_goals (try simp only [Int32.reduceAdd, Int32.reduceToInt])
  all_goals first | rfl | omega | (exfalso; omega) | exact absurd trivial (by assumption)
set_option maxHeartbeats 4000000 in
theorem own_q1_2 (n t1 t2 t3 : Int32) (h0 : 0 ≤ n.toInt ∧ n.toInt ≤ 3) (h1 : ¬ n < 1) (h2 : n < 2) : (ad 2 t1 (0 : Int32)) = fEx n t1 t2 t3 (2) := by
  unfold fEx
  unfold ad
  simp only [own_lt, own_eq, Int32.reduceToInt] at *
  repeat' split
  all_goals (try simp only [Int32.reduceAdd, Int32.reduceToInt])
  all_goals first | rfl | omega | (exfalso; omega) | exact absurd trivial (by assumption)
set_option maxHeartbeats 4000000 in
theorem own_q2_m1 (n t1 t2 t3 : Int32) (h0 : 0 ≤ n.toInt ∧ n.toInt ≤ 3) (h1 : ¬ n < 1) (h1 : ¬ n < 2) (h2 : n < 3) : (0 : Int32) + 1 + 1 = fEx n t1 t2 t3 (-1) := by
  unfold fEx
  simp only [own_lt, own_eq, Int32.reduceToInt] at *
  repeat' split
  all_goals (try simp only [Int32.reduceAdd, Int32.reduceToInt])
  all_goals first | rfl | omega | (exfalso; omega) | exact absurd trivial (by assumption)
set_option maxHeartbeats 4000000 in
theorem own_q2_m2 (n t1 t2 t3 : Int32) (h0 : 0 ≤ n.toInt ∧ n.toInt ≤ 3) (h1 : ¬ n < 1) (h1 : ¬ n < 2) (h2 : n < 3) : (0 : Int32) = fEx n t1 t2 t3 (-2) := by
  unfold fEx
  simp only [own_lt, own_eq, Int32.reduceToInt] at *
  repeat' split
  all_goals (try simp only [Int32.reduceAdd, Int32.reduceToInt])
  all_goals first | rfl | omega | (exfalso; omega) | exact absurd trivial (by assumption)
set_option maxHeartbeats 4000000 in
theorem own_q2_0 (n t1 t2 t3 : Int32) (h0 : 0 ≤ n.toInt ∧ n.toInt ≤ 3) (h1 : ¬ n < 1) (h1 : ¬ n < 2) (h2 : n < 3) : (ad 0 t2 (ad 0 t1 (0 : Int32))) = fEx n t1 t2 t3 (0) := by
  unfold fEx
  unfold ad
  simp only [own_lt, own_eq, Int32.reduceToInt] at *
  repeat' split
  all_goals (try simp only [Int32.reduceAdd, Int32.reduceToInt])
  all_goals first | rfl | omega | (exfalso; omega) | exact absurd trivial (by assumption)
set_option maxHeartbeats 4000000 in
theorem own_q2_1 (n t1 t2 t3 : Int32) (h0 : 0 ≤ n.toInt ∧ n.toInt ≤ 3) (h1 : ¬ n < 1) (h1 : ¬ n < 2) (h2 : n < 3) : (ad 1 t2 (ad 1 t1 (0 : Int32))) = fEx n t1 t2 t3 (1) := by
  unfold fEx
  unfold ad
  simp only [own_lt, own_eq, Int32.reduceToInt] at *
  repeat' split
  all_goals (try simp only [Int32.reduceAdd, Int32.reduceToInt])
  all_goals first | rfl | omega | (exfalso; omega) | exact absurd trivial (by assumption)
set_option maxHeartbeats 4000000 in
theorem own_q2_2 (n t1 t2 t3 : Int32) (h0 : 0 ≤ n.toInt ∧ n.toInt ≤ 3) (h1 : ¬ n < 1) (h1 : ¬ n < 2) (h2 : n < 3) : (ad 2 t2 (ad 2 t1 (0 : Int32))) = fEx n t1 t2 t3 (2) := by
  unfold fEx
  unfold ad
  simp only [own_lt, own_eq, Int32.reduceToInt] at *
  repeat' split
  all_goals (try simp only [Int32.reduceAdd, Int32.reduceToInt])
  all_goals first | rfl | omega | (exfalso; omega) | exact absurd trivial (by assumption)
set_option maxHeartbeats 4000000 in
theorem own_q3_m1 (n t1 t2 t3 : Int32) (h0 : 0 ≤ n.toInt ∧ n.toInt ≤ 3) (h1 : ¬ n < 1) (h1 : ¬ n < 2) (h1 : ¬ n < 3) : (0 : Int32) + 1 + 1 + 1 = fEx n t1 t2 t3 (-1) := by
  unfold fEx
  simp only [own_lt, own_eq, Int32.reduceToInt] at *
  repeat' split
  all_goals (try simp only [Int32.reduceAdd, Int32.reduceToInt])
  all_goals first | rfl | omega | (exfalso; omega) | exact absurd trivial (by assumption)
set_option maxHeartbeats 4000000 in
theorem own_q3_m2 (n t1 t2 t3 : Int32) (h0 : 0 ≤ n.toInt ∧ n.toInt ≤ 3) (h1 : ¬ n < 1) (h1 : ¬ n < 2) (h1 : ¬ n < 3) : (0 : Int32) = fEx n t1 t2 t3 (-2) := by
  unfold fEx
  simp only [own_lt, own_eq, Int32.reduceToInt] at *
  repeat' split
  all_goals (try simp only [Int32.reduceAdd, Int32.reduceToInt])
  all_goals first | rfl | omega | (exfalso; omega) | exact absurd trivial (by assumption)
set_option maxHeartbeats 4000000 in
theorem own_q3_0 (n t1 t2 t3 : Int32) (h0 : 0 ≤ n.toInt ∧ n.toInt ≤ 3) (h1 : ¬ n < 1) (h1 : ¬ n < 2) (h1 : ¬ n < 3) : (ad 0 t3 (ad 0 t2 (ad 0 t1 (0 : Int32)))) = fEx n t1 t2 t3 (0) := by
  unfold fEx
  unfold ad
  simp only [own_lt, own_eq, Int32.reduceToInt] at *
  repeat' split
  all_goals (try simp only [Int32.reduceAdd, Int32.reduceToInt])
  all_goals first | rfl | omega | (exfalso; omega) | exact absurd trivial (by assumption)
set_option maxHeartbeats 4000000 in
theorem own_q3_1 (n t1 t2 t3 : Int32) (h0 : 0 ≤ n.toInt ∧ n.toInt ≤ 3) (h1 : ¬ n < 1) (h1 : ¬ n < 2) (h1 : ¬ n < 3) : (ad 1 t3 (ad 1 t2 (ad 1 t1 (0 : Int32)))) = fEx n t1 t2 t3 (1) := by
  unfold fEx
  unfold ad
  simp only [own_lt, own_eq, Int32.reduceToInt] at *
  repeat' split
  all_goals (try simp only [Int32.reduceAdd, Int32.reduceToInt])
  all_goals first | rfl | omega | (exfalso; omega) | exact absurd trivial (by assumption)
set_option maxHeartbeats 4000000 in
theorem own_q3_2 (n t1 t2 t3 : Int32) (h0 : 0 ≤ n.toInt ∧ n.toInt ≤ 3) (h1 : ¬ n < 1) (h1 : ¬ n < 2) (h1 : ¬ n < 3) : (ad 2 t3 (ad 2 t2 (ad 2 t1 (0 : Int32)))) = fEx n t1 t2 t3 (2) := by
  unfold fEx
  unfold ad
  simp only [own_lt, own_eq, Int32.reduceToInt] at *
  repeat' split
  all_goals (try simp only [Int32.reduceAdd, Int32.reduceToInt])
  all_goals first | rfl | omega | (exfalso; omega) | exact absurd trivial (by assumption)
theorem pd0_0 : parseMethodDescriptor "(I)V" = some ⟨[.int], none⟩ := by decide +kernel
theorem pd0_1 : parseMethodDescriptor "(I)I" = some ⟨[.int], some .int⟩ := by decide +kernel
theorem pd0_2 : parseMethodDescriptor "(IIIII)I" = some ⟨[.int, .int, .int, .int, .int], some .int⟩ := by decide +kernel
theorem pd0_3 : parseMethodDescriptor "(II)V" = some ⟨[.int, .int], none⟩ := by decide +kernel
theorem pn0 : plainName "com/example/element_ranker/elementranker/TagStatisticsElementCountPinLaw" = true := by first | (simp [plainName, overriddenIn]; done) | decide +kernel
theorem ef0 (m : MethodId) (x0 : Int32) (x1 : Int32) (x2 : Int32) (x3 : Int32) (x4 : Int32) (x5 : Int32) : entryFrame m #[(.int x0), (.int x1), (.int x2), (.int x3), (.int x4), (.int x5)] maxLocals = mkF m 0 #[.val (.int x0), .val (.int x1), .val (.int x2), .val (.int x3), .val (.int x4), .val (.int x5), .unset, .unset, .unset, .unset, .unset, .unset] [] := by first | (simp [entryFrame, mkF, argsToLocals, Value.category, maxLocals]; done) | rfl
def Q0 (Z : State) (p0 : Int32) (p1 : Int32) (p2 : Int32) (p3 : Int32) (p4 : Int32) (p5 : Int32) (h0 : Heap) (n0 : Nat) (v : Option Value) (h : Heap) (L : List Loc) : Prop := v = some (.int 1) ∧ Fr n0 L
set_option maxRecDepth 65536 in
set_option maxHeartbeats 40000000 in
theorem rm0 (l : Launch) (Z : State) (a0 : Array Value) (hw : ∀ d ∈ tables_1, d.before a0 Z = true) (ws : List Jvm.Cond) (p0 : Int32) (p1 : Int32) (p2 : Int32) (p3 : Int32) (p4 : Int32) (p5 : Int32) (h0 : Heap) (n0 : Nat) (O0 : Old Z n0 h0)  :
    MetFree l x (head1 (Jvm.Cond.code x code maxLocals ret :: ws) room_1) (fun A_ U_ => A_ = #[(.int p0), (.int p1), (.int p2), (.int p3), (.int p4), (.int p5)] ∧ Z.Warmed39 U_.vm ∧ U_.heap = h0) (fun _ _ _ _ _ => True) (fun _ U o U' => ∃ v L, o = .returned v ∧ Q0 Z p0 p1 p2 p3 p4 p5 h0 n0 v U'.heap L ∧ FrameEnd U o U' L room_1.cells room_1.slots) := by
  refine MetFree.of_bodySF (plainFor_of_name pn0) hisR ?_
  intro p e s m args below meth cd s₁ Bd hml0 hP hK
  obtain ⟨rfl, hZ, hh⟩ := hP
  have hx := Bd.exec
  have hby := Bd.bytes
  have hlk : meth.locks = false := BodyLoose.notSynchronized Bd
  have hml : cd.maxLocals = 12 := hml0
  have hown : s.vm.findClass "com/example/element_ranker/elementranker/TagStatisticsElementCountPinLaw" = some m.cls := findClass_of_methodNamed Bd.named
  have hnm := (name_of_methodNamed Bd.named Bd.method).1
  have X0 : Stand p l e room_1 s m #[(.int p0), (.int p1), (.int p2), (.int p3), (.int p4), (.int p5)] below meth cd s₁ [] 0 0 := Stand.of_body Bd
  have e0 : s₁.heap = h0 := by rw [← hh, Bd.state]; rfl
  have N0 := Fr.nil n0
  have G : Go p e below s room_1.cells room_1.slots (Q0 Z p0 p1 p2 p3 p4 p5 h0 n0) (s₁.setTop (mkF m 0 #[.val (.int p0), .val (.int p1), .val (.int p2), .val (.int p3), .val (.int p4), .val (.int p5), .unset, .unset, .unset, .unset, .unset, .unset] [])) := by
    show Go p e below s _ _ _ (s₁.setTop (mkF m 0 #[.val (.int p0), .val (.int p1), .val (.int p2), .val (.int p3), .val (.int p4), .val (.int p5), .unset, .unset, .unset, .unset, .unset, .unset] []))
    refine Go.st (fun _ kq_ => XS.iloadN X0.here hx rfl (hb hby at_0) rfl kq_) ?_
    show Go p e below s _ _ _ (s₁.setTop (mkF m 1 #[.val (.int p0), .val (.int p1), .val (.int p2), .val (.int p3), .val (.int p4), .val (.int p5), .unset, .unset, .unset, .unset, .unset, .unset] [(.int p0)]))
    refine Go.st (fun _ kq_ => XS.iconst X0.here hx rfl (hb hby at_1) kq_) ?_
    show Go p e below s _ _ _ (s₁.setTop (mkF m 2 #[.val (.int p0), .val (.int p1), .val (.int p2), .val (.int p3), .val (.int p4), .val (.int p5), .unset, .unset, .unset, .unset, .unset, .unset] [(.int (3 : Int32)), (.int p0)]))
    refine Go.st (fun _ kq_ => XS.iand X0.here hx rfl (hb hby at_2) rfl kq_) ?_
    show Go p e below s _ _ _ (s₁.setTop (mkF m 3 #[.val (.int p0), .val (.int p1), .val (.int p2), .val (.int p3), .val (.int p4), .val (.int p5), .unset, .unset, .unset, .unset, .unset, .unset] [(.int (p0 &&& (3 : Int32)))]))
    refine Go.st (fun _ kq_ => XS.istore X0.here hx rfl (hb hby at_3) rfl (l' := #[.val (.int p0), .val (.int p1), .val (.int p2), .val (.int p3), .val (.int p4), .val (.int p5), .val (.int (p0 &&& (3 : Int32))), .unset, .unset, .unset, .unset, .unset]) rfl kq_) ?_
    show Go p e below s _ _ _ (s₁.setTop (mkF m 5 #[.val (.int p0), .val (.int p1), .val (.int p2), .val (.int p3), .val (.int p4), .val (.int p5), .val (.int (p0 &&& (3 : Int32))), .unset, .unset, .unset, .unset, .unset] []))
    refine Go.st (fun _ kq_ => XS.iloadN X0.here hx rfl (hb hby at_5) rfl kq_) ?_
    show Go p e below s _ _ _ (s₁.setTop (mkF m 6 #[.val (.int p0), .val (.int p1), .val (.int p2), .val (.int p3), .val (.int p4), .val (.int p5), .val (.int (p0 &&& (3 : Int32))), .unset, .unset, .unset, .unset, .unset] [(.int p1)]))
    refine Go.st (fun _ kq_ => X0.ldcI hx hown (mvT hZ (own_w hw 0 rfl)) rfl (hb hby at_6) kq_) ?_
    show Go p e below s _ _ _ (s₁.setTop (mkF m 8 #[.val (.int p0), .val (.int p1), .val (.int p2), .val (.int p3), .val (.int p4), .val (.int p5), .val (.int (p0 &&& (3 : Int32))), .unset, .unset, .unset, .unset, .unset] [(.int (2147483647 : Int32)), (.int p1)]))
    refine Go.st (fun _ kq_ => XS.iand X0.here hx rfl (hb hby at_8) rfl kq_) ?_
    show Go p e below s _ _ _ (s₁.setTop (mkF m 9 #[.val (.int p0), .val (.int p1), .val (.int p2), .val (.int p3), .val (.int p4), .val (.int p5), .val (.int (p0 &&& (3 : Int32))), .unset, .unset, .unset, .unset, .unset] [(.int (p1 &&& (2147483647 : Int32)))]))
    refine Go.st (fun _ kq_ => XS.iconst X0.here hx rfl (hb hby at_9) kq_) ?_
    show Go p e below s _ _ _ (s₁.setTop (mkF m 10 #[.val (.int p0), .val (.int p1), .val (.int p2), .val (.int p3), .val (.int p4), .val (.int p5), .val (.int (p0 &&& (3 : Int32))), .unset, .unset, .unset, .unset, .unset] [(.int (3 : Int32)), (.int (p1 &&& (2147483647 : Int32)))]))
    refine Go.st (fun _ kq_ => iremM X0 hx rfl (hb hby at_10) rfl (by decide) kq_) ?_
    show Go p e below s _ _ _ (s₁.setTop (mkF m 11 #[.val (.int p0), .val (.int p1), .val (.int p2), .val (.int p3), .val (.int p4), .val (.int p5), .val (.int (p0 &&& (3 : Int32))), .unset, .unset, .unset, .unset, .unset] [(.int ((p1 &&& (2147483647 : Int32)) % (3 : Int32)))]))
    refine Go.st (fun _ kq_ => XS.istore X0.here hx rfl (hb hby at_11) rfl (l' := #[.val (.int p0), .val (.int p1), .val (.int p2), .val (.int p3), .val (.int p4), .val (.int p5), .val (.int (p0 &&& (3 : Int32))), .val (.int ((p1 &&& (2147483647 : Int32)) % (3 : Int32))), .unset, .unset, .unset, .unset]) rfl kq_) ?_
    show Go p e below s _ _ _ (s₁.setTop (mkF m 13 #[.val (.int p0), .val (.int p1), .val (.int p2), .val (.int p3), .val (.int p4), .val (.int p5), .val (.int (p0 &&& (3 : Int32))), .val (.int ((p1 &&& (2147483647 : Int32)) % (3 : Int32))), .unset, .unset, .unset, .unset] []))
    refine Go.st (fun _ kq_ => XS.iloadN X0.here hx rfl (hb hby at_13) rfl kq_) ?_
    show Go p e below s _ _ _ (s₁.setTop (mkF m 14 #[.val (.int p0), .val (.int p1), .val (.int p2), .val (.int p3), .val (.int p4), .val (.int p5), .val (.int (p0 &&& (3 : Int32))), .val (.int ((p1 &&& (2147483647 : Int32)) % (3 : Int32))), .unset, .unset, .unset, .unset] [(.int p2)]))
    refine Go.st (fun _ kq_ => X0.ldcI hx hown (mvT hZ (own_w hw 0 rfl)) rfl (hb hby at_14) kq_) ?_
    show Go p e below s _ _ _ (s₁.setTop (mkF m 16 #[.val (.int p0), .val (.int p1), .val (.int p2), .val (.int p3), .val (.int p4), .val (.int p5), .val (.int (p0 &&& (3 : Int32))), .val (.int ((p1 &&& (2147483647 : Int32)) % (3 : Int32))), .unset, .unset, .unset, .unset] [(.int (2147483647 : Int32)), (.int p2)]))
    refine Go.st (fun _ kq_ => XS.iand X0.here hx rfl (hb hby at_16) rfl kq_) ?_
    show Go p e below s _ _ _ (s₁.setTop (mkF m 17 #[.val (.int p0), .val (.int p1), .val (.int p2), .val (.int p3), .val (.int p4), .val (.int p5), .val (.int (p0 &&& (3 : Int32))), .val (.int ((p1 &&& (2147483647 : Int32)) % (3 : Int32))), .unset, .unset, .unset, .unset] [(.int (p2 &&& (2147483647 : Int32)))]))
    refine Go.st (fun _ kq_ => XS.iconst X0.here hx rfl (hb hby at_17) kq_) ?_
    show Go p e below s _ _ _ (s₁.setTop (mkF m 18 #[.val (.int p0), .val (.int p1), .val (.int p2), .val (.int p3), .val (.int p4), .val (.int p5), .val (.int (p0 &&& (3 : Int32))), .val (.int ((p1 &&& (2147483647 : Int32)) % (3 : Int32))), .unset, .unset, .unset, .unset] [(.int (3 : Int32)), (.int (p2 &&& (2147483647 : Int32)))]))
    refine Go.st (fun _ kq_ => iremM X0 hx rfl (hb hby at_18) rfl (by decide) kq_) ?_
    show Go p e below s _ _ _ (s₁.setTop (mkF m 19 #[.val (.int p0), .val (.int p1), .val (.int p2), .val (.int p3), .val (.int p4), .val (.int p5), .val (.int (p0 &&& (3 : Int32))), .val (.int ((p1 &&& (2147483647 : Int32)) % (3 : Int32))), .unset, .unset, .unset, .unset] [(.int ((p2 &&& (2147483647 : Int32)) % (3 : Int32)))]))
    refine Go.st (fun _ kq_ => XS.istore X0.here hx rfl (hb hby at_19) rfl (l' := #[.val (.int p0), .val (.int p1), .val (.int p2), .val (.int p3), .val (.int p4), .val (.int p5), .val (.int (p0 &&& (3 : Int32))), .val (.int ((p1 &&& (2147483647 : Int32)) % (3 : Int32))), .val (.int ((p2 &&& (2147483647 : Int32)) % (3 : Int32))), .unset, .unset, .unset]) rfl kq_) ?_
    show Go p e below s _ _ _ (s₁.setTop (mkF m 21 #[.val (.int p0), .val (.int p1), .val (.int p2), .val (.int p3), .val (.int p4), .val (.int p5), .val (.int (p0 &&& (3 : Int32))), .val (.int ((p1 &&& (2147483647 : Int32)) % (3 : Int32))), .val (.int ((p2 &&& (2147483647 : Int32)) % (3 : Int32))), .unset, .unset, .unset] []))
    refine Go.st (fun _ kq_ => XS.iloadN X0.here hx rfl (hb hby at_21) rfl kq_) ?_
    show Go p e below s _ _ _ (s₁.setTop (mkF m 22 #[.val (.int p0), .val (.int p1), .val (.int p2), .val (.int p3), .val (.int p4), .val (.int p5), .val (.int (p0 &&& (3 : Int32))), .val (.int ((p1 &&& (2147483647 : Int32)) % (3 : Int32))), .val (.int ((p2 &&& (2147483647 : Int32)) % (3 : Int32))), .unset, .unset, .unset] [(.int p3)]))
    refine Go.st (fun _ kq_ => X0.ldcI hx hown (mvT hZ (own_w hw 0 rfl)) rfl (hb hby at_22) kq_) ?_
    show Go p e below s _ _ _ (s₁.setTop (mkF m 24 #[.val (.int p0), .val (.int p1), .val (.int p2), .val (.int p3), .val (.int p4), .val (.int p5), .val (.int (p0 &&& (3 : Int32))), .val (.int ((p1 &&& (2147483647 : Int32)) % (3 : Int32))), .val (.int ((p2 &&& (2147483647 : Int32)) % (3 : Int32))), .unset, .unset, .unset] [(.int (2147483647 : Int32)), (.int p3)]))
    refine Go.st (fun _ kq_ => XS.iand X0.here hx rfl (hb hby at_24) rfl kq_) ?_
    show Go p e below s _ _ _ (s₁.setTop (mkF m 25 #[.val (.int p0), .val (.int p1), .val (.int p2), .val (.int p3), .val (.int p4), .val (.int p5), .val (.int (p0 &&& (3 : Int32))), .val (.int ((p1 &&& (2147483647 : Int32)) % (3 : Int32))), .val (.int ((p2 &&& (2147483647 : Int32)) % (3 : Int32))), .unset, .unset, .unset] [(.int (p3 &&& (2147483647 : Int32)))]))
    refine Go.st (fun _ kq_ => XS.iconst X0.here hx rfl (hb hby at_25) kq_) ?_
    show Go p e below s _ _ _ (s₁.setTop (mkF m 26 #[.val (.int p0), .val (.int p1), .val (.int p2), .val (.int p3), .val (.int p4), .val (.int p5), .val (.int (p0 &&& (3 : Int32))), .val (.int ((p1 &&& (2147483647 : Int32)) % (3 : Int32))), .val (.int ((p2 &&& (2147483647 : Int32)) % (3 : Int32))), .unset, .unset, .unset] [(.int (3 : Int32)), (.int (p3 &&& (2147483647 : Int32)))]))
    refine Go.st (fun _ kq_ => iremM X0 hx rfl (hb hby at_26) rfl (by decide) kq_) ?_
    show Go p e below s _ _ _ (s₁.setTop (mkF m 27 #[.val (.int p0), .val (.int p1), .val (.int p2), .val (.int p3), .val (.int p4), .val (.int p5), .val (.int (p0 &&& (3 : Int32))), .val (.int ((p1 &&& (2147483647 : Int32)) % (3 : Int32))), .val (.int ((p2 &&& (2147483647 : Int32)) % (3 : Int32))), .unset, .unset, .unset] [(.int ((p3 &&& (2147483647 : Int32)) % (3 : Int32)))]))
    refine Go.st (fun _ kq_ => XS.istore X0.here hx rfl (hb hby at_27) rfl (l' := #[.val (.int p0), .val (.int p1), .val (.int p2), .val (.int p3), .val (.int p4), .val (.int p5), .val (.int (p0 &&& (3 : Int32))), .val (.int ((p1 &&& (2147483647 : Int32)) % (3 : Int32))), .val (.int ((p2 &&& (2147483647 : Int32)) % (3 : Int32))), .val (.int ((p3 &&& (2147483647 : Int32)) % (3 : Int32))), .unset, .unset]) rfl kq_) ?_
    show Go p e below s _ _ _ (s₁.setTop (mkF m 29 #[.val (.int p0), .val (.int p1), .val (.int p2), .val (.int p3), .val (.int p4), .val (.int p5), .val (.int (p0 &&& (3 : Int32))), .val (.int ((p1 &&& (2147483647 : Int32)) % (3 : Int32))), .val (.int ((p2 &&& (2147483647 : Int32)) % (3 : Int32))), .val (.int ((p3 &&& (2147483647 : Int32)) % (3 : Int32))), .unset, .unset] []))
    obtain ⟨T1, h1, X1, e1, E1, A1, D1, -, st1⟩ := newO X0 hx hZ hown (own_w hw 1 rfl) (own_w hw 2 rfl) (own_w hw 3 rfl) e0 (g := (mkF m 29 #[.val (.int p0), .val (.int p1), .val (.int p2), .val (.int p3), .val (.int p4), .val (.int p5), .val (.int (p0 &&& (3 : Int32))), .val (.int ((p1 &&& (2147483647 : Int32)) % (3 : Int32))), .val (.int ((p2 &&& (2147483647 : Int32)) % (3 : Int32))), .val (.int ((p3 &&& (2147483647 : Int32)) % (3 : Int32))), .unset, .unset] [])) rfl (hb hby at_29) (by decide) (by decide)
    obtain ⟨a1, g1⟩ : ∃ z, z = h0.size := ⟨_, rfl⟩
    rw [← g1] at A1 D1 st1
    have g_a1 : n0 ≤ a1 := Nat.le_trans (own_old O0) (Nat.le_of_eq g1.symm)
    have O1 := O0.ext E1
    have E_a1 : Exa Z h1 a1 "com/example/element_ranker/elementranker/TagStatistics" := A1
    have F_a1_elementCounts : Fld Z h1 a1 "com/example/element_ranker/elementranker/TagStatistics" "elementCounts" "[I" .null := D1 (Or.inr (own_w hw 12 rfl)) (ty := (.array .int)) (by decide)
    have F_a1_totalLengths : Fld Z h1 a1 "com/example/element_ranker/elementranker/TagStatistics" "totalLengths" "[J" .null := D1 (Or.inr (own_w hw 15 rfl)) (ty := (.array .long)) (by decide)
    have F_a1_elementCount : Fld Z h1 a1 "com/example/element_ranker/elementranker/TagStatistics" "elementCount" "I" (.int (0 : Int32)) := D1 (Or.inl (own_w hw 22 rfl)) (ty := .int) (by decide)
    have F_a1_totalLength : Fld Z h1 a1 "com/example/element_ranker/elementranker/TagStatistics" "totalLength" "J" (.long (0 : Int64)) := D1 (Or.inl (own_w hw 33 rfl)) (ty := .long) (by decide)
    refine Go.st st1 ?_
    show Go p e below s _ _ _ (T1.setTop (mkF m 32 #[.val (.int p0), .val (.int p1), .val (.int p2), .val (.int p3), .val (.int p4), .val (.int p5), .val (.int (p0 &&& (3 : Int32))), .val (.int ((p1 &&& (2147483647 : Int32)) % (3 : Int32))), .val (.int ((p2 &&& (2147483647 : Int32)) % (3 : Int32))), .val (.int ((p3 &&& (2147483647 : Int32)) % (3 : Int32))), .unset, .unset] [(.ref a1)]))
    refine Go.st (fun _ kq_ => XS.dup X1.here hx rfl (hb hby at_32) rfl rfl kq_) ?_
    show Go p e below s _ _ _ (T1.setTop (mkF m 33 #[.val (.int p0), .val (.int p1), .val (.int p2), .val (.int p3), .val (.int p4), .val (.int p5), .val (.int (p0 &&& (3 : Int32))), .val (.int ((p1 &&& (2147483647 : Int32)) % (3 : Int32))), .val (.int ((p2 &&& (2147483647 : Int32)) % (3 : Int32))), .val (.int ((p3 &&& (2147483647 : Int32)) % (3 : Int32))), .unset, .unset] [(.ref a1), (.ref a1)]))
    refine Go.st (fun _ kq_ => XS.iconst X1.here hx rfl (hb hby at_33) kq_) ?_
    show Go p e below s _ _ _ (T1.setTop (mkF m 34 #[.val (.int p0), .val (.int p1), .val (.int p2), .val (.int p3), .val (.int p4), .val (.int p5), .val (.int (p0 &&& (3 : Int32))), .val (.int ((p1 &&& (2147483647 : Int32)) % (3 : Int32))), .val (.int ((p2 &&& (2147483647 : Int32)) % (3 : Int32))), .val (.int ((p3 &&& (2147483647 : Int32)) % (3 : Int32))), .unset, .unset] [(.int (3 : Int32)), (.ref a1), (.ref a1)]))
    obtain ⟨_, _, ⟨T2, L2, k2, n2⟩, -, X2, ⟨Lc2, hQ2, l2, y2, z2⟩, st2⟩ := X1.specialBack hx (y := (⟨"com/example/element_ranker/elementranker/TagStatistics", "<init>", "(I)V"⟩ : MethodName)) rfl hown (mvT hZ (own_w hw 4 rfl)) (mvT hZ (own_w hw 5 rfl)) (mvT hZ (own_w hw 6 rfl)) (by decide) (backOf (W := 1) (rmi l Z a0 hw [] a1 h1 n0 O1 E_a1 F_a1_elementCounts F_a1_totalLengths F_a1_elementCount F_a1_totalLength g_a1) hZ (own_w hw 6 rfl) (own_w hw 3 rfl) (by decide) (by decide)) (g := (mkF m 34 #[.val (.int p0), .val (.int p1), .val (.int p2), .val (.int p3), .val (.int p4), .val (.int p5), .val (.int (p0 &&& (3 : Int32))), .val (.int ((p1 &&& (2147483647 : Int32)) % (3 : Int32))), .val (.int ((p2 &&& (2147483647 : Int32)) % (3 : Int32))), .val (.int ((p3 &&& (2147483647 : Int32)) % (3 : Int32))), .unset, .unset] [(.int (3 : Int32)), (.ref a1), (.ref a1)])) rfl (by rw [hml]; rfl) (Steps.refl _) (a := a1) (argsL := [(.int (3 : Int32))]) (rest := [(.ref a1)]) (lenOf pd0_0 rfl) rfl (by show 2 * 0 + _ ≤ _; exact Nat.le_of_eq rfl) (hb hby at_34) (fun _ _ => ⟨rfl, e1, (by decide : 1 + 2 ≤ _), (by decide : 4 + 6 ≤ _)⟩)
    dsimp only [Pt.U, Pt.locs, Pt.cells, Pt.slots] at X2 l2 y2 z2 st2 hQ2
    subst l2 y2 z2
    obtain ⟨b2, kb2, d2, kd2, rfl, Nc2, Kc2, gb2, szb2, gd2, szd2, ned2, NE_a1, NF_a1_elementCounts, NF_a1_totalLengths, NF_a1_elementCount, NF_a1_totalLength, V_b2, V_d2⟩ := hQ2
    have N2 := Fr.app N0 Nc2
    have g_b2 : n0 ≤ b2 := gb2
    have ne_a1_b2 : a1 ≠ b2 := Nat.ne_of_lt (Nat.lt_of_lt_of_le E_a1.lt szb2)
    have g_d2 : n0 ≤ d2 := gd2
    have ne_a1_d2 : a1 ≠ d2 := Nat.ne_of_lt (Nat.lt_of_lt_of_le E_a1.lt szd2)
    have O2 := O1.keep Kc2 (allS g_a1 all0)
    have E_a1 := NE_a1
    have F_a1_elementCounts := NF_a1_elementCounts
    have F_a1_totalLengths := NF_a1_totalLengths
    have F_a1_elementCount := NF_a1_elementCount
    have F_a1_totalLength := NF_a1_totalLength
    refine Go.tr st2 ?_
    show Go p e below s _ _ _ (T2.setTop (mkF m 37 #[.val (.int p0), .val (.int p1), .val (.int p2), .val (.int p3), .val (.int p4), .val (.int p5), .val (.int (p0 &&& (3 : Int32))), .val (.int ((p1 &&& (2147483647 : Int32)) % (3 : Int32))), .val (.int ((p2 &&& (2147483647 : Int32)) % (3 : Int32))), .val (.int ((p3 &&& (2147483647 : Int32)) % (3 : Int32))), .unset, .unset] [(.ref a1)]))
    refine Go.st (fun _ kq_ => XS.astore X2.here hx rfl (hb hby at_37) rfl rfl (l' := #[.val (.int p0), .val (.int p1), .val (.int p2), .val (.int p3), .val (.int p4), .val (.int p5), .val (.int (p0 &&& (3 : Int32))), .val (.int ((p1 &&& (2147483647 : Int32)) % (3 : Int32))), .val (.int ((p2 &&& (2147483647 : Int32)) % (3 : Int32))), .val (.int ((p3 &&& (2147483647 : Int32)) % (3 : Int32))), .val (.ref a1), .unset]) rfl kq_) ?_
    show Go p e below s _ _ _ (T2.setTop (mkF m 39 #[.val (.int p0), .val (.int p1), .val (.int p2), .val (.int p3), .val (.int p4), .val (.int p5), .val (.int (p0 &&& (3 : Int32))), .val (.int ((p1 &&& (2147483647 : Int32)) % (3 : Int32))), .val (.int ((p2 &&& (2147483647 : Int32)) % (3 : Int32))), .val (.int ((p3 &&& (2147483647 : Int32)) % (3 : Int32))), .val (.ref a1), .unset] []))
    refine Go.st (fun _ kq_ => XS.iload X2.here hx rfl (hb hby at_39) rfl kq_) ?_
    show Go p e below s _ _ _ (T2.setTop (mkF m 41 #[.val (.int p0), .val (.int p1), .val (.int p2), .val (.int p3), .val (.int p4), .val (.int p5), .val (.int (p0 &&& (3 : Int32))), .val (.int ((p1 &&& (2147483647 : Int32)) % (3 : Int32))), .val (.int ((p2 &&& (2147483647 : Int32)) % (3 : Int32))), .val (.int ((p3 &&& (2147483647 : Int32)) % (3 : Int32))), .val (.ref a1), .unset] [(.int (p0 &&& (3 : Int32)))]))
    refine Go.st (fun _ kq_ => XS.iconst X2.here hx rfl (hb hby at_41) kq_) ?_
    show Go p e below s _ _ _ (T2.setTop (mkF m 42 #[.val (.int p0), .val (.int p1), .val (.int p2), .val (.int p3), .val (.int p4), .val (.int p5), .val (.int (p0 &&& (3 : Int32))), .val (.int ((p1 &&& (2147483647 : Int32)) % (3 : Int32))), .val (.int ((p2 &&& (2147483647 : Int32)) % (3 : Int32))), .val (.int ((p3 &&& (2147483647 : Int32)) % (3 : Int32))), .val (.ref a1), .unset] [(.int (1 : Int32)), (.int (p0 &&& (3 : Int32)))]))
    by_cases c42_3 : (p0 &&& (3 : Int32)) < (1 : Int32)
    · refine Go.st (fun _ kq_ => XS.icmpYes X2.here hx rfl (pc0 := 42) (pc' := 54) rfl (hb hby at_42) rfl (XT.ii_lt_t c42_3) (by decide) (by decide) kq_) ?_
      show Go p e below s _ _ _ (T2.setTop (mkF m 54 #[.val (.int p0), .val (.int p1), .val (.int p2), .val (.int p3), .val (.int p4), .val (.int p5), .val (.int (p0 &&& (3 : Int32))), .val (.int ((p1 &&& (2147483647 : Int32)) % (3 : Int32))), .val (.int ((p2 &&& (2147483647 : Int32)) % (3 : Int32))), .val (.int ((p3 &&& (2147483647 : Int32)) % (3 : Int32))), .val (.ref a1), .unset] []))
      refine Go.st (fun _ kq_ => XS.iload X2.here hx rfl (hb hby at_54) rfl kq_) ?_
      show Go p e below s _ _ _ (T2.setTop (mkF m 56 #[.val (.int p0), .val (.int p1), .val (.int p2), .val (.int p3), .val (.int p4), .val (.int p5), .val (.int (p0 &&& (3 : Int32))), .val (.int ((p1 &&& (2147483647 : Int32)) % (3 : Int32))), .val (.int ((p2 &&& (2147483647 : Int32)) % (3 : Int32))), .val (.int ((p3 &&& (2147483647 : Int32)) % (3 : Int32))), .val (.ref a1), .unset] [(.int (p0 &&& (3 : Int32)))]))
      refine Go.st (fun _ kq_ => XS.iconst X2.here hx rfl (hb hby at_56) kq_) ?_
      show Go p e below s _ _ _ (T2.setTop (mkF m 57 #[.val (.int p0), .val (.int p1), .val (.int p2), .val (.int p3), .val (.int p4), .val (.int p5), .val (.int (p0 &&& (3 : Int32))), .val (.int ((p1 &&& (2147483647 : Int32)) % (3 : Int32))), .val (.int ((p2 &&& (2147483647 : Int32)) % (3 : Int32))), .val (.int ((p3 &&& (2147483647 : Int32)) % (3 : Int32))), .val (.ref a1), .unset] [(.int (2 : Int32)), (.int (p0 &&& (3 : Int32)))]))
      refine Go.st (fun _ kq_ => XS.icmpYes X2.here hx rfl (pc0 := 57) (pc' := 69) rfl (hb hby at_57) rfl (XT.ii_lt_t (own_up c42_3 (by decide))) (by decide) (by decide) kq_) ?_
      show Go p e below s _ _ _ (T2.setTop (mkF m 69 #[.val (.int p0), .val (.int p1), .val (.int p2), .val (.int p3), .val (.int p4), .val (.int p5), .val (.int (p0 &&& (3 : Int32))), .val (.int ((p1 &&& (2147483647 : Int32)) % (3 : Int32))), .val (.int ((p2 &&& (2147483647 : Int32)) % (3 : Int32))), .val (.int ((p3 &&& (2147483647 : Int32)) % (3 : Int32))), .val (.ref a1), .unset] []))
      refine Go.st (fun _ kq_ => XS.iload X2.here hx rfl (hb hby at_69) rfl kq_) ?_
      show Go p e below s _ _ _ (T2.setTop (mkF m 71 #[.val (.int p0), .val (.int p1), .val (.int p2), .val (.int p3), .val (.int p4), .val (.int p5), .val (.int (p0 &&& (3 : Int32))), .val (.int ((p1 &&& (2147483647 : Int32)) % (3 : Int32))), .val (.int ((p2 &&& (2147483647 : Int32)) % (3 : Int32))), .val (.int ((p3 &&& (2147483647 : Int32)) % (3 : Int32))), .val (.ref a1), .unset] [(.int (p0 &&& (3 : Int32)))]))
      refine Go.st (fun _ kq_ => XS.iconst X2.here hx rfl (hb hby at_71) kq_) ?_
      show Go p e below s _ _ _ (T2.setTop (mkF m 72 #[.val (.int p0), .val (.int p1), .val (.int p2), .val (.int p3), .val (.int p4), .val (.int p5), .val (.int (p0 &&& (3 : Int32))), .val (.int ((p1 &&& (2147483647 : Int32)) % (3 : Int32))), .val (.int ((p2 &&& (2147483647 : Int32)) % (3 : Int32))), .val (.int ((p3 &&& (2147483647 : Int32)) % (3 : Int32))), .val (.ref a1), .unset] [(.int (3 : Int32)), (.int (p0 &&& (3 : Int32)))]))
      refine Go.st (fun _ kq_ => XS.icmpYes X2.here hx rfl (pc0 := 72) (pc' := 87) rfl (hb hby at_72) rfl (XT.ii_lt_t (own_up c42_3 (by decide))) (by decide) (by decide) kq_) ?_
      show Go p e below s _ _ _ (T2.setTop (mkF m 87 #[.val (.int p0), .val (.int p1), .val (.int p2), .val (.int p3), .val (.int p4), .val (.int p5), .val (.int (p0 &&& (3 : Int32))), .val (.int ((p1 &&& (2147483647 : Int32)) % (3 : Int32))), .val (.int ((p2 &&& (2147483647 : Int32)) % (3 : Int32))), .val (.int ((p3 &&& (2147483647 : Int32)) % (3 : Int32))), .val (.ref a1), .unset] []))
      refine Go.st (fun _ kq_ => XS.aload X2.here hx rfl (hb hby at_87) rfl rfl kq_) ?_
      show Go p e below s _ _ _ (T2.setTop (mkF m 89 #[.val (.int p0), .val (.int p1), .val (.int p2), .val (.int p3), .val (.int p4), .val (.int p5), .val (.int (p0 &&& (3 : Int32))), .val (.int ((p1 &&& (2147483647 : Int32)) % (3 : Int32))), .val (.int ((p2 &&& (2147483647 : Int32)) % (3 : Int32))), .val (.int ((p3 &&& (2147483647 : Int32)) % (3 : Int32))), .val (.ref a1), .unset] [(.ref a1)]))
      refine Go.st (fun _ kq_ => XS.iconst X2.here hx rfl (hb hby at_89) kq_) ?_
      show Go p e below s _ _ _ (T2.setTop (mkF m 90 #[.val (.int p0), .val (.int p1), .val (.int p2), .val (.int p3), .val (.int p4), .val (.int p5), .val (.int (p0 &&& (3 : Int32))), .val (.int ((p1 &&& (2147483647 : Int32)) % (3 : Int32))), .val (.int ((p2 &&& (2147483647 : Int32)) % (3 : Int32))), .val (.int ((p3 &&& (2147483647 : Int32)) % (3 : Int32))), .val (.ref a1), .unset] [(.int (-1 : Int32)), (.ref a1)]))
      obtain ⟨cq4, kq4, qa4, qb4, qc4⟩ := isOf hZ rfl E_a1
      obtain ⟨_, _, ⟨T4, L4, k4, n4⟩, -, X4, ⟨Lc4, hQ4, l4, y4, z4⟩, st4⟩ := X2.virtualBack hx (y := (⟨"com/example/element_ranker/elementranker/TagStatistics", "elementCount", "(I)I"⟩ : MethodName)) (z := (⟨"com/example/element_ranker/elementranker/TagStatistics", "elementCount", "(I)I"⟩ : MethodName)) hown (mvT hZ (own_w hw 16 rfl)) (mvT hZ (own_w hw 17 rfl)) (notFace_of_selects (args := #[]) (mvT hZ (own_w hw 19 rfl))) (mvT hZ (own_w hw 19 rfl)) (mvT hZ (own_w hw 18 rfl)) (by decide) (backOf (W := 0) (rmem1 l Z a0 hw [] a1 b2 kb2 d2 kd2 (0 : Int32) (0 : Int32) (0 : Int32) (0 : Int64) (0 : Int64) (0 : Int64) (0 : Int32) (0 : Int64) T2.heap n0 O2 E_a1 F_a1_elementCounts F_a1_totalLengths F_a1_elementCount F_a1_totalLength V_b2 V_d2) hZ (own_w hw 20 rfl) (own_w hw 3 rfl) (by decide) (by decide)) qa4 qc4 (g := (mkF m 90 #[.val (.int p0), .val (.int p1), .val (.int p2), .val (.int p3), .val (.int p4), .val (.int p5), .val (.int (p0 &&& (3 : Int32))), .val (.int ((p1 &&& (2147483647 : Int32)) % (3 : Int32))), .val (.int ((p2 &&& (2147483647 : Int32)) % (3 : Int32))), .val (.int ((p3 &&& (2147483647 : Int32)) % (3 : Int32))), .val (.ref a1), .unset] [(.int (-1 : Int32)), (.ref a1)])) rfl (by rw [hml]; rfl) (Steps.refl _) (argsL := [(.int (-1 : Int32))]) (rest := []) (lenOf pd0_1 rfl) rfl (by show 2 * 0 + _ ≤ _; exact Nat.le_of_eq rfl) (hb hby at_90) (fun _ _ => ⟨rfl, rfl, (by decide : 3 + 0 ≤ _), (by decide : 10 + 0 ≤ _)⟩)
      dsimp only [Pt.U, Pt.locs, Pt.cells, Pt.slots] at X4 l4 y4 z4 st4 hQ4
      subst l4 y4 z4
      obtain ⟨rfl, Nc4, e4⟩ := hQ4
      have N4 := Fr.app N2 Nc4
      refine Go.tr st4 ?_
      show Go p e below s _ _ _ (T4.setTop (mkF m 93 #[.val (.int p0), .val (.int p1), .val (.int p2), .val (.int p3), .val (.int p4), .val (.int p5), .val (.int (p0 &&& (3 : Int32))), .val (.int ((p1 &&& (2147483647 : Int32)) % (3 : Int32))), .val (.int ((p2 &&& (2147483647 : Int32)) % (3 : Int32))), .val (.int ((p3 &&& (2147483647 : Int32)) % (3 : Int32))), .val (.ref a1), .unset] [(.int (0 : Int32))]))
      refine Go.st (fun _ kq_ => XS.iload X4.here hx rfl (hb hby at_93) rfl kq_) ?_
      show Go p e below s _ _ _ (T4.setTop (mkF m 95 #[.val (.int p0), .val (.int p1), .val (.int p2), .val (.int p3), .val (.int p4), .val (.int p5), .val (.int (p0 &&& (3 : Int32))), .val (.int ((p1 &&& (2147483647 : Int32)) % (3 : Int32))), .val (.int ((p2 &&& (2147483647 : Int32)) % (3 : Int32))), .val (.int ((p3 &&& (2147483647 : Int32)) % (3 : Int32))), .val (.ref a1), .unset] [(.int (p0 &&& (3 : Int32))), (.int (0 : Int32))]))
      refine Go.st (fun _ kq_ => XS.iload X4.here hx rfl (hb hby at_95) rfl kq_) ?_
      show Go p e below s _ _ _ (T4.setTop (mkF m 97 #[.val (.int p0), .val (.int p1), .val (.int p2), .val (.int p3), .val (.int p4), .val (.int p5), .val (.int (p0 &&& (3 : Int32))), .val (.int ((p1 &&& (2147483647 : Int32)) % (3 : Int32))), .val (.int ((p2 &&& (2147483647 : Int32)) % (3 : Int32))), .val (.int ((p3 &&& (2147483647 : Int32)) % (3 : Int32))), .val (.ref a1), .unset] [(.int ((p1 &&& (2147483647 : Int32)) % (3 : Int32))), (.int (p0 &&& (3 : Int32))), (.int (0 : Int32))]))
      refine Go.st (fun _ kq_ => XS.iload X4.here hx rfl (hb hby at_97) rfl kq_) ?_
      show Go p e below s _ _ _ (T4.setTop (mkF m 99 #[.val (.int p0), .val (.int p1), .val (.int p2), .val (.int p3), .val (.int p4), .val (.int p5), .val (.int (p0 &&& (3 : Int32))), .val (.int ((p1 &&& (2147483647 : Int32)) % (3 : Int32))), .val (.int ((p2 &&& (2147483647 : Int32)) % (3 : Int32))), .val (.int ((p3 &&& (2147483647 : Int32)) % (3 : Int32))), .val (.ref a1), .unset] [(.int ((p2 &&& (2147483647 : Int32)) % (3 : Int32))), (.int ((p1 &&& (2147483647 : Int32)) % (3 : Int32))), (.int (p0 &&& (3 : Int32))), (.int (0 : Int32))]))
      refine Go.st (fun _ kq_ => XS.iload X4.here hx rfl (hb hby at_99) rfl kq_) ?_
      show Go p e below s _ _ _ (T4.setTop (mkF m 101 #[.val (.int p0), .val (.int p1), .val (.int p2), .val (.int p3), .val (.int p4), .val (.int p5), .val (.int (p0 &&& (3 : Int32))), .val (.int ((p1 &&& (2147483647 : Int32)) % (3 : Int32))), .val (.int ((p2 &&& (2147483647 : Int32)) % (3 : Int32))), .val (.int ((p3 &&& (2147483647 : Int32)) % (3 : Int32))), .val (.ref a1), .unset] [(.int ((p3 &&& (2147483647 : Int32)) % (3 : Int32))), (.int ((p2 &&& (2147483647 : Int32)) % (3 : Int32))), (.int ((p1 &&& (2147483647 : Int32)) % (3 : Int32))), (.int (p0 &&& (3 : Int32))), (.int (0 : Int32))]))
      refine Go.st (fun _ kq_ => XS.iconst X4.here hx rfl (hb hby at_101) kq_) ?_
      show Go p e below s _ _ _ (T4.setTop (mkF m 102 #[.val (.int p0), .val (.int p1), .val (.int p2), .val (.int p3), .val (.int p4), .val (.int p5), .val (.int (p0 &&& (3 : Int32))), .val (.int ((p1 &&& (2147483647 : Int32)) % (3 : Int32))), .val (.int ((p2 &&& (2147483647 : Int32)) % (3 : Int32))), .val (.int ((p3 &&& (2147483647 : Int32)) % (3 : Int32))), .val (.ref a1), .unset] [(.int (-1 : Int32)), (.int ((p3 &&& (2147483647 : Int32)) % (3 : Int32))), (.int ((p2 &&& (2147483647 : Int32)) % (3 : Int32))), (.int ((p1 &&& (2147483647 : Int32)) % (3 : Int32))), (.int (p0 &&& (3 : Int32))), (.int (0 : Int32))]))
      obtain ⟨_, _, ⟨T5, L5, k5, n5⟩, -, X5, ⟨Lc5, hQ5, l5, y5, z5⟩, st5⟩ := Jvm.LawKit.callS X4 hx (y := (⟨"com/example/element_ranker/elementranker/TagStatisticsElementCountPinLaw", "expected", "(IIIII)I"⟩ : MethodName)) hown (mvT hZ (own_w hw 23 rfl)) (mvT hZ (own_w hw 24 rfl)) (mvT hZ (own_w hw 25 rfl)) (mvT hZ (own_w hw 26 rfl)) (by decide) (backOf (W := 1) (rmx l Z a0 hw [] (p0 &&& (3 : Int32)) ((p1 &&& (2147483647 : Int32)) % (3 : Int32)) ((p2 &&& (2147483647 : Int32)) % (3 : Int32)) ((p3 &&& (2147483647 : Int32)) % (3 : Int32)) (-1 : Int32) T2.heap n0 O2 ) hZ (own_w hw 26 rfl) (own_w hw 25 rfl) (by decide) (by decide)) (g := (mkF m 102 #[.val (.int p0), .val (.int p1), .val (.int p2), .val (.int p3), .val (.int p4), .val (.int p5), .val (.int (p0 &&& (3 : Int32))), .val (.int ((p1 &&& (2147483647 : Int32)) % (3 : Int32))), .val (.int ((p2 &&& (2147483647 : Int32)) % (3 : Int32))), .val (.int ((p3 &&& (2147483647 : Int32)) % (3 : Int32))), .val (.ref a1), .unset] [(.int (-1 : Int32)), (.int ((p3 &&& (2147483647 : Int32)) % (3 : Int32))), (.int ((p2 &&& (2147483647 : Int32)) % (3 : Int32))), (.int ((p1 &&& (2147483647 : Int32)) % (3 : Int32))), (.int (p0 &&& (3 : Int32))), (.int (0 : Int32))])) rfl (by rw [hml]; rfl) (argsL := [(.int (p0 &&& (3 : Int32))), (.int ((p1 &&& (2147483647 : Int32)) % (3 : Int32))), (.int ((p2 &&& (2147483647 : Int32)) % (3 : Int32))), (.int ((p3 &&& (2147483647 : Int32)) % (3 : Int32))), (.int (-1 : Int32))]) (rest := [(.int (0 : Int32))]) (lenOf pd0_2 rfl) rfl (by show 2 * 0 + _ ≤ _; exact Nat.le_of_eq rfl) (hb hby at_102) (fun _ _ => ⟨rfl, e4, (by decide : 3 + 0 ≤ _), (by decide : 10 + 0 ≤ _)⟩)
      dsimp only [Pt.U, Pt.locs, Pt.cells, Pt.slots] at X5 l5 y5 z5 st5 hQ5
      subst l5 y5 z5
      obtain ⟨rfl, Nc5, e5⟩ := hQ5
      have N5 := Fr.app N4 Nc5
      refine Go.st st5 ?_
      show Go p e below s _ _ _ (T5.setTop (mkF m 105 #[.val (.int p0), .val (.int p1), .val (.int p2), .val (.int p3), .val (.int p4), .val (.int p5), .val (.int (p0 &&& (3 : Int32))), .val (.int ((p1 &&& (2147483647 : Int32)) % (3 : Int32))), .val (.int ((p2 &&& (2147483647 : Int32)) % (3 : Int32))), .val (.int ((p3 &&& (2147483647 : Int32)) % (3 : Int32))), .val (.ref a1), .unset] [(.int (fEx (p0 &&& (3 : Int32)) ((p1 &&& (2147483647 : Int32)) % (3 : Int32)) ((p2 &&& (2147483647 : Int32)) % (3 : Int32)) ((p3 &&& (2147483647 : Int32)) % (3 : Int32)) (-1 : Int32))), (.int (0 : Int32))]))
      refine Go.st (fun _ kq_ => XS.icmpNo X5.here hx rfl (hb hby at_105) rfl (XT.ii_ne_f (own_q0_m1 _ _ _ _ (own_n3 p0) c42_3)) kq_) ?_
      show Go p e below s _ _ _ (T5.setTop (mkF m 108 #[.val (.int p0), .val (.int p1), .val (.int p2), .val (.int p3), .val (.int p4), .val (.int p5), .val (.int (p0 &&& (3 : Int32))), .val (.int ((p1 &&& (2147483647 : Int32)) % (3 : Int32))), .val (.int ((p2 &&& (2147483647 : Int32)) % (3 : Int32))), .val (.int ((p3 &&& (2147483647 : Int32)) % (3 : Int32))), .val (.ref a1), .unset] []))
      refine Go.st (fun _ kq_ => XS.iconst X5.here hx rfl (hb hby at_108) kq_) ?_
      show Go p e below s _ _ _ (T5.setTop (mkF m 109 #[.val (.int p0), .val (.int p1), .val (.int p2), .val (.int p3), .val (.int p4), .val (.int p5), .val (.int (p0 &&& (3 : Int32))), .val (.int ((p1 &&& (2147483647 : Int32)) % (3 : Int32))), .val (.int ((p2 &&& (2147483647 : Int32)) % (3 : Int32))), .val (.int ((p3 &&& (2147483647 : Int32)) % (3 : Int32))), .val (.ref a1), .unset] [(.int (1 : Int32))]))
      refine Go.st (fun _ kq_ => XS.goto X5.here hx rfl (pc0 := 109) (pc' := 113) rfl (hb hby at_109) (by decide) (by decide) kq_) ?_
      show Go p e below s _ _ _ (T5.setTop (mkF m 113 #[.val (.int p0), .val (.int p1), .val (.int p2), .val (.int p3), .val (.int p4), .val (.int p5), .val (.int (p0 &&& (3 : Int32))), .val (.int ((p1 &&& (2147483647 : Int32)) % (3 : Int32))), .val (.int ((p2 &&& (2147483647 : Int32)) % (3 : Int32))), .val (.int ((p3 &&& (2147483647 : Int32)) % (3 : Int32))), .val (.ref a1), .unset] [(.int (1 : Int32))]))
      refine Go.st (fun _ kq_ => XS.istore X5.here hx rfl (hb hby at_113) rfl (l' := #[.val (.int p0), .val (.int p1), .val (.int p2), .val (.int p3), .val (.int p4), .val (.int p5), .val (.int (p0 &&& (3 : Int32))), .val (.int ((p1 &&& (2147483647 : Int32)) % (3 : Int32))), .val (.int ((p2 &&& (2147483647 : Int32)) % (3 : Int32))), .val (.int ((p3 &&& (2147483647 : Int32)) % (3 : Int32))), .val (.ref a1), .val (.int (1 : Int32))]) rfl kq_) ?_
      show Go p e below s _ _ _ (T5.setTop (mkF m 115 #[.val (.int p0), .val (.int p1), .val (.int p2), .val (.int p3), .val (.int p4), .val (.int p5), .val (.int (p0 &&& (3 : Int32))), .val (.int ((p1 &&& (2147483647 : Int32)) % (3 : Int32))), .val (.int ((p2 &&& (2147483647 : Int32)) % (3 : Int32))), .val (.int ((p3 &&& (2147483647 : Int32)) % (3 : Int32))), .val (.ref a1), .val (.int (1 : Int32))] []))
      refine Go.st (fun _ kq_ => XS.iload X5.here hx rfl (hb hby at_115) rfl kq_) ?_
      show Go p e below s _ _ _ (T5.setTop (mkF m 117 #[.val (.int p0), .val (.int p1), .val (.int p2), .val (.int p3), .val (.int p4), .val (.int p5), .val (.int (p0 &&& (3 : Int32))), .val (.int ((p1 &&& (2147483647 : Int32)) % (3 : Int32))), .val (.int ((p2 &&& (2147483647 : Int32)) % (3 : Int32))), .val (.int ((p3 &&& (2147483647 : Int32)) % (3 : Int32))), .val (.ref a1), .val (.int (1 : Int32))] [(.int (1 : Int32))]))
      refine Go.st (fun _ kq_ => XS.ifNo X5.here hx rfl (hb hby at_117) rfl (by decide) kq_) ?_
      show Go p e below s _ _ _ (T5.setTop (mkF m 120 #[.val (.int p0), .val (.int p1), .val (.int p2), .val (.int p3), .val (.int p4), .val (.int p5), .val (.int (p0 &&& (3 : Int32))), .val (.int ((p1 &&& (2147483647 : Int32)) % (3 : Int32))), .val (.int ((p2 &&& (2147483647 : Int32)) % (3 : Int32))), .val (.int ((p3 &&& (2147483647 : Int32)) % (3 : Int32))), .val (.ref a1), .val (.int (1 : Int32))] []))
      refine Go.st (fun _ kq_ => XS.aload X5.here hx rfl (hb hby at_120) rfl rfl kq_) ?_
      show Go p e below s _ _ _ (T5.setTop (mkF m 122 #[.val (.int p0), .val (.int p1), .val (.int p2), .val (.int p3), .val (.int p4), .val (.int p5), .val (.int (p0 &&& (3 : Int32))), .val (.int ((p1 &&& (2147483647 : Int32)) % (3 : Int32))), .val (.int ((p2 &&& (2147483647 : Int32)) % (3 : Int32))), .val (.int ((p3 &&& (2147483647 : Int32)) % (3 : Int32))), .val (.ref a1), .val (.int (1 : Int32))] [(.ref a1)]))
      refine Go.st (fun _ kq_ => XS.bipush X5.here hx rfl (hb hby at_122) kq_) ?_
      show Go p e below s _ _ _ (T5.setTop (mkF m 124 #[.val (.int p0), .val (.int p1), .val (.int p2), .val (.int p3), .val (.int p4), .val (.int p5), .val (.int (p0 &&& (3 : Int32))), .val (.int ((p1 &&& (2147483647 : Int32)) % (3 : Int32))), .val (.int ((p2 &&& (2147483647 : Int32)) % (3 : Int32))), .val (.int ((p3 &&& (2147483647 : Int32)) % (3 : Int32))), .val (.ref a1), .val (.int (1 : Int32))] [(.int (-2 : Int32)), (.ref a1)]))
      obtain ⟨cq6, kq6, qa6, qb6, qc6⟩ := isOf hZ e5 E_a1
      obtain ⟨_, _, ⟨T6, L6, k6, n6⟩, -, X6, ⟨Lc6, hQ6, l6, y6, z6⟩, st6⟩ := X5.virtualBack hx (y := (⟨"com/example/element_ranker/elementranker/TagStatistics", "elementCount", "(I)I"⟩ : MethodName)) (z := (⟨"com/example/element_ranker/elementranker/TagStatistics", "elementCount", "(I)I"⟩ : MethodName)) hown (mvT hZ (own_w hw 16 rfl)) (mvT hZ (own_w hw 17 rfl)) (notFace_of_selects (args := #[]) (mvT hZ (own_w hw 19 rfl))) (mvT hZ (own_w hw 19 rfl)) (mvT hZ (own_w hw 18 rfl)) (by decide) (backOf (W := 0) (rmem2 l Z a0 hw [] a1 b2 kb2 d2 kd2 (0 : Int32) (0 : Int32) (0 : Int32) (0 : Int64) (0 : Int64) (0 : Int64) (0 : Int32) (0 : Int64) T2.heap n0 O2 E_a1 F_a1_elementCounts F_a1_totalLengths F_a1_elementCount F_a1_totalLength V_b2 V_d2) hZ (own_w hw 20 rfl) (own_w hw 3 rfl) (by decide) (by decide)) qa6 qc6 (g := (mkF m 124 #[.val (.int p0), .val (.int p1), .val (.int p2), .val (.int p3), .val (.int p4), .val (.int p5), .val (.int (p0 &&& (3 : Int32))), .val (.int ((p1 &&& (2147483647 : Int32)) % (3 : Int32))), .val (.int ((p2 &&& (2147483647 : Int32)) % (3 : Int32))), .val (.int ((p3 &&& (2147483647 : Int32)) % (3 : Int32))), .val (.ref a1), .val (.int (1 : Int32))] [(.int (-2 : Int32)), (.ref a1)])) rfl (by rw [hml]; rfl) (Steps.refl _) (argsL := [(.int (-2 : Int32))]) (rest := []) (lenOf pd0_1 rfl) rfl (by show 2 * 0 + _ ≤ _; exact Nat.le_of_eq rfl) (hb hby at_124) (fun _ _ => ⟨rfl, e5, (by decide : 3 + 0 ≤ _), (by decide : 10 + 0 ≤ _)⟩)
      dsimp only [Pt.U, Pt.locs, Pt.cells, Pt.slots] at X6 l6 y6 z6 st6 hQ6
      subst l6 y6 z6
      obtain ⟨rfl, Nc6, e6⟩ := hQ6
      have N6 := Fr.app N5 Nc6
      refine Go.tr st6 ?_
      show Go p e below s _ _ _ (T6.setTop (mkF m 127 #[.val (.int p0), .val (.int p1), .val (.int p2), .val (.int p3), .val (.int p4), .val (.int p5), .val (.int (p0 &&& (3 : Int32))), .val (.int ((p1 &&& (2147483647 : Int32)) % (3 : Int32))), .val (.int ((p2 &&& (2147483647 : Int32)) % (3 : Int32))), .val (.int ((p3 &&& (2147483647 : Int32)) % (3 : Int32))), .val (.ref a1), .val (.int (1 : Int32))] [(.int (0 : Int32))]))
      refine Go.st (fun _ kq_ => XS.iload X6.here hx rfl (hb hby at_127) rfl kq_) ?_
      show Go p e below s _ _ _ (T6.setTop (mkF m 129 #[.val (.int p0), .val (.int p1), .val (.int p2), .val (.int p3), .val (.int p4), .val (.int p5), .val (.int (p0 &&& (3 : Int32))), .val (.int ((p1 &&& (2147483647 : Int32)) % (3 : Int32))), .val (.int ((p2 &&& (2147483647 : Int32)) % (3 : Int32))), .val (.int ((p3 &&& (2147483647 : Int32)) % (3 : Int32))), .val (.ref a1), .val (.int (1 : Int32))] [(.int (p0 &&& (3 : Int32))), (.int (0 : Int32))]))
      refine Go.st (fun _ kq_ => XS.iload X6.here hx rfl (hb hby at_129) rfl kq_) ?_
      show Go p e below s _ _ _ (T6.setTop (mkF m 131 #[.val (.int p0), .val (.int p1), .val (.int p2), .val (.int p3), .val (.int p4), .val (.int p5), .val (.int (p0 &&& (3 : Int32))), .val (.int ((p1 &&& (2147483647 : Int32)) % (3 : Int32))), .val (.int ((p2 &&& (2147483647 : Int32)) % (3 : Int32))), .val (.int ((p3 &&& (2147483647 : Int32)) % (3 : Int32))), .val (.ref a1), .val (.int (1 : Int32))] [(.int ((p1 &&& (2147483647 : Int32)) % (3 : Int32))), (.int (p0 &&& (3 : Int32))), (.int (0 : Int32))]))
      refine Go.st (fun _ kq_ => XS.iload X6.here hx rfl (hb hby at_131) rfl kq_) ?_
      show Go p e below s _ _ _ (T6.setTop (mkF m 133 #[.val (.int p0), .val (.int p1), .val (.int p2), .val (.int p3), .val (.int p4), .val (.int p5), .val (.int (p0 &&& (3 : Int32))), .val (.int ((p1 &&& (2147483647 : Int32)) % (3 : Int32))), .val (.int ((p2 &&& (2147483647 : Int32)) % (3 : Int32))), .val (.int ((p3 &&& (2147483647 : Int32)) % (3 : Int32))), .val (.ref a1), .val (.int (1 : Int32))] [(.int ((p2 &&& (2147483647 : Int32)) % (3 : Int32))), (.int ((p1 &&& (2147483647 : Int32)) % (3 : Int32))), (.int (p0 &&& (3 : Int32))), (.int (0 : Int32))]))
      refine Go.st (fun _ kq_ => XS.iload X6.here hx rfl (hb hby at_133) rfl kq_) ?_
      show Go p e below s _ _ _ (T6.setTop (mkF m 135 #[.val (.int p0), .val (.int p1), .val (.int p2), .val (.int p3), .val (.int p4), .val (.int p5), .val (.int (p0 &&& (3 : Int32))), .val (.int ((p1 &&& (2147483647 : Int32)) % (3 : Int32))), .val (.int ((p2 &&& (2147483647 : Int32)) % (3 : Int32))), .val (.int ((p3 &&& (2147483647 : Int32)) % (3 : Int32))), .val (.ref a1), .val (.int (1 : Int32))] [(.int ((p3 &&& (2147483647 : Int32)) % (3 : Int32))), (.int ((p2 &&& (2147483647 : Int32)) % (3 : Int32))), (.int ((p1 &&& (2147483647 : Int32)) % (3 : Int32))), (.int (p0 &&& (3 : Int32))), (.int (0 : Int32))]))
      refine Go.st (fun _ kq_ => XS.bipush X6.here hx rfl (hb hby at_135) kq_) ?_
      show Go p e below s _ _ _ (T6.setTop (mkF m 137 #[.val (.int p0), .val (.int p1), .val (.int p2), .val (.int p3), .val (.int p4), .val (.int p5), .val (.int (p0 &&& (3 : Int32))), .val (.int ((p1 &&& (2147483647 : Int32)) % (3 : Int32))), .val (.int ((p2 &&& (2147483647 : Int32)) % (3 : Int32))), .val (.int ((p3 &&& (2147483647 : Int32)) % (3 : Int32))), .val (.ref a1), .val (.int (1 : Int32))] [(.int (-2 : Int32)), (.int ((p3 &&& (2147483647 : Int32)) % (3 : Int32))), (.int ((p2 &&& (2147483647 : Int32)) % (3 : Int32))), (.int ((p1 &&& (2147483647 : Int32)) % (3 : Int32))), (.int (p0 &&& (3 : Int32))), (.int (0 : Int32))]))
      obtain ⟨_, _, ⟨T7, L7, k7, n7⟩, -, X7, ⟨Lc7, hQ7, l7, y7, z7⟩, st7⟩ := Jvm.LawKit.callS X6 hx (y := (⟨"com/example/element_ranker/elementranker/TagStatisticsElementCountPinLaw", "expected", "(IIIII)I"⟩ : MethodName)) hown (mvT hZ (own_w hw 23 rfl)) (mvT hZ (own_w hw 24 rfl)) (mvT hZ (own_w hw 25 rfl)) (mvT hZ (own_w hw 26 rfl)) (by decide) (backOf (W := 1) (rmx l Z a0 hw [] (p0 &&& (3 : Int32)) ((p1 &&& (2147483647 : Int32)) % (3 : Int32)) ((p2 &&& (2147483647 : Int32)) % (3 : Int32)) ((p3 &&& (2147483647 : Int32)) % (3 : Int32)) (-2 : Int32) T2.heap n0 O2 ) hZ (own_w hw 26 rfl) (own_w hw 25 rfl) (by decide) (by decide)) (g := (mkF m 137 #[.val (.int p0), .val (.int p1), .val (.int p2), .val (.int p3), .val (.int p4), .val (.int p5), .val (.int (p0 &&& (3 : Int32))), .val (.int ((p1 &&& (2147483647 : Int32)) % (3 : Int32))), .val (.int ((p2 &&& (2147483647 : Int32)) % (3 : Int32))), .val (.int ((p3 &&& (2147483647 : Int32)) % (3 : Int32))), .val (.ref a1), .val (.int (1 : Int32))] [(.int (-2 : Int32)), (.int ((p3 &&& (2147483647 : Int32)) % (3 : Int32))), (.int ((p2 &&& (2147483647 : Int32)) % (3 : Int32))), (.int ((p1 &&& (2147483647 : Int32)) % (3 : Int32))), (.int (p0 &&& (3 : Int32))), (.int (0 : Int32))])) rfl (by rw [hml]; rfl) (argsL := [(.int (p0 &&& (3 : Int32))), (.int ((p1 &&& (2147483647 : Int32)) % (3 : Int32))), (.int ((p2 &&& (2147483647 : Int32)) % (3 : Int32))), (.int ((p3 &&& (2147483647 : Int32)) % (3 : Int32))), (.int (-2 : Int32))]) (rest := [(.int (0 : Int32))]) (lenOf pd0_2 rfl) rfl (by show 2 * 0 + _ ≤ _; exact Nat.le_of_eq rfl) (hb hby at_137) (fun _ _ => ⟨rfl, e6, (by decide : 3 + 0 ≤ _), (by decide : 10 + 0 ≤ _)⟩)
      dsimp only [Pt.U, Pt.locs, Pt.cells, Pt.slots] at X7 l7 y7 z7 st7 hQ7
      subst l7 y7 z7
      obtain ⟨rfl, Nc7, e7⟩ := hQ7
      have N7 := Fr.app N6 Nc7
      refine Go.st st7 ?_
      show Go p e below s _ _ _ (T7.setTop (mkF m 140 #[.val (.int p0), .val (.int p1), .val (.int p2), .val (.int p3), .val (.int p4), .val (.int p5), .val (.int (p0 &&& (3 : Int32))), .val (.int ((p1 &&& (2147483647 : Int32)) % (3 : Int32))), .val (.int ((p2 &&& (2147483647 : Int32)) % (3 : Int32))), .val (.int ((p3 &&& (2147483647 : Int32)) % (3 : Int32))), .val (.ref a1), .val (.int (1 : Int32))] [(.int (fEx (p0 &&& (3 : Int32)) ((p1 &&& (2147483647 : Int32)) % (3 : Int32)) ((p2 &&& (2147483647 : Int32)) % (3 : Int32)) ((p3 &&& (2147483647 : Int32)) % (3 : Int32)) (-2 : Int32))), (.int (0 : Int32))]))
      refine Go.st (fun _ kq_ => XS.icmpNo X7.here hx rfl (hb hby at_140) rfl (XT.ii_ne_f (own_q0_m2 _ _ _ _ (own_n3 p0) c42_3)) kq_) ?_
      show Go p e below s _ _ _ (T7.setTop (mkF m 143 #[.val (.int p0), .val (.int p1), .val (.int p2), .val (.int p3), .val (.int p4), .val (.int p5), .val (.int (p0 &&& (3 : Int32))), .val (.int ((p1 &&& (2147483647 : Int32)) % (3 : Int32))), .val (.int ((p2 &&& (2147483647 : Int32)) % (3 : Int32))), .val (.int ((p3 &&& (2147483647 : Int32)) % (3 : Int32))), .val (.ref a1), .val (.int (1 : Int32))] []))
      refine Go.st (fun _ kq_ => XS.iconst X7.here hx rfl (hb hby at_143) kq_) ?_
      show Go p e below s _ _ _ (T7.setTop (mkF m 144 #[.val (.int p0), .val (.int p1), .val (.int p2), .val (.int p3), .val (.int p4), .val (.int p5), .val (.int (p0 &&& (3 : Int32))), .val (.int ((p1 &&& (2147483647 : Int32)) % (3 : Int32))), .val (.int ((p2 &&& (2147483647 : Int32)) % (3 : Int32))), .val (.int ((p3 &&& (2147483647 : Int32)) % (3 : Int32))), .val (.ref a1), .val (.int (1 : Int32))] [(.int (1 : Int32))]))
      refine Go.st (fun _ kq_ => XS.goto X7.here hx rfl (pc0 := 144) (pc' := 148) rfl (hb hby at_144) (by decide) (by decide) kq_) ?_
      show Go p e below s _ _ _ (T7.setTop (mkF m 148 #[.val (.int p0), .val (.int p1), .val (.int p2), .val (.int p3), .val (.int p4), .val (.int p5), .val (.int (p0 &&& (3 : Int32))), .val (.int ((p1 &&& (2147483647 : Int32)) % (3 : Int32))), .val (.int ((p2 &&& (2147483647 : Int32)) % (3 : Int32))), .val (.int ((p3 &&& (2147483647 : Int32)) % (3 : Int32))), .val (.ref a1), .val (.int (1 : Int32))] [(.int (1 : Int32))]))
      refine Go.st (fun _ kq_ => XS.istore X7.here hx rfl (hb hby at_148) rfl (l' := #[.val (.int p0), .val (.int p1), .val (.int p2), .val (.int p3), .val (.int p4), .val (.int p5), .val (.int (p0 &&& (3 : Int32))), .val (.int ((p1 &&& (2147483647 : Int32)) % (3 : Int32))), .val (.int ((p2 &&& (2147483647 : Int32)) % (3 : Int32))), .val (.int ((p3 &&& (2147483647 : Int32)) % (3 : Int32))), .val (.ref a1), .val (.int (1 : Int32))]) rfl kq_) ?_
      show Go p e below s _ _ _ (T7.setTop (mkF m 150 #[.val (.int p0), .val (.int p1), .val (.int p2), .val (.int p3), .val (.int p4), .val (.int p5), .val (.int (p0 &&& (3 : Int32))), .val (.int ((p1 &&& (2147483647 : Int32)) % (3 : Int32))), .val (.int ((p2 &&& (2147483647 : Int32)) % (3 : Int32))), .val (.int ((p3 &&& (2147483647 : Int32)) % (3 : Int32))), .val (.ref a1), .val (.int (1 : Int32))] []))
      refine Go.st (fun _ kq_ => XS.iload X7.here hx rfl (hb hby at_150) rfl kq_) ?_
      show Go p e below s _ _ _ (T7.setTop (mkF m 152 #[.val (.int p0), .val (.int p1), .val (.int p2), .val (.int p3), .val (.int p4), .val (.int p5), .val (.int (p0 &&& (3 : Int32))), .val (.int ((p1 &&& (2147483647 : Int32)) % (3 : Int32))), .val (.int ((p2 &&& (2147483647 : Int32)) % (3 : Int32))), .val (.int ((p3 &&& (2147483647 : Int32)) % (3 : Int32))), .val (.ref a1), .val (.int (1 : Int32))] [(.int (1 : Int32))]))
      refine Go.st (fun _ kq_ => XS.ifNo X7.here hx rfl (hb hby at_152) rfl (by decide) kq_) ?_
      show Go p e below s _ _ _ (T7.setTop (mkF m 155 #[.val (.int p0), .val (.int p1), .val (.int p2), .val (.int p3), .val (.int p4), .val (.int p5), .val (.int (p0 &&& (3 : Int32))), .val (.int ((p1 &&& (2147483647 : Int32)) % (3 : Int32))), .val (.int ((p2 &&& (2147483647 : Int32)) % (3 : Int32))), .val (.int ((p3 &&& (2147483647 : Int32)) % (3 : Int32))), .val (.ref a1), .val (.int (1 : Int32))] []))
      refine Go.st (fun _ kq_ => XS.aload X7.here hx rfl (hb hby at_155) rfl rfl kq_) ?_
      show Go p e below s _ _ _ (T7.setTop (mkF m 157 #[.val (.int p0), .val (.int p1), .val (.int p2), .val (.int p3), .val (.int p4), .val (.int p5), .val (.int (p0 &&& (3 : Int32))), .val (.int ((p1 &&& (2147483647 : Int32)) % (3 : Int32))), .val (.int ((p2 &&& (2147483647 : Int32)) % (3 : Int32))), .val (.int ((p3 &&& (2147483647 : Int32)) % (3 : Int32))), .val (.ref a1), .val (.int (1 : Int32))] [(.ref a1)]))
      refine Go.st (fun _ kq_ => XS.iconst X7.here hx rfl (hb hby at_157) kq_) ?_
      show Go p e below s _ _ _ (T7.setTop (mkF m 158 #[.val (.int p0), .val (.int p1), .val (.int p2), .val (.int p3), .val (.int p4), .val (.int p5), .val (.int (p0 &&& (3 : Int32))), .val (.int ((p1 &&& (2147483647 : Int32)) % (3 : Int32))), .val (.int ((p2 &&& (2147483647 : Int32)) % (3 : Int32))), .val (.int ((p3 &&& (2147483647 : Int32)) % (3 : Int32))), .val (.ref a1), .val (.int (1 : Int32))] [(.int (0 : Int32)), (.ref a1)]))
      obtain ⟨cq8, kq8, qa8, qb8, qc8⟩ := isOf hZ e7 E_a1
      obtain ⟨_, _, ⟨T8, L8, k8, n8⟩, -, X8, ⟨Lc8, hQ8, l8, y8, z8⟩, st8⟩ := X7.virtualBack hx (y := (⟨"com/example/element_ranker/elementranker/TagStatistics", "elementCount", "(I)I"⟩ : MethodName)) (z := (⟨"com/example/element_ranker/elementranker/TagStatistics", "elementCount", "(I)I"⟩ : MethodName)) hown (mvT hZ (own_w hw 16 rfl)) (mvT hZ (own_w hw 17 rfl)) (notFace_of_selects (args := #[]) (mvT hZ (own_w hw 19 rfl))) (mvT hZ (own_w hw 19 rfl)) (mvT hZ (own_w hw 18 rfl)) (by decide) (backOf (W := 0) (rme0 l Z a0 hw [] a1 b2 kb2 d2 kd2 (0 : Int32) (0 : Int32) (0 : Int32) (0 : Int64) (0 : Int64) (0 : Int64) (0 : Int32) (0 : Int64) T2.heap n0 O2 E_a1 F_a1_elementCounts F_a1_totalLengths F_a1_elementCount F_a1_totalLength V_b2 V_d2) hZ (own_w hw 20 rfl) (own_w hw 3 rfl) (by decide) (by decide)) qa8 qc8 (g := (mkF m 158 #[.val (.int p0), .val (.int p1), .val (.int p2), .val (.int p3), .val (.int p4), .val (.int p5), .val (.int (p0 &&& (3 : Int32))), .val (.int ((p1 &&& (2147483647 : Int32)) % (3 : Int32))), .val (.int ((p2 &&& (2147483647 : Int32)) % (3 : Int32))), .val (.int ((p3 &&& (2147483647 : Int32)) % (3 : Int32))), .val (.ref a1), .val (.int (1 : Int32))] [(.int (0 : Int32)), (.ref a1)])) rfl (by rw [hml]; rfl) (Steps.refl _) (argsL := [(.int (0 : Int32))]) (rest := []) (lenOf pd0_1 rfl) rfl (by show 2 * 0 + _ ≤ _; exact Nat.le_of_eq rfl) (hb hby at_158) (fun _ _ => ⟨rfl, e7, (by decide : 3 + 0 ≤ _), (by decide : 10 + 0 ≤ _)⟩)
      dsimp only [Pt.U, Pt.locs, Pt.cells, Pt.slots] at X8 l8 y8 z8 st8 hQ8
      subst l8 y8 z8
      obtain ⟨rfl, Nc8, e8⟩ := hQ8
      have N8 := Fr.app N7 Nc8
      refine Go.tr st8 ?_
      show Go p e below s _ _ _ (T8.setTop (mkF m 161 #[.val (.int p0), .val (.int p1), .val (.int p2), .val (.int p3), .val (.int p4), .val (.int p5), .val (.int (p0 &&& (3 : Int32))), .val (.int ((p1 &&& (2147483647 : Int32)) % (3 : Int32))), .val (.int ((p2 &&& (2147483647 : Int32)) % (3 : Int32))), .val (.int ((p3 &&& (2147483647 : Int32)) % (3 : Int32))), .val (.ref a1), .val (.int (1 : Int32))] [(.int (0 : Int32))]))
      refine Go.st (fun _ kq_ => XS.iload X8.here hx rfl (hb hby at_161) rfl kq_) ?_
      show Go p e below s _ _ _ (T8.setTop (mkF m 163 #[.val (.int p0), .val (.int p1), .val (.int p2), .val (.int p3), .val (.int p4), .val (.int p5), .val (.int (p0 &&& (3 : Int32))), .val (.int ((p1 &&& (2147483647 : Int32)) % (3 : Int32))), .val (.int ((p2 &&& (2147483647 : Int32)) % (3 : Int32))), .val (.int ((p3 &&& (2147483647 : Int32)) % (3 : Int32))), .val (.ref a1), .val (.int (1 : Int32))] [(.int (p0 &&& (3 : Int32))), (.int (0 : Int32))]))
      refine Go.st (fun _ kq_ => XS.iload X8.here hx rfl (hb hby at_163) rfl kq_) ?_
      show Go p e below s _ _ _ (T8.setTop (mkF m 165 #[.val (.int p0), .val (.int p1), .val (.int p2), .val (.int p3), .val (.int p4), .val (.int p5), .val (.int (p0 &&& (3 : Int32))), .val (.int ((p1 &&& (2147483647 : Int32)) % (3 : Int32))), .val (.int ((p2 &&& (2147483647 : Int32)) % (3 : Int32))), .val (.int ((p3 &&& (2147483647 : Int32)) % (3 : Int32))), .val (.ref a1), .val (.int (1 : Int32))] [(.int ((p1 &&& (2147483647 : Int32)) % (3 : Int32))), (.int (p0 &&& (3 : Int32))), (.int (0 : Int32))]))
      refine Go.st (fun _ kq_ => XS.iload X8.here hx rfl (hb hby at_165) rfl kq_) ?_
      show Go p e below s _ _ _ (T8.setTop (mkF m 167 #[.val (.int p0), .val (.int p1), .val (.int p2), .val (.int p3), .val (.int p4), .val (.int p5), .val (.int (p0 &&& (3 : Int32))), .val (.int ((p1 &&& (2147483647 : Int32)) % (3 : Int32))), .val (.int ((p2 &&& (2147483647 : Int32)) % (3 : Int32))), .val (.int ((p3 &&& (2147483647 : Int32)) % (3 : Int32))), .val (.ref a1), .val (.int (1 : Int32))] [(.int ((p2 &&& (2147483647 : Int32)) % (3 : Int32))), (.int ((p1 &&& (2147483647 : Int32)) % (3 : Int32))), (.int (p0 &&& (3 : Int32))), (.int (0 : Int32))]))
      refine Go.st (fun _ kq_ => XS.iload X8.here hx rfl (hb hby at_167) rfl kq_) ?_
      show Go p e below s _ _ _ (T8.setTop (mkF m 169 #[.val (.int p0), .val (.int p1), .val (.int p2), .val (.int p3), .val (.int p4), .val (.int p5), .val (.int (p0 &&& (3 : Int32))), .val (.int ((p1 &&& (2147483647 : Int32)) % (3 : Int32))), .val (.int ((p2 &&& (2147483647 : Int32)) % (3 : Int32))), .val (.int ((p3 &&& (2147483647 : Int32)) % (3 : Int32))), .val (.ref a1), .val (.int (1 : Int32))] [(.int ((p3 &&& (2147483647 : Int32)) % (3 : Int32))), (.int ((p2 &&& (2147483647 : Int32)) % (3 : Int32))), (.int ((p1 &&& (2147483647 : Int32)) % (3 : Int32))), (.int (p0 &&& (3 : Int32))), (.int (0 : Int32))]))
      refine Go.st (fun _ kq_ => XS.iconst X8.here hx rfl (hb hby at_169) kq_) ?_
      show Go p e below s _ _ _ (T8.setTop (mkF m 170 #[.val (.int p0), .val (.int p1), .val (.int p2), .val (.int p3), .val (.int p4), .val (.int p5), .val (.int (p0 &&& (3 : Int32))), .val (.int ((p1 &&& (2147483647 : Int32)) % (3 : Int32))), .val (.int ((p2 &&& (2147483647 : Int32)) % (3 : Int32))), .val (.int ((p3 &&& (2147483647 : Int32)) % (3 : Int32))), .val (.ref a1), .val (.int (1 : Int32))] [(.int (0 : Int32)), (.int ((p3 &&& (2147483647 : Int32)) % (3 : Int32))), (.int ((p2 &&& (2147483647 : Int32)) % (3 : Int32))), (.int ((p1 &&& (2147483647 : Int32)) % (3 : Int32))), (.int (p0 &&& (3 : Int32))), (.int (0 : Int32))]))
      obtain ⟨_, _, ⟨T9, L9, k9, n9⟩, -, X9, ⟨Lc9, hQ9, l9, y9, z9⟩, st9⟩ := Jvm.LawKit.callS X8 hx (y := (⟨"com/example/element_ranker/elementranker/TagStatisticsElementCountPinLaw", "expected", "(IIIII)I"⟩ : MethodName)) hown (mvT hZ (own_w hw 23 rfl)) (mvT hZ (own_w hw 24 rfl)) (mvT hZ (own_w hw 25 rfl)) (mvT hZ (own_w hw 26 rfl)) (by decide) (backOf (W := 1) (rmx l Z a0 hw [] (p0 &&& (3 : Int32)) ((p1 &&& (2147483647 : Int32)) % (3 : Int32)) ((p2 &&& (2147483647 : Int32)) % (3 : Int32)) ((p3 &&& (2147483647 : Int32)) % (3 : Int32)) (0 : Int32) T2.heap n0 O2 ) hZ (own_w hw 26 rfl) (own_w hw 25 rfl) (by decide) (by decide)) (g := (mkF m 170 #[.val (.int p0), .val (.int p1), .val (.int p2), .val (.int p3), .val (.int p4), .val (.int p5), .val (.int (p0 &&& (3 : Int32))), .val (.int ((p1 &&& (2147483647 : Int32)) % (3 : Int32))), .val (.int ((p2 &&& (2147483647 : Int32)) % (3 : Int32))), .val (.int ((p3 &&& (2147483647 : Int32)) % (3 : Int32))), .val (.ref a1), .val (.int (1 : Int32))] [(.int (0 : Int32)), (.int ((p3 &&& (2147483647 : Int32)) % (3 : Int32))), (.int ((p2 &&& (2147483647 : Int32)) % (3 : Int32))), (.int ((p1 &&& (2147483647 : Int32)) % (3 : Int32))), (.int (p0 &&& (3 : Int32))), (.int (0 : Int32))])) rfl (by rw [hml]; rfl) (argsL := [(.int (p0 &&& (3 : Int32))), (.int ((p1 &&& (2147483647 : Int32)) % (3 : Int32))), (.int ((p2 &&& (2147483647 : Int32)) % (3 : Int32))), (.int ((p3 &&& (2147483647 : Int32)) % (3 : Int32))), (.int (0 : Int32))]) (rest := [(.int (0 : Int32))]) (lenOf pd0_2 rfl) rfl (by show 2 * 0 + _ ≤ _; exact Nat.le_of_eq rfl) (hb hby at_170) (fun _ _ => ⟨rfl, e8, (by decide : 3 + 0 ≤ _), (by decide : 10 + 0 ≤ _)⟩)
      dsimp only [Pt.U, Pt.locs, Pt.cells, Pt.slots] at X9 l9 y9 z9 st9 hQ9
      subst l9 y9 z9
      obtain ⟨rfl, Nc9, e9⟩ := hQ9
      have N9 := Fr.app N8 Nc9
      refine Go.st st9 ?_
      show Go p e below s _ _ _ (T9.setTop (mkF m 173 #[.val (.int p0), .val (.int p1), .val (.int p2), .val (.int p3), .val (.int p4), .val (.int p5), .val (.int (p0 &&& (3 : Int32))), .val (.int ((p1 &&& (2147483647 : Int32)) % (3 : Int32))), .val (.int ((p2 &&& (2147483647 : Int32)) % (3 : Int32))), .val (.int ((p3 &&& (2147483647 : Int32)) % (3 : Int32))), .val (.ref a1), .val (.int (1 : Int32))] [(.int (fEx (p0 &&& (3 : Int32)) ((p1 &&& (2147483647 : Int32)) % (3 : Int32)) ((p2 &&& (2147483647 : Int32)) % (3 : Int32)) ((p3 &&& (2147483647 : Int32)) % (3 : Int32)) (0 : Int32))), (.int (0 : Int32))]))
      refine Go.st (fun _ kq_ => XS.icmpNo X9.here hx rfl (hb hby at_173) rfl (XT.ii_ne_f (own_q0_0 _ _ _ _ (own_n3 p0) c42_3)) kq_) ?_
      show Go p e below s _ _ _ (T9.setTop (mkF m 176 #[.val (.int p0), .val (.int p1), .val (.int p2), .val (.int p3), .val (.int p4), .val (.int p5), .val (.int (p0 &&& (3 : Int32))), .val (.int ((p1 &&& (2147483647 : Int32)) % (3 : Int32))), .val (.int ((p2 &&& (2147483647 : Int32)) % (3 : Int32))), .val (.int ((p3 &&& (2147483647 : Int32)) % (3 : Int32))), .val (.ref a1), .val (.int (1 : Int32))] []))
      refine Go.st (fun _ kq_ => XS.iconst X9.here hx rfl (hb hby at_176) kq_) ?_
      show Go p e below s _ _ _ (T9.setTop (mkF m 177 #[.val (.int p0), .val (.int p1), .val (.int p2), .val (.int p3), .val (.int p4), .val (.int p5), .val (.int (p0 &&& (3 : Int32))), .val (.int ((p1 &&& (2147483647 : Int32)) % (3 : Int32))), .val (.int ((p2 &&& (2147483647 : Int32)) % (3 : Int32))), .val (.int ((p3 &&& (2147483647 : Int32)) % (3 : Int32))), .val (.ref a1), .val (.int (1 : Int32))] [(.int (1 : Int32))]))
      refine Go.st (fun _ kq_ => XS.goto X9.here hx rfl (pc0 := 177) (pc' := 181) rfl (hb hby at_177) (by decide) (by decide) kq_) ?_
      show Go p e below s _ _ _ (T9.setTop (mkF m 181 #[.val (.int p0), .val (.int p1), .val (.int p2), .val (.int p3), .val (.int p4), .val (.int p5), .val (.int (p0 &&& (3 : Int32))), .val (.int ((p1 &&& (2147483647 : Int32)) % (3 : Int32))), .val (.int ((p2 &&& (2147483647 : Int32)) % (3 : Int32))), .val (.int ((p3 &&& (2147483647 : Int32)) % (3 : Int32))), .val (.ref a1), .val (.int (1 : Int32))] [(.int (1 : Int32))]))
      refine Go.st (fun _ kq_ => XS.istore X9.here hx rfl (hb hby at_181) rfl (l' := #[.val (.int p0), .val (.int p1), .val (.int p2), .val (.int p3), .val (.int p4), .val (.int p5), .val (.int (p0 &&& (3 : Int32))), .val (.int ((p1 &&& (2147483647 : Int32)) % (3 : Int32))), .val (.int ((p2 &&& (2147483647 : Int32)) % (3 : Int32))), .val (.int ((p3 &&& (2147483647 : Int32)) % (3 : Int32))), .val (.ref a1), .val (.int (1 : Int32))]) rfl kq_) ?_
      show Go p e below s _ _ _ (T9.setTop (mkF m 183 #[.val (.int p0), .val (.int p1), .val (.int p2), .val (.int p3), .val (.int p4), .val (.int p5), .val (.int (p0 &&& (3 : Int32))), .val (.int ((p1 &&& (2147483647 : Int32)) % (3 : Int32))), .val (.int ((p2 &&& (2147483647 : Int32)) % (3 : Int32))), .val (.int ((p3 &&& (2147483647 : Int32)) % (3 : Int32))), .val (.ref a1), .val (.int (1 : Int32))] []))
      refine Go.st (fun _ kq_ => XS.iload X9.here hx rfl (hb hby at_183) rfl kq_) ?_
      show Go p e below s _ _ _ (T9.setTop (mkF m 185 #[.val (.int p0), .val (.int p1), .val (.int p2), .val (.int p3), .val (.int p4), .val (.int p5), .val (.int (p0 &&& (3 : Int32))), .val (.int ((p1 &&& (2147483647 : Int32)) % (3 : Int32))), .val (.int ((p2 &&& (2147483647 : Int32)) % (3 : Int32))), .val (.int ((p3 &&& (2147483647 : Int32)) % (3 : Int32))), .val (.ref a1), .val (.int (1 : Int32))] [(.int (1 : Int32))]))
      refine Go.st (fun _ kq_ => XS.ifNo X9.here hx rfl (hb hby at_185) rfl (by decide) kq_) ?_
      show Go p e below s _ _ _ (T9.setTop (mkF m 188 #[.val (.int p0), .val (.int p1), .val (.int p2), .val (.int p3), .val (.int p4), .val (.int p5), .val (.int (p0 &&& (3 : Int32))), .val (.int ((p1 &&& (2147483647 : Int32)) % (3 : Int32))), .val (.int ((p2 &&& (2147483647 : Int32)) % (3 : Int32))), .val (.int ((p3 &&& (2147483647 : Int32)) % (3 : Int32))), .val (.ref a1), .val (.int (1 : Int32))] []))
      refine Go.st (fun _ kq_ => XS.aload X9.here hx rfl (hb hby at_188) rfl rfl kq_) ?_
      show Go p e below s _ _ _ (T9.setTop (mkF m 190 #[.val (.int p0), .val (.int p1), .val (.int p2), .val (.int p3), .val (.int p4), .val (.int p5), .val (.int (p0 &&& (3 : Int32))), .val (.int ((p1 &&& (2147483647 : Int32)) % (3 : Int32))), .val (.int ((p2 &&& (2147483647 : Int32)) % (3 : Int32))), .val (.int ((p3 &&& (2147483647 : Int32)) % (3 : Int32))), .val (.ref a1), .val (.int (1 : Int32))] [(.ref a1)]))
      refine Go.st (fun _ kq_ => XS.iconst X9.here hx rfl (hb hby at_190) kq_) ?_
      show Go p e below s _ _ _ (T9.setTop (mkF m 191 #[.val (.int p0), .val (.int p1), .val (.int p2), .val (.int p3), .val (.int p4), .val (.int p5), .val (.int (p0 &&& (3 : Int32))), .val (.int ((p1 &&& (2147483647 : Int32)) % (3 : Int32))), .val (.int ((p2 &&& (2147483647 : Int32)) % (3 : Int32))), .val (.int ((p3 &&& (2147483647 : Int32)) % (3 : Int32))), .val (.ref a1), .val (.int (1 : Int32))] [(.int (1 : Int32)), (.ref a1)]))
      obtain ⟨cq10, kq10, qa10, qb10, qc10⟩ := isOf hZ e9 E_a1
      obtain ⟨_, _, ⟨T10, L10, k10, n10⟩, -, X10, ⟨Lc10, hQ10, l10, y10, z10⟩, st10⟩ := X9.virtualBack hx (y := (⟨"com/example/element_ranker/elementranker/TagStatistics", "elementCount", "(I)I"⟩ : MethodName)) (z := (⟨"com/example/element_ranker/elementranker/TagStatistics", "elementCount", "(I)I"⟩ : MethodName)) hown (mvT hZ (own_w hw 16 rfl)) (mvT hZ (own_w hw 17 rfl)) (notFace_of_selects (args := #[]) (mvT hZ (own_w hw 19 rfl))) (mvT hZ (own_w hw 19 rfl)) (mvT hZ (own_w hw 18 rfl)) (by decide) (backOf (W := 0) (rme1 l Z a0 hw [] a1 b2 kb2 d2 kd2 (0 : Int32) (0 : Int32) (0 : Int32) (0 : Int64) (0 : Int64) (0 : Int64) (0 : Int32) (0 : Int64) T2.heap n0 O2 E_a1 F_a1_elementCounts F_a1_totalLengths F_a1_elementCount F_a1_totalLength V_b2 V_d2) hZ (own_w hw 20 rfl) (own_w hw 3 rfl) (by decide) (by decide)) qa10 qc10 (g := (mkF m 191 #[.val (.int p0), .val (.int p1), .val (.int p2), .val (.int p3), .val (.int p4), .val (.int p5), .val (.int (p0 &&& (3 : Int32))), .val (.int ((p1 &&& (2147483647 : Int32)) % (3 : Int32))), .val (.int ((p2 &&& (2147483647 : Int32)) % (3 : Int32))), .val (.int ((p3 &&& (2147483647 : Int32)) % (3 : Int32))), .val (.ref a1), .val (.int (1 : Int32))] [(.int (1 : Int32)), (.ref a1)])) rfl (by rw [hml]; rfl) (Steps.refl _) (argsL := [(.int (1 : Int32))]) (rest := []) (lenOf pd0_1 rfl) rfl (by show 2 * 0 + _ ≤ _; exact Nat.le_of_eq rfl) (hb hby at_191) (fun _ _ => ⟨rfl, e9, (by decide : 3 + 0 ≤ _), (by decide : 10 + 0 ≤ _)⟩)
      dsimp only [Pt.U, Pt.locs, Pt.cells, Pt.slots] at X10 l10 y10 z10 st10 hQ10
      subst l10 y10 z10
      obtain ⟨rfl, Nc10, e10⟩ := hQ10
      have N10 := Fr.app N9 Nc10
      refine Go.tr st10 ?_
      show Go p e below s _ _ _ (T10.setTop (mkF m 194 #[.val (.int p0), .val (.int p1), .val (.int p2), .val (.int p3), .val (.int p4), .val (.int p5), .val (.int (p0 &&& (3 : Int32))), .val (.int ((p1 &&& (2147483647 : Int32)) % (3 : Int32))), .val (.int ((p2 &&& (2147483647 : Int32)) % (3 : Int32))), .val (.int ((p3 &&& (2147483647 : Int32)) % (3 : Int32))), .val (.ref a1), .val (.int (1 : Int32))] [(.int (0 : Int32))]))
      refine Go.st (fun _ kq_ => XS.iload X10.here hx rfl (hb hby at_194) rfl kq_) ?_
      show Go p e below s _ _ _ (T10.setTop (mkF m 196 #[.val (.int p0), .val (.int p1), .val (.int p2), .val (.int p3), .val (.int p4), .val (.int p5), .val (.int (p0 &&& (3 : Int32))), .val (.int ((p1 &&& (2147483647 : Int32)) % (3 : Int32))), .val (.int ((p2 &&& (2147483647 : Int32)) % (3 : Int32))), .val (.int ((p3 &&& (2147483647 : Int32)) % (3 : Int32))), .val (.ref a1), .val (.int (1 : Int32))] [(.int (p0 &&& (3 : Int32))), (.int (0 : Int32))]))
      refine Go.st (fun _ kq_ => XS.iload X10.here hx rfl (hb hby at_196) rfl kq_) ?_
      show Go p e below s _ _ _ (T10.setTop (mkF m 198 #[.val (.int p0), .val (.int p1), .val (.int p2), .val (.int p3), .val (.int p4), .val (.int p5), .val (.int (p0 &&& (3 : Int32))), .val (.int ((p1 &&& (2147483647 : Int32)) % (3 : Int32))), .val (.int ((p2 &&& (2147483647 : Int32)) % (3 : Int32))), .val (.int ((p3 &&& (2147483647 : Int32)) % (3 : Int32))), .val (.ref a1), .val (.int (1 : Int32))] [(.int ((p1 &&& (2147483647 : Int32)) % (3 : Int32))), (.int (p0 &&& (3 : Int32))), (.int (0 : Int32))]))
      refine Go.st (fun _ kq_ => XS.iload X10.here hx rfl (hb hby at_198) rfl kq_) ?_
      show Go p e below s _ _ _ (T10.setTop (mkF m 200 #[.val (.int p0), .val (.int p1), .val (.int p2), .val (.int p3), .val (.int p4), .val (.int p5), .val (.int (p0 &&& (3 : Int32))), .val (.int ((p1 &&& (2147483647 : Int32)) % (3 : Int32))), .val (.int ((p2 &&& (2147483647 : Int32)) % (3 : Int32))), .val (.int ((p3 &&& (2147483647 : Int32)) % (3 : Int32))), .val (.ref a1), .val (.int (1 : Int32))] [(.int ((p2 &&& (2147483647 : Int32)) % (3 : Int32))), (.int ((p1 &&& (2147483647 : Int32)) % (3 : Int32))), (.int (p0 &&& (3 : Int32))), (.int (0 : Int32))]))
      refine Go.st (fun _ kq_ => XS.iload X10.here hx rfl (hb hby at_200) rfl kq_) ?_
      show Go p e below s _ _ _ (T10.setTop (mkF m 202 #[.val (.int p0), .val (.int p1), .val (.int p2), .val (.int p3), .val (.int p4), .val (.int p5), .val (.int (p0 &&& (3 : Int32))), .val (.int ((p1 &&& (2147483647 : Int32)) % (3 : Int32))), .val (.int ((p2 &&& (2147483647 : Int32)) % (3 : Int32))), .val (.int ((p3 &&& (2147483647 : Int32)) % (3 : Int32))), .val (.ref a1), .val (.int (1 : Int32))] [(.int ((p3 &&& (2147483647 : Int32)) % (3 : Int32))), (.int ((p2 &&& (2147483647 : Int32)) % (3 : Int32))), (.int ((p1 &&& (2147483647 : Int32)) % (3 : Int32))), (.int (p0 &&& (3 : Int32))), (.int (0 : Int32))]))
      refine Go.st (fun _ kq_ => XS.iconst X10.here hx rfl (hb hby at_202) kq_) ?_
      show Go p e below s _ _ _ (T10.setTop (mkF m 203 #[.val (.int p0), .val (.int p1), .val (.int p2), .val (.int p3), .val (.int p4), .val (.int p5), .val (.int (p0 &&& (3 : Int32))), .val (.int ((p1 &&& (2147483647 : Int32)) % (3 : Int32))), .val (.int ((p2 &&& (2147483647 : Int32)) % (3 : Int32))), .val (.int ((p3 &&& (2147483647 : Int32)) % (3 : Int32))), .val (.ref a1), .val (.int (1 : Int32))] [(.int (1 : Int32)), (.int ((p3 &&& (2147483647 : Int32)) % (3 : Int32))), (.int ((p2 &&& (2147483647 : Int32)) % (3 : Int32))), (.int ((p1 &&& (2147483647 : Int32)) % (3 : Int32))), (.int (p0 &&& (3 : Int32))), (.int (0 : Int32))]))
      obtain ⟨_, _, ⟨T11, L11, k11, n11⟩, -, X11, ⟨Lc11, hQ11, l11, y11, z11⟩, st11⟩ := Jvm.LawKit.callS X10 hx (y := (⟨"com/example/element_ranker/elementranker/TagStatisticsElementCountPinLaw", "expected", "(IIIII)I"⟩ : MethodName)) hown (mvT hZ (own_w hw 23 rfl)) (mvT hZ (own_w hw 24 rfl)) (mvT hZ (own_w hw 25 rfl)) (mvT hZ (own_w hw 26 rfl)) (by decide) (backOf (W := 1) (rmx l Z a0 hw [] (p0 &&& (3 : Int32)) ((p1 &&& (2147483647 : Int32)) % (3 : Int32)) ((p2 &&& (2147483647 : Int32)) % (3 : Int32)) ((p3 &&& (2147483647 : Int32)) % (3 : Int32)) (1 : Int32) T2.heap n0 O2 ) hZ (own_w hw 26 rfl) (own_w hw 25 rfl) (by decide) (by decide)) (g := (mkF m 203 #[.val (.int p0), .val (.int p1), .val (.int p2), .val (.int p3), .val (.int p4), .val (.int p5), .val (.int (p0 &&& (3 : Int32))), .val (.int ((p1 &&& (2147483647 : Int32)) % (3 : Int32))), .val (.int ((p2 &&& (2147483647 : Int32)) % (3 : Int32))), .val (.int ((p3 &&& (2147483647 : Int32)) % (3 : Int32))), .val (.ref a1), .val (.int (1 : Int32))] [(.int (1 : Int32)), (.int ((p3 &&& (2147483647 : Int32)) % (3 : Int32))), (.int ((p2 &&& (2147483647 : Int32)) % (3 : Int32))), (.int ((p1 &&& (2147483647 : Int32)) % (3 : Int32))), (.int (p0 &&& (3 : Int32))), (.int (0 : Int32))])) rfl (by rw [hml]; rfl) (argsL := [(.int (p0 &&& (3 : Int32))), (.int ((p1 &&& (2147483647 : Int32)) % (3 : Int32))), (.int ((p2 &&& (2147483647 : Int32)) % (3 : Int32))), (.int ((p3 &&& (2147483647 : Int32)) % (3 : Int32))), (.int (1 : Int32))]) (rest := [(.int (0 : Int32))]) (lenOf pd0_2 rfl) rfl (by show 2 * 0 + _ ≤ _; exact Nat.le_of_eq rfl) (hb hby at_203) (fun _ _ => ⟨rfl, e10, (by decide : 3 + 0 ≤ _), (by decide : 10 + 0 ≤ _)⟩)
      dsimp only [Pt.U, Pt.locs, Pt.cells, Pt.slots] at X11 l11 y11 z11 st11 hQ11
      subst l11 y11 z11
      obtain ⟨rfl, Nc11, e11⟩ := hQ11
      have N11 := Fr.app N10 Nc11
      refine Go.st st11 ?_
      show Go p e below s _ _ _ (T11.setTop (mkF m 206 #[.val (.int p0), .val (.int p1), .val (.int p2), .val (.int p3), .val (.int p4), .val (.int p5), .val (.int (p0 &&& (3 : Int32))), .val (.int ((p1 &&& (2147483647 : Int32)) % (3 : Int32))), .val (.int ((p2 &&& (2147483647 : Int32)) % (3 : Int32))), .val (.int ((p3 &&& (2147483647 : Int32)) % (3 : Int32))), .val (.ref a1), .val (.int (1 : Int32))] [(.int (fEx (p0 &&& (3 : Int32)) ((p1 &&& (2147483647 : Int32)) % (3 : Int32)) ((p2 &&& (2147483647 : Int32)) % (3 : Int32)) ((p3 &&& (2147483647 : Int32)) % (3 : Int32)) (1 : Int32))), (.int (0 : Int32))]))
      refine Go.st (fun _ kq_ => XS.icmpNo X11.here hx rfl (hb hby at_206) rfl (XT.ii_ne_f (own_q0_1 _ _ _ _ (own_n3 p0) c42_3)) kq_) ?_
      show Go p e below s _ _ _ (T11.setTop (mkF m 209 #[.val (.int p0), .val (.int p1), .val (.int p2), .val (.int p3), .val (.int p4), .val (.int p5), .val (.int (p0 &&& (3 : Int32))), .val (.int ((p1 &&& (2147483647 : Int32)) % (3 : Int32))), .val (.int ((p2 &&& (2147483647 : Int32)) % (3 : Int32))), .val (.int ((p3 &&& (2147483647 : Int32)) % (3 : Int32))), .val (.ref a1), .val (.int (1 : Int32))] []))
      refine Go.st (fun _ kq_ => XS.iconst X11.here hx rfl (hb hby at_209) kq_) ?_
      show Go p e below s _ _ _ (T11.setTop (mkF m 210 #[.val (.int p0), .val (.int p1), .val (.int p2), .val (.int p3), .val (.int p4), .val (.int p5), .val (.int (p0 &&& (3 : Int32))), .val (.int ((p1 &&& (2147483647 : Int32)) % (3 : Int32))), .val (.int ((p2 &&& (2147483647 : Int32)) % (3 : Int32))), .val (.int ((p3 &&& (2147483647 : Int32)) % (3 : Int32))), .val (.ref a1), .val (.int (1 : Int32))] [(.int (1 : Int32))]))
      refine Go.st (fun _ kq_ => XS.goto X11.here hx rfl (pc0 := 210) (pc' := 214) rfl (hb hby at_210) (by decide) (by decide) kq_) ?_
      show Go p e below s _ _ _ (T11.setTop (mkF m 214 #[.val (.int p0), .val (.int p1), .val (.int p2), .val (.int p3), .val (.int p4), .val (.int p5), .val (.int (p0 &&& (3 : Int32))), .val (.int ((p1 &&& (2147483647 : Int32)) % (3 : Int32))), .val (.int ((p2 &&& (2147483647 : Int32)) % (3 : Int32))), .val (.int ((p3 &&& (2147483647 : Int32)) % (3 : Int32))), .val (.ref a1), .val (.int (1 : Int32))] [(.int (1 : Int32))]))
      refine Go.st (fun _ kq_ => XS.istore X11.here hx rfl (hb hby at_214) rfl (l' := #[.val (.int p0), .val (.int p1), .val (.int p2), .val (.int p3), .val (.int p4), .val (.int p5), .val (.int (p0 &&& (3 : Int32))), .val (.int ((p1 &&& (2147483647 : Int32)) % (3 : Int32))), .val (.int ((p2 &&& (2147483647 : Int32)) % (3 : Int32))), .val (.int ((p3 &&& (2147483647 : Int32)) % (3 : Int32))), .val (.ref a1), .val (.int (1 : Int32))]) rfl kq_) ?_
      show Go p e below s _ _ _ (T11.setTop (mkF m 216 #[.val (.int p0), .val (.int p1), .val (.int p2), .val (.int p3), .val (.int p4), .val (.int p5), .val (.int (p0 &&& (3 : Int32))), .val (.int ((p1 &&& (2147483647 : Int32)) % (3 : Int32))), .val (.int ((p2 &&& (2147483647 : Int32)) % (3 : Int32))), .val (.int ((p3 &&& (2147483647 : Int32)) % (3 : Int32))), .val (.ref a1), .val (.int (1 : Int32))] []))
      refine Go.st (fun _ kq_ => XS.iload X11.here hx rfl (hb hby at_216) rfl kq_) ?_
      show Go p e below s _ _ _ (T11.setTop (mkF m 218 #[.val (.int p0), .val (.int p1), .val (.int p2), .val (.int p3), .val (.int p4), .val (.int p5), .val (.int (p0 &&& (3 : Int32))), .val (.int ((p1 &&& (2147483647 : Int32)) % (3 : Int32))), .val (.int ((p2 &&& (2147483647 : Int32)) % (3 : Int32))), .val (.int ((p3 &&& (2147483647 : Int32)) % (3 : Int32))), .val (.ref a1), .val (.int (1 : Int32))] [(.int (1 : Int32))]))
      refine Go.st (fun _ kq_ => XS.ifNo X11.here hx rfl (hb hby at_218) rfl (by decide) kq_) ?_
      show Go p e below s _ _ _ (T11.setTop (mkF m 221 #[.val (.int p0), .val (.int p1), .val (.int p2), .val (.int p3), .val (.int p4), .val (.int p5), .val (.int (p0 &&& (3 : Int32))), .val (.int ((p1 &&& (2147483647 : Int32)) % (3 : Int32))), .val (.int ((p2 &&& (2147483647 : Int32)) % (3 : Int32))), .val (.int ((p3 &&& (2147483647 : Int32)) % (3 : Int32))), .val (.ref a1), .val (.int (1 : Int32))] []))
      refine Go.st (fun _ kq_ => XS.aload X11.here hx rfl (hb hby at_221) rfl rfl kq_) ?_
      show Go p e below s _ _ _ (T11.setTop (mkF m 223 #[.val (.int p0), .val (.int p1), .val (.int p2), .val (.int p3), .val (.int p4), .val (.int p5), .val (.int (p0 &&& (3 : Int32))), .val (.int ((p1 &&& (2147483647 : Int32)) % (3 : Int32))), .val (.int ((p2 &&& (2147483647 : Int32)) % (3 : Int32))), .val (.int ((p3 &&& (2147483647 : Int32)) % (3 : Int32))), .val (.ref a1), .val (.int (1 : Int32))] [(.ref a1)]))
      refine Go.st (fun _ kq_ => XS.iconst X11.here hx rfl (hb hby at_223) kq_) ?_
      show Go p e below s _ _ _ (T11.setTop (mkF m 224 #[.val (.int p0), .val (.int p1), .val (.int p2), .val (.int p3), .val (.int p4), .val (.int p5), .val (.int (p0 &&& (3 : Int32))), .val (.int ((p1 &&& (2147483647 : Int32)) % (3 : Int32))), .val (.int ((p2 &&& (2147483647 : Int32)) % (3 : Int32))), .val (.int ((p3 &&& (2147483647 : Int32)) % (3 : Int32))), .val (.ref a1), .val (.int (1 : Int32))] [(.int (2 : Int32)), (.ref a1)]))
      obtain ⟨cq12, kq12, qa12, qb12, qc12⟩ := isOf hZ e11 E_a1
      obtain ⟨_, _, ⟨T12, L12, k12, n12⟩, -, X12, ⟨Lc12, hQ12, l12, y12, z12⟩, st12⟩ := X11.virtualBack hx (y := (⟨"com/example/element_ranker/elementranker/TagStatistics", "elementCount", "(I)I"⟩ : MethodName)) (z := (⟨"com/example/element_ranker/elementranker/TagStatistics", "elementCount", "(I)I"⟩ : MethodName)) hown (mvT hZ (own_w hw 16 rfl)) (mvT hZ (own_w hw 17 rfl)) (notFace_of_selects (args := #[]) (mvT hZ (own_w hw 19 rfl))) (mvT hZ (own_w hw 19 rfl)) (mvT hZ (own_w hw 18 rfl)) (by decide) (backOf (W := 0) (rme2 l Z a0 hw [] a1 b2 kb2 d2 kd2 (0 : Int32) (0 : Int32) (0 : Int32) (0 : Int64) (0 : Int64) (0 : Int64) (0 : Int32) (0 : Int64) T2.heap n0 O2 E_a1 F_a1_elementCounts F_a1_totalLengths F_a1_elementCount F_a1_totalLength V_b2 V_d2) hZ (own_w hw 20 rfl) (own_w hw 3 rfl) (by decide) (by decide)) qa12 qc12 (g := (mkF m 224 #[.val (.int p0), .val (.int p1), .val (.int p2), .val (.int p3), .val (.int p4), .val (.int p5), .val (.int (p0 &&& (3 : Int32))), .val (.int ((p1 &&& (2147483647 : Int32)) % (3 : Int32))), .val (.int ((p2 &&& (2147483647 : Int32)) % (3 : Int32))), .val (.int ((p3 &&& (2147483647 : Int32)) % (3 : Int32))), .val (.ref a1), .val (.int (1 : Int32))] [(.int (2 : Int32)), (.ref a1)])) rfl (by rw [hml]; rfl) (Steps.refl _) (argsL := [(.int (2 : Int32))]) (rest := []) (lenOf pd0_1 rfl) rfl (by show 2 * 0 + _ ≤ _; exact Nat.le_of_eq rfl) (hb hby at_224) (fun _ _ => ⟨rfl, e11, (by decide : 3 + 0 ≤ _), (by decide : 10 + 0 ≤ _)⟩)
      dsimp only [Pt.U, Pt.locs, Pt.cells, Pt.slots] at X12 l12 y12 z12 st12 hQ12
      subst l12 y12 z12
      obtain ⟨rfl, Nc12, e12⟩ := hQ12
      have N12 := Fr.app N11 Nc12
      refine Go.tr st12 ?_
      show Go p e below s _ _ _ (T12.setTop (mkF m 227 #[.val (.int p0), .val (.int p1), .val (.int p2), .val (.int p3), .val (.int p4), .val (.int p5), .val (.int (p0 &&& (3 : Int32))), .val (.int ((p1 &&& (2147483647 : Int32)) % (3 : Int32))), .val (.int ((p2 &&& (2147483647 : Int32)) % (3 : Int32))), .val (.int ((p3 &&& (2147483647 : Int32)) % (3 : Int32))), .val (.ref a1), .val (.int (1 : Int32))] [(.int (0 : Int32))]))
      refine Go.st (fun _ kq_ => XS.iload X12.here hx rfl (hb hby at_227) rfl kq_) ?_
      show Go p e below s _ _ _ (T12.setTop (mkF m 229 #[.val (.int p0), .val (.int p1), .val (.int p2), .val (.int p3), .val (.int p4), .val (.int p5), .val (.int (p0 &&& (3 : Int32))), .val (.int ((p1 &&& (2147483647 : Int32)) % (3 : Int32))), .val (.int ((p2 &&& (2147483647 : Int32)) % (3 : Int32))), .val (.int ((p3 &&& (2147483647 : Int32)) % (3 : Int32))), .val (.ref a1), .val (.int (1 : Int32))] [(.int (p0 &&& (3 : Int32))), (.int (0 : Int32))]))
      refine Go.st (fun _ kq_ => XS.iload X12.here hx rfl (hb hby at_229) rfl kq_) ?_
      show Go p e below s _ _ _ (T12.setTop (mkF m 231 #[.val (.int p0), .val (.int p1), .val (.int p2), .val (.int p3), .val (.int p4), .val (.int p5), .val (.int (p0 &&& (3 : Int32))), .val (.int ((p1 &&& (2147483647 : Int32)) % (3 : Int32))), .val (.int ((p2 &&& (2147483647 : Int32)) % (3 : Int32))), .val (.int ((p3 &&& (2147483647 : Int32)) % (3 : Int32))), .val (.ref a1), .val (.int (1 : Int32))] [(.int ((p1 &&& (2147483647 : Int32)) % (3 : Int32))), (.int (p0 &&& (3 : Int32))), (.int (0 : Int32))]))
      refine Go.st (fun _ kq_ => XS.iload X12.here hx rfl (hb hby at_231) rfl kq_) ?_
      show Go p e below s _ _ _ (T12.setTop (mkF m 233 #[.val (.int p0), .val (.int p1), .val (.int p2), .val (.int p3), .val (.int p4), .val (.int p5), .val (.int (p0 &&& (3 : Int32))), .val (.int ((p1 &&& (2147483647 : Int32)) % (3 : Int32))), .val (.int ((p2 &&& (2147483647 : Int32)) % (3 : Int32))), .val (.int ((p3 &&& (2147483647 : Int32)) % (3 : Int32))), .val (.ref a1), .val (.int (1 : Int32))] [(.int ((p2 &&& (2147483647 : Int32)) % (3 : Int32))), (.int ((p1 &&& (2147483647 : Int32)) % (3 : Int32))), (.int (p0 &&& (3 : Int32))), (.int (0 : Int32))]))
      refine Go.st (fun _ kq_ => XS.iload X12.here hx rfl (hb hby at_233) rfl kq_) ?_
      show Go p e below s _ _ _ (T12.setTop (mkF m 235 #[.val (.int p0), .val (.int p1), .val (.int p2), .val (.int p3), .val (.int p4), .val (.int p5), .val (.int (p0 &&& (3 : Int32))), .val (.int ((p1 &&& (2147483647 : Int32)) % (3 : Int32))), .val (.int ((p2 &&& (2147483647 : Int32)) % (3 : Int32))), .val (.int ((p3 &&& (2147483647 : Int32)) % (3 : Int32))), .val (.ref a1), .val (.int (1 : Int32))] [(.int ((p3 &&& (2147483647 : Int32)) % (3 : Int32))), (.int ((p2 &&& (2147483647 : Int32)) % (3 : Int32))), (.int ((p1 &&& (2147483647 : Int32)) % (3 : Int32))), (.int (p0 &&& (3 : Int32))), (.int (0 : Int32))]))
      refine Go.st (fun _ kq_ => XS.iconst X12.here hx rfl (hb hby at_235) kq_) ?_
      show Go p e below s _ _ _ (T12.setTop (mkF m 236 #[.val (.int p0), .val (.int p1), .val (.int p2), .val (.int p3), .val (.int p4), .val (.int p5), .val (.int (p0 &&& (3 : Int32))), .val (.int ((p1 &&& (2147483647 : Int32)) % (3 : Int32))), .val (.int ((p2 &&& (2147483647 : Int32)) % (3 : Int32))), .val (.int ((p3 &&& (2147483647 : Int32)) % (3 : Int32))), .val (.ref a1), .val (.int (1 : Int32))] [(.int (2 : Int32)), (.int ((p3 &&& (2147483647 : Int32)) % (3 : Int32))), (.int ((p2 &&& (2147483647 : Int32)) % (3 : Int32))), (.int ((p1 &&& (2147483647 : Int32)) % (3 : Int32))), (.int (p0 &&& (3 : Int32))), (.int (0 : Int32))]))
      obtain ⟨_, _, ⟨T13, L13, k13, n13⟩, -, X13, ⟨Lc13, hQ13, l13, y13, z13⟩, st13⟩ := Jvm.LawKit.callS X12 hx (y := (⟨"com/example/element_ranker/elementranker/TagStatisticsElementCountPinLaw", "expected", "(IIIII)I"⟩ : MethodName)) hown (mvT hZ (own_w hw 23 rfl)) (mvT hZ (own_w hw 24 rfl)) (mvT hZ (own_w hw 25 rfl)) (mvT hZ (own_w hw 26 rfl)) (by decide) (backOf (W := 1) (rmx l Z a0 hw [] (p0 &&& (3 : Int32)) ((p1 &&& (2147483647 : Int32)) % (3 : Int32)) ((p2 &&& (2147483647 : Int32)) % (3 : Int32)) ((p3 &&& (2147483647 : Int32)) % (3 : Int32)) (2 : Int32) T2.heap n0 O2 ) hZ (own_w hw 26 rfl) (own_w hw 25 rfl) (by decide) (by decide)) (g := (mkF m 236 #[.val (.int p0), .val (.int p1), .val (.int p2), .val (.int p3), .val (.int p4), .val (.int p5), .val (.int (p0 &&& (3 : Int32))), .val (.int ((p1 &&& (2147483647 : Int32)) % (3 : Int32))), .val (.int ((p2 &&& (2147483647 : Int32)) % (3 : Int32))), .val (.int ((p3 &&& (2147483647 : Int32)) % (3 : Int32))), .val (.ref a1), .val (.int (1 : Int32))] [(.int (2 : Int32)), (.int ((p3 &&& (2147483647 : Int32)) % (3 : Int32))), (.int ((p2 &&& (2147483647 : Int32)) % (3 : Int32))), (.int ((p1 &&& (2147483647 : Int32)) % (3 : Int32))), (.int (p0 &&& (3 : Int32))), (.int (0 : Int32))])) rfl (by rw [hml]; rfl) (argsL := [(.int (p0 &&& (3 : Int32))), (.int ((p1 &&& (2147483647 : Int32)) % (3 : Int32))), (.int ((p2 &&& (2147483647 : Int32)) % (3 : Int32))), (.int ((p3 &&& (2147483647 : Int32)) % (3 : Int32))), (.int (2 : Int32))]) (rest := [(.int (0 : Int32))]) (lenOf pd0_2 rfl) rfl (by show 2 * 0 + _ ≤ _; exact Nat.le_of_eq rfl) (hb hby at_236) (fun _ _ => ⟨rfl, e12, (by decide : 3 + 0 ≤ _), (by decide : 10 + 0 ≤ _)⟩)
      dsimp only [Pt.U, Pt.locs, Pt.cells, Pt.slots] at X13 l13 y13 z13 st13 hQ13
      subst l13 y13 z13
      obtain ⟨rfl, Nc13, e13⟩ := hQ13
      have N13 := Fr.app N12 Nc13
      refine Go.st st13 ?_
      show Go p e below s _ _ _ (T13.setTop (mkF m 239 #[.val (.int p0), .val (.int p1), .val (.int p2), .val (.int p3), .val (.int p4), .val (.int p5), .val (.int (p0 &&& (3 : Int32))), .val (.int ((p1 &&& (2147483647 : Int32)) % (3 : Int32))), .val (.int ((p2 &&& (2147483647 : Int32)) % (3 : Int32))), .val (.int ((p3 &&& (2147483647 : Int32)) % (3 : Int32))), .val (.ref a1), .val (.int (1 : Int32))] [(.int (fEx (p0 &&& (3 : Int32)) ((p1 &&& (2147483647 : Int32)) % (3 : Int32)) ((p2 &&& (2147483647 : Int32)) % (3 : Int32)) ((p3 &&& (2147483647 : Int32)) % (3 : Int32)) (2 : Int32))), (.int (0 : Int32))]))
      refine Go.st (fun _ kq_ => XS.icmpNo X13.here hx rfl (hb hby at_239) rfl (XT.ii_ne_f (own_q0_2 _ _ _ _ (own_n3 p0) c42_3)) kq_) ?_
      show Go p e below s _ _ _ (T13.setTop (mkF m 242 #[.val (.int p0), .val (.int p1), .val (.int p2), .val (.int p3), .val (.int p4), .val (.int p5), .val (.int (p0 &&& (3 : Int32))), .val (.int ((p1 &&& (2147483647 : Int32)) % (3 : Int32))), .val (.int ((p2 &&& (2147483647 : Int32)) % (3 : Int32))), .val (.int ((p3 &&& (2147483647 : Int32)) % (3 : Int32))), .val (.ref a1), .val (.int (1 : Int32))] []))
      refine Go.st (fun _ kq_ => XS.iconst X13.here hx rfl (hb hby at_242) kq_) ?_
      show Go p e below s _ _ _ (T13.setTop (mkF m 243 #[.val (.int p0), .val (.int p1), .val (.int p2), .val (.int p3), .val (.int p4), .val (.int p5), .val (.int (p0 &&& (3 : Int32))), .val (.int ((p1 &&& (2147483647 : Int32)) % (3 : Int32))), .val (.int ((p2 &&& (2147483647 : Int32)) % (3 : Int32))), .val (.int ((p3 &&& (2147483647 : Int32)) % (3 : Int32))), .val (.ref a1), .val (.int (1 : Int32))] [(.int (1 : Int32))]))
      refine Go.st (fun _ kq_ => XS.goto X13.here hx rfl (pc0 := 243) (pc' := 247) rfl (hb hby at_243) (by decide) (by decide) kq_) ?_
      show Go p e below s _ _ _ (T13.setTop (mkF m 247 #[.val (.int p0), .val (.int p1), .val (.int p2), .val (.int p3), .val (.int p4), .val (.int p5), .val (.int (p0 &&& (3 : Int32))), .val (.int ((p1 &&& (2147483647 : Int32)) % (3 : Int32))), .val (.int ((p2 &&& (2147483647 : Int32)) % (3 : Int32))), .val (.int ((p3 &&& (2147483647 : Int32)) % (3 : Int32))), .val (.ref a1), .val (.int (1 : Int32))] [(.int (1 : Int32))]))
      refine Go.st (fun _ kq_ => XS.istore X13.here hx rfl (hb hby at_247) rfl (l' := #[.val (.int p0), .val (.int p1), .val (.int p2), .val (.int p3), .val (.int p4), .val (.int p5), .val (.int (p0 &&& (3 : Int32))), .val (.int ((p1 &&& (2147483647 : Int32)) % (3 : Int32))), .val (.int ((p2 &&& (2147483647 : Int32)) % (3 : Int32))), .val (.int ((p3 &&& (2147483647 : Int32)) % (3 : Int32))), .val (.ref a1), .val (.int (1 : Int32))]) rfl kq_) ?_
      show Go p e below s _ _ _ (T13.setTop (mkF m 249 #[.val (.int p0), .val (.int p1), .val (.int p2), .val (.int p3), .val (.int p4), .val (.int p5), .val (.int (p0 &&& (3 : Int32))), .val (.int ((p1 &&& (2147483647 : Int32)) % (3 : Int32))), .val (.int ((p2 &&& (2147483647 : Int32)) % (3 : Int32))), .val (.int ((p3 &&& (2147483647 : Int32)) % (3 : Int32))), .val (.ref a1), .val (.int (1 : Int32))] []))
      refine Go.st (fun _ kq_ => XS.iload X13.here hx rfl (hb hby at_249) rfl kq_) ?_
      show Go p e below s _ _ _ (T13.setTop (mkF m 251 #[.val (.int p0), .val (.int p1), .val (.int p2), .val (.int p3), .val (.int p4), .val (.int p5), .val (.int (p0 &&& (3 : Int32))), .val (.int ((p1 &&& (2147483647 : Int32)) % (3 : Int32))), .val (.int ((p2 &&& (2147483647 : Int32)) % (3 : Int32))), .val (.int ((p3 &&& (2147483647 : Int32)) % (3 : Int32))), .val (.ref a1), .val (.int (1 : Int32))] [(.int (1 : Int32))]))
      exact Go.ret X13 hlk (some (.int (nar .boolean (1 : Int32)))) (fun h => by rw [Bd.returns] at h; cases h) (by rw [e13]; exact ⟨rfl, N13⟩) (by decide) (by decide) (fun fs hr => retN X13 hx (t := .boolean) Bd.returns (by simp) (hb hby at_251) hr)
    · refine Go.st (fun _ kq_ => XS.icmpNo X2.here hx rfl (hb hby at_42) rfl (XT.ii_lt_f c42_3) kq_) ?_
      show Go p e below s _ _ _ (T2.setTop (mkF m 45 #[.val (.int p0), .val (.int p1), .val (.int p2), .val (.int p3), .val (.int p4), .val (.int p5), .val (.int (p0 &&& (3 : Int32))), .val (.int ((p1 &&& (2147483647 : Int32)) % (3 : Int32))), .val (.int ((p2 &&& (2147483647 : Int32)) % (3 : Int32))), .val (.int ((p3 &&& (2147483647 : Int32)) % (3 : Int32))), .val (.ref a1), .unset] []))
      refine Go.st (fun _ kq_ => XS.aload X2.here hx rfl (hb hby at_45) rfl rfl kq_) ?_
      show Go p e below s _ _ _ (T2.setTop (mkF m 47 #[.val (.int p0), .val (.int p1), .val (.int p2), .val (.int p3), .val (.int p4), .val (.int p5), .val (.int (p0 &&& (3 : Int32))), .val (.int ((p1 &&& (2147483647 : Int32)) % (3 : Int32))), .val (.int ((p2 &&& (2147483647 : Int32)) % (3 : Int32))), .val (.int ((p3 &&& (2147483647 : Int32)) % (3 : Int32))), .val (.ref a1), .unset] [(.ref a1)]))
      refine Go.st (fun _ kq_ => XS.iload X2.here hx rfl (hb hby at_47) rfl kq_) ?_
      show Go p e below s _ _ _ (T2.setTop (mkF m 49 #[.val (.int p0), .val (.int p1), .val (.int p2), .val (.int p3), .val (.int p4), .val (.int p5), .val (.int (p0 &&& (3 : Int32))), .val (.int ((p1 &&& (2147483647 : Int32)) % (3 : Int32))), .val (.int ((p2 &&& (2147483647 : Int32)) % (3 : Int32))), .val (.int ((p3 &&& (2147483647 : Int32)) % (3 : Int32))), .val (.ref a1), .unset] [(.int ((p1 &&& (2147483647 : Int32)) % (3 : Int32))), (.ref a1)]))
      refine Go.st (fun _ kq_ => XS.iload X2.here hx rfl (hb hby at_49) rfl kq_) ?_
      show Go p e below s _ _ _ (T2.setTop (mkF m 51 #[.val (.int p0), .val (.int p1), .val (.int p2), .val (.int p3), .val (.int p4), .val (.int p5), .val (.int (p0 &&& (3 : Int32))), .val (.int ((p1 &&& (2147483647 : Int32)) % (3 : Int32))), .val (.int ((p2 &&& (2147483647 : Int32)) % (3 : Int32))), .val (.int ((p3 &&& (2147483647 : Int32)) % (3 : Int32))), .val (.ref a1), .unset] [(.int p4), (.int ((p1 &&& (2147483647 : Int32)) % (3 : Int32))), (.ref a1)]))
      obtain ⟨cq14, kq14, qa14, qb14, qc14⟩ := isOf hZ rfl E_a1
      obtain ⟨_, _, ⟨T14, L14, k14, n14⟩, -, X14, ⟨Lc14, hQ14, l14, y14, z14⟩, st14⟩ := X2.virtualBack hx (y := (⟨"com/example/element_ranker/elementranker/TagStatistics", "add", "(II)V"⟩ : MethodName)) (z := (⟨"com/example/element_ranker/elementranker/TagStatistics", "add", "(II)V"⟩ : MethodName)) hown (mvT hZ (own_w hw 27 rfl)) (mvT hZ (own_w hw 28 rfl)) (notFace_of_selects (args := #[]) (mvT hZ (own_w hw 30 rfl))) (mvT hZ (own_w hw 30 rfl)) (mvT hZ (own_w hw 29 rfl)) (by decide) (backOf (W := 0) (rma l Z a0 hw [] a1 b2 kb2 d2 kd2 (0 : Int32) (0 : Int32) (0 : Int32) (0 : Int64) (0 : Int64) (0 : Int64) (0 : Int32) (0 : Int64) ((p1 &&& (2147483647 : Int32)) % (3 : Int32)) p4 T2.heap n0 O2 E_a1 F_a1_elementCounts F_a1_totalLengths F_a1_elementCount F_a1_totalLength V_b2 V_d2 g_a1 g_b2 g_d2 ne_a1_b2 ne_a1_d2 ned2 (own_rem p1 3 (by decide))) hZ (own_w hw 31 rfl) (own_w hw 3 rfl) (by decide) (by decide)) qa14 qc14 (g := (mkF m 51 #[.val (.int p0), .val (.int p1), .val (.int p2), .val (.int p3), .val (.int p4), .val (.int p5), .val (.int (p0 &&& (3 : Int32))), .val (.int ((p1 &&& (2147483647 : Int32)) % (3 : Int32))), .val (.int ((p2 &&& (2147483647 : Int32)) % (3 : Int32))), .val (.int ((p3 &&& (2147483647 : Int32)) % (3 : Int32))), .val (.ref a1), .unset] [(.int p4), (.int ((p1 &&& (2147483647 : Int32)) % (3 : Int32))), (.ref a1)])) rfl (by rw [hml]; rfl) (Steps.refl _) (argsL := [(.int ((p1 &&& (2147483647 : Int32)) % (3 : Int32))), (.int p4)]) (rest := []) (lenOf pd0_3 rfl) rfl (by show 2 * 0 + _ ≤ _; exact Nat.le_of_eq rfl) (hb hby at_51) (fun _ _ => ⟨rfl, rfl, (by decide : 3 + 0 ≤ _), (by decide : 10 + 0 ≤ _)⟩)
      dsimp only [Pt.U, Pt.locs, Pt.cells, Pt.slots] at X14 l14 y14 z14 st14 hQ14
      subst l14 y14 z14
      obtain ⟨rfl, Nc14, Kc14, NE_a1, NF_a1_elementCounts, NF_a1_totalLengths, NF_a1_elementCount, NF_a1_totalLength, NV_b2, NV_d2⟩ := hQ14
      have N14 := Fr.app N2 Nc14
      have O14 := O2.keep Kc14 (allS g_a1 (allS g_b2 (allS g_d2 all0)))
      have E_a1 := NE_a1
      have F_a1_elementCounts := NF_a1_elementCounts
      have F_a1_totalLengths := NF_a1_totalLengths
      have F_a1_elementCount := NF_a1_elementCount
      have F_a1_totalLength := NF_a1_totalLength
      have V_b2 := NV_b2
      have V_d2 := NV_d2
      refine Go.tr st14 ?_
      show Go p e below s _ _ _ (T14.setTop (mkF m 54 #[.val (.int p0), .val (.int p1), .val (.int p2), .val (.int p3), .val (.int p4), .val (.int p5), .val (.int (p0 &&& (3 : Int32))), .val (.int ((p1 &&& (2147483647 : Int32)) % (3 : Int32))), .val (.int ((p2 &&& (2147483647 : Int32)) % (3 : Int32))), .val (.int ((p3 &&& (2147483647 : Int32)) % (3 : Int32))), .val (.ref a1), .unset] []))
      refine Go.st (fun _ kq_ => XS.iload X14.here hx rfl (hb hby at_54) rfl kq_) ?_
      show Go p e below s _ _ _ (T14.setTop (mkF m 56 #[.val (.int p0), .val (.int p1), .val (.int p2), .val (.int p3), .val (.int p4), .val (.int p5), .val (.int (p0 &&& (3 : Int32))), .val (.int ((p1 &&& (2147483647 : Int32)) % (3 : Int32))), .val (.int ((p2 &&& (2147483647 : Int32)) % (3 : Int32))), .val (.int ((p3 &&& (2147483647 : Int32)) % (3 : Int32))), .val (.ref a1), .unset] [(.int (p0 &&& (3 : Int32)))]))
      refine Go.st (fun _ kq_ => XS.iconst X14.here hx rfl (hb hby at_56) kq_) ?_
      show Go p e below s _ _ _ (T14.setTop (mkF m 57 #[.val (.int p0), .val (.int p1), .val (.int p2), .val (.int p3), .val (.int p4), .val (.int p5), .val (.int (p0 &&& (3 : Int32))), .val (.int ((p1 &&& (2147483647 : Int32)) % (3 : Int32))), .val (.int ((p2 &&& (2147483647 : Int32)) % (3 : Int32))), .val (.int ((p3 &&& (2147483647 : Int32)) % (3 : Int32))), .val (.ref a1), .unset] [(.int (2 : Int32)), (.int (p0 &&& (3 : Int32)))]))
      by_cases c57_15 : (p0 &&& (3 : Int32)) < (2 : Int32)
      · refine Go.st (fun _ kq_ => XS.icmpYes X14.here hx rfl (pc0 := 57) (pc' := 69) rfl (hb hby at_57) rfl (XT.ii_lt_t c57_15) (by decide) (by decide) kq_) ?_
        show Go p e below s _ _ _ (T14.setTop (mkF m 69 #[.val (.int p0), .val (.int p1), .val (.int p2), .val (.int p3), .val (.int p4), .val (.int p5), .val (.int (p0 &&& (3 : Int32))), .val (.int ((p1 &&& (2147483647 : Int32)) % (3 : Int32))), .val (.int ((p2 &&& (2147483647 : Int32)) % (3 : Int32))), .val (.int ((p3 &&& (2147483647 : Int32)) % (3 : Int32))), .val (.ref a1), .unset] []))
        refine Go.st (fun _ kq_ => XS.iload X14.here hx rfl (hb hby at_69) rfl kq_) ?_
        show Go p e below s _ _ _ (T14.setTop (mkF m 71 #[.val (.int p0), .val (.int p1), .val (.int p2), .val (.int p3), .val (.int p4), .val (.int p5), .val (.int (p0 &&& (3 : Int32))), .val (.int ((p1 &&& (2147483647 : Int32)) % (3 : Int32))), .val (.int ((p2 &&& (2147483647 : Int32)) % (3 : Int32))), .val (.int ((p3 &&& (2147483647 : Int32)) % (3 : Int32))), .val (.ref a1), .unset] [(.int (p0 &&& (3 : Int32)))]))
        refine Go.st (fun _ kq_ => XS.iconst X14.here hx rfl (hb hby at_71) kq_) ?_
        show Go p e below s _ _ _ (T14.setTop (mkF m 72 #[.val (.int p0), .val (.int p1), .val (.int p2), .val (.int p3), .val (.int p4), .val (.int p5), .val (.int (p0 &&& (3 : Int32))), .val (.int ((p1 &&& (2147483647 : Int32)) % (3 : Int32))), .val (.int ((p2 &&& (2147483647 : Int32)) % (3 : Int32))), .val (.int ((p3 &&& (2147483647 : Int32)) % (3 : Int32))), .val (.ref a1), .unset] [(.int (3 : Int32)), (.int (p0 &&& (3 : Int32)))]))
        refine Go.st (fun _ kq_ => XS.icmpYes X14.here hx rfl (pc0 := 72) (pc' := 87) rfl (hb hby at_72) rfl (XT.ii_lt_t (own_up c57_15 (by decide))) (by decide) (by decide) kq_) ?_
        show Go p e below s _ _ _ (T14.setTop (mkF m 87 #[.val (.int p0), .val (.int p1), .val (.int p2), .val (.int p3), .val (.int p4), .val (.int p5), .val (.int (p0 &&& (3 : Int32))), .val (.int ((p1 &&& (2147483647 : Int32)) % (3 : Int32))), .val (.int ((p2 &&& (2147483647 : Int32)) % (3 : Int32))), .val (.int ((p3 &&& (2147483647 : Int32)) % (3 : Int32))), .val (.ref a1), .unset] []))
        refine Go.st (fun _ kq_ => XS.aload X14.here hx rfl (hb hby at_87) rfl rfl kq_) ?_
        show Go p e below s _ _ _ (T14.setTop (mkF m 89 #[.val (.int p0), .val (.int p1), .val (.int p2), .val (.int p3), .val (.int p4), .val (.int p5), .val (.int (p0 &&& (3 : Int32))), .val (.int ((p1 &&& (2147483647 : Int32)) % (3 : Int32))), .val (.int ((p2 &&& (2147483647 : Int32)) % (3 : Int32))), .val (.int ((p3 &&& (2147483647 : Int32)) % (3 : Int32))), .val (.ref a1), .unset] [(.ref a1)]))
        refine Go.st (fun _ kq_ => XS.iconst X14.here hx rfl (hb hby at_89) kq_) ?_
        show Go p e below s _ _ _ (T14.setTop (mkF m 90 #[.val (.int p0), .val (.int p1), .val (.int p2), .val (.int p3), .val (.int p4), .val (.int p5), .val (.int (p0 &&& (3 : Int32))), .val (.int ((p1 &&& (2147483647 : Int32)) % (3 : Int32))), .val (.int ((p2 &&& (2147483647 : Int32)) % (3 : Int32))), .val (.int ((p3 &&& (2147483647 : Int32)) % (3 : Int32))), .val (.ref a1), .unset] [(.int (-1 : Int32)), (.ref a1)]))
        obtain ⟨cq16, kq16, qa16, qb16, qc16⟩ := isOf hZ rfl E_a1
        obtain ⟨_, _, ⟨T16, L16, k16, n16⟩, -, X16, ⟨Lc16, hQ16, l16, y16, z16⟩, st16⟩ := X14.virtualBack hx (y := (⟨"com/example/element_ranker/elementranker/TagStatistics", "elementCount", "(I)I"⟩ : MethodName)) (z := (⟨"com/example/element_ranker/elementranker/TagStatistics", "elementCount", "(I)I"⟩ : MethodName)) hown (mvT hZ (own_w hw 16 rfl)) (mvT hZ (own_w hw 17 rfl)) (notFace_of_selects (args := #[]) (mvT hZ (own_w hw 19 rfl))) (mvT hZ (own_w hw 19 rfl)) (mvT hZ (own_w hw 18 rfl)) (by decide) (backOf (W := 0) (rmem1 l Z a0 hw [] a1 b2 kb2 d2 kd2 (ad 0 ((p1 &&& (2147483647 : Int32)) % (3 : Int32)) (0 : Int32)) (ad 1 ((p1 &&& (2147483647 : Int32)) % (3 : Int32)) (0 : Int32)) (ad 2 ((p1 &&& (2147483647 : Int32)) % (3 : Int32)) (0 : Int32)) (adL 0 ((p1 &&& (2147483647 : Int32)) % (3 : Int32)) p4 (0 : Int64)) (adL 1 ((p1 &&& (2147483647 : Int32)) % (3 : Int32)) p4 (0 : Int64)) (adL 2 ((p1 &&& (2147483647 : Int32)) % (3 : Int32)) p4 (0 : Int64)) ((0 : Int32) + (1 : Int32)) ((0 : Int64) + p4.toInt64) T14.heap n0 O14 E_a1 F_a1_elementCounts F_a1_totalLengths F_a1_elementCount F_a1_totalLength V_b2 V_d2) hZ (own_w hw 20 rfl) (own_w hw 3 rfl) (by decide) (by decide)) qa16 qc16 (g := (mkF m 90 #[.val (.int p0), .val (.int p1), .val (.int p2), .val (.int p3), .val (.int p4), .val (.int p5), .val (.int (p0 &&& (3 : Int32))), .val (.int ((p1 &&& (2147483647 : Int32)) % (3 : Int32))), .val (.int ((p2 &&& (2147483647 : Int32)) % (3 : Int32))), .val (.int ((p3 &&& (2147483647 : Int32)) % (3 : Int32))), .val (.ref a1), .unset] [(.int (-1 : Int32)), (.ref a1)])) rfl (by rw [hml]; rfl) (Steps.refl _) (argsL := [(.int (-1 : Int32))]) (rest := []) (lenOf pd0_1 rfl) rfl (by show 2 * 0 + _ ≤ _; exact Nat.le_of_eq rfl) (hb hby at_90) (fun _ _ => ⟨rfl, rfl, (by decide : 3 + 0 ≤ _), (by decide : 10 + 0 ≤ _)⟩)
        dsimp only [Pt.U, Pt.locs, Pt.cells, Pt.slots] at X16 l16 y16 z16 st16 hQ16
        subst l16 y16 z16
        obtain ⟨rfl, Nc16, e16⟩ := hQ16
        have N16 := Fr.app N14 Nc16
        refine Go.tr st16 ?_
        show Go p e below s _ _ _ (T16.setTop (mkF m 93 #[.val (.int p0), .val (.int p1), .val (.int p2), .val (.int p3), .val (.int p4), .val (.int p5), .val (.int (p0 &&& (3 : Int32))), .val (.int ((p1 &&& (2147483647 : Int32)) % (3 : Int32))), .val (.int ((p2 &&& (2147483647 : Int32)) % (3 : Int32))), .val (.int ((p3 &&& (2147483647 : Int32)) % (3 : Int32))), .val (.ref a1), .unset] [(.int ((0 : Int32) + (1 : Int32)))]))
        refine Go.st (fun _ kq_ => XS.iload X16.here hx rfl (hb hby at_93) rfl kq_) ?_
        show Go p e below s _ _ _ (T16.setTop (mkF m 95 #[.val (.int p0), .val (.int p1), .val (.int p2), .val (.int p3), .val (.int p4), .val (.int p5), .val (.int (p0 &&& (3 : Int32))), .val (.int ((p1 &&& (2147483647 : Int32)) % (3 : Int32))), .val (.int ((p2 &&& (2147483647 : Int32)) % (3 : Int32))), .val (.int ((p3 &&& (2147483647 : Int32)) % (3 : Int32))), .val (.ref a1), .unset] [(.int (p0 &&& (3 : Int32))), (.int ((0 : Int32) + (1 : Int32)))]))
        refine Go.st (fun _ kq_ => XS.iload X16.here hx rfl (hb hby at_95) rfl kq_) ?_
        show Go p e below s _ _ _ (T16.setTop (mkF m 97 #[.val (.int p0), .val (.int p1), .val (.int p2), .val (.int p3), .val (.int p4), .val (.int p5), .val (.int (p0 &&& (3 : Int32))), .val (.int ((p1 &&& (2147483647 : Int32)) % (3 : Int32))), .val (.int ((p2 &&& (2147483647 : Int32)) % (3 : Int32))), .val (.int ((p3 &&& (2147483647 : Int32)) % (3 : Int32))), .val (.ref a1), .unset] [(.int ((p1 &&& (2147483647 : Int32)) % (3 : Int32))), (.int (p0 &&& (3 : Int32))), (.int ((0 : Int32) + (1 : Int32)))]))
        refine Go.st (fun _ kq_ => XS.iload X16.here hx rfl (hb hby at_97) rfl kq_) ?_
        show Go p e below s _ _ _ (T16.setTop (mkF m 99 #[.val (.int p0), .val (.int p1), .val (.int p2), .val (.int p3), .val (.int p4), .val (.int p5), .val (.int (p0 &&& (3 : Int32))), .val (.int ((p1 &&& (2147483647 : Int32)) % (3 : Int32))), .val (.int ((p2 &&& (2147483647 : Int32)) % (3 : Int32))), .val (.int ((p3 &&& (2147483647 : Int32)) % (3 : Int32))), .val (.ref a1), .unset] [(.int ((p2 &&& (2147483647 : Int32)) % (3 : Int32))), (.int ((p1 &&& (2147483647 : Int32)) % (3 : Int32))), (.int (p0 &&& (3 : Int32))), (.int ((0 : Int32) + (1 : Int32)))]))
        refine Go.st (fun _ kq_ => XS.iload X16.here hx rfl (hb hby at_99) rfl kq_) ?_
        show Go p e below s _ _ _ (T16.setTop (mkF m 101 #[.val (.int p0), .val (.int p1), .val (.int p2), .val (.int p3), .val (.int p4), .val (.int p5), .val (.int (p0 &&& (3 : Int32))), .val (.int ((p1 &&& (2147483647 : Int32)) % (3 : Int32))), .val (.int ((p2 &&& (2147483647 : Int32)) % (3 : Int32))), .val (.int ((p3 &&& (2147483647 : Int32)) % (3 : Int32))), .val (.ref a1), .unset] [(.int ((p3 &&& (2147483647 : Int32)) % (3 : Int32))), (.int ((p2 &&& (2147483647 : Int32)) % (3 : Int32))), (.int ((p1 &&& (2147483647 : Int32)) % (3 : Int32))), (.int (p0 &&& (3 : Int32))), (.int ((0 : Int32) + (1 : Int32)))]))
        refine Go.st (fun _ kq_ => XS.iconst X16.here hx rfl (hb hby at_101) kq_) ?_
        show Go p e below s _ _ _ (T16.setTop (mkF m 102 #[.val (.int p0), .val (.int p1), .val (.int p2), .val (.int p3), .val (.int p4), .val (.int p5), .val (.int (p0 &&& (3 : Int32))), .val (.int ((p1 &&& (2147483647 : Int32)) % (3 : Int32))), .val (.int ((p2 &&& (2147483647 : Int32)) % (3 : Int32))), .val (.int ((p3 &&& (2147483647 : Int32)) % (3 : Int32))), .val (.ref a1), .unset] [(.int (-1 : Int32)), (.int ((p3 &&& (2147483647 : Int32)) % (3 : Int32))), (.int ((p2 &&& (2147483647 : Int32)) % (3 : Int32))), (.int ((p1 &&& (2147483647 : Int32)) % (3 : Int32))), (.int (p0 &&& (3 : Int32))), (.int ((0 : Int32) + (1 : Int32)))]))
        obtain ⟨_, _, ⟨T17, L17, k17, n17⟩, -, X17, ⟨Lc17, hQ17, l17, y17, z17⟩, st17⟩ := Jvm.LawKit.callS X16 hx (y := (⟨"com/example/element_ranker/elementranker/TagStatisticsElementCountPinLaw", "expected", "(IIIII)I"⟩ : MethodName)) hown (mvT hZ (own_w hw 23 rfl)) (mvT hZ (own_w hw 24 rfl)) (mvT hZ (own_w hw 25 rfl)) (mvT hZ (own_w hw 26 rfl)) (by decide) (backOf (W := 1) (rmx l Z a0 hw [] (p0 &&& (3 : Int32)) ((p1 &&& (2147483647 : Int32)) % (3 : Int32)) ((p2 &&& (2147483647 : Int32)) % (3 : Int32)) ((p3 &&& (2147483647 : Int32)) % (3 : Int32)) (-1 : Int32) T14.heap n0 O14 ) hZ (own_w hw 26 rfl) (own_w hw 25 rfl) (by decide) (by decide)) (g := (mkF m 102 #[.val (.int p0), .val (.int p1), .val (.int p2), .val (.int p3), .val (.int p4), .val (.int p5), .val (.int (p0 &&& (3 : Int32))), .val (.int ((p1 &&& (2147483647 : Int32)) % (3 : Int32))), .val (.int ((p2 &&& (2147483647 : Int32)) % (3 : Int32))), .val (.int ((p3 &&& (2147483647 : Int32)) % (3 : Int32))), .val (.ref a1), .unset] [(.int (-1 : Int32)), (.int ((p3 &&& (2147483647 : Int32)) % (3 : Int32))), (.int ((p2 &&& (2147483647 : Int32)) % (3 : Int32))), (.int ((p1 &&& (2147483647 : Int32)) % (3 : Int32))), (.int (p0 &&& (3 : Int32))), (.int ((0 : Int32) + (1 : Int32)))])) rfl (by rw [hml]; rfl) (argsL := [(.int (p0 &&& (3 : Int32))), (.int ((p1 &&& (2147483647 : Int32)) % (3 : Int32))), (.int ((p2 &&& (2147483647 : Int32)) % (3 : Int32))), (.int ((p3 &&& (2147483647 : Int32)) % (3 : Int32))), (.int (-1 : Int32))]) (rest := [(.int ((0 : Int32) + (1 : Int32)))]) (lenOf pd0_2 rfl) rfl (by show 2 * 0 + _ ≤ _; exact Nat.le_of_eq rfl) (hb hby at_102) (fun _ _ => ⟨rfl, e16, (by decide : 3 + 0 ≤ _), (by decide : 10 + 0 ≤ _)⟩)
        dsimp only [Pt.U, Pt.locs, Pt.cells, Pt.slots] at X17 l17 y17 z17 st17 hQ17
        subst l17 y17 z17
        obtain ⟨rfl, Nc17, e17⟩ := hQ17
        have N17 := Fr.app N16 Nc17
        refine Go.st st17 ?_
        show Go p e below s _ _ _ (T17.setTop (mkF m 105 #[.val (.int p0), .val (.int p1), .val (.int p2), .val (.int p3), .val (.int p4), .val (.int p5), .val (.int (p0 &&& (3 : Int32))), .val (.int ((p1 &&& (2147483647 : Int32)) % (3 : Int32))), .val (.int ((p2 &&& (2147483647 : Int32)) % (3 : Int32))), .val (.int ((p3 &&& (2147483647 : Int32)) % (3 : Int32))), .val (.ref a1), .unset] [(.int (fEx (p0 &&& (3 : Int32)) ((p1 &&& (2147483647 : Int32)) % (3 : Int32)) ((p2 &&& (2147483647 : Int32)) % (3 : Int32)) ((p3 &&& (2147483647 : Int32)) % (3 : Int32)) (-1 : Int32))), (.int ((0 : Int32) + (1 : Int32)))]))
        refine Go.st (fun _ kq_ => XS.icmpNo X17.here hx rfl (hb hby at_105) rfl (XT.ii_ne_f (own_q1_m1 _ _ _ _ (own_n3 p0) c42_3 c57_15)) kq_) ?_
        show Go p e below s _ _ _ (T17.setTop (mkF m 108 #[.val (.int p0), .val (.int p1), .val (.int p2), .val (.int p3), .val (.int p4), .val (.int p5), .val (.int (p0 &&& (3 : Int32))), .val (.int ((p1 &&& (2147483647 : Int32)) % (3 : Int32))), .val (.int ((p2 &&& (2147483647 : Int32)) % (3 : Int32))), .val (.int ((p3 &&& (2147483647 : Int32)) % (3 : Int32))), .val (.ref a1), .unset] []))
        refine Go.st (fun _ kq_ => XS.iconst X17.here hx rfl (hb hby at_108) kq_) ?_
        show Go p e below s _ _ _ (T17.setTop (mkF m 109 #[.val (.int p0), .val (.int p1), .val (.int p2), .val (.int p3), .val (.int p4), .val (.int p5), .val (.int (p0 &&& (3 : Int32))), .val (.int ((p1 &&& (2147483647 : Int32)) % (3 : Int32))), .val (.int ((p2 &&& (2147483647 : Int32)) % (3 : Int32))), .val (.int ((p3 &&& (2147483647 : Int32)) % (3 : Int32))), .val (.ref a1), .unset] [(.int (1 : Int32))]))
        refine Go.st (fun _ kq_ => XS.goto X17.here hx rfl (pc0 := 109) (pc' := 113) rfl (hb hby at_109) (by decide) (by decide) kq_) ?_
        show Go p e below s _ _ _ (T17.setTop (mkF m 113 #[.val (.int p0), .val (.int p1), .val (.int p2), .val (.int p3), .val (.int p4), .val (.int p5), .val (.int (p0 &&& (3 : Int32))), .val (.int ((p1 &&& (2147483647 : Int32)) % (3 : Int32))), .val (.int ((p2 &&& (2147483647 : Int32)) % (3 : Int32))), .val (.int ((p3 &&& (2147483647 : Int32)) % (3 : Int32))), .val (.ref a1), .unset] [(.int (1 : Int32))]))
        refine Go.st (fun _ kq_ => XS.istore X17.here hx rfl (hb hby at_113) rfl (l' := #[.val (.int p0), .val (.int p1), .val (.int p2), .val (.int p3), .val (.int p4), .val (.int p5), .val (.int (p0 &&& (3 : Int32))), .val (.int ((p1 &&& (2147483647 : Int32)) % (3 : Int32))), .val (.int ((p2 &&& (2147483647 : Int32)) % (3 : Int32))), .val (.int ((p3 &&& (2147483647 : Int32)) % (3 : Int32))), .val (.ref a1), .val (.int (1 : Int32))]) rfl kq_) ?_
        show Go p e below s _ _ _ (T17.setTop (mkF m 115 #[.val (.int p0), .val (.int p1), .val (.int p2), .val (.int p3), .val (.int p4), .val (.int p5), .val (.int (p0 &&& (3 : Int32))), .val (.int ((p1 &&& (2147483647 : Int32)) % (3 : Int32))), .val (.int ((p2 &&& (2147483647 : Int32)) % (3 : Int32))), .val (.int ((p3 &&& (2147483647 : Int32)) % (3 : Int32))), .val (.ref a1), .val (.int (1 : Int32))] []))
        refine Go.st (fun _ kq_ => XS.iload X17.here hx rfl (hb hby at_115) rfl kq_) ?_
        show Go p e below s _ _ _ (T17.setTop (mkF m 117 #[.val (.int p0), .val (.int p1), .val (.int p2), .val (.int p3), .val (.int p4), .val (.int p5), .val (.int (p0 &&& (3 : Int32))), .val (.int ((p1 &&& (2147483647 : Int32)) % (3 : Int32))), .val (.int ((p2 &&& (2147483647 : Int32)) % (3 : Int32))), .val (.int ((p3 &&& (2147483647 : Int32)) % (3 : Int32))), .val (.ref a1), .val (.int (1 : Int32))] [(.int (1 : Int32))]))
        refine Go.st (fun _ kq_ => XS.ifNo X17.here hx rfl (hb hby at_117) rfl (by decide) kq_) ?_
        show Go p e below s _ _ _ (T17.setTop (mkF m 120 #[.val (.int p0), .val (.int p1), .val (.int p2), .val (.int p3), .val (.int p4), .val (.int p5), .val (.int (p0 &&& (3 : Int32))), .val (.int ((p1 &&& (2147483647 : Int32)) % (3 : Int32))), .val (.int ((p2 &&& (2147483647 : Int32)) % (3 : Int32))), .val (.int ((p3 &&& (2147483647 : Int32)) % (3 : Int32))), .val (.ref a1), .val (.int (1 : Int32))] []))
        refine Go.st (fun _ kq_ => XS.aload X17.here hx rfl (hb hby at_120) rfl rfl kq_) ?_
        show Go p e below s _ _ _ (T17.setTop (mkF m 122 #[.val (.int p0), .val (.int p1), .val (.int p2), .val (.int p3), .val (.int p4), .val (.int p5), .val (.int (p0 &&& (3 : Int32))), .val (.int ((p1 &&& (2147483647 : Int32)) % (3 : Int32))), .val (.int ((p2 &&& (2147483647 : Int32)) % (3 : Int32))), .val (.int ((p3 &&& (2147483647 : Int32)) % (3 : Int32))), .val (.ref a1), .val (.int (1 : Int32))] [(.ref a1)]))
        refine Go.st (fun _ kq_ => XS.bipush X17.here hx rfl (hb hby at_122) kq_) ?_
        show Go p e below s _ _ _ (T17.setTop (mkF m 124 #[.val (.int p0), .val (.int p1), .val (.int p2), .val (.int p3), .val (.int p4), .val (.int p5), .val (.int (p0 &&& (3 : Int32))), .val (.int ((p1 &&& (2147483647 : Int32)) % (3 : Int32))), .val (.int ((p2 &&& (2147483647 : Int32)) % (3 : Int32))), .val (.int ((p3 &&& (2147483647 : Int32)) % (3 : Int32))), .val (.ref a1), .val (.int (1 : Int32))] [(.int (-2 : Int32)), (.ref a1)]))
        obtain ⟨cq18, kq18, qa18, qb18, qc18⟩ := isOf hZ e17 E_a1
        obtain ⟨_, _, ⟨T18, L18, k18, n18⟩, -, X18, ⟨Lc18, hQ18, l18, y18, z18⟩, st18⟩ := X17.virtualBack hx (y := (⟨"com/example/element_ranker/elementranker/TagStatistics", "elementCount", "(I)I"⟩ : MethodName)) (z := (⟨"com/example/element_ranker/elementranker/TagStatistics", "elementCount", "(I)I"⟩ : MethodName)) hown (mvT hZ (own_w hw 16 rfl)) (mvT hZ (own_w hw 17 rfl)) (notFace_of_selects (args := #[]) (mvT hZ (own_w hw 19 rfl))) (mvT hZ (own_w hw 19 rfl)) (mvT hZ (own_w hw 18 rfl)) (by decide) (backOf (W := 0) (rmem2 l Z a0 hw [] a1 b2 kb2 d2 kd2 (ad 0 ((p1 &&& (2147483647 : Int32)) % (3 : Int32)) (0 : Int32)) (ad 1 ((p1 &&& (2147483647 : Int32)) % (3 : Int32)) (0 : Int32)) (ad 2 ((p1 &&& (2147483647 : Int32)) % (3 : Int32)) (0 : Int32)) (adL 0 ((p1 &&& (2147483647 : Int32)) % (3 : Int32)) p4 (0 : Int64)) (adL 1 ((p1 &&& (2147483647 : Int32)) % (3 : Int32)) p4 (0 : Int64)) (adL 2 ((p1 &&& (2147483647 : Int32)) % (3 : Int32)) p4 (0 : Int64)) ((0 : Int32) + (1 : Int32)) ((0 : Int64) + p4.toInt64) T14.heap n0 O14 E_a1 F_a1_elementCounts F_a1_totalLengths F_a1_elementCount F_a1_totalLength V_b2 V_d2) hZ (own_w hw 20 rfl) (own_w hw 3 rfl) (by decide) (by decide)) qa18 qc18 (g := (mkF m 124 #[.val (.int p0), .val (.int p1), .val (.int p2), .val (.int p3), .val (.int p4), .val (.int p5), .val (.int (p0 &&& (3 : Int32))), .val (.int ((p1 &&& (2147483647 : Int32)) % (3 : Int32))), .val (.int ((p2 &&& (2147483647 : Int32)) % (3 : Int32))), .val (.int ((p3 &&& (2147483647 : Int32)) % (3 : Int32))), .val (.ref a1), .val (.int (1 : Int32))] [(.int (-2 : Int32)), (.ref a1)])) rfl (by rw [hml]; rfl) (Steps.refl _) (argsL := [(.int (-2 : Int32))]) (rest := []) (lenOf pd0_1 rfl) rfl (by show 2 * 0 + _ ≤ _; exact Nat.le_of_eq rfl) (hb hby at_124) (fun _ _ => ⟨rfl, e17, (by decide : 3 + 0 ≤ _), (by decide : 10 + 0 ≤ _)⟩)
        dsimp only [Pt.U, Pt.locs, Pt.cells, Pt.slots] at X18 l18 y18 z18 st18 hQ18
        subst l18 y18 z18
        obtain ⟨rfl, Nc18, e18⟩ := hQ18
        have N18 := Fr.app N17 Nc18
        refine Go.tr st18 ?_
        show Go p e below s _ _ _ (T18.setTop (mkF m 127 #[.val (.int p0), .val (.int p1), .val (.int p2), .val (.int p3), .val (.int p4), .val (.int p5), .val (.int (p0 &&& (3 : Int32))), .val (.int ((p1 &&& (2147483647 : Int32)) % (3 : Int32))), .val (.int ((p2 &&& (2147483647 : Int32)) % (3 : Int32))), .val (.int ((p3 &&& (2147483647 : Int32)) % (3 : Int32))), .val (.ref a1), .val (.int (1 : Int32))] [(.int (0 : Int32))]))
        refine Go.st (fun _ kq_ => XS.iload X18.here hx rfl (hb hby at_127) rfl kq_) ?_
        show Go p e below s _ _ _ (T18.setTop (mkF m 129 #[.val (.int p0), .val (.int p1), .val (.int p2), .val (.int p3), .val (.int p4), .val (.int p5), .val (.int (p0 &&& (3 : Int32))), .val (.int ((p1 &&& (2147483647 : Int32)) % (3 : Int32))), .val (.int ((p2 &&& (2147483647 : Int32)) % (3 : Int32))), .val (.int ((p3 &&& (2147483647 : Int32)) % (3 : Int32))), .val (.ref a1), .val (.int (1 : Int32))] [(.int (p0 &&& (3 : Int32))), (.int (0 : Int32))]))
        refine Go.st (fun _ kq_ => XS.iload X18.here hx rfl (hb hby at_129) rfl kq_) ?_
        show Go p e below s _ _ _ (T18.setTop (mkF m 131 #[.val (.int p0), .val (.int p1), .val (.int p2), .val (.int p3), .val (.int p4), .val (.int p5), .val (.int (p0 &&& (3 : Int32))), .val (.int ((p1 &&& (2147483647 : Int32)) % (3 : Int32))), .val (.int ((p2 &&& (2147483647 : Int32)) % (3 : Int32))), .val (.int ((p3 &&& (2147483647 : Int32)) % (3 : Int32))), .val (.ref a1), .val (.int (1 : Int32))] [(.int ((p1 &&& (2147483647 : Int32)) % (3 : Int32))), (.int (p0 &&& (3 : Int32))), (.int (0 : Int32))]))
        refine Go.st (fun _ kq_ => XS.iload X18.here hx rfl (hb hby at_131) rfl kq_) ?_
        show Go p e below s _ _ _ (T18.setTop (mkF m 133 #[.val (.int p0), .val (.int p1), .val (.int p2), .val (.int p3), .val (.int p4), .val (.int p5), .val (.int (p0 &&& (3 : Int32))), .val (.int ((p1 &&& (2147483647 : Int32)) % (3 : Int32))), .val (.int ((p2 &&& (2147483647 : Int32)) % (3 : Int32))), .val (.int ((p3 &&& (2147483647 : Int32)) % (3 : Int32))), .val (.ref a1), .val (.int (1 : Int32))] [(.int ((p2 &&& (2147483647 : Int32)) % (3 : Int32))), (.int ((p1 &&& (2147483647 : Int32)) % (3 : Int32))), (.int (p0 &&& (3 : Int32))), (.int (0 : Int32))]))
        refine Go.st (fun _ kq_ => XS.iload X18.here hx rfl (hb hby at_133) rfl kq_) ?_
        show Go p e below s _ _ _ (T18.setTop (mkF m 135 #[.val (.int p0), .val (.int p1), .val (.int p2), .val (.int p3), .val (.int p4), .val (.int p5), .val (.int (p0 &&& (3 : Int32))), .val (.int ((p1 &&& (2147483647 : Int32)) % (3 : Int32))), .val (.int ((p2 &&& (2147483647 : Int32)) % (3 : Int32))), .val (.int ((p3 &&& (2147483647 : Int32)) % (3 : Int32))), .val (.ref a1), .val (.int (1 : Int32))] [(.int ((p3 &&& (2147483647 : Int32)) % (3 : Int32))), (.int ((p2 &&& (2147483647 : Int32)) % (3 : Int32))), (.int ((p1 &&& (2147483647 : Int32)) % (3 : Int32))), (.int (p0 &&& (3 : Int32))), (.int (0 : Int32))]))
        refine Go.st (fun _ kq_ => XS.bipush X18.here hx rfl (hb hby at_135) kq_) ?_
        show Go p e below s _ _ _ (T18.setTop (mkF m 137 #[.val (.int p0), .val (.int p1), .val (.int p2), .val (.int p3), .val (.int p4), .val (.int p5), .val (.int (p0 &&& (3 : Int32))), .val (.int ((p1 &&& (2147483647 : Int32)) % (3 : Int32))), .val (.int ((p2 &&& (2147483647 : Int32)) % (3 : Int32))), .val (.int ((p3 &&& (2147483647 : Int32)) % (3 : Int32))), .val (.ref a1), .val (.int (1 : Int32))] [(.int (-2 : Int32)), (.int ((p3 &&& (2147483647 : Int32)) % (3 : Int32))), (.int ((p2 &&& (2147483647 : Int32)) % (3 : Int32))), (.int ((p1 &&& (2147483647 : Int32)) % (3 : Int32))), (.int (p0 &&& (3 : Int32))), (.int (0 : Int32))]))
        obtain ⟨_, _, ⟨T19, L19, k19, n19⟩, -, X19, ⟨Lc19, hQ19, l19, y19, z19⟩, st19⟩ := Jvm.LawKit.callS X18 hx (y := (⟨"com/example/element_ranker/elementranker/TagStatisticsElementCountPinLaw", "expected", "(IIIII)I"⟩ : MethodName)) hown (mvT hZ (own_w hw 23 rfl)) (mvT hZ (own_w hw 24 rfl)) (mvT hZ (own_w hw 25 rfl)) (mvT hZ (own_w hw 26 rfl)) (by decide) (backOf (W := 1) (rmx l Z a0 hw [] (p0 &&& (3 : Int32)) ((p1 &&& (2147483647 : Int32)) % (3 : Int32)) ((p2 &&& (2147483647 : Int32)) % (3 : Int32)) ((p3 &&& (2147483647 : Int32)) % (3 : Int32)) (-2 : Int32) T14.heap n0 O14 ) hZ (own_w hw 26 rfl) (own_w hw 25 rfl) (by decide) (by decide)) (g := (mkF m 137 #[.val (.int p0), .val (.int p1), .val (.int p2), .val (.int p3), .val (.int p4), .val (.int p5), .val (.int (p0 &&& (3 : Int32))), .val (.int ((p1 &&& (2147483647 : Int32)) % (3 : Int32))), .val (.int ((p2 &&& (2147483647 : Int32)) % (3 : Int32))), .val (.int ((p3 &&& (2147483647 : Int32)) % (3 : Int32))), .val (.ref a1), .val (.int (1 : Int32))] [(.int (-2 : Int32)), (.int ((p3 &&& (2147483647 : Int32)) % (3 : Int32))), (.int ((p2 &&& (2147483647 : Int32)) % (3 : Int32))), (.int ((p1 &&& (2147483647 : Int32)) % (3 : Int32))), (.int (p0 &&& (3 : Int32))), (.int (0 : Int32))])) rfl (by rw [hml]; rfl) (argsL := [(.int (p0 &&& (3 : Int32))), (.int ((p1 &&& (2147483647 : Int32)) % (3 : Int32))), (.int ((p2 &&& (2147483647 : Int32)) % (3 : Int32))), (.int ((p3 &&& (2147483647 : Int32)) % (3 : Int32))), (.int (-2 : Int32))]) (rest := [(.int (0 : Int32))]) (lenOf pd0_2 rfl) rfl (by show 2 * 0 + _ ≤ _; exact Nat.le_of_eq rfl) (hb hby at_137) (fun _ _ => ⟨rfl, e18, (by decide : 3 + 0 ≤ _), (by decide : 10 + 0 ≤ _)⟩)
        dsimp only [Pt.U, Pt.locs, Pt.cells, Pt.slots] at X19 l19 y19 z19 st19 hQ19
        subst l19 y19 z19
        obtain ⟨rfl, Nc19, e19⟩ := hQ19
        have N19 := Fr.app N18 Nc19
        refine Go.st st19 ?_
        show Go p e below s _ _ _ (T19.setTop (mkF m 140 #[.val (.int p0), .val (.int p1), .val (.int p2), .val (.int p3), .val (.int p4), .val (.int p5), .val (.int (p0 &&& (3 : Int32))), .val (.int ((p1 &&& (2147483647 : Int32)) % (3 : Int32))), .val (.int ((p2 &&& (2147483647 : Int32)) % (3 : Int32))), .val (.int ((p3 &&& (2147483647 : Int32)) % (3 : Int32))), .val (.ref a1), .val (.int (1 : Int32))] [(.int (fEx (p0 &&& (3 : Int32)) ((p1 &&& (2147483647 : Int32)) % (3 : Int32)) ((p2 &&& (2147483647 : Int32)) % (3 : Int32)) ((p3 &&& (2147483647 : Int32)) % (3 : Int32)) (-2 : Int32))), (.int (0 : Int32))]))
        refine Go.st (fun _ kq_ => XS.icmpNo X19.here hx rfl (hb hby at_140) rfl (XT.ii_ne_f (own_q1_m2 _ _ _ _ (own_n3 p0) c42_3 c57_15)) kq_) ?_
        show Go p e below s _ _ _ (T19.setTop (mkF m 143 #[.val (.int p0), .val (.int p1), .val (.int p2), .val (.int p3), .val (.int p4), .val (.int p5), .val (.int (p0 &&& (3 : Int32))), .val (.int ((p1 &&& (2147483647 : Int32)) % (3 : Int32))), .val (.int ((p2 &&& (2147483647 : Int32)) % (3 : Int32))), .val (.int ((p3 &&& (2147483647 : Int32)) % (3 : Int32))), .val (.ref a1), .val (.int (1 : Int32))] []))
        refine Go.st (fun _ kq_ => XS.iconst X19.here hx rfl (hb hby at_143) kq_) ?_
        show Go p e below s _ _ _ (T19.setTop (mkF m 144 #[.val (.int p0), .val (.int p1), .val (.int p2), .val (.int p3), .val (.int p4), .val (.int p5), .val (.int (p0 &&& (3 : Int32))), .val (.int ((p1 &&& (2147483647 : Int32)) % (3 : Int32))), .val (.int ((p2 &&& (2147483647 : Int32)) % (3 : Int32))), .val (.int ((p3 &&& (2147483647 : Int32)) % (3 : Int32))), .val (.ref a1), .val (.int (1 : Int32))] [(.int (1 : Int32))]))
        refine Go.st (fun _ kq_ => XS.goto X19.here hx rfl (pc0 := 144) (pc' := 148) rfl (hb hby at_144) (by decide) (by decide) kq_) ?_
        show Go p e below s _ _ _ (T19.setTop (mkF m 148 #[.val (.int p0), .val (.int p1), .val (.int p2), .val (.int p3), .val (.int p4), .val (.int p5), .val (.int (p0 &&& (3 : Int32))), .val (.int ((p1 &&& (2147483647 : Int32)) % (3 : Int32))), .val (.int ((p2 &&& (2147483647 : Int32)) % (3 : Int32))), .val (.int ((p3 &&& (2147483647 : Int32)) % (3 : Int32))), .val (.ref a1), .val (.int (1 : Int32))] [(.int (1 : Int32))]))
        refine Go.st (fun _ kq_ => XS.istore X19.here hx rfl (hb hby at_148) rfl (l' := #[.val (.int p0), .val (.int p1), .val (.int p2), .val (.int p3), .val (.int p4), .val (.int p5), .val (.int (p0 &&& (3 : Int32))), .val (.int ((p1 &&& (2147483647 : Int32)) % (3 : Int32))), .val (.int ((p2 &&& (2147483647 : Int32)) % (3 : Int32))), .val (.int ((p3 &&& (2147483647 : Int32)) % (3 : Int32))), .val (.ref a1), .val (.int (1 : Int32))]) rfl kq_) ?_
        show Go p e below s _ _ _ (T19.setTop (mkF m 150 #[.val (.int p0), .val (.int p1), .val (.int p2), .val (.int p3), .val (.int p4), .val (.int p5), .val (.int (p0 &&& (3 : Int32))), .val (.int ((p1 &&& (2147483647 : Int32)) % (3 : Int32))), .val (.int ((p2 &&& (2147483647 : Int32)) % (3 : Int32))), .val (.int ((p3 &&& (2147483647 : Int32)) % (3 : Int32))), .val (.ref a1), .val (.int (1 : Int32))] []))
        refine Go.st (fun _ kq_ => XS.iload X19.here hx rfl (hb hby at_150) rfl kq_) ?_
        show Go p e below s _ _ _ (T19.setTop (mkF m 152 #[.val (.int p0), .val (.int p1), .val (.int p2), .val (.int p3), .val (.int p4), .val (.int p5), .val (.int (p0 &&& (3 : Int32))), .val (.int ((p1 &&& (2147483647 : Int32)) % (3 : Int32))), .val (.int ((p2 &&& (2147483647 : Int32)) % (3 : Int32))), .val (.int ((p3 &&& (2147483647 : Int32)) % (3 : Int32))), .val (.ref a1), .val (.int (1 : Int32))] [(.int (1 : Int32))]))
        refine Go.st (fun _ kq_ => XS.ifNo X19.here hx rfl (hb hby at_152) rfl (by decide) kq_) ?_
        show Go p e below s _ _ _ (T19.setTop (mkF m 155 #[.val (.int p0), .val (.int p1), .val (.int p2), .val (.int p3), .val (.int p4), .val (.int p5), .val (.int (p0 &&& (3 : Int32))), .val (.int ((p1 &&& (2147483647 : Int32)) % (3 : Int32))), .val (.int ((p2 &&& (2147483647 : Int32)) % (3 : Int32))), .val (.int ((p3 &&& (2147483647 : Int32)) % (3 : Int32))), .val (.ref a1), .val (.int (1 : Int32))] []))
        refine Go.st (fun _ kq_ => XS.aload X19.here hx rfl (hb hby at_155) rfl rfl kq_) ?_
        show Go p e below s _ _ _ (T19.setTop (mkF m 157 #[.val (.int p0), .val (.int p1), .val (.int p2), .val (.int p3), .val (.int p4), .val (.int p5), .val (.int (p0 &&& (3 : Int32))), .val (.int ((p1 &&& (2147483647 : Int32)) % (3 : Int32))), .val (.int ((p2 &&& (2147483647 : Int32)) % (3 : Int32))), .val (.int ((p3 &&& (2147483647 : Int32)) % (3 : Int32))), .val (.ref a1), .val (.int (1 : Int32))] [(.ref a1)]))
        refine Go.st (fun _ kq_ => XS.iconst X19.here hx rfl (hb hby at_157) kq_) ?_
        show Go p e below s _ _ _ (T19.setTop (mkF m 158 #[.val (.int p0), .val (.int p1), .val (.int p2), .val (.int p3), .val (.int p4), .val (.int p5), .val (.int (p0 &&& (3 : Int32))), .val (.int ((p1 &&& (2147483647 : Int32)) % (3 : Int32))), .val (.int ((p2 &&& (2147483647 : Int32)) % (3 : Int32))), .val (.int ((p3 &&& (2147483647 : Int32)) % (3 : Int32))), .val (.ref a1), .val (.int (1 : Int32))] [(.int (0 : Int32)), (.ref a1)]))
        obtain ⟨cq20, kq20, qa20, qb20, qc20⟩ := isOf hZ e19 E_a1
        obtain ⟨_, _, ⟨T20, L20, k20, n20⟩, -, X20, ⟨Lc20, hQ20, l20, y20, z20⟩, st20⟩ := X19.virtualBack hx (y := (⟨"com/example/element_ranker/elementranker/TagStatistics", "elementCount", "(I)I"⟩ : MethodName)) (z := (⟨"com/example/element_ranker/elementranker/TagStatistics", "elementCount", "(I)I"⟩ : MethodName)) hown (mvT hZ (own_w hw 16 rfl)) (mvT hZ (own_w hw 17 rfl)) (notFace_of_selects (args := #[]) (mvT hZ (own_w hw 19 rfl))) (mvT hZ (own_w hw 19 rfl)) (mvT hZ (own_w hw 18 rfl)) (by decide) (backOf (W := 0) (rme0 l Z a0 hw [] a1 b2 kb2 d2 kd2 (ad 0 ((p1 &&& (2147483647 : Int32)) % (3 : Int32)) (0 : Int32)) (ad 1 ((p1 &&& (2147483647 : Int32)) % (3 : Int32)) (0 : Int32)) (ad 2 ((p1 &&& (2147483647 : Int32)) % (3 : Int32)) (0 : Int32)) (adL 0 ((p1 &&& (2147483647 : Int32)) % (3 : Int32)) p4 (0 : Int64)) (adL 1 ((p1 &&& (2147483647 : Int32)) % (3 : Int32)) p4 (0 : Int64)) (adL 2 ((p1 &&& (2147483647 : Int32)) % (3 : Int32)) p4 (0 : Int64)) ((0 : Int32) + (1 : Int32)) ((0 : Int64) + p4.toInt64) T14.heap n0 O14 E_a1 F_a1_elementCounts F_a1_totalLengths F_a1_elementCount F_a1_totalLength V_b2 V_d2) hZ (own_w hw 20 rfl) (own_w hw 3 rfl) (by decide) (by decide)) qa20 qc20 (g := (mkF m 158 #[.val (.int p0), .val (.int p1), .val (.int p2), .val (.int p3), .val (.int p4), .val (.int p5), .val (.int (p0 &&& (3 : Int32))), .val (.int ((p1 &&& (2147483647 : Int32)) % (3 : Int32))), .val (.int ((p2 &&& (2147483647 : Int32)) % (3 : Int32))), .val (.int ((p3 &&& (2147483647 : Int32)) % (3 : Int32))), .val (.ref a1), .val (.int (1 : Int32))] [(.int (0 : Int32)), (.ref a1)])) rfl (by rw [hml]; rfl) (Steps.refl _) (argsL := [(.int (0 : Int32))]) (rest := []) (lenOf pd0_1 rfl) rfl (by show 2 * 0 + _ ≤ _; exact Nat.le_of_eq rfl) (hb hby at_158) (fun _ _ => ⟨rfl, e19, (by decide : 3 + 0 ≤ _), (by decide : 10 + 0 ≤ _)⟩)
        dsimp only [Pt.U, Pt.locs, Pt.cells, Pt.slots] at X20 l20 y20 z20 st20 hQ20
        subst l20 y20 z20
        obtain ⟨rfl, Nc20, e20⟩ := hQ20
        have N20 := Fr.app N19 Nc20
        refine Go.tr st20 ?_
        show Go p e below s _ _ _ (T20.setTop (mkF m 161 #[.val (.int p0), .val (.int p1), .val (.int p2), .val (.int p3), .val (.int p4), .val (.int p5), .val (.int (p0 &&& (3 : Int32))), .val (.int ((p1 &&& (2147483647 : Int32)) % (3 : Int32))), .val (.int ((p2 &&& (2147483647 : Int32)) % (3 : Int32))), .val (.int ((p3 &&& (2147483647 : Int32)) % (3 : Int32))), .val (.ref a1), .val (.int (1 : Int32))] [(.int (ad 0 ((p1 &&& (2147483647 : Int32)) % (3 : Int32)) (0 : Int32)))]))
        refine Go.st (fun _ kq_ => XS.iload X20.here hx rfl (hb hby at_161) rfl kq_) ?_
        show Go p e below s _ _ _ (T20.setTop (mkF m 163 #[.val (.int p0), .val (.int p1), .val (.int p2), .val (.int p3), .val (.int p4), .val (.int p5), .val (.int (p0 &&& (3 : Int32))), .val (.int ((p1 &&& (2147483647 : Int32)) % (3 : Int32))), .val (.int ((p2 &&& (2147483647 : Int32)) % (3 : Int32))), .val (.int ((p3 &&& (2147483647 : Int32)) % (3 : Int32))), .val (.ref a1), .val (.int (1 : Int32))] [(.int (p0 &&& (3 : Int32))), (.int (ad 0 ((p1 &&& (2147483647 : Int32)) % (3 : Int32)) (0 : Int32)))]))
        refine Go.st (fun _ kq_ => XS.iload X20.here hx rfl (hb hby at_163) rfl kq_) ?_
        show Go p e below s _ _ _ (T20.setTop (mkF m 165 #[.val (.int p0), .val (.int p1), .val (.int p2), .val (.int p3), .val (.int p4), .val (.int p5), .val (.int (p0 &&& (3 : Int32))), .val (.int ((p1 &&& (2147483647 : Int32)) % (3 : Int32))), .val (.int ((p2 &&& (2147483647 : Int32)) % (3 : Int32))), .val (.int ((p3 &&& (2147483647 : Int32)) % (3 : Int32))), .val (.ref a1), .val (.int (1 : Int32))] [(.int ((p1 &&& (2147483647 : Int32)) % (3 : Int32))), (.int (p0 &&& (3 : Int32))), (.int (ad 0 ((p1 &&& (2147483647 : Int32)) % (3 : Int32)) (0 : Int32)))]))
        refine Go.st (fun _ kq_ => XS.iload X20.here hx rfl (hb hby at_165) rfl kq_) ?_
        show Go p e below s _ _ _ (T20.setTop (mkF m 167 #[.val (.int p0), .val (.int p1), .val (.int p2), .val (.int p3), .val (.int p4), .val (.int p5), .val (.int (p0 &&& (3 : Int32))), .val (.int ((p1 &&& (2147483647 : Int32)) % (3 : Int32))), .val (.int ((p2 &&& (2147483647 : Int32)) % (3 : Int32))), .val (.int ((p3 &&& (2147483647 : Int32)) % (3 : Int32))), .val (.ref a1), .val (.int (1 : Int32))] [(.int ((p2 &&& (2147483647 : Int32)) % (3 : Int32))), (.int ((p1 &&& (2147483647 : Int32)) % (3 : Int32))), (.int (p0 &&& (3 : Int32))), (.int (ad 0 ((p1 &&& (2147483647 : Int32)) % (3 : Int32)) (0 : Int32)))]))
        refine Go.st (fun _ kq_ => XS.iload X20.here hx rfl (hb hby at_167) rfl kq_) ?_
        show Go p e below s _ _ _ (T20.setTop (mkF m 169 #[.val (.int p0), .val (.int p1), .val (.int p2), .val (.int p3), .val (.int p4), .val (.int p5), .val (.int (p0 &&& (3 : Int32))), .val (.int ((p1 &&& (2147483647 : Int32)) % (3 : Int32))), .val (.int ((p2 &&& (2147483647 : Int32)) % (3 : Int32))), .val (.int ((p3 &&& (2147483647 : Int32)) % (3 : Int32))), .val (.ref a1), .val (.int (1 : Int32))] [(.int ((p3 &&& (2147483647 : Int32)) % (3 : Int32))), (.int ((p2 &&& (2147483647 : Int32)) % (3 : Int32))), (.int ((p1 &&& (2147483647 : Int32)) % (3 : Int32))), (.int (p0 &&& (3 : Int32))), (.int (ad 0 ((p1 &&& (2147483647 : Int32)) % (3 : Int32)) (0 : Int32)))]))
        refine Go.st (fun _ kq_ => XS.iconst X20.here hx rfl (hb hby at_169) kq_) ?_
        show Go p e below s _ _ _ (T20.setTop (mkF m 170 #[.val (.int p0), .val (.int p1), .val (.int p2), .val (.int p3), .val (.int p4), .val (.int p5), .val (.int (p0 &&& (3 : Int32))), .val (.int ((p1 &&& (2147483647 : Int32)) % (3 : Int32))), .val (.int ((p2 &&& (2147483647 : Int32)) % (3 : Int32))), .val (.int ((p3 &&& (2147483647 : Int32)) % (3 : Int32))), .val (.ref a1), .val (.int (1 : Int32))] [(.int (0 : Int32)), (.int ((p3 &&& (2147483647 : Int32)) % (3 : Int32))), (.int ((p2 &&& (2147483647 : Int32)) % (3 : Int32))), (.int ((p1 &&& (2147483647 : Int32)) % (3 : Int32))), (.int (p0 &&& (3 : Int32))), (.int (ad 0 ((p1 &&& (2147483647 : Int32)) % (3 : Int32)) (0 : Int32)))]))
        obtain ⟨_, _, ⟨T21, L21, k21, n21⟩, -, X21, ⟨Lc21, hQ21, l21, y21, z21⟩, st21⟩ := Jvm.LawKit.callS X20 hx (y := (⟨"com/example/element_ranker/elementranker/TagStatisticsElementCountPinLaw", "expected", "(IIIII)I"⟩ : MethodName)) hown (mvT hZ (own_w hw 23 rfl)) (mvT hZ (own_w hw 24 rfl)) (mvT hZ (own_w hw 25 rfl)) (mvT hZ (own_w hw 26 rfl)) (by decide) (backOf (W := 1) (rmx l Z a0 hw [] (p0 &&& (3 : Int32)) ((p1 &&& (2147483647 : Int32)) % (3 : Int32)) ((p2 &&& (2147483647 : Int32)) % (3 : Int32)) ((p3 &&& (2147483647 : Int32)) % (3 : Int32)) (0 : Int32) T14.heap n0 O14 ) hZ (own_w hw 26 rfl) (own_w hw 25 rfl) (by decide) (by decide)) (g := (mkF m 170 #[.val (.int p0), .val (.int p1), .val (.int p2), .val (.int p3), .val (.int p4), .val (.int p5), .val (.int (p0 &&& (3 : Int32))), .val (.int ((p1 &&& (2147483647 : Int32)) % (3 : Int32))), .val (.int ((p2 &&& (2147483647 : Int32)) % (3 : Int32))), .val (.int ((p3 &&& (2147483647 : Int32)) % (3 : Int32))), .val (.ref a1), .val (.int (1 : Int32))] [(.int (0 : Int32)), (.int ((p3 &&& (2147483647 : Int32)) % (3 : Int32))), (.int ((p2 &&& (2147483647 : Int32)) % (3 : Int32))), (.int ((p1 &&& (2147483647 : Int32)) % (3 : Int32))), (.int (p0 &&& (3 : Int32))), (.int (ad 0 ((p1 &&& (2147483647 : Int32)) % (3 : Int32)) (0 : Int32)))])) rfl (by rw [hml]; rfl) (argsL := [(.int (p0 &&& (3 : Int32))), (.int ((p1 &&& (2147483647 : Int32)) % (3 : Int32))), (.int ((p2 &&& (2147483647 : Int32)) % (3 : Int32))), (.int ((p3 &&& (2147483647 : Int32)) % (3 : Int32))), (.int (0 : Int32))]) (rest := [(.int (ad 0 ((p1 &&& (2147483647 : Int32)) % (3 : Int32)) (0 : Int32)))]) (lenOf pd0_2 rfl) rfl (by show 2 * 0 + _ ≤ _; exact Nat.le_of_eq rfl) (hb hby at_170) (fun _ _ => ⟨rfl, e20, (by decide : 3 + 0 ≤ _), (by decide : 10 + 0 ≤ _)⟩)
        dsimp only [Pt.U, Pt.locs, Pt.cells, Pt.slots] at X21 l21 y21 z21 st21 hQ21
        subst l21 y21 z21
        obtain ⟨rfl, Nc21, e21⟩ := hQ21
        have N21 := Fr.app N20 Nc21
        refine Go.st st21 ?_
        show Go p e below s _ _ _ (T21.setTop (mkF m 173 #[.val (.int p0), .val (.int p1), .val (.int p2), .val (.int p3), .val (.int p4), .val (.int p5), .val (.int (p0 &&& (3 : Int32))), .val (.int ((p1 &&& (2147483647 : Int32)) % (3 : Int32))), .val (.int ((p2 &&& (2147483647 : Int32)) % (3 : Int32))), .val (.int ((p3 &&& (2147483647 : Int32)) % (3 : Int32))), .val (.ref a1), .val (.int (1 : Int32))] [(.int (fEx (p0 &&& (3 : Int32)) ((p1 &&& (2147483647 : Int32)) % (3 : Int32)) ((p2 &&& (2147483647 : Int32)) % (3 : Int32)) ((p3 &&& (2147483647 : Int32)) % (3 : Int32)) (0 : Int32))), (.int (ad 0 ((p1 &&& (2147483647 : Int32)) % (3 : Int32)) (0 : Int32)))]))
        refine Go.st (fun _ kq_ => XS.icmpNo X21.here hx rfl (hb hby at_173) rfl (XT.ii_ne_f (own_q1_0 _ _ _ _ (own_n3 p0) c42_3 c57_15)) kq_) ?_
        show Go p e below s _ _ _ (T21.setTop (mkF m 176 #[.val (.int p0), .val (.int p1), .val (.int p2), .val (.int p3), .val (.int p4), .val (.int p5), .val (.int (p0 &&& (3 : Int32))), .val (.int ((p1 &&& (2147483647 : Int32)) % (3 : Int32))), .val (.int ((p2 &&& (2147483647 : Int32)) % (3 : Int32))), .val (.int ((p3 &&& (2147483647 : Int32)) % (3 : Int32))), .val (.ref a1), .val (.int (1 : Int32))] []))
        refine Go.st (fun _ kq_ => XS.iconst X21.here hx rfl (hb hby at_176) kq_) ?_
        show Go p e below s _ _ _ (T21.setTop (mkF m 177 #[.val (.int p0), .val (.int p1), .val (.int p2), .val (.int p3), .val (.int p4), .val (.int p5), .val (.int (p0 &&& (3 : Int32))), .val (.int ((p1 &&& (2147483647 : Int32)) % (3 : Int32))), .val (.int ((p2 &&& (2147483647 : Int32)) % (3 : Int32))), .val (.int ((p3 &&& (2147483647 : Int32)) % (3 : Int32))), .val (.ref a1), .val (.int (1 : Int32))] [(.int (1 : Int32))]))
        refine Go.st (fun _ kq_ => XS.goto X21.here hx rfl (pc0 := 177) (pc' := 181) rfl (hb hby at_177) (by decide) (by decide) kq_) ?_
        show Go p e below s _ _ _ (T21.setTop (mkF m 181 #[.val (.int p0), .val (.int p1), .val (.int p2), .val (.int p3), .val (.int p4), .val (.int p5), .val (.int (p0 &&& (3 : Int32))), .val (.int ((p1 &&& (2147483647 : Int32)) % (3 : Int32))), .val (.int ((p2 &&& (2147483647 : Int32)) % (3 : Int32))), .val (.int ((p3 &&& (2147483647 : Int32)) % (3 : Int32))), .val (.ref a1), .val (.int (1 : Int32))] [(.int (1 : Int32))]))
        refine Go.st (fun _ kq_ => XS.istore X21.here hx rfl (hb hby at_181) rfl (l' := #[.val (.int p0), .val (.int p1), .val (.int p2), .val (.int p3), .val (.int p4), .val (.int p5), .val (.int (p0 &&& (3 : Int32))), .val (.int ((p1 &&& (2147483647 : Int32)) % (3 : Int32))), .val (.int ((p2 &&& (2147483647 : Int32)) % (3 : Int32))), .val (.int ((p3 &&& (2147483647 : Int32)) % (3 : Int32))), .val (.ref a1), .val (.int (1 : Int32))]) rfl kq_) ?_
        show Go p e below s _ _ _ (T21.setTop (mkF m 183 #[.val (.int p0), .val (.int p1), .val (.int p2), .val (.int p3), .val (.int p4), .val (.int p5), .val (.int (p0 &&& (3 : Int32))), .val (.int ((p1 &&& (2147483647 : Int32)) % (3 : Int32))), .val (.int ((p2 &&& (2147483647 : Int32)) % (3 : Int32))), .val (.int ((p3 &&& (2147483647 : Int32)) % (3 : Int32))), .val (.ref a1), .val (.int (1 : Int32))] []))
        refine Go.st (fun _ kq_ => XS.iload X21.here hx rfl (hb hby at_183) rfl kq_) ?_
        show Go p e below s _ _ _ (T21.setTop (mkF m 185 #[.val (.int p0), .val (.int p1), .val (.int p2), .val (.int p3), .val (.int p4), .val (.int p5), .val (.int (p0 &&& (3 : Int32))), .val (.int ((p1 &&& (2147483647 : Int32)) % (3 : Int32))), .val (.int ((p2 &&& (2147483647 : Int32)) % (3 : Int32))), .val (.int ((p3 &&& (2147483647 : Int32)) % (3 : Int32))), .val (.ref a1), .val (.int (1 : Int32))] [(.int (1 : Int32))]))
        refine Go.st (fun _ kq_ => XS.ifNo X21.here hx rfl (hb hby at_185) rfl (by decide) kq_) ?_
        show Go p e below s _ _ _ (T21.setTop (mkF m 188 #[.val (.int p0), .val (.int p1), .val (.int p2), .val (.int p3), .val (.int p4), .val (.int p5), .val (.int (p0 &&& (3 : Int32))), .val (.int ((p1 &&& (2147483647 : Int32)) % (3 : Int32))), .val (.int ((p2 &&& (2147483647 : Int32)) % (3 : Int32))), .val (.int ((p3 &&& (2147483647 : Int32)) % (3 : Int32))), .val (.ref a1), .val (.int (1 : Int32))] []))
        refine Go.st (fun _ kq_ => XS.aload X21.here hx rfl (hb hby at_188) rfl rfl kq_) ?_
        show Go p e below s _ _ _ (T21.setTop (mkF m 190 #[.val (.int p0), .val (.int p1), .val (.int p2), .val (.int p3), .val (.int p4), .val (.int p5), .val (.int (p0 &&& (3 : Int32))), .val (.int ((p1 &&& (2147483647 : Int32)) % (3 : Int32))), .val (.int ((p2 &&& (2147483647 : Int32)) % (3 : Int32))), .val (.int ((p3 &&& (2147483647 : Int32)) % (3 : Int32))), .val (.ref a1), .val (.int (1 : Int32))] [(.ref a1)]))
        refine Go.st (fun _ kq_ => XS.iconst X21.here hx rfl (hb hby at_190) kq_) ?_
        show Go p e below s _ _ _ (T21.setTop (mkF m 191 #[.val (.int p0), .val (.int p1), .val (.int p2), .val (.int p3), .val (.int p4), .val (.int p5), .val (.int (p0 &&& (3 : Int32))), .val (.int ((p1 &&& (2147483647 : Int32)) % (3 : Int32))), .val (.int ((p2 &&& (2147483647 : Int32)) % (3 : Int32))), .val (.int ((p3 &&& (2147483647 : Int32)) % (3 : Int32))), .val (.ref a1), .val (.int (1 : Int32))] [(.int (1 : Int32)), (.ref a1)]))
        obtain ⟨cq22, kq22, qa22, qb22, qc22⟩ := isOf hZ e21 E_a1
        obtain ⟨_, _, ⟨T22, L22, k22, n22⟩, -, X22, ⟨Lc22, hQ22, l22, y22, z22⟩, st22⟩ := X21.virtualBack hx (y := (⟨"com/example/element_ranker/elementranker/TagStatistics", "elementCount", "(I)I"⟩ : MethodName)) (z := (⟨"com/example/element_ranker/elementranker/TagStatistics", "elementCount", "(I)I"⟩ : MethodName)) hown (mvT hZ (own_w hw 16 rfl)) (mvT hZ (own_w hw 17 rfl)) (notFace_of_selects (args := #[]) (mvT hZ (own_w hw 19 rfl))) (mvT hZ (own_w hw 19 rfl)) (mvT hZ (own_w hw 18 rfl)) (by decide) (backOf (W := 0) (rme1 l Z a0 hw [] a1 b2 kb2 d2 kd2 (ad 0 ((p1 &&& (2147483647 : Int32)) % (3 : Int32)) (0 : Int32)) (ad 1 ((p1 &&& (2147483647 : Int32)) % (3 : Int32)) (0 : Int32)) (ad 2 ((p1 &&& (2147483647 : Int32)) % (3 : Int32)) (0 : Int32)) (adL 0 ((p1 &&& (2147483647 : Int32)) % (3 : Int32)) p4 (0 : Int64)) (adL 1 ((p1 &&& (2147483647 : Int32)) % (3 : Int32)) p4 (0 : Int64)) (adL 2 ((p1 &&& (2147483647 : Int32)) % (3 : Int32)) p4 (0 : Int64)) ((0 : Int32) + (1 : Int32)) ((0 : Int64) + p4.toInt64) T14.heap n0 O14 E_a1 F_a1_elementCounts F_a1_totalLengths F_a1_elementCount F_a1_totalLength V_b2 V_d2) hZ (own_w hw 20 rfl) (own_w hw 3 rfl) (by decide) (by decide)) qa22 qc22 (g := (mkF m 191 #[.val (.int p0), .val (.int p1), .val (.int p2), .val (.int p3), .val (.int p4), .val (.int p5), .val (.int (p0 &&& (3 : Int32))), .val (.int ((p1 &&& (2147483647 : Int32)) % (3 : Int32))), .val (.int ((p2 &&& (2147483647 : Int32)) % (3 : Int32))), .val (.int ((p3 &&& (2147483647 : Int32)) % (3 : Int32))), .val (.ref a1), .val (.int (1 : Int32))] [(.int (1 : Int32)), (.ref a1)])) rfl (by rw [hml]; rfl) (Steps.refl _) (argsL := [(.int (1 : Int32))]) (rest := []) (lenOf pd0_1 rfl) rfl (by show 2 * 0 + _ ≤ _; exact Nat.le_of_eq rfl) (hb hby at_191) (fun _ _ => ⟨rfl, e21, (by decide : 3 + 0 ≤ _), (by decide : 10 + 0 ≤ _)⟩)
        dsimp only [Pt.U, Pt.locs, Pt.cells, Pt.slots] at X22 l22 y22 z22 st22 hQ22
        subst l22 y22 z22
        obtain ⟨rfl, Nc22, e22⟩ := hQ22
        have N22 := Fr.app N21 Nc22
        refine Go.tr st22 ?_
        show Go p e below s _ _ _ (T22.setTop (mkF m 194 #[.val (.int p0), .val (.int p1), .val (.int p2), .val (.int p3), .val (.int p4), .val (.int p5), .val (.int (p0 &&& (3 : Int32))), .val (.int ((p1 &&& (2147483647 : Int32)) % (3 : Int32))), .val (.int ((p2 &&& (2147483647 : Int32)) % (3 : Int32))), .val (.int ((p3 &&& (2147483647 : Int32)) % (3 : Int32))), .val (.ref a1), .val (.int (1 : Int32))] [(.int (ad 1 ((p1 &&& (2147483647 : Int32)) % (3 : Int32)) (0 : Int32)))]))
        refine Go.st (fun _ kq_ => XS.iload X22.here hx rfl (hb hby at_194) rfl kq_) ?_
        show Go p e below s _ _ _ (T22.setTop (mkF m 196 #[.val (.int p0), .val (.int p1), .val (.int p2), .val (.int p3), .val (.int p4), .val (.int p5), .val (.int (p0 &&& (3 : Int32))), .val (.int ((p1 &&& (2147483647 : Int32)) % (3 : Int32))), .val (.int ((p2 &&& (2147483647 : Int32)) % (3 : Int32))), .val (.int ((p3 &&& (2147483647 : Int32)) % (3 : Int32))), .val (.ref a1), .val (.int (1 : Int32))] [(.int (p0 &&& (3 : Int32))), (.int (ad 1 ((p1 &&& (2147483647 : Int32)) % (3 : Int32)) (0 : Int32)))]))
        refine Go.st (fun _ kq_ => XS.iload X22.here hx rfl (hb hby at_196) rfl kq_) ?_
        show Go p e below s _ _ _ (T22.setTop (mkF m 198 #[.val (.int p0), .val (.int p1), .val (.int p2), .val (.int p3), .val (.int p4), .val (.int p5), .val (.int (p0 &&& (3 : Int32))), .val (.int ((p1 &&& (2147483647 : Int32)) % (3 : Int32))), .val (.int ((p2 &&& (2147483647 : Int32)) % (3 : Int32))), .val (.int ((p3 &&& (2147483647 : Int32)) % (3 : Int32))), .val (.ref a1), .val (.int (1 : Int32))] [(.int ((p1 &&& (2147483647 : Int32)) % (3 : Int32))), (.int (p0 &&& (3 : Int32))), (.int (ad 1 ((p1 &&& (2147483647 : Int32)) % (3 : Int32)) (0 : Int32)))]))
        refine Go.st (fun _ kq_ => XS.iload X22.here hx rfl (hb hby at_198) rfl kq_) ?_
        show Go p e below s _ _ _ (T22.setTop (mkF m 200 #[.val (.int p0), .val (.int p1), .val (.int p2), .val (.int p3), .val (.int p4), .val (.int p5), .val (.int (p0 &&& (3 : Int32))), .val (.int ((p1 &&& (2147483647 : Int32)) % (3 : Int32))), .val (.int ((p2 &&& (2147483647 : Int32)) % (3 : Int32))), .val (.int ((p3 &&& (2147483647 : Int32)) % (3 : Int32))), .val (.ref a1), .val (.int (1 : Int32))] [(.int ((p2 &&& (2147483647 : Int32)) % (3 : Int32))), (.int ((p1 &&& (2147483647 : Int32)) % (3 : Int32))), (.int (p0 &&& (3 : Int32))), (.int (ad 1 ((p1 &&& (2147483647 : Int32)) % (3 : Int32)) (0 : Int32)))]))
        refine Go.st (fun _ kq_ => XS.iload X22.here hx rfl (hb hby at_200) rfl kq_) ?_
        show Go p e below s _ _ _ (T22.setTop (mkF m 202 #[.val (.int p0), .val (.int p1), .val (.int p2), .val (.int p3), .val (.int p4), .val (.int p5), .val (.int (p0 &&& (3 : Int32))), .val (.int ((p1 &&& (2147483647 : Int32)) % (3 : Int32))), .val (.int ((p2 &&& (2147483647 : Int32)) % (3 : Int32))), .val (.int ((p3 &&& (2147483647 : Int32)) % (3 : Int32))), .val (.ref a1), .val (.int (1 : Int32))] [(.int ((p3 &&& (2147483647 : Int32)) % (3 : Int32))), (.int ((p2 &&& (2147483647 : Int32)) % (3 : Int32))), (.int ((p1 &&& (2147483647 : Int32)) % (3 : Int32))), (.int (p0 &&& (3 : Int32))), (.int (ad 1 ((p1 &&& (2147483647 : Int32)) % (3 : Int32)) (0 : Int32)))]))
        refine Go.st (fun _ kq_ => XS.iconst X22.here hx rfl (hb hby at_202) kq_) ?_
        show Go p e below s _ _ _ (T22.setTop (mkF m 203 #[.val (.int p0), .val (.int p1), .val (.int p2), .val (.int p3), .val (.int p4), .val (.int p5), .val (.int (p0 &&& (3 : Int32))), .val (.int ((p1 &&& (2147483647 : Int32)) % (3 : Int32))), .val (.int ((p2 &&& (2147483647 : Int32)) % (3 : Int32))), .val (.int ((p3 &&& (2147483647 : Int32)) % (3 : Int32))), .val (.ref a1), .val (.int (1 : Int32))] [(.int (1 : Int32)), (.int ((p3 &&& (2147483647 : Int32)) % (3 : Int32))), (.int ((p2 &&& (2147483647 : Int32)) % (3 : Int32))), (.int ((p1 &&& (2147483647 : Int32)) % (3 : Int32))), (.int (p0 &&& (3 : Int32))), (.int (ad 1 ((p1 &&& (2147483647 : Int32)) % (3 : Int32)) (0 : Int32)))]))
        obtain ⟨_, _, ⟨T23, L23, k23, n23⟩, -, X23, ⟨Lc23, hQ23, l23, y23, z23⟩, st23⟩ := Jvm.LawKit.callS X22 hx (y := (⟨"com/example/element_ranker/elementranker/TagStatisticsElementCountPinLaw", "expected", "(IIIII)I"⟩ : MethodName)) hown (mvT hZ (own_w hw 23 rfl)) (mvT hZ (own_w hw 24 rfl)) (mvT hZ (own_w hw 25 rfl)) (mvT hZ (own_w hw 26 rfl)) (by decide) (backOf (W := 1) (rmx l Z a0 hw [] (p0 &&& (3 : Int32)) ((p1 &&& (2147483647 : Int32)) % (3 : Int32)) ((p2 &&& (2147483647 : Int32)) % (3 : Int32)) ((p3 &&& (2147483647 : Int32)) % (3 : Int32)) (1 : Int32) T14.heap n0 O14 ) hZ (own_w hw 26 rfl) (own_w hw 25 rfl) (by decide) (by decide)) (g := (mkF m 203 #[.val (.int p0), .val (.int p1), .val (.int p2), .val (.int p3), .val (.int p4), .val (.int p5), .val (.int (p0 &&& (3 : Int32))), .val (.int ((p1 &&& (2147483647 : Int32)) % (3 : Int32))), .val (.int ((p2 &&& (2147483647 : Int32)) % (3 : Int32))), .val (.int ((p3 &&& (2147483647 : Int32)) % (3 : Int32))), .val (.ref a1), .val (.int (1 : Int32))] [(.int (1 : Int32)), (.int ((p3 &&& (2147483647 : Int32)) % (3 : Int32))), (.int ((p2 &&& (2147483647 : Int32)) % (3 : Int32))), (.int ((p1 &&& (2147483647 : Int32)) % (3 : Int32))), (.int (p0 &&& (3 : Int32))), (.int (ad 1 ((p1 &&& (2147483647 : Int32)) % (3 : Int32)) (0 : Int32)))])) rfl (by rw [hml]; rfl) (argsL := [(.int (p0 &&& (3 : Int32))), (.int ((p1 &&& (2147483647 : Int32)) % (3 : Int32))), (.int ((p2 &&& (2147483647 : Int32)) % (3 : Int32))), (.int ((p3 &&& (2147483647 : Int32)) % (3 : Int32))), (.int (1 : Int32))]) (rest := [(.int (ad 1 ((p1 &&& (2147483647 : Int32)) % (3 : Int32)) (0 : Int32)))]) (lenOf pd0_2 rfl) rfl (by show 2 * 0 + _ ≤ _; exact Nat.le_of_eq rfl) (hb hby at_203) (fun _ _ => ⟨rfl, e22, (by decide : 3 + 0 ≤ _), (by decide : 10 + 0 ≤ _)⟩)
        dsimp only [Pt.U, Pt.locs, Pt.cells, Pt.slots] at X23 l23 y23 z23 st23 hQ23
        subst l23 y23 z23
        obtain ⟨rfl, Nc23, e23⟩ := hQ23
        have N23 := Fr.app N22 Nc23
        refine Go.st st23 ?_
        show Go p e below s _ _ _ (T23.setTop (mkF m 206 #[.val (.int p0), .val (.int p1), .val (.int p2), .val (.int p3), .val (.int p4), .val (.int p5), .val (.int (p0 &&& (3 : Int32))), .val (.int ((p1 &&& (2147483647 : Int32)) % (3 : Int32))), .val (.int ((p2 &&& (2147483647 : Int32)) % (3 : Int32))), .val (.int ((p3 &&& (2147483647 : Int32)) % (3 : Int32))), .val (.ref a1), .val (.int (1 : Int32))] [(.int (fEx (p0 &&& (3 : Int32)) ((p1 &&& (2147483647 : Int32)) % (3 : Int32)) ((p2 &&& (2147483647 : Int32)) % (3 : Int32)) ((p3 &&& (2147483647 : Int32)) % (3 : Int32)) (1 : Int32))), (.int (ad 1 ((p1 &&& (2147483647 : Int32)) % (3 : Int32)) (0 : Int32)))]))
        refine Go.st (fun _ kq_ => XS.icmpNo X23.here hx rfl (hb hby at_206) rfl (XT.ii_ne_f (own_q1_1 _ _ _ _ (own_n3 p0) c42_3 c57_15)) kq_) ?_
        show Go p e below s _ _ _ (T23.setTop (mkF m 209 #[.val (.int p0), .val (.int p1), .val (.int p2), .val (.int p3), .val (.int p4), .val (.int p5), .val (.int (p0 &&& (3 : Int32))), .val (.int ((p1 &&& (2147483647 : Int32)) % (3 : Int32))), .val (.int ((p2 &&& (2147483647 : Int32)) % (3 : Int32))), .val (.int ((p3 &&& (2147483647 : Int32)) % (3 : Int32))), .val (.ref a1), .val (.int (1 : Int32))] []))
        refine Go.st (fun _ kq_ => XS.iconst X23.here hx rfl (hb hby at_209) kq_) ?_
        show Go p e below s _ _ _ (T23.setTop (mkF m 210 #[.val (.int p0), .val (.int p1), .val (.int p2), .val (.int p3), .val (.int p4), .val (.int p5), .val (.int (p0 &&& (3 : Int32))), .val (.int ((p1 &&& (2147483647 : Int32)) % (3 : Int32))), .val (.int ((p2 &&& (2147483647 : Int32)) % (3 : Int32))), .val (.int ((p3 &&& (2147483647 : Int32)) % (3 : Int32))), .val (.ref a1), .val (.int (1 : Int32))] [(.int (1 : Int32))]))
        refine Go.st (fun _ kq_ => XS.goto X23.here hx rfl (pc0 := 210) (pc' := 214) rfl (hb hby at_210) (by decide) (by decide) kq_) ?_
        show Go p e below s _ _ _ (T23.setTop (mkF m 214 #[.val (.int p0), .val (.int p1), .val (.int p2), .val (.int p3), .val (.int p4), .val (.int p5), .val (.int (p0 &&& (3 : Int32))), .val (.int ((p1 &&& (2147483647 : Int32)) % (3 : Int32))), .val (.int ((p2 &&& (2147483647 : Int32)) % (3 : Int32))), .val (.int ((p3 &&& (2147483647 : Int32)) % (3 : Int32))), .val (.ref a1), .val (.int (1 : Int32))] [(.int (1 : Int32))]))
        refine Go.st (fun _ kq_ => XS.istore X23.here hx rfl (hb hby at_214) rfl (l' := #[.val (.int p0), .val (.int p1), .val (.int p2), .val (.int p3), .val (.int p4), .val (.int p5), .val (.int (p0 &&& (3 : Int32))), .val (.int ((p1 &&& (2147483647 : Int32)) % (3 : Int32))), .val (.int ((p2 &&& (2147483647 : Int32)) % (3 : Int32))), .val (.int ((p3 &&& (2147483647 : Int32)) % (3 : Int32))), .val (.ref a1), .val (.int (1 : Int32))]) rfl kq_) ?_
        show Go p e below s _ _ _ (T23.setTop (mkF m 216 #[.val (.int p0), .val (.int p1), .val (.int p2), .val (.int p3), .val (.int p4), .val (.int p5), .val (.int (p0 &&& (3 : Int32))), .val (.int ((p1 &&& (2147483647 : Int32)) % (3 : Int32))), .val (.int ((p2 &&& (2147483647 : Int32)) % (3 : Int32))), .val (.int ((p3 &&& (2147483647 : Int32)) % (3 : Int32))), .val (.ref a1), .val (.int (1 : Int32))] []))
        refine Go.st (fun _ kq_ => XS.iload X23.here hx rfl (hb hby at_216) rfl kq_) ?_
        show Go p e below s _ _ _ (T23.setTop (mkF m 218 #[.val (.int p0), .val (.int p1), .val (.int p2), .val (.int p3), .val (.int p4), .val (.int p5), .val (.int (p0 &&& (3 : Int32))), .val (.int ((p1 &&& (2147483647 : Int32)) % (3 : Int32))), .val (.int ((p2 &&& (2147483647 : Int32)) % (3 : Int32))), .val (.int ((p3 &&& (2147483647 : Int32)) % (3 : Int32))), .val (.ref a1), .val (.int (1 : Int32))] [(.int (1 : Int32))]))
        refine Go.st (fun _ kq_ => XS.ifNo X23.here hx rfl (hb hby at_218) rfl (by decide) kq_) ?_
        show Go p e below s _ _ _ (T23.setTop (mkF m 221 #[.val (.int p0), .val (.int p1), .val (.int p2), .val (.int p3), .val (.int p4), .val (.int p5), .val (.int (p0 &&& (3 : Int32))), .val (.int ((p1 &&& (2147483647 : Int32)) % (3 : Int32))), .val (.int ((p2 &&& (2147483647 : Int32)) % (3 : Int32))), .val (.int ((p3 &&& (2147483647 : Int32)) % (3 : Int32))), .val (.ref a1), .val (.int (1 : Int32))] []))
        refine Go.st (fun _ kq_ => XS.aload X23.here hx rfl (hb hby at_221) rfl rfl kq_) ?_
        show Go p e below s _ _ _ (T23.setTop (mkF m 223 #[.val (.int p0), .val (.int p1), .val (.int p2), .val (.int p3), .val (.int p4), .val (.int p5), .val (.int (p0 &&& (3 : Int32))), .val (.int ((p1 &&& (2147483647 : Int32)) % (3 : Int32))), .val (.int ((p2 &&& (2147483647 : Int32)) % (3 : Int32))), .val (.int ((p3 &&& (2147483647 : Int32)) % (3 : Int32))), .val (.ref a1), .val (.int (1 : Int32))] [(.ref a1)]))
        refine Go.st (fun _ kq_ => XS.iconst X23.here hx rfl (hb hby at_223) kq_) ?_
        show Go p e below s _ _ _ (T23.setTop (mkF m 224 #[.val (.int p0), .val (.int p1), .val (.int p2), .val (.int p3), .val (.int p4), .val (.int p5), .val (.int (p0 &&& (3 : Int32))), .val (.int ((p1 &&& (2147483647 : Int32)) % (3 : Int32))), .val (.int ((p2 &&& (2147483647 : Int32)) % (3 : Int32))), .val (.int ((p3 &&& (2147483647 : Int32)) % (3 : Int32))), .val (.ref a1), .val (.int (1 : Int32))] [(.int (2 : Int32)), (.ref a1)]))
        obtain ⟨cq24, kq24, qa24, qb24, qc24⟩ := isOf hZ e23 E_a1
        obtain ⟨_, _, ⟨T24, L24, k24, n24⟩, -, X24, ⟨Lc24, hQ24, l24, y24, z24⟩, st24⟩ := X23.virtualBack hx (y := (⟨"com/example/element_ranker/elementranker/TagStatistics", "elementCount", "(I)I"⟩ : MethodName)) (z := (⟨"com/example/element_ranker/elementranker/TagStatistics", "elementCount", "(I)I"⟩ : MethodName)) hown (mvT hZ (own_w hw 16 rfl)) (mvT hZ (own_w hw 17 rfl)) (notFace_of_selects (args := #[]) (mvT hZ (own_w hw 19 rfl))) (mvT hZ (own_w hw 19 rfl)) (mvT hZ (own_w hw 18 rfl)) (by decide) (backOf (W := 0) (rme2 l Z a0 hw [] a1 b2 kb2 d2 kd2 (ad 0 ((p1 &&& (2147483647 : Int32)) % (3 : Int32)) (0 : Int32)) (ad 1 ((p1 &&& (2147483647 : Int32)) % (3 : Int32)) (0 : Int32)) (ad 2 ((p1 &&& (2147483647 : Int32)) % (3 : Int32)) (0 : Int32)) (adL 0 ((p1 &&& (2147483647 : Int32)) % (3 : Int32)) p4 (0 : Int64)) (adL 1 ((p1 &&& (2147483647 : Int32)) % (3 : Int32)) p4 (0 : Int64)) (adL 2 ((p1 &&& (2147483647 : Int32)) % (3 : Int32)) p4 (0 : Int64)) ((0 : Int32) + (1 : Int32)) ((0 : Int64) + p4.toInt64) T14.heap n0 O14 E_a1 F_a1_elementCounts F_a1_totalLengths F_a1_elementCount F_a1_totalLength V_b2 V_d2) hZ (own_w hw 20 rfl) (own_w hw 3 rfl) (by decide) (by decide)) qa24 qc24 (g := (mkF m 224 #[.val (.int p0), .val (.int p1), .val (.int p2), .val (.int p3), .val (.int p4), .val (.int p5), .val (.int (p0 &&& (3 : Int32))), .val (.int ((p1 &&& (2147483647 : Int32)) % (3 : Int32))), .val (.int ((p2 &&& (2147483647 : Int32)) % (3 : Int32))), .val (.int ((p3 &&& (2147483647 : Int32)) % (3 : Int32))), .val (.ref a1), .val (.int (1 : Int32))] [(.int (2 : Int32)), (.ref a1)])) rfl (by rw [hml]; rfl) (Steps.refl _) (argsL := [(.int (2 : Int32))]) (rest := []) (lenOf pd0_1 rfl) rfl (by show 2 * 0 + _ ≤ _; exact Nat.le_of_eq rfl) (hb hby at_224) (fun _ _ => ⟨rfl, e23, (by decide : 3 + 0 ≤ _), (by decide : 10 + 0 ≤ _)⟩)
        dsimp only [Pt.U, Pt.locs, Pt.cells, Pt.slots] at X24 l24 y24 z24 st24 hQ24
        subst l24 y24 z24
        obtain ⟨rfl, Nc24, e24⟩ := hQ24
        have N24 := Fr.app N23 Nc24
        refine Go.tr st24 ?_
        show Go p e below s _ _ _ (T24.setTop (mkF m 227 #[.val (.int p0), .val (.int p1), .val (.int p2), .val (.int p3), .val (.int p4), .val (.int p5), .val (.int (p0 &&& (3 : Int32))), .val (.int ((p1 &&& (2147483647 : Int32)) % (3 : Int32))), .val (.int ((p2 &&& (2147483647 : Int32)) % (3 : Int32))), .val (.int ((p3 &&& (2147483647 : Int32)) % (3 : Int32))), .val (.ref a1), .val (.int (1 : Int32))] [(.int (ad 2 ((p1 &&& (2147483647 : Int32)) % (3 : Int32)) (0 : Int32)))]))
        refine Go.st (fun _ kq_ => XS.iload X24.here hx rfl (hb hby at_227) rfl kq_) ?_
        show Go p e below s _ _ _ (T24.setTop (mkF m 229 #[.val (.int p0), .val (.int p1), .val (.int p2), .val (.int p3), .val (.int p4), .val (.int p5), .val (.int (p0 &&& (3 : Int32))), .val (.int ((p1 &&& (2147483647 : Int32)) % (3 : Int32))), .val (.int ((p2 &&& (2147483647 : Int32)) % (3 : Int32))), .val (.int ((p3 &&& (2147483647 : Int32)) % (3 : Int32))), .val (.ref a1), .val (.int (1 : Int32))] [(.int (p0 &&& (3 : Int32))), (.int (ad 2 ((p1 &&& (2147483647 : Int32)) % (3 : Int32)) (0 : Int32)))]))
        refine Go.st (fun _ kq_ => XS.iload X24.here hx rfl (hb hby at_229) rfl kq_) ?_
        show Go p e below s _ _ _ (T24.setTop (mkF m 231 #[.val (.int p0), .val (.int p1), .val (.int p2), .val (.int p3), .val (.int p4), .val (.int p5), .val (.int (p0 &&& (3 : Int32))), .val (.int ((p1 &&& (2147483647 : Int32)) % (3 : Int32))), .val (.int ((p2 &&& (2147483647 : Int32)) % (3 : Int32))), .val (.int ((p3 &&& (2147483647 : Int32)) % (3 : Int32))), .val (.ref a1), .val (.int (1 : Int32))] [(.int ((p1 &&& (2147483647 : Int32)) % (3 : Int32))), (.int (p0 &&& (3 : Int32))), (.int (ad 2 ((p1 &&& (2147483647 : Int32)) % (3 : Int32)) (0 : Int32)))]))
        refine Go.st (fun _ kq_ => XS.iload X24.here hx rfl (hb hby at_231) rfl kq_) ?_
        show Go p e below s _ _ _ (T24.setTop (mkF m 233 #[.val (.int p0), .val (.int p1), .val (.int p2), .val (.int p3), .val (.int p4), .val (.int p5), .val (.int (p0 &&& (3 : Int32))), .val (.int ((p1 &&& (2147483647 : Int32)) % (3 : Int32))), .val (.int ((p2 &&& (2147483647 : Int32)) % (3 : Int32))), .val (.int ((p3 &&& (2147483647 : Int32)) % (3 : Int32))), .val (.ref a1), .val (.int (1 : Int32))] [(.int ((p2 &&& (2147483647 : Int32)) % (3 : Int32))), (.int ((p1 &&& (2147483647 : Int32)) % (3 : Int32))), (.int (p0 &&& (3 : Int32))), (.int (ad 2 ((p1 &&& (2147483647 : Int32)) % (3 : Int32)) (0 : Int32)))]))
        refine Go.st (fun _ kq_ => XS.iload X24.here hx rfl (hb hby at_233) rfl kq_) ?_
        show Go p e below s _ _ _ (T24.setTop (mkF m 235 #[.val (.int p0), .val (.int p1), .val (.int p2), .val (.int p3), .val (.int p4), .val (.int p5), .val (.int (p0 &&& (3 : Int32))), .val (.int ((p1 &&& (2147483647 : Int32)) % (3 : Int32))), .val (.int ((p2 &&& (2147483647 : Int32)) % (3 : Int32))), .val (.int ((p3 &&& (2147483647 : Int32)) % (3 : Int32))), .val (.ref a1), .val (.int (1 : Int32))] [(.int ((p3 &&& (2147483647 : Int32)) % (3 : Int32))), (.int ((p2 &&& (2147483647 : Int32)) % (3 : Int32))), (.int ((p1 &&& (2147483647 : Int32)) % (3 : Int32))), (.int (p0 &&& (3 : Int32))), (.int (ad 2 ((p1 &&& (2147483647 : Int32)) % (3 : Int32)) (0 : Int32)))]))
        refine Go.st (fun _ kq_ => XS.iconst X24.here hx rfl (hb hby at_235) kq_) ?_
        show Go p e below s _ _ _ (T24.setTop (mkF m 236 #[.val (.int p0), .val (.int p1), .val (.int p2), .val (.int p3), .val (.int p4), .val (.int p5), .val (.int (p0 &&& (3 : Int32))), .val (.int ((p1 &&& (2147483647 : Int32)) % (3 : Int32))), .val (.int ((p2 &&& (2147483647 : Int32)) % (3 : Int32))), .val (.int ((p3 &&& (2147483647 : Int32)) % (3 : Int32))), .val (.ref a1), .val (.int (1 : Int32))] [(.int (2 : Int32)), (.int ((p3 &&& (2147483647 : Int32)) % (3 : Int32))), (.int ((p2 &&& (2147483647 : Int32)) % (3 : Int32))), (.int ((p1 &&& (2147483647 : Int32)) % (3 : Int32))), (.int (p0 &&& (3 : Int32))), (.int (ad 2 ((p1 &&& (2147483647 : Int32)) % (3 : Int32)) (0 : Int32)))]))
        obtain ⟨_, _, ⟨T25, L25, k25, n25⟩, -, X25, ⟨Lc25, hQ25, l25, y25, z25⟩, st25⟩ := Jvm.LawKit.callS X24 hx (y := (⟨"com/example/element_ranker/elementranker/TagStatisticsElementCountPinLaw", "expected", "(IIIII)I"⟩ : MethodName)) hown (mvT hZ (own_w hw 23 rfl)) (mvT hZ (own_w hw 24 rfl)) (mvT hZ (own_w hw 25 rfl)) (mvT hZ (own_w hw 26 rfl)) (by decide) (backOf (W := 1) (rmx l Z a0 hw [] (p0 &&& (3 : Int32)) ((p1 &&& (2147483647 : Int32)) % (3 : Int32)) ((p2 &&& (2147483647 : Int32)) % (3 : Int32)) ((p3 &&& (2147483647 : Int32)) % (3 : Int32)) (2 : Int32) T14.heap n0 O14 ) hZ (own_w hw 26 rfl) (own_w hw 25 rfl) (by decide) (by decide)) (g := (mkF m 236 #[.val (.int p0), .val (.int p1), .val (.int p2), .val (.int p3), .val (.int p4), .val (.int p5), .val (.int (p0 &&& (3 : Int32))), .val (.int ((p1 &&& (2147483647 : Int32)) % (3 : Int32))), .val (.int ((p2 &&& (2147483647 : Int32)) % (3 : Int32))), .val (.int ((p3 &&& (2147483647 : Int32)) % (3 : Int32))), .val (.ref a1), .val (.int (1 : Int32))] [(.int (2 : Int32)), (.int ((p3 &&& (2147483647 : Int32)) % (3 : Int32))), (.int ((p2 &&& (2147483647 : Int32)) % (3 : Int32))), (.int ((p1 &&& (2147483647 : Int32)) % (3 : Int32))), (.int (p0 &&& (3 : Int32))), (.int (ad 2 ((p1 &&& (2147483647 : Int32)) % (3 : Int32)) (0 : Int32)))])) rfl (by rw [hml]; rfl) (argsL := [(.int (p0 &&& (3 : Int32))), (.int ((p1 &&& (2147483647 : Int32)) % (3 : Int32))), (.int ((p2 &&& (2147483647 : Int32)) % (3 : Int32))), (.int ((p3 &&& (2147483647 : Int32)) % (3 : Int32))), (.int (2 : Int32))]) (rest := [(.int (ad 2 ((p1 &&& (2147483647 : Int32)) % (3 : Int32)) (0 : Int32)))]) (lenOf pd0_2 rfl) rfl (by show 2 * 0 + _ ≤ _; exact Nat.le_of_eq rfl) (hb hby at_236) (fun _ _ => ⟨rfl, e24, (by decide : 3 + 0 ≤ _), (by decide : 10 + 0 ≤ _)⟩)
        dsimp only [Pt.U, Pt.locs, Pt.cells, Pt.slots] at X25 l25 y25 z25 st25 hQ25
        subst l25 y25 z25
        obtain ⟨rfl, Nc25, e25⟩ := hQ25
        have N25 := Fr.app N24 Nc25
        refine Go.st st25 ?_
        show Go p e below s _ _ _ (T25.setTop (mkF m 239 #[.val (.int p0), .val (.int p1), .val (.int p2), .val (.int p3), .val (.int p4), .val (.int p5), .val (.int (p0 &&& (3 : Int32))), .val (.int ((p1 &&& (2147483647 : Int32)) % (3 : Int32))), .val (.int ((p2 &&& (2147483647 : Int32)) % (3 : Int32))), .val (.int ((p3 &&& (2147483647 : Int32)) % (3 : Int32))), .val (.ref a1), .val (.int (1 : Int32))] [(.int (fEx (p0 &&& (3 : Int32)) ((p1 &&& (2147483647 : Int32)) % (3 : Int32)) ((p2 &&& (2147483647 : Int32)) % (3 : Int32)) ((p3 &&& (2147483647 : Int32)) % (3 : Int32)) (2 : Int32))), (.int (ad 2 ((p1 &&& (2147483647 : Int32)) % (3 : Int32)) (0 : Int32)))]))
        refine Go.st (fun _ kq_ => XS.icmpNo X25.here hx rfl (hb hby at_239) rfl (XT.ii_ne_f (own_q1_2 _ _ _ _ (own_n3 p0) c42_3 c57_15)) kq_) ?_
        show Go p e below s _ _ _ (T25.setTop (mkF m 242 #[.val (.int p0), .val (.int p1), .val (.int p2), .val (.int p3), .val (.int p4), .val (.int p5), .val (.int (p0 &&& (3 : Int32))), .val (.int ((p1 &&& (2147483647 : Int32)) % (3 : Int32))), .val (.int ((p2 &&& (2147483647 : Int32)) % (3 : Int32))), .val (.int ((p3 &&& (2147483647 : Int32)) % (3 : Int32))), .val (.ref a1), .val (.int (1 : Int32))] []))
        refine Go.st (fun _ kq_ => XS.iconst X25.here hx rfl (hb hby at_242) kq_) ?_
        show Go p e below s _ _ _ (T25.setTop (mkF m 243 #[.val (.int p0), .val (.int p1), .val (.int p2), .val (.int p3), .val (.int p4), .val (.int p5), .val (.int (p0 &&& (3 : Int32))), .val (.int ((p1 &&& (2147483647 : Int32)) % (3 : Int32))), .val (.int ((p2 &&& (2147483647 : Int32)) % (3 : Int32))), .val (.int ((p3 &&& (2147483647 : Int32)) % (3 : Int32))), .val (.ref a1), .val (.int (1 : Int32))] [(.int (1 : Int32))]))
        refine Go.st (fun _ kq_ => XS.goto X25.here hx rfl (pc0 := 243) (pc' := 247) rfl (hb hby at_243) (by decide) (by decide) kq_) ?_
        show Go p e below s _ _ _ (T25.setTop (mkF m 247 #[.val (.int p0), .val (.int p1), .val (.int p2), .val (.int p3), .val (.int p4), .val (.int p5), .val (.int (p0 &&& (3 : Int32))), .val (.int ((p1 &&& (2147483647 : Int32)) % (3 : Int32))), .val (.int ((p2 &&& (2147483647 : Int32)) % (3 : Int32))), .val (.int ((p3 &&& (2147483647 : Int32)) % (3 : Int32))), .val (.ref a1), .val (.int (1 : Int32))] [(.int (1 : Int32))]))
        refine Go.st (fun _ kq_ => XS.istore X25.here hx rfl (hb hby at_247) rfl (l' := #[.val (.int p0), .val (.int p1), .val (.int p2), .val (.int p3), .val (.int p4), .val (.int p5), .val (.int (p0 &&& (3 : Int32))), .val (.int ((p1 &&& (2147483647 : Int32)) % (3 : Int32))), .val (.int ((p2 &&& (2147483647 : Int32)) % (3 : Int32))), .val (.int ((p3 &&& (2147483647 : Int32)) % (3 : Int32))), .val (.ref a1), .val (.int (1 : Int32))]) rfl kq_) ?_
        show Go p e below s _ _ _ (T25.setTop (mkF m 249 #[.val (.int p0), .val (.int p1), .val (.int p2), .val (.int p3), .val (.int p4), .val (.int p5), .val (.int (p0 &&& (3 : Int32))), .val (.int ((p1 &&& (2147483647 : Int32)) % (3 : Int32))), .val (.int ((p2 &&& (2147483647 : Int32)) % (3 : Int32))), .val (.int ((p3 &&& (2147483647 : Int32)) % (3 : Int32))), .val (.ref a1), .val (.int (1 : Int32))] []))
        refine Go.st (fun _ kq_ => XS.iload X25.here hx rfl (hb hby at_249) rfl kq_) ?_
        show Go p e below s _ _ _ (T25.setTop (mkF m 251 #[.val (.int p0), .val (.int p1), .val (.int p2), .val (.int p3), .val (.int p4), .val (.int p5), .val (.int (p0 &&& (3 : Int32))), .val (.int ((p1 &&& (2147483647 : Int32)) % (3 : Int32))), .val (.int ((p2 &&& (2147483647 : Int32)) % (3 : Int32))), .val (.int ((p3 &&& (2147483647 : Int32)) % (3 : Int32))), .val (.ref a1), .val (.int (1 : Int32))] [(.int (1 : Int32))]))
        exact Go.ret X25 hlk (some (.int (nar .boolean (1 : Int32)))) (fun h => by rw [Bd.returns] at h; cases h) (by rw [e25]; exact ⟨rfl, N25⟩) (by decide) (by decide) (fun fs hr => retN X25 hx (t := .boolean) Bd.returns (by simp) (hb hby at_251) hr)
      · refine Go.st (fun _ kq_ => XS.icmpNo X14.here hx rfl (hb hby at_57) rfl (XT.ii_lt_f c57_15) kq_) ?_
        show Go p e below s _ _ _ (T14.setTop (mkF m 60 #[.val (.int p0), .val (.int p1), .val (.int p2), .val (.int p3), .val (.int p4), .val (.int p5), .val (.int (p0 &&& (3 : Int32))), .val (.int ((p1 &&& (2147483647 : Int32)) % (3 : Int32))), .val (.int ((p2 &&& (2147483647 : Int32)) % (3 : Int32))), .val (.int ((p3 &&& (2147483647 : Int32)) % (3 : Int32))), .val (.ref a1), .unset] []))
        refine Go.st (fun _ kq_ => XS.aload X14.here hx rfl (hb hby at_60) rfl rfl kq_) ?_
        show Go p e below s _ _ _ (T14.setTop (mkF m 62 #[.val (.int p0), .val (.int p1), .val (.int p2), .val (.int p3), .val (.int p4), .val (.int p5), .val (.int (p0 &&& (3 : Int32))), .val (.int ((p1 &&& (2147483647 : Int32)) % (3 : Int32))), .val (.int ((p2 &&& (2147483647 : Int32)) % (3 : Int32))), .val (.int ((p3 &&& (2147483647 : Int32)) % (3 : Int32))), .val (.ref a1), .unset] [(.ref a1)]))
        refine Go.st (fun _ kq_ => XS.iload X14.here hx rfl (hb hby at_62) rfl kq_) ?_
        show Go p e below s _ _ _ (T14.setTop (mkF m 64 #[.val (.int p0), .val (.int p1), .val (.int p2), .val (.int p3), .val (.int p4), .val (.int p5), .val (.int (p0 &&& (3 : Int32))), .val (.int ((p1 &&& (2147483647 : Int32)) % (3 : Int32))), .val (.int ((p2 &&& (2147483647 : Int32)) % (3 : Int32))), .val (.int ((p3 &&& (2147483647 : Int32)) % (3 : Int32))), .val (.ref a1), .unset] [(.int ((p2 &&& (2147483647 : Int32)) % (3 : Int32))), (.ref a1)]))
        refine Go.st (fun _ kq_ => XS.iload X14.here hx rfl (hb hby at_64) rfl kq_) ?_
        show Go p e below s _ _ _ (T14.setTop (mkF m 66 #[.val (.int p0), .val (.int p1), .val (.int p2), .val (.int p3), .val (.int p4), .val (.int p5), .val (.int (p0 &&& (3 : Int32))), .val (.int ((p1 &&& (2147483647 : Int32)) % (3 : Int32))), .val (.int ((p2 &&& (2147483647 : Int32)) % (3 : Int32))), .val (.int ((p3 &&& (2147483647 : Int32)) % (3 : Int32))), .val (.ref a1), .unset] [(.int p5), (.int ((p2 &&& (2147483647 : Int32)) % (3 : Int32))), (.ref a1)]))
        obtain ⟨cq26, kq26, qa26, qb26, qc26⟩ := isOf hZ rfl E_a1
        obtain ⟨_, _, ⟨T26, L26, k26, n26⟩, -, X26, ⟨Lc26, hQ26, l26, y26, z26⟩, st26⟩ := X14.virtualBack hx (y := (⟨"com/example/element_ranker/elementranker/TagStatistics", "add", "(II)V"⟩ : MethodName)) (z := (⟨"com/example/element_ranker/elementranker/TagStatistics", "add", "(II)V"⟩ : MethodName)) hown (mvT hZ (own_w hw 27 rfl)) (mvT hZ (own_w hw 28 rfl)) (notFace_of_selects (args := #[]) (mvT hZ (own_w hw 30 rfl))) (mvT hZ (own_w hw 30 rfl)) (mvT hZ (own_w hw 29 rfl)) (by decide) (backOf (W := 0) (rma l Z a0 hw [] a1 b2 kb2 d2 kd2 (ad 0 ((p1 &&& (2147483647 : Int32)) % (3 : Int32)) (0 : Int32)) (ad 1 ((p1 &&& (2147483647 : Int32)) % (3 : Int32)) (0 : Int32)) (ad 2 ((p1 &&& (2147483647 : Int32)) % (3 : Int32)) (0 : Int32)) (adL 0 ((p1 &&& (2147483647 : Int32)) % (3 : Int32)) p4 (0 : Int64)) (adL 1 ((p1 &&& (2147483647 : Int32)) % (3 : Int32)) p4 (0 : Int64)) (adL 2 ((p1 &&& (2147483647 : Int32)) % (3 : Int32)) p4 (0 : Int64)) ((0 : Int32) + (1 : Int32)) ((0 : Int64) + p4.toInt64) ((p2 &&& (2147483647 : Int32)) % (3 : Int32)) p5 T14.heap n0 O14 E_a1 F_a1_elementCounts F_a1_totalLengths F_a1_elementCount F_a1_totalLength V_b2 V_d2 g_a1 g_b2 g_d2 ne_a1_b2 ne_a1_d2 ned2 (own_rem p2 3 (by decide))) hZ (own_w hw 31 rfl) (own_w hw 3 rfl) (by decide) (by decide)) qa26 qc26 (g := (mkF m 66 #[.val (.int p0), .val (.int p1), .val (.int p2), .val (.int p3), .val (.int p4), .val (.int p5), .val (.int (p0 &&& (3 : Int32))), .val (.int ((p1 &&& (2147483647 : Int32)) % (3 : Int32))), .val (.int ((p2 &&& (2147483647 : Int32)) % (3 : Int32))), .val (.int ((p3 &&& (2147483647 : Int32)) % (3 : Int32))), .val (.ref a1), .unset] [(.int p5), (.int ((p2 &&& (2147483647 : Int32)) % (3 : Int32))), (.ref a1)])) rfl (by rw [hml]; rfl) (Steps.refl _) (argsL := [(.int ((p2 &&& (2147483647 : Int32)) % (3 : Int32))), (.int p5)]) (rest := []) (lenOf pd0_3 rfl) rfl (by show 2 * 0 + _ ≤ _; exact Nat.le_of_eq rfl) (hb hby at_66) (fun _ _ => ⟨rfl, rfl, (by decide : 3 + 0 ≤ _), (by decide : 10 + 0 ≤ _)⟩)
        dsimp only [Pt.U, Pt.locs, Pt.cells, Pt.slots] at X26 l26 y26 z26 st26 hQ26
        subst l26 y26 z26
        obtain ⟨rfl, Nc26, Kc26, NE_a1, NF_a1_elementCounts, NF_a1_totalLengths, NF_a1_elementCount, NF_a1_totalLength, NV_b2, NV_d2⟩ := hQ26
        have N26 := Fr.app N14 Nc26
        have O26 := O14.keep Kc26 (allS g_a1 (allS g_b2 (allS g_d2 all0)))
        have E_a1 := NE_a1
        have F_a1_elementCounts := NF_a1_elementCounts
        have F_a1_totalLengths := NF_a1_totalLengths
        have F_a1_elementCount := NF_a1_elementCount
        have F_a1_totalLength := NF_a1_totalLength
        have V_b2 := NV_b2
        have V_d2 := NV_d2
        refine Go.tr st26 ?_
        show Go p e below s _ _ _ (T26.setTop (mkF m 69 #[.val (.int p0), .val (.int p1), .val (.int p2), .val (.int p3), .val (.int p4), .val (.int p5), .val (.int (p0 &&& (3 : Int32))), .val (.int ((p1 &&& (2147483647 : Int32)) % (3 : Int32))), .val (.int ((p2 &&& (2147483647 : Int32)) % (3 : Int32))), .val (.int ((p3 &&& (2147483647 : Int32)) % (3 : Int32))), .val (.ref a1), .unset] []))
        refine Go.st (fun _ kq_ => XS.iload X26.here hx rfl (hb hby at_69) rfl kq_) ?_
        show Go p e below s _ _ _ (T26.setTop (mkF m 71 #[.val (.int p0), .val (.int p1), .val (.int p2), .val (.int p3), .val (.int p4), .val (.int p5), .val (.int (p0 &&& (3 : Int32))), .val (.int ((p1 &&& (2147483647 : Int32)) % (3 : Int32))), .val (.int ((p2 &&& (2147483647 : Int32)) % (3 : Int32))), .val (.int ((p3 &&& (2147483647 : Int32)) % (3 : Int32))), .val (.ref a1), .unset] [(.int (p0 &&& (3 : Int32)))]))
        refine Go.st (fun _ kq_ => XS.iconst X26.here hx rfl (hb hby at_71) kq_) ?_
        show Go p e below s _ _ _ (T26.setTop (mkF m 72 #[.val (.int p0), .val (.int p1), .val (.int p2), .val (.int p3), .val (.int p4), .val (.int p5), .val (.int (p0 &&& (3 : Int32))), .val (.int ((p1 &&& (2147483647 : Int32)) % (3 : Int32))), .val (.int ((p2 &&& (2147483647 : Int32)) % (3 : Int32))), .val (.int ((p3 &&& (2147483647 : Int32)) % (3 : Int32))), .val (.ref a1), .unset] [(.int (3 : Int32)), (.int (p0 &&& (3 : Int32)))]))
        by_cases c72_27 : (p0 &&& (3 : Int32)) < (3 : Int32)
        · refine Go.st (fun _ kq_ => XS.icmpYes X26.here hx rfl (pc0 := 72) (pc' := 87) rfl (hb hby at_72) rfl (XT.ii_lt_t c72_27) (by decide) (by decide) kq_) ?_
          show Go p e below s _ _ _ (T26.setTop (mkF m 87 #[.val (.int p0), .val (.int p1), .val (.int p2), .val (.int p3), .val (.int p4), .val (.int p5), .val (.int (p0 &&& (3 : Int32))), .val (.int ((p1 &&& (2147483647 : Int32)) % (3 : Int32))), .val (.int ((p2 &&& (2147483647 : Int32)) % (3 : Int32))), .val (.int ((p3 &&& (2147483647 : Int32)) % (3 : Int32))), .val (.ref a1), .unset] []))
          refine Go.st (fun _ kq_ => XS.aload X26.here hx rfl (hb hby at_87) rfl rfl kq_) ?_
          show Go p e below s _ _ _ (T26.setTop (mkF m 89 #[.val (.int p0), .val (.int p1), .val (.int p2), .val (.int p3), .val (.int p4), .val (.int p5), .val (.int (p0 &&& (3 : Int32))), .val (.int ((p1 &&& (2147483647 : Int32)) % (3 : Int32))), .val (.int ((p2 &&& (2147483647 : Int32)) % (3 : Int32))), .val (.int ((p3 &&& (2147483647 : Int32)) % (3 : Int32))), .val (.ref a1), .unset] [(.ref a1)]))
          refine Go.st (fun _ kq_ => XS.iconst X26.here hx rfl (hb hby at_89) kq_) ?_
          show Go p e below s _ _ _ (T26.setTop (mkF m 90 #[.val (.int p0), .val (.int p1), .val (.int p2), .val (.int p3), .val (.int p4), .val (.int p5), .val (.int (p0 &&& (3 : Int32))), .val (.int ((p1 &&& (2147483647 : Int32)) % (3 : Int32))), .val (.int ((p2 &&& (2147483647 : Int32)) % (3 : Int32))), .val (.int ((p3 &&& (2147483647 : Int32)) % (3 : Int32))), .val (.ref a1), .unset] [(.int (-1 : Int32)), (.ref a1)]))
          obtain ⟨cq28, kq28, qa28, qb28, qc28⟩ := isOf hZ rfl E_a1
          obtain ⟨_, _, ⟨T28, L28, k28, n28⟩, -, X28, ⟨Lc28, hQ28, l28, y28, z28⟩, st28⟩ := X26.virtualBack hx (y := (⟨"com/example/element_ranker/elementranker/TagStatistics", "elementCount", "(I)I"⟩ : MethodName)) (z := (⟨"com/example/element_ranker/elementranker/TagStatistics", "elementCount", "(I)I"⟩ : MethodName)) hown (mvT hZ (own_w hw 16 rfl)) (mvT hZ (own_w hw 17 rfl)) (notFace_of_selects (args := #[]) (mvT hZ (own_w hw 19 rfl))) (mvT hZ (own_w hw 19 rfl)) (mvT hZ (own_w hw 18 rfl)) (by decide) (backOf (W := 0) (rmem1 l Z a0 hw [] a1 b2 kb2 d2 kd2 (ad 0 ((p2 &&& (2147483647 : Int32)) % (3 : Int32)) (ad 0 ((p1 &&& (2147483647 : Int32)) % (3 : Int32)) (0 : Int32))) (ad 1 ((p2 &&& (2147483647 : Int32)) % (3 : Int32)) (ad 1 ((p1 &&& (2147483647 : Int32)) % (3 : Int32)) (0 : Int32))) (ad 2 ((p2 &&& (2147483647 : Int32)) % (3 : Int32)) (ad 2 ((p1 &&& (2147483647 : Int32)) % (3 : Int32)) (0 : Int32))) (adL 0 ((p2 &&& (2147483647 : Int32)) % (3 : Int32)) p5 (adL 0 ((p1 &&& (2147483647 : Int32)) % (3 : Int32)) p4 (0 : Int64))) (adL 1 ((p2 &&& (2147483647 : Int32)) % (3 : Int32)) p5 (adL 1 ((p1 &&& (2147483647 : Int32)) % (3 : Int32)) p4 (0 : Int64))) (adL 2 ((p2 &&& (2147483647 : Int32)) % (3 : Int32)) p5 (adL 2 ((p1 &&& (2147483647 : Int32)) % (3 : Int32)) p4 (0 : Int64))) (((0 : Int32) + (1 : Int32)) + (1 : Int32)) (((0 : Int64) + p4.toInt64) + p5.toInt64) T26.heap n0 O26 E_a1 F_a1_elementCounts F_a1_totalLengths F_a1_elementCount F_a1_totalLength V_b2 V_d2) hZ (own_w hw 20 rfl) (own_w hw 3 rfl) (by decide) (by decide)) qa28 qc28 (g := (mkF m 90 #[.val (.int p0), .val (.int p1), .val (.int p2), .val (.int p3), .val (.int p4), .val (.int p5), .val (.int (p0 &&& (3 : Int32))), .val (.int ((p1 &&& (2147483647 : Int32)) % (3 : Int32))), .val (.int ((p2 &&& (2147483647 : Int32)) % (3 : Int32))), .val (.int ((p3 &&& (2147483647 : Int32)) % (3 : Int32))), .val (.ref a1), .unset] [(.int (-1 : Int32)), (.ref a1)])) rfl (by rw [hml]; rfl) (Steps.refl _) (argsL := [(.int (-1 : Int32))]) (rest := []) (lenOf pd0_1 rfl) rfl (by show 2 * 0 + _ ≤ _; exact Nat.le_of_eq rfl) (hb hby at_90) (fun _ _ => ⟨rfl, rfl, (by decide : 3 + 0 ≤ _), (by decide : 10 + 0 ≤ _)⟩)
          dsimp only [Pt.U, Pt.locs, Pt.cells, Pt.slots] at X28 l28 y28 z28 st28 hQ28
          subst l28 y28 z28
          obtain ⟨rfl, Nc28, e28⟩ := hQ28
          have N28 := Fr.app N26 Nc28
          refine Go.tr st28 ?_
          show Go p e below s _ _ _ (T28.setTop (mkF m 93 #[.val (.int p0), .val (.int p1), .val (.int p2), .val (.int p3), .val (.int p4), .val (.int p5), .val (.int (p0 &&& (3 : Int32))), .val (.int ((p1 &&& (2147483647 : Int32)) % (3 : Int32))), .val (.int ((p2 &&& (2147483647 : Int32)) % (3 : Int32))), .val (.int ((p3 &&& (2147483647 : Int32)) % (3 : Int32))), .val (.ref a1), .unset] [(.int (((0 : Int32) + (1 : Int32)) + (1 : Int32)))]))
          refine Go.st (fun _ kq_ => XS.iload X28.here hx rfl (hb hby at_93) rfl kq_) ?_
          show Go p e below s _ _ _ (T28.setTop (mkF m 95 #[.val (.int p0), .val (.int p1), .val (.int p2), .val (.int p3), .val (.int p4), .val (.int p5), .val (.int (p0 &&& (3 : Int32))), .val (.int ((p1 &&& (2147483647 : Int32)) % (3 : Int32))), .val (.int ((p2 &&& (2147483647 : Int32)) % (3 : Int32))), .val (.int ((p3 &&& (2147483647 : Int32)) % (3 : Int32))), .val (.ref a1), .unset] [(.int (p0 &&& (3 : Int32))), (.int (((0 : Int32) + (1 : Int32)) + (1 : Int32)))]))
          refine Go.st (fun _ kq_ => XS.iload X28.here hx rfl (hb hby at_95) rfl kq_) ?_
          show Go p e below s _ _ _ (T28.setTop (mkF m 97 #[.val (.int p0), .val (.int p1), .val (.int p2), .val (.int p3), .val (.int p4), .val (.int p5), .val (.int (p0 &&& (3 : Int32))), .val (.int ((p1 &&& (2147483647 : Int32)) % (3 : Int32))), .val (.int ((p2 &&& (2147483647 : Int32)) % (3 : Int32))), .val (.int ((p3 &&& (2147483647 : Int32)) % (3 : Int32))), .val (.ref a1), .unset] [(.int ((p1 &&& (2147483647 : Int32)) % (3 : Int32))), (.int (p0 &&& (3 : Int32))), (.int (((0 : Int32) + (1 : Int32)) + (1 : Int32)))]))
          refine Go.st (fun _ kq_ => XS.iload X28.here hx rfl (hb hby at_97) rfl kq_) ?_
          show Go p e below s _ _ _ (T28.setTop (mkF m 99 #[.val (.int p0), .val (.int p1), .val (.int p2), .val (.int p3), .val (.int p4), .val (.int p5), .val (.int (p0 &&& (3 : Int32))), .val (.int ((p1 &&& (2147483647 : Int32)) % (3 : Int32))), .val (.int ((p2 &&& (2147483647 : Int32)) % (3 : Int32))), .val (.int ((p3 &&& (2147483647 : Int32)) % (3 : Int32))), .val (.ref a1), .unset] [(.int ((p2 &&& (2147483647 : Int32)) % (3 : Int32))), (.int ((p1 &&& (2147483647 : Int32)) % (3 : Int32))), (.int (p0 &&& (3 : Int32))), (.int (((0 : Int32) + (1 : Int32)) + (1 : Int32)))]))
          refine Go.st (fun _ kq_ => XS.iload X28.here hx rfl (hb hby at_99) rfl kq_) ?_
          show Go p e below s _ _ _ (T28.setTop (mkF m 101 #[.val (.int p0), .val (.int p1), .val (.int p2), .val (.int p3), .val (.int p4), .val (.int p5), .val (.int (p0 &&& (3 : Int32))), .val (.int ((p1 &&& (2147483647 : Int32)) % (3 : Int32))), .val (.int ((p2 &&& (2147483647 : Int32)) % (3 : Int32))), .val (.int ((p3 &&& (2147483647 : Int32)) % (3 : Int32))), .val (.ref a1), .unset] [(.int ((p3 &&& (2147483647 : Int32)) % (3 : Int32))), (.int ((p2 &&& (2147483647 : Int32)) % (3 : Int32))), (.int ((p1 &&& (2147483647 : Int32)) % (3 : Int32))), (.int (p0 &&& (3 : Int32))), (.int (((0 : Int32) + (1 : Int32)) + (1 : Int32)))]))
          refine Go.st (fun _ kq_ => XS.iconst X28.here hx rfl (hb hby at_101) kq_) ?_
          show Go p e below s _ _ _ (T28.setTop (mkF m 102 #[.val (.int p0), .val (.int p1), .val (.int p2), .val (.int p3), .val (.int p4), .val (.int p5), .val (.int (p0 &&& (3 : Int32))), .val (.int ((p1 &&& (2147483647 : Int32)) % (3 : Int32))), .val (.int ((p2 &&& (2147483647 : Int32)) % (3 : Int32))), .val (.int ((p3 &&& (2147483647 : Int32)) % (3 : Int32))), .val (.ref a1), .unset] [(.int (-1 : Int32)), (.int ((p3 &&& (2147483647 : Int32)) % (3 : Int32))), (.int ((p2 &&& (2147483647 : Int32)) % (3 : Int32))), (.int ((p1 &&& (2147483647 : Int32)) % (3 : Int32))), (.int (p0 &&& (3 : Int32))), (.int (((0 : Int32) + (1 : Int32)) + (1 : Int32)))]))
          obtain ⟨_, _, ⟨T29, L29, k29, n29⟩, -, X29, ⟨Lc29, hQ29, l29, y29, z29⟩, st29⟩ := Jvm.LawKit.callS X28 hx (y := (⟨"com/example/element_ranker/elementranker/TagStatisticsElementCountPinLaw", "expected", "(IIIII)I"⟩ : MethodName)) hown (mvT hZ (own_w hw 23 rfl)) (mvT hZ (own_w hw 24 rfl)) (mvT hZ (own_w hw 25 rfl)) (mvT hZ (own_w hw 26 rfl)) (by decide) (backOf (W := 1) (rmx l Z a0 hw [] (p0 &&& (3 : Int32)) ((p1 &&& (2147483647 : Int32)) % (3 : Int32)) ((p2 &&& (2147483647 : Int32)) % (3 : Int32)) ((p3 &&& (2147483647 : Int32)) % (3 : Int32)) (-1 : Int32) T26.heap n0 O26 ) hZ (own_w hw 26 rfl) (own_w hw 25 rfl) (by decide) (by decide)) (g := (mkF m 102 #[.val (.int p0), .val (.int p1), .val (.int p2), .val (.int p3), .val (.int p4), .val (.int p5), .val (.int (p0 &&& (3 : Int32))), .val (.int ((p1 &&& (2147483647 : Int32)) % (3 : Int32))), .val (.int ((p2 &&& (2147483647 : Int32)) % (3 : Int32))), .val (.int ((p3 &&& (2147483647 : Int32)) % (3 : Int32))), .val (.ref a1), .unset] [(.int (-1 : Int32)), (.int ((p3 &&& (2147483647 : Int32)) % (3 : Int32))), (.int ((p2 &&& (2147483647 : Int32)) % (3 : Int32))), (.int ((p1 &&& (2147483647 : Int32)) % (3 : Int32))), (.int (p0 &&& (3 : Int32))), (.int (((0 : Int32) + (1 : Int32)) + (1 : Int32)))])) rfl (by rw [hml]; rfl) (argsL := [(.int (p0 &&& (3 : Int32))), (.int ((p1 &&& (2147483647 : Int32)) % (3 : Int32))), (.int ((p2 &&& (2147483647 : Int32)) % (3 : Int32))), (.int ((p3 &&& (2147483647 : Int32)) % (3 : Int32))), (.int (-1 : Int32))]) (rest := [(.int (((0 : Int32) + (1 : Int32)) + (1 : Int32)))]) (lenOf pd0_2 rfl) rfl (by show 2 * 0 + _ ≤ _; exact Nat.le_of_eq rfl) (hb hby at_102) (fun _ _ => ⟨rfl, e28, (by decide : 3 + 0 ≤ _), (by decide : 10 + 0 ≤ _)⟩)
          dsimp only [Pt.U, Pt.locs, Pt.cells, Pt.slots] at X29 l29 y29 z29 st29 hQ29
          subst l29 y29 z29
          obtain ⟨rfl, Nc29, e29⟩ := hQ29
          have N29 := Fr.app N28 Nc29
          refine Go.st st29 ?_
          show Go p e below s _ _ _ (T29.setTop (mkF m 105 #[.val (.int p0), .val (.int p1), .val (.int p2), .val (.int p3), .val (.int p4), .val (.int p5), .val (.int (p0 &&& (3 : Int32))), .val (.int ((p1 &&& (2147483647 : Int32)) % (3 : Int32))), .val (.int ((p2 &&& (2147483647 : Int32)) % (3 : Int32))), .val (.int ((p3 &&& (2147483647 : Int32)) % (3 : Int32))), .val (.ref a1), .unset] [(.int (fEx (p0 &&& (3 : Int32)) ((p1 &&& (2147483647 : Int32)) % (3 : Int32)) ((p2 &&& (2147483647 : Int32)) % (3 : Int32)) ((p3 &&& (2147483647 : Int32)) % (3 : Int32)) (-1 : Int32))), (.int (((0 : Int32) + (1 : Int32)) + (1 : Int32)))]))
          refine Go.st (fun _ kq_ => XS.icmpNo X29.here hx rfl (hb hby at_105) rfl (XT.ii_ne_f (own_q2_m1 _ _ _ _ (own_n3 p0) c42_3 c57_15 c72_27)) kq_) ?_
          show Go p e below s _ _ _ (T29.setTop (mkF m 108 #[.val (.int p0), .val (.int p1), .val (.int p2), .val (.int p3), .val (.int p4), .val (.int p5), .val (.int (p0 &&& (3 : Int32))), .val (.int ((p1 &&& (2147483647 : Int32)) % (3 : Int32))), .val (.int ((p2 &&& (2147483647 : Int32)) % (3 : Int32))), .val (.int ((p3 &&& (2147483647 : Int32)) % (3 : Int32))), .val (.ref a1), .unset] []))
          refine Go.st (fun _ kq_ => XS.iconst X29.here hx rfl (hb hby at_108) kq_) ?_
          show Go p e below s _ _ _ (T29.setTop (mkF m 109 #[.val (.int p0), .val (.int p1), .val (.int p2), .val (.int p3), .val (.int p4), .val (.int p5), .val (.int (p0 &&& (3 : Int32))), .val (.int ((p1 &&& (2147483647 : Int32)) % (3 : Int32))), .val (.int ((p2 &&& (2147483647 : Int32)) % (3 : Int32))), .val (.int ((p3 &&& (2147483647 : Int32)) % (3 : Int32))), .val (.ref a1), .unset] [(.int (1 : Int32))]))
          refine Go.st (fun _ kq_ => XS.goto X29.here hx rfl (pc0 := 109) (pc' := 113) rfl (hb hby at_109) (by decide) (by decide) kq_) ?_
          show Go p e below s _ _ _ (T29.setTop (mkF m 113 #[.val (.int p0), .val (.int p1), .val (.int p2), .val (.int p3), .val (.int p4), .val (.int p5), .val (.int (p0 &&& (3 : Int32))), .val (.int ((p1 &&& (2147483647 : Int32)) % (3 : Int32))), .val (.int ((p2 &&& (2147483647 : Int32)) % (3 : Int32))), .val (.int ((p3 &&& (2147483647 : Int32)) % (3 : Int32))), .val (.ref a1), .unset] [(.int (1 : Int32))]))
          refine Go.st (fun _ kq_ => XS.istore X29.here hx rfl (hb hby at_113) rfl (l' := #[.val (.int p0), .val (.int p1), .val (.int p2), .val (.int p3), .val (.int p4), .val (.int p5), .val (.int (p0 &&& (3 : Int32))), .val (.int ((p1 &&& (2147483647 : Int32)) % (3 : Int32))), .val (.int ((p2 &&& (2147483647 : Int32)) % (3 : Int32))), .val (.int ((p3 &&& (2147483647 : Int32)) % (3 : Int32))), .val (.ref a1), .val (.int (1 : Int32))]) rfl kq_) ?_
          show Go p e below s _ _ _ (T29.setTop (mkF m 115 #[.val (.int p0), .val (.int p1), .val (.int p2), .val (.int p3), .val (.int p4), .val (.int p5), .val (.int (p0 &&& (3 : Int32))), .val (.int ((p1 &&& (2147483647 : Int32)) % (3 : Int32))), .val (.int ((p2 &&& (2147483647 : Int32)) % (3 : Int32))), .val (.int ((p3 &&& (2147483647 : Int32)) % (3 : Int32))), .val (.ref a1), .val (.int (1 : Int32))] []))
          refine Go.st (fun _ kq_ => XS.iload X29.here hx rfl (hb hby at_115) rfl kq_) ?_
          show Go p e below s _ _ _ (T29.setTop (mkF m 117 #[.val (.int p0), .val (.int p1), .val (.int p2), .val (.int p3), .val (.int p4), .val (.int p5), .val (.int (p0 &&& (3 : Int32))), .val (.int ((p1 &&& (2147483647 : Int32)) % (3 : Int32))), .val (.int ((p2 &&& (2147483647 : Int32)) % (3 : Int32))), .val (.int ((p3 &&& (2147483647 : Int32)) % (3 : Int32))), .val (.ref a1), .val (.int (1 : Int32))] [(.int (1 : Int32))]))
          refine Go.st (fun _ kq_ => XS.ifNo X29.here hx rfl (hb hby at_117) rfl (by decide) kq_) ?_
          show Go p e below s _ _ _ (T29.setTop (mkF m 120 #[.val (.int p0), .val (.int p1), .val (.int p2), .val (.int p3), .val (.int p4), .val (.int p5), .val (.int (p0 &&& (3 : Int32))), .val (.int ((p1 &&& (2147483647 : Int32)) % (3 : Int32))), .val (.int ((p2 &&& (2147483647 : Int32)) % (3 : Int32))), .val (.int ((p3 &&& (2147483647 : Int32)) % (3 : Int32))), .val (.ref a1), .val (.int (1 : Int32))] []))
          refine Go.st (fun _ kq_ => XS.aload X29.here hx rfl (hb hby at_120) rfl rfl kq_) ?_
          show Go p e below s _ _ _ (T29.setTop (mkF m 122 #[.val (.int p0), .val (.int p1), .val (.int p2), .val (.int p3), .val (.int p4), .val (.int p5), .val (.int (p0 &&& (3 : Int32))), .val (.int ((p1 &&& (2147483647 : Int32)) % (3 : Int32))), .val (.int ((p2 &&& (2147483647 : Int32)) % (3 : Int32))), .val (.int ((p3 &&& (2147483647 : Int32)) % (3 : Int32))), .val (.ref a1), .val (.int (1 : Int32))] [(.ref a1)]))
          refine Go.st (fun _ kq_ => XS.bipush X29.here hx rfl (hb hby at_122) kq_) ?_
          show Go p e below s _ _ _ (T29.setTop (mkF m 124 #[.val (.int p0), .val (.int p1), .val (.int p2), .val (.int p3), .val (.int p4), .val (.int p5), .val (.int (p0 &&& (3 : Int32))), .val (.int ((p1 &&& (2147483647 : Int32)) % (3 : Int32))), .val (.int ((p2 &&& (2147483647 : Int32)) % (3 : Int32))), .val (.int ((p3 &&& (2147483647 : Int32)) % (3 : Int32))), .val (.ref a1), .val (.int (1 : Int32))] [(.int (-2 : Int32)), (.ref a1)]))
          obtain ⟨cq30, kq30, qa30, qb30, qc30⟩ := isOf hZ e29 E_a1
          obtain ⟨_, _, ⟨T30, L30, k30, n30⟩, -, X30, ⟨Lc30, hQ30, l30, y30, z30⟩, st30⟩ := X29.virtualBack hx (y := (⟨"com/example/element_ranker/elementranker/TagStatistics", "elementCount", "(I)I"⟩ : MethodName)) (z := (⟨"com/example/element_ranker/elementranker/TagStatistics", "elementCount", "(I)I"⟩ : MethodName)) hown (mvT hZ (own_w hw 16 rfl)) (mvT hZ (own_w hw 17 rfl)) (notFace_of_selects (args := #[]) (mvT hZ (own_w hw 19 rfl))) (mvT hZ (own_w hw 19 rfl)) (mvT hZ (own_w hw 18 rfl)) (by decide) (backOf (W := 0) (rmem2 l Z a0 hw [] a1 b2 kb2 d2 kd2 (ad 0 ((p2 &&& (2147483647 : Int32)) % (3 : Int32)) (ad 0 ((p1 &&& (2147483647 : Int32)) % (3 : Int32)) (0 : Int32))) (ad 1 ((p2 &&& (2147483647 : Int32)) % (3 : Int32)) (ad 1 ((p1 &&& (2147483647 : Int32)) % (3 : Int32)) (0 : Int32))) (ad 2 ((p2 &&& (2147483647 : Int32)) % (3 : Int32)) (ad 2 ((p1 &&& (2147483647 : Int32)) % (3 : Int32)) (0 : Int32))) (adL 0 ((p2 &&& (2147483647 : Int32)) % (3 : Int32)) p5 (adL 0 ((p1 &&& (2147483647 : Int32)) % (3 : Int32)) p4 (0 : Int64))) (adL 1 ((p2 &&& (2147483647 : Int32)) % (3 : Int32)) p5 (adL 1 ((p1 &&& (2147483647 : Int32)) % (3 : Int32)) p4 (0 : Int64))) (adL 2 ((p2 &&& (2147483647 : Int32)) % (3 : Int32)) p5 (adL 2 ((p1 &&& (2147483647 : Int32)) % (3 : Int32)) p4 (0 : Int64))) (((0 : Int32) + (1 : Int32)) + (1 : Int32)) (((0 : Int64) + p4.toInt64) + p5.toInt64) T26.heap n0 O26 E_a1 F_a1_elementCounts F_a1_totalLengths F_a1_elementCount F_a1_totalLength V_b2 V_d2) hZ (own_w hw 20 rfl) (own_w hw 3 rfl) (by decide) (by decide)) qa30 qc30 (g := (mkF m 124 #[.val (.int p0), .val (.int p1), .val (.int p2), .val (.int p3), .val (.int p4), .val (.int p5), .val (.int (p0 &&& (3 : Int32))), .val (.int ((p1 &&& (2147483647 : Int32)) % (3 : Int32))), .val (.int ((p2 &&& (2147483647 : Int32)) % (3 : Int32))), .val (.int ((p3 &&& (2147483647 : Int32)) % (3 : Int32))), .val (.ref a1), .val (.int (1 : Int32))] [(.int (-2 : Int32)), (.ref a1)])) rfl (by rw [hml]; rfl) (Steps.refl _) (argsL := [(.int (-2 : Int32))]) (rest := []) (lenOf pd0_1 rfl) rfl (by show 2 * 0 + _ ≤ _; exact Nat.le_of_eq rfl) (hb hby at_124) (fun _ _ => ⟨rfl, e29, (by decide : 3 + 0 ≤ _), (by decide : 10 + 0 ≤ _)⟩)
          dsimp only [Pt.U, Pt.locs, Pt.cells, Pt.slots] at X30 l30 y30 z30 st30 hQ30
          subst l30 y30 z30
          obtain ⟨rfl, Nc30, e30⟩ := hQ30
          have N30 := Fr.app N29 Nc30
          refine Go.tr st30 ?_
          show Go p e below s _ _ _ (T30.setTop (mkF m 127 #[.val (.int p0), .val (.int p1), .val (.int p2), .val (.int p3), .val (.int p4), .val (.int p5), .val (.int (p0 &&& (3 : Int32))), .val (.int ((p1 &&& (2147483647 : Int32)) % (3 : Int32))), .val (.int ((p2 &&& (2147483647 : Int32)) % (3 : Int32))), .val (.int ((p3 &&& (2147483647 : Int32)) % (3 : Int32))), .val (.ref a1), .val (.int (1 : Int32))] [(.int (0 : Int32))]))
          refine Go.st (fun _ kq_ => XS.iload X30.here hx rfl (hb hby at_127) rfl kq_) ?_
          show Go p e below s _ _ _ (T30.setTop (mkF m 129 #[.val (.int p0), .val (.int p1), .val (.int p2), .val (.int p3), .val (.int p4), .val (.int p5), .val (.int (p0 &&& (3 : Int32))), .val (.int ((p1 &&& (2147483647 : Int32)) % (3 : Int32))), .val (.int ((p2 &&& (2147483647 : Int32)) % (3 : Int32))), .val (.int ((p3 &&& (2147483647 : Int32)) % (3 : Int32))), .val (.ref a1), .val (.int (1 : Int32))] [(.int (p0 &&& (3 : Int32))), (.int (0 : Int32))]))
          refine Go.st (fun _ kq_ => XS.iload X30.here hx rfl (hb hby at_129) rfl kq_) ?_
          show Go p e below s _ _ _ (T30.setTop (mkF m 131 #[.val (.int p0), .val (.int p1), .val (.int p2), .val (.int p3), .val (.int p4), .val (.int p5), .val (.int (p0 &&& (3 : Int32))), .val (.int ((p1 &&& (2147483647 : Int32)) % (3 : Int32))), .val (.int ((p2 &&& (2147483647 : Int32)) % (3 : Int32))), .val (.int ((p3 &&& (2147483647 : Int32)) % (3 : Int32))), .val (.ref a1), .val (.int (1 : Int32))] [(.int ((p1 &&& (2147483647 : Int32)) % (3 : Int32))), (.int (p0 &&& (3 : Int32))), (.int (0 : Int32))]))
          refine Go.st (fun _ kq_ => XS.iload X30.here hx rfl (hb hby at_131) rfl kq_) ?_
          show Go p e below s _ _ _ (T30.setTop (mkF m 133 #[.val (.int p0), .val (.int p1), .val (.int p2), .val (.int p3), .val (.int p4), .val (.int p5), .val (.int (p0 &&& (3 : Int32))), .val (.int ((p1 &&& (2147483647 : Int32)) % (3 : Int32))), .val (.int ((p2 &&& (2147483647 : Int32)) % (3 : Int32))), .val (.int ((p3 &&& (2147483647 : Int32)) % (3 : Int32))), .val (.ref a1), .val (.int (1 : Int32))] [(.int ((p2 &&& (2147483647 : Int32)) % (3 : Int32))), (.int ((p1 &&& (2147483647 : Int32)) % (3 : Int32))), (.int (p0 &&& (3 : Int32))), (.int (0 : Int32))]))
          refine Go.st (fun _ kq_ => XS.iload X30.here hx rfl (hb hby at_133) rfl kq_) ?_
          show Go p e below s _ _ _ (T30.setTop (mkF m 135 #[.val (.int p0), .val (.int p1), .val (.int p2), .val (.int p3), .val (.int p4), .val (.int p5), .val (.int (p0 &&& (3 : Int32))), .val (.int ((p1 &&& (2147483647 : Int32)) % (3 : Int32))), .val (.int ((p2 &&& (2147483647 : Int32)) % (3 : Int32))), .val (.int ((p3 &&& (2147483647 : Int32)) % (3 : Int32))), .val (.ref a1), .val (.int (1 : Int32))] [(.int ((p3 &&& (2147483647 : Int32)) % (3 : Int32))), (.int ((p2 &&& (2147483647 : Int32)) % (3 : Int32))), (.int ((p1 &&& (2147483647 : Int32)) % (3 : Int32))), (.int (p0 &&& (3 : Int32))), (.int (0 : Int32))]))
          refine Go.st (fun _ kq_ => XS.bipush X30.here hx rfl (hb hby at_135) kq_) ?_
          show Go p e below s _ _ _ (T30.setTop (mkF m 137 #[.val (.int p0), .val (.int p1), .val (.int p2), .val (.int p3), .val (.int p4), .val (.int p5), .val (.int (p0 &&& (3 : Int32))), .val (.int ((p1 &&& (2147483647 : Int32)) % (3 : Int32))), .val (.int ((p2 &&& (2147483647 : Int32)) % (3 : Int32))), .val (.int ((p3 &&& (2147483647 : Int32)) % (3 : Int32))), .val (.ref a1), .val (.int (1 : Int32))] [(.int (-2 : Int32)), (.int ((p3 &&& (2147483647 : Int32)) % (3 : Int32))), (.int ((p2 &&& (2147483647 : Int32)) % (3 : Int32))), (.int ((p1 &&& (2147483647 : Int32)) % (3 : Int32))), (.int (p0 &&& (3 : Int32))), (.int (0 : Int32))]))
          obtain ⟨_, _, ⟨T31, L31, k31, n31⟩, -, X31, ⟨Lc31, hQ31, l31, y31, z31⟩, st31⟩ := Jvm.LawKit.callS X30 hx (y := (⟨"com/example/element_ranker/elementranker/TagStatisticsElementCountPinLaw", "expected", "(IIIII)I"⟩ : MethodName)) hown (mvT hZ (own_w hw 23 rfl)) (mvT hZ (own_w hw 24 rfl)) (mvT hZ (own_w hw 25 rfl)) (mvT hZ (own_w hw 26 rfl)) (by decide) (backOf (W := 1) (rmx l Z a0 hw [] (p0 &&& (3 : Int32)) ((p1 &&& (2147483647 : Int32)) % (3 : Int32)) ((p2 &&& (2147483647 : Int32)) % (3 : Int32)) ((p3 &&& (2147483647 : Int32)) % (3 : Int32)) (-2 : Int32) T26.heap n0 O26 ) hZ (own_w hw 26 rfl) (own_w hw 25 rfl) (by decide) (by decide)) (g := (mkF m 137 #[.val (.int p0), .val (.int p1), .val (.int p2), .val (.int p3), .val (.int p4), .val (.int p5), .val (.int (p0 &&& (3 : Int32))), .val (.int ((p1 &&& (2147483647 : Int32)) % (3 : Int32))), .val (.int ((p2 &&& (2147483647 : Int32)) % (3 : Int32))), .val (.int ((p3 &&& (2147483647 : Int32)) % (3 : Int32))), .val (.ref a1), .val (.int (1 : Int32))] [(.int (-2 : Int32)), (.int ((p3 &&& (2147483647 : Int32)) % (3 : Int32))), (.int ((p2 &&& (2147483647 : Int32)) % (3 : Int32))), (.int ((p1 &&& (2147483647 : Int32)) % (3 : Int32))), (.int (p0 &&& (3 : Int32))), (.int (0 : Int32))])) rfl (by rw [hml]; rfl) (argsL := [(.int (p0 &&& (3 : Int32))), (.int ((p1 &&& (2147483647 : Int32)) % (3 : Int32))), (.int ((p2 &&& (2147483647 : Int32)) % (3 : Int32))), (.int ((p3 &&& (2147483647 : Int32)) % (3 : Int32))), (.int (-2 : Int32))]) (rest := [(.int (0 : Int32))]) (lenOf pd0_2 rfl) rfl (by show 2 * 0 + _ ≤ _; exact Nat.le_of_eq rfl) (hb hby at_137) (fun _ _ => ⟨rfl, e30, (by decide : 3 + 0 ≤ _), (by decide : 10 + 0 ≤ _)⟩)
          dsimp only [Pt.U, Pt.locs, Pt.cells, Pt.slots] at X31 l31 y31 z31 st31 hQ31
          subst l31 y31 z31
          obtain ⟨rfl, Nc31, e31⟩ := hQ31
          have N31 := Fr.app N30 Nc31
          refine Go.st st31 ?_
          show Go p e below s _ _ _ (T31.setTop (mkF m 140 #[.val (.int p0), .val (.int p1), .val (.int p2), .val (.int p3), .val (.int p4), .val (.int p5), .val (.int (p0 &&& (3 : Int32))), .val (.int ((p1 &&& (2147483647 : Int32)) % (3 : Int32))), .val (.int ((p2 &&& (2147483647 : Int32)) % (3 : Int32))), .val (.int ((p3 &&& (2147483647 : Int32)) % (3 : Int32))), .val (.ref a1), .val (.int (1 : Int32))] [(.int (fEx (p0 &&& (3 : Int32)) ((p1 &&& (2147483647 : Int32)) % (3 : Int32)) ((p2 &&& (2147483647 : Int32)) % (3 : Int32)) ((p3 &&& (2147483647 : Int32)) % (3 : Int32)) (-2 : Int32))), (.int (0 : Int32))]))
          refine Go.st (fun _ kq_ => XS.icmpNo X31.here hx rfl (hb hby at_140) rfl (XT.ii_ne_f (own_q2_m2 _ _ _ _ (own_n3 p0) c42_3 c57_15 c72_27)) kq_) ?_
          show Go p e below s _ _ _ (T31.setTop (mkF m 143 #[.val (.int p0), .val (.int p1), .val (.int p2), .val (.int p3), .val (.int p4), .val (.int p5), .val (.int (p0 &&& (3 : Int32))), .val (.int ((p1 &&& (2147483647 : Int32)) % (3 : Int32))), .val (.int ((p2 &&& (2147483647 : Int32)) % (3 : Int32))), .val (.int ((p3 &&& (2147483647 : Int32)) % (3 : Int32))), .val (.ref a1), .val (.int (1 : Int32))] []))
          refine Go.st (fun _ kq_ => XS.iconst X31.here hx rfl (hb hby at_143) kq_) ?_
          show Go p e below s _ _ _ (T31.setTop (mkF m 144 #[.val (.int p0), .val (.int p1), .val (.int p2), .val (.int p3), .val (.int p4), .val (.int p5), .val (.int (p0 &&& (3 : Int32))), .val (.int ((p1 &&& (2147483647 : Int32)) % (3 : Int32))), .val (.int ((p2 &&& (2147483647 : Int32)) % (3 : Int32))), .val (.int ((p3 &&& (2147483647 : Int32)) % (3 : Int32))), .val (.ref a1), .val (.int (1 : Int32))] [(.int (1 : Int32))]))
          refine Go.st (fun _ kq_ => XS.goto X31.here hx rfl (pc0 := 144) (pc' := 148) rfl (hb hby at_144) (by decide) (by decide) kq_) ?_
          show Go p e below s _ _ _ (T31.setTop (mkF m 148 #[.val (.int p0), .val (.int p1), .val (.int p2), .val (.int p3), .val (.int p4), .val (.int p5), .val (.int (p0 &&& (3 : Int32))), .val (.int ((p1 &&& (2147483647 : Int32)) % (3 : Int32))), .val (.int ((p2 &&& (2147483647 : Int32)) % (3 : Int32))), .val (.int ((p3 &&& (2147483647 : Int32)) % (3 : Int32))), .val (.ref a1), .val (.int (1 : Int32))] [(.int (1 : Int32))]))
          refine Go.st (fun _ kq_ => XS.istore X31.here hx rfl (hb hby at_148) rfl (l' := #[.val (.int p0), .val (.int p1), .val (.int p2), .val (.int p3), .val (.int p4), .val (.int p5), .val (.int (p0 &&& (3 : Int32))), .val (.int ((p1 &&& (2147483647 : Int32)) % (3 : Int32))), .val (.int ((p2 &&& (2147483647 : Int32)) % (3 : Int32))), .val (.int ((p3 &&& (2147483647 : Int32)) % (3 : Int32))), .val (.ref a1), .val (.int (1 : Int32))]) rfl kq_) ?_
          show Go p e below s _ _ _ (T31.setTop (mkF m 150 #[.val (.int p0), .val (.int p1), .val (.int p2), .val (.int p3), .val (.int p4), .val (.int p5), .val (.int (p0 &&& (3 : Int32))), .val (.int ((p1 &&& (2147483647 : Int32)) % (3 : Int32))), .val (.int ((p2 &&& (2147483647 : Int32)) % (3 : Int32))), .val (.int ((p3 &&& (2147483647 : Int32)) % (3 : Int32))), .val (.ref a1), .val (.int (1 : Int32))] []))
          refine Go.st (fun _ kq_ => XS.iload X31.here hx rfl (hb hby at_150) rfl kq_) ?_
          show Go p e below s _ _ _ (T31.setTop (mkF m 152 #[.val (.int p0), .val (.int p1), .val (.int p2), .val (.int p3), .val (.int p4), .val (.int p5), .val (.int (p0 &&& (3 : Int32))), .val (.int ((p1 &&& (2147483647 : Int32)) % (3 : Int32))), .val (.int ((p2 &&& (2147483647 : Int32)) % (3 : Int32))), .val (.int ((p3 &&& (2147483647 : Int32)) % (3 : Int32))), .val (.ref a1), .val (.int (1 : Int32))] [(.int (1 : Int32))]))
          refine Go.st (fun _ kq_ => XS.ifNo X31.here hx rfl (hb hby at_152) rfl (by decide) kq_) ?_
          show Go p e below s _ _ _ (T31.setTop (mkF m 155 #[.val (.int p0), .val (.int p1), .val (.int p2), .val (.int p3), .val (.int p4), .val (.int p5), .val (.int (p0 &&& (3 : Int32))), .val (.int ((p1 &&& (2147483647 : Int32)) % (3 : Int32))), .val (.int ((p2 &&& (2147483647 : Int32)) % (3 : Int32))), .val (.int ((p3 &&& (2147483647 : Int32)) % (3 : Int32))), .val (.ref a1), .val (.int (1 : Int32))] []))
          refine Go.st (fun _ kq_ => XS.aload X31.here hx rfl (hb hby at_155) rfl rfl kq_) ?_
          show Go p e below s _ _ _ (T31.setTop (mkF m 157 #[.val (.int p0), .val (.int p1), .val (.int p2), .val (.int p3), .val (.int p4), .val (.int p5), .val (.int (p0 &&& (3 : Int32))), .val (.int ((p1 &&& (2147483647 : Int32)) % (3 : Int32))), .val (.int ((p2 &&& (2147483647 : Int32)) % (3 : Int32))), .val (.int ((p3 &&& (2147483647 : Int32)) % (3 : Int32))), .val (.ref a1), .val (.int (1 : Int32))] [(.ref a1)]))
          refine Go.st (fun _ kq_ => XS.iconst X31.here hx rfl (hb hby at_157) kq_) ?_
          show Go p e below s _ _ _ (T31.setTop (mkF m 158 #[.val (.int p0), .val (.int p1), .val (.int p2), .val (.int p3), .val (.int p4), .val (.int p5), .val (.int (p0 &&& (3 : Int32))), .val (.int ((p1 &&& (2147483647 : Int32)) % (3 : Int32))), .val (.int ((p2 &&& (2147483647 : Int32)) % (3 : Int32))), .val (.int ((p3 &&& (2147483647 : Int32)) % (3 : Int32))), .val (.ref a1), .val (.int (1 : Int32))] [(.int (0 : Int32)), (.ref a1)]))
          obtain ⟨cq32, kq32, qa32, qb32, qc32⟩ := isOf hZ e31 E_a1
          obtain ⟨_, _, ⟨T32, L32, k32, n32⟩, -, X32, ⟨Lc32, hQ32, l32, y32, z32⟩, st32⟩ := X31.virtualBack hx (y := (⟨"com/example/element_ranker/elementranker/TagStatistics", "elementCount", "(I)I"⟩ : MethodName)) (z := (⟨"com/example/element_ranker/elementranker/TagStatistics", "elementCount", "(I)I"⟩ : MethodName)) hown (mvT hZ (own_w hw 16 rfl)) (mvT hZ (own_w hw 17 rfl)) (notFace_of_selects (args := #[]) (mvT hZ (own_w hw 19 rfl))) (mvT hZ (own_w hw 19 rfl)) (mvT hZ (own_w hw 18 rfl)) (by decide) (backOf (W := 0) (rme0 l Z a0 hw [] a1 b2 kb2 d2 kd2 (ad 0 ((p2 &&& (2147483647 : Int32)) % (3 : Int32)) (ad 0 ((p1 &&& (2147483647 : Int32)) % (3 : Int32)) (0 : Int32))) (ad 1 ((p2 &&& (2147483647 : Int32)) % (3 : Int32)) (ad 1 ((p1 &&& (2147483647 : Int32)) % (3 : Int32)) (0 : Int32))) (ad 2 ((p2 &&& (2147483647 : Int32)) % (3 : Int32)) (ad 2 ((p1 &&& (2147483647 : Int32)) % (3 : Int32)) (0 : Int32))) (adL 0 ((p2 &&& (2147483647 : Int32)) % (3 : Int32)) p5 (adL 0 ((p1 &&& (2147483647 : Int32)) % (3 : Int32)) p4 (0 : Int64))) (adL 1 ((p2 &&& (2147483647 : Int32)) % (3 : Int32)) p5 (adL 1 ((p1 &&& (2147483647 : Int32)) % (3 : Int32)) p4 (0 : Int64))) (adL 2 ((p2 &&& (2147483647 : Int32)) % (3 : Int32)) p5 (adL 2 ((p1 &&& (2147483647 : Int32)) % (3 : Int32)) p4 (0 : Int64))) (((0 : Int32) + (1 : Int32)) + (1 : Int32)) (((0 : Int64) + p4.toInt64) + p5.toInt64) T26.heap n0 O26 E_a1 F_a1_elementCounts F_a1_totalLengths F_a1_elementCount F_a1_totalLength V_b2 V_d2) hZ (own_w hw 20 rfl) (own_w hw 3 rfl) (by decide) (by decide)) qa32 qc32 (g := (mkF m 158 #[.val (.int p0), .val (.int p1), .val (.int p2), .val (.int p3), .val (.int p4), .val (.int p5), .val (.int (p0 &&& (3 : Int32))), .val (.int ((p1 &&& (2147483647 : Int32)) % (3 : Int32))), .val (.int ((p2 &&& (2147483647 : Int32)) % (3 : Int32))), .val (.int ((p3 &&& (2147483647 : Int32)) % (3 : Int32))), .val (.ref a1), .val (.int (1 : Int32))] [(.int (0 : Int32)), (.ref a1)])) rfl (by rw [hml]; rfl) (Steps.refl _) (argsL := [(.int (0 : Int32))]) (rest := []) (lenOf pd0_1 rfl) rfl (by show 2 * 0 + _ ≤ _; exact Nat.le_of_eq rfl) (hb hby at_158) (fun _ _ => ⟨rfl, e31, (by decide : 3 + 0 ≤ _), (by decide : 10 + 0 ≤ _)⟩)
          dsimp only [Pt.U, Pt.locs, Pt.cells, Pt.slots] at X32 l32 y32 z32 st32 hQ32
          subst l32 y32 z32
          obtain ⟨rfl, Nc32, e32⟩ := hQ32
          have N32 := Fr.app N31 Nc32
          refine Go.tr st32 ?_
          show Go p e below s _ _ _ (T32.setTop (mkF m 161 #[.val (.int p0), .val (.int p1), .val (.int p2), .val (.int p3), .val (.int p4), .val (.int p5), .val (.int (p0 &&& (3 : Int32))), .val (.int ((p1 &&& (2147483647 : Int32)) % (3 : Int32))), .val (.int ((p2 &&& (2147483647 : Int32)) % (3 : Int32))), .val (.int ((p3 &&& (2147483647 : Int32)) % (3 : Int32))), .val (.ref a1), .val (.int (1 : Int32))] [(.int (ad 0 ((p2 &&& (2147483647 : Int32)) % (3 : Int32)) (ad 0 ((p1 &&& (2147483647 : Int32)) % (3 : Int32)) (0 : Int32))))]))
          refine Go.st (fun _ kq_ => XS.iload X32.here hx rfl (hb hby at_161) rfl kq_) ?_
          show Go p e below s _ _ _ (T32.setTop (mkF m 163 #[.val (.int p0), .val (.int p1), .val (.int p2), .val (.int p3), .val (.int p4), .val (.int p5), .val (.int (p0 &&& (3 : Int32))), .val (.int ((p1 &&& (2147483647 : Int32)) % (3 : Int32))), .val (.int ((p2 &&& (2147483647 : Int32)) % (3 : Int32))), .val (.int ((p3 &&& (2147483647 : Int32)) % (3 : Int32))), .val (.ref a1), .val (.int (1 : Int32))] [(.int (p0 &&& (3 : Int32))), (.int (ad 0 ((p2 &&& (2147483647 : Int32)) % (3 : Int32)) (ad 0 ((p1 &&& (2147483647 : Int32)) % (3 : Int32)) (0 : Int32))))]))
          refine Go.st (fun _ kq_ => XS.iload X32.here hx rfl (hb hby at_163) rfl kq_) ?_
          show Go p e below s _ _ _ (T32.setTop (mkF m 165 #[.val (.int p0), .val (.int p1), .val (.int p2), .val (.int p3), .val (.int p4), .val (.int p5), .val (.int (p0 &&& (3 : Int32))), .val (.int ((p1 &&& (2147483647 : Int32)) % (3 : Int32))), .val (.int ((p2 &&& (2147483647 : Int32)) % (3 : Int32))), .val (.int ((p3 &&& (2147483647 : Int32)) % (3 : Int32))), .val (.ref a1), .val (.int (1 : Int32))] [(.int ((p1 &&& (2147483647 : Int32)) % (3 : Int32))), (.int (p0 &&& (3 : Int32))), (.int (ad 0 ((p2 &&& (2147483647 : Int32)) % (3 : Int32)) (ad 0 ((p1 &&& (2147483647 : Int32)) % (3 : Int32)) (0 : Int32))))]))
          refine Go.st (fun _ kq_ => XS.iload X32.here hx rfl (hb hby at_165) rfl kq_) ?_
          show Go p e below s _ _ _ (T32.setTop (mkF m 167 #[.val (.int p0), .val (.int p1), .val (.int p2), .val (.int p3), .val (.int p4), .val (.int p5), .val (.int (p0 &&& (3 : Int32))), .val (.int ((p1 &&& (2147483647 : Int32)) % (3 : Int32))), .val (.int ((p2 &&& (2147483647 : Int32)) % (3 : Int32))), .val (.int ((p3 &&& (2147483647 : Int32)) % (3 : Int32))), .val (.ref a1), .val (.int (1 : Int32))] [(.int ((p2 &&& (2147483647 : Int32)) % (3 : Int32))), (.int ((p1 &&& (2147483647 : Int32)) % (3 : Int32))), (.int (p0 &&& (3 : Int32))), (.int (ad 0 ((p2 &&& (2147483647 : Int32)) % (3 : Int32)) (ad 0 ((p1 &&& (2147483647 : Int32)) % (3 : Int32)) (0 : Int32))))]))
          refine Go.st (fun _ kq_ => XS.iload X32.here hx rfl (hb hby at_167) rfl kq_) ?_
          show Go p e below s _ _ _ (T32.setTop (mkF m 169 #[.val (.int p0), .val (.int p1), .val (.int p2), .val (.int p3), .val (.int p4), .val (.int p5), .val (.int (p0 &&& (3 : Int32))), .val (.int ((p1 &&& (2147483647 : Int32)) % (3 : Int32))), .val (.int ((p2 &&& (2147483647 : Int32)) % (3 : Int32))), .val (.int ((p3 &&& (2147483647 : Int32)) % (3 : Int32))), .val (.ref a1), .val (.int (1 : Int32))] [(.int ((p3 &&& (2147483647 : Int32)) % (3 : Int32))), (.int ((p2 &&& (2147483647 : Int32)) % (3 : Int32))), (.int ((p1 &&& (2147483647 : Int32)) % (3 : Int32))), (.int (p0 &&& (3 : Int32))), (.int (ad 0 ((p2 &&& (2147483647 : Int32)) % (3 : Int32)) (ad 0 ((p1 &&& (2147483647 : Int32)) % (3 : Int32)) (0 : Int32))))]))
          refine Go.st (fun _ kq_ => XS.iconst X32.here hx rfl (hb hby at_169) kq_) ?_
          show Go p e below s _ _ _ (T32.setTop (mkF m 170 #[.val (.int p0), .val (.int p1), .val (.int p2), .val (.int p3), .val (.int p4), .val (.int p5), .val (.int (p0 &&& (3 : Int32))), .val (.int ((p1 &&& (2147483647 : Int32)) % (3 : Int32))), .val (.int ((p2 &&& (2147483647 : Int32)) % (3 : Int32))), .val (.int ((p3 &&& (2147483647 : Int32)) % (3 : Int32))), .val (.ref a1), .val (.int (1 : Int32))] [(.int (0 : Int32)), (.int ((p3 &&& (2147483647 : Int32)) % (3 : Int32))), (.int ((p2 &&& (2147483647 : Int32)) % (3 : Int32))), (.int ((p1 &&& (2147483647 : Int32)) % (3 : Int32))), (.int (p0 &&& (3 : Int32))), (.int (ad 0 ((p2 &&& (2147483647 : Int32)) % (3 : Int32)) (ad 0 ((p1 &&& (2147483647 : Int32)) % (3 : Int32)) (0 : Int32))))]))
          obtain ⟨_, _, ⟨T33, L33, k33, n33⟩, -, X33, ⟨Lc33, hQ33, l33, y33, z33⟩, st33⟩ := Jvm.LawKit.callS X32 hx (y := (⟨"com/example/element_ranker/elementranker/TagStatisticsElementCountPinLaw", "expected", "(IIIII)I"⟩ : MethodName)) hown (mvT hZ (own_w hw 23 rfl)) (mvT hZ (own_w hw 24 rfl)) (mvT hZ (own_w hw 25 rfl)) (mvT hZ (own_w hw 26 rfl)) (by decide) (backOf (W := 1) (rmx l Z a0 hw [] (p0 &&& (3 : Int32)) ((p1 &&& (2147483647 : Int32)) % (3 : Int32)) ((p2 &&& (2147483647 : Int32)) % (3 : Int32)) ((p3 &&& (2147483647 : Int32)) % (3 : Int32)) (0 : Int32) T26.heap n0 O26 ) hZ (own_w hw 26 rfl) (own_w hw 25 rfl) (by decide) (by decide)) (g := (mkF m 170 #[.val (.int p0), .val (.int p1), .val (.int p2), .val (.int p3), .val (.int p4), .val (.int p5), .val (.int (p0 &&& (3 : Int32))), .val (.int ((p1 &&& (2147483647 : Int32)) % (3 : Int32))), .val (.int ((p2 &&& (2147483647 : Int32)) % (3 : Int32))), .val (.int ((p3 &&& (2147483647 : Int32)) % (3 : Int32))), .val (.ref a1), .val (.int (1 : Int32))] [(.int (0 : Int32)), (.int ((p3 &&& (2147483647 : Int32)) % (3 : Int32))), (.int ((p2 &&& (2147483647 : Int32)) % (3 : Int32))), (.int ((p1 &&& (2147483647 : Int32)) % (3 : Int32))), (.int (p0 &&& (3 : Int32))), (.int (ad 0 ((p2 &&& (2147483647 : Int32)) % (3 : Int32)) (ad 0 ((p1 &&& (2147483647 : Int32)) % (3 : Int32)) (0 : Int32))))])) rfl (by rw [hml]; rfl) (argsL := [(.int (p0 &&& (3 : Int32))), (.int ((p1 &&& (2147483647 : Int32)) % (3 : Int32))), (.int ((p2 &&& (2147483647 : Int32)) % (3 : Int32))), (.int ((p3 &&& (2147483647 : Int32)) % (3 : Int32))), (.int (0 : Int32))]) (rest := [(.int (ad 0 ((p2 &&& (2147483647 : Int32)) % (3 : Int32)) (ad 0 ((p1 &&& (2147483647 : Int32)) % (3 : Int32)) (0 : Int32))))]) (lenOf pd0_2 rfl) rfl (by show 2 * 0 + _ ≤ _; exact Nat.le_of_eq rfl) (hb hby at_170) (fun _ _ => ⟨rfl, e32, (by decide : 3 + 0 ≤ _), (by decide : 10 + 0 ≤ _)⟩)
          dsimp only [Pt.U, Pt.locs, Pt.cells, Pt.slots] at X33 l33 y33 z33 st33 hQ33
          subst l33 y33 z33
          obtain ⟨rfl, Nc33, e33⟩ := hQ33
          have N33 := Fr.app N32 Nc33
          refine Go.st st33 ?_
          show Go p e below s _ _ _ (T33.setTop (mkF m 173 #[.val (.int p0), .val (.int p1), .val (.int p2), .val (.int p3), .val (.int p4), .val (.int p5), .val (.int (p0 &&& (3 : Int32))), .val (.int ((p1 &&& (2147483647 : Int32)) % (3 : Int32))), .val (.int ((p2 &&& (2147483647 : Int32)) % (3 : Int32))), .val (.int ((p3 &&& (2147483647 : Int32)) % (3 : Int32))), .val (.ref a1), .val (.int (1 : Int32))] [(.int (fEx (p0 &&& (3 : Int32)) ((p1 &&& (2147483647 : Int32)) % (3 : Int32)) ((p2 &&& (2147483647 : Int32)) % (3 : Int32)) ((p3 &&& (2147483647 : Int32)) % (3 : Int32)) (0 : Int32))), (.int (ad 0 ((p2 &&& (2147483647 : Int32)) % (3 : Int32)) (ad 0 ((p1 &&& (2147483647 : Int32)) % (3 : Int32)) (0 : Int32))))]))
          refine Go.st (fun _ kq_ => XS.icmpNo X33.here hx rfl (hb hby at_173) rfl (XT.ii_ne_f (own_q2_0 _ _ _ _ (own_n3 p0) c42_3 c57_15 c72_27)) kq_) ?_
          show Go p e below s _ _ _ (T33.setTop (mkF m 176 #[.val (.int p0), .val (.int p1), .val (.int p2), .val (.int p3), .val (.int p4), .val (.int p5), .val (.int (p0 &&& (3 : Int32))), .val (.int ((p1 &&& (2147483647 : Int32)) % (3 : Int32))), .val (.int ((p2 &&& (2147483647 : Int32)) % (3 : Int32))), .val (.int ((p3 &&& (2147483647 : Int32)) % (3 : Int32))), .val (.ref a1), .val (.int (1 : Int32))] []))
          refine Go.st (fun _ kq_ => XS.iconst X33.here hx rfl (hb hby at_176) kq_) ?_
          show Go p e below s _ _ _ (T33.setTop (mkF m 177 #[.val (.int p0), .val (.int p1), .val (.int p2), .val (.int p3), .val (.int p4), .val (.int p5), .val (.int (p0 &&& (3 : Int32))), .val (.int ((p1 &&& (2147483647 : Int32)) % (3 : Int32))), .val (.int ((p2 &&& (2147483647 : Int32)) % (3 : Int32))), .val (.int ((p3 &&& (2147483647 : Int32)) % (3 : Int32))), .val (.ref a1), .val (.int (1 : Int32))] [(.int (1 : Int32))]))
          refine Go.st (fun _ kq_ => XS.goto X33.here hx rfl (pc0 := 177) (pc' := 181) rfl (hb hby at_177) (by decide) (by decide) kq_) ?_
          show Go p e below s _ _ _ (T33.setTop (mkF m 181 #[.val (.int p0), .val (.int p1), .val (.int p2), .val (.int p3), .val (.int p4), .val (.int p5), .val (.int (p0 &&& (3 : Int32))), .val (.int ((p1 &&& (2147483647 : Int32)) % (3 : Int32))), .val (.int ((p2 &&& (2147483647 : Int32)) % (3 : Int32))), .val (.int ((p3 &&& (2147483647 : Int32)) % (3 : Int32))), .val (.ref a1), .val (.int (1 : Int32))] [(.int (1 : Int32))]))
          refine Go.st (fun _ kq_ => XS.istore X33.here hx rfl (hb hby at_181) rfl (l' := #[.val (.int p0), .val (.int p1), .val (.int p2), .val (.int p3), .val (.int p4), .val (.int p5), .val (.int (p0 &&& (3 : Int32))), .val (.int ((p1 &&& (2147483647 : Int32)) % (3 : Int32))), .val (.int ((p2 &&& (2147483647 : Int32)) % (3 : Int32))), .val (.int ((p3 &&& (2147483647 : Int32)) % (3 : Int32))), .val (.ref a1), .val (.int (1 : Int32))]) rfl kq_) ?_
          show Go p e below s _ _ _ (T33.setTop (mkF m 183 #[.val (.int p0), .val (.int p1), .val (.int p2), .val (.int p3), .val (.int p4), .val (.int p5), .val (.int (p0 &&& (3 : Int32))), .val (.int ((p1 &&& (2147483647 : Int32)) % (3 : Int32))), .val (.int ((p2 &&& (2147483647 : Int32)) % (3 : Int32))), .val (.int ((p3 &&& (2147483647 : Int32)) % (3 : Int32))), .val (.ref a1), .val (.int (1 : Int32))] []))
          refine Go.st (fun _ kq_ => XS.iload X33.here hx rfl (hb hby at_183) rfl kq_) ?_
          show Go p e below s _ _ _ (T33.setTop (mkF m 185 #[.val (.int p0), .val (.int p1), .val (.int p2), .val (.int p3), .val (.int p4), .val (.int p5), .val (.int (p0 &&& (3 : Int32))), .val (.int ((p1 &&& (2147483647 : Int32)) % (3 : Int32))), .val (.int ((p2 &&& (2147483647 : Int32)) % (3 : Int32))), .val (.int ((p3 &&& (2147483647 : Int32)) % (3 : Int32))), .val (.ref a1), .val (.int (1 : Int32))] [(.int (1 : Int32))]))
          refine Go.st (fun _ kq_ => XS.ifNo X33.here hx rfl (hb hby at_185) rfl (by decide) kq_) ?_
          show Go p e below s _ _ _ (T33.setTop (mkF m 188 #[.val (.int p0), .val (.int p1), .val (.int p2), .val (.int p3), .val (.int p4), .val (.int p5), .val (.int (p0 &&& (3 : Int32))), .val (.int ((p1 &&& (2147483647 : Int32)) % (3 : Int32))), .val (.int ((p2 &&& (2147483647 : Int32)) % (3 : Int32))), .val (.int ((p3 &&& (2147483647 : Int32)) % (3 : Int32))), .val (.ref a1), .val (.int (1 : Int32))] []))
          refine Go.st (fun _ kq_ => XS.aload X33.here hx rfl (hb hby at_188) rfl rfl kq_) ?_
          show Go p e below s _ _ _ (T33.setTop (mkF m 190 #[.val (.int p0), .val (.int p1), .val (.int p2), .val (.int p3), .val (.int p4), .val (.int p5), .val (.int (p0 &&& (3 : Int32))), .val (.int ((p1 &&& (2147483647 : Int32)) % (3 : Int32))), .val (.int ((p2 &&& (2147483647 : Int32)) % (3 : Int32))), .val (.int ((p3 &&& (2147483647 : Int32)) % (3 : Int32))), .val (.ref a1), .val (.int (1 : Int32))] [(.ref a1)]))
          refine Go.st (fun _ kq_ => XS.iconst X33.here hx rfl (hb hby at_190) kq_) ?_
          show Go p e below s _ _ _ (T33.setTop (mkF m 191 #[.val (.int p0), .val (.int p1), .val (.int p2), .val (.int p3), .val (.int p4), .val (.int p5), .val (.int (p0 &&& (3 : Int32))), .val (.int ((p1 &&& (2147483647 : Int32)) % (3 : Int32))), .val (.int ((p2 &&& (2147483647 : Int32)) % (3 : Int32))), .val (.int ((p3 &&& (2147483647 : Int32)) % (3 : Int32))), .val (.ref a1), .val (.int (1 : Int32))] [(.int (1 : Int32)), (.ref a1)]))
          obtain ⟨cq34, kq34, qa34, qb34, qc34⟩ := isOf hZ e33 E_a1
          obtain ⟨_, _, ⟨T34, L34, k34, n34⟩, -, X34, ⟨Lc34, hQ34, l34, y34, z34⟩, st34⟩ := X33.virtualBack hx (y := (⟨"com/example/element_ranker/elementranker/TagStatistics", "elementCount", "(I)I"⟩ : MethodName)) (z := (⟨"com/example/element_ranker/elementranker/TagStatistics", "elementCount", "(I)I"⟩ : MethodName)) hown (mvT hZ (own_w hw 16 rfl)) (mvT hZ (own_w hw 17 rfl)) (notFace_of_selects (args := #[]) (mvT hZ (own_w hw 19 rfl))) (mvT hZ (own_w hw 19 rfl)) (mvT hZ (own_w hw 18 rfl)) (by decide) (backOf (W := 0) (rme1 l Z a0 hw [] a1 b2 kb2 d2 kd2 (ad 0 ((p2 &&& (2147483647 : Int32)) % (3 : Int32)) (ad 0 ((p1 &&& (2147483647 : Int32)) % (3 : Int32)) (0 : Int32))) (ad 1 ((p2 &&& (2147483647 : Int32)) % (3 : Int32)) (ad 1 ((p1 &&& (2147483647 : Int32)) % (3 : Int32)) (0 : Int32))) (ad 2 ((p2 &&& (2147483647 : Int32)) % (3 : Int32)) (ad 2 ((p1 &&& (2147483647 : Int32)) % (3 : Int32)) (0 : Int32))) (adL 0 ((p2 &&& (2147483647 : Int32)) % (3 : Int32)) p5 (adL 0 ((p1 &&& (2147483647 : Int32)) % (3 : Int32)) p4 (0 : Int64))) (adL 1 ((p2 &&& (2147483647 : Int32)) % (3 : Int32)) p5 (adL 1 ((p1 &&& (2147483647 : Int32)) % (3 : Int32)) p4 (0 : Int64))) (adL 2 ((p2 &&& (2147483647 : Int32)) % (3 : Int32)) p5 (adL 2 ((p1 &&& (2147483647 : Int32)) % (3 : Int32)) p4 (0 : Int64))) (((0 : Int32) + (1 : Int32)) + (1 : Int32)) (((0 : Int64) + p4.toInt64) + p5.toInt64) T26.heap n0 O26 E_a1 F_a1_elementCounts F_a1_totalLengths F_a1_elementCount F_a1_totalLength V_b2 V_d2) hZ (own_w hw 20 rfl) (own_w hw 3 rfl) (by decide) (by decide)) qa34 qc34 (g := (mkF m 191 #[.val (.int p0), .val (.int p1), .val (.int p2), .val (.int p3), .val (.int p4), .val (.int p5), .val (.int (p0 &&& (3 : Int32))), .val (.int ((p1 &&& (2147483647 : Int32)) % (3 : Int32))), .val (.int ((p2 &&& (2147483647 : Int32)) % (3 : Int32))), .val (.int ((p3 &&& (2147483647 : Int32)) % (3 : Int32))), .val (.ref a1), .val (.int (1 : Int32))] [(.int (1 : Int32)), (.ref a1)])) rfl (by rw [hml]; rfl) (Steps.refl _) (argsL := [(.int (1 : Int32))]) (rest := []) (lenOf pd0_1 rfl) rfl (by show 2 * 0 + _ ≤ _; exact Nat.le_of_eq rfl) (hb hby at_191) (fun _ _ => ⟨rfl, e33, (by decide : 3 + 0 ≤ _), (by decide : 10 + 0 ≤ _)⟩)
          dsimp only [Pt.U, Pt.locs, Pt.cells, Pt.slots] at X34 l34 y34 z34 st34 hQ34
          subst l34 y34 z34
          obtain ⟨rfl, Nc34, e34⟩ := hQ34
          have N34 := Fr.app N33 Nc34
          refine Go.tr st34 ?_
          show Go p e below s _ _ _ (T34.setTop (mkF m 194 #[.val (.int p0), .val (.int p1), .val (.int p2), .val (.int p3), .val (.int p4), .val (.int p5), .val (.int (p0 &&& (3 : Int32))), .val (.int ((p1 &&& (2147483647 : Int32)) % (3 : Int32))), .val (.int ((p2 &&& (2147483647 : Int32)) % (3 : Int32))), .val (.int ((p3 &&& (2147483647 : Int32)) % (3 : Int32))), .val (.ref a1), .val (.int (1 : Int32))] [(.int (ad 1 ((p2 &&& (2147483647 : Int32)) % (3 : Int32)) (ad 1 ((p1 &&& (2147483647 : Int32)) % (3 : Int32)) (0 : Int32))))]))
          refine Go.st (fun _ kq_ => XS.iload X34.here hx rfl (hb hby at_194) rfl kq_) ?_
          show Go p e below s _ _ _ (T34.setTop (mkF m 196 #[.val (.int p0), .val (.int p1), .val (.int p2), .val (.int p3), .val (.int p4), .val (.int p5), .val (.int (p0 &&& (3 : Int32))), .val (.int ((p1 &&& (2147483647 : Int32)) % (3 : Int32))), .val (.int ((p2 &&& (2147483647 : Int32)) % (3 : Int32))), .val (.int ((p3 &&& (2147483647 : Int32)) % (3 : Int32))), .val (.ref a1), .val (.int (1 : Int32))] [(.int (p0 &&& (3 : Int32))), (.int (ad 1 ((p2 &&& (2147483647 : Int32)) % (3 : Int32)) (ad 1 ((p1 &&& (2147483647 : Int32)) % (3 : Int32)) (0 : Int32))))]))
          refine Go.st (fun _ kq_ => XS.iload X34.here hx rfl (hb hby at_196) rfl kq_) ?_
          show Go p e below s _ _ _ (T34.setTop (mkF m 198 #[.val (.int p0), .val (.int p1), .val (.int p2), .val (.int p3), .val (.int p4), .val (.int p5), .val (.int (p0 &&& (3 : Int32))), .val (.int ((p1 &&& (2147483647 : Int32)) % (3 : Int32))), .val (.int ((p2 &&& (2147483647 : Int32)) % (3 : Int32))), .val (.int ((p3 &&& (2147483647 : Int32)) % (3 : Int32))), .val (.ref a1), .val (.int (1 : Int32))] [(.int ((p1 &&& (2147483647 : Int32)) % (3 : Int32))), (.int (p0 &&& (3 : Int32))), (.int (ad 1 ((p2 &&& (2147483647 : Int32)) % (3 : Int32)) (ad 1 ((p1 &&& (2147483647 : Int32)) % (3 : Int32)) (0 : Int32))))]))
          refine Go.st (fun _ kq_ => XS.iload X34.here hx rfl (hb hby at_198) rfl kq_) ?_
          show Go p e below s _ _ _ (T34.setTop (mkF m 200 #[.val (.int p0), .val (.int p1), .val (.int p2), .val (.int p3), .val (.int p4), .val (.int p5), .val (.int (p0 &&& (3 : Int32))), .val (.int ((p1 &&& (2147483647 : Int32)) % (3 : Int32))), .val (.int ((p2 &&& (2147483647 : Int32)) % (3 : Int32))), .val (.int ((p3 &&& (2147483647 : Int32)) % (3 : Int32))), .val (.ref a1), .val (.int (1 : Int32))] [(.int ((p2 &&& (2147483647 : Int32)) % (3 : Int32))), (.int ((p1 &&& (2147483647 : Int32)) % (3 : Int32))), (.int (p0 &&& (3 : Int32))), (.int (ad 1 ((p2 &&& (2147483647 : Int32)) % (3 : Int32)) (ad 1 ((p1 &&& (2147483647 : Int32)) % (3 : Int32)) (0 : Int32))))]))
          refine Go.st (fun _ kq_ => XS.iload X34.here hx rfl (hb hby at_200) rfl kq_) ?_
          show Go p e below s _ _ _ (T34.setTop (mkF m 202 #[.val (.int p0), .val (.int p1), .val (.int p2), .val (.int p3), .val (.int p4), .val (.int p5), .val (.int (p0 &&& (3 : Int32))), .val (.int ((p1 &&& (2147483647 : Int32)) % (3 : Int32))), .val (.int ((p2 &&& (2147483647 : Int32)) % (3 : Int32))), .val (.int ((p3 &&& (2147483647 : Int32)) % (3 : Int32))), .val (.ref a1), .val (.int (1 : Int32))] [(.int ((p3 &&& (2147483647 : Int32)) % (3 : Int32))), (.int ((p2 &&& (2147483647 : Int32)) % (3 : Int32))), (.int ((p1 &&& (2147483647 : Int32)) % (3 : Int32))), (.int (p0 &&& (3 : Int32))), (.int (ad 1 ((p2 &&& (2147483647 : Int32)) % (3 : Int32)) (ad 1 ((p1 &&& (2147483647 : Int32)) % (3 : Int32)) (0 : Int32))))]))
          refine Go.st (fun _ kq_ => XS.iconst X34.here hx rfl (hb hby at_202) kq_) ?_
          show Go p e below s _ _ _ (T34.setTop (mkF m 203 #[.val (.int p0), .val (.int p1), .val (.int p2), .val (.int p3), .val (.int p4), .val (.int p5), .val (.int (p0 &&& (3 : Int32))), .val (.int ((p1 &&& (2147483647 : Int32)) % (3 : Int32))), .val (.int ((p2 &&& (2147483647 : Int32)) % (3 : Int32))), .val (.int ((p3 &&& (2147483647 : Int32)) % (3 : Int32))), .val (.ref a1), .val (.int (1 : Int32))] [(.int (1 : Int32)), (.int ((p3 &&& (2147483647 : Int32)) % (3 : Int32))), (.int ((p2 &&& (2147483647 : Int32)) % (3 : Int32))), (.int ((p1 &&& (2147483647 : Int32)) % (3 : Int32))), (.int (p0 &&& (3 : Int32))), (.int (ad 1 ((p2 &&& (2147483647 : Int32)) % (3 : Int32)) (ad 1 ((p1 &&& (2147483647 : Int32)) % (3 : Int32)) (0 : Int32))))]))
          obtain ⟨_, _, ⟨T35, L35, k35, n35⟩, -, X35, ⟨Lc35, hQ35, l35, y35, z35⟩, st35⟩ := Jvm.LawKit.callS X34 hx (y := (⟨"com/example/element_ranker/elementranker/TagStatisticsElementCountPinLaw", "expected", "(IIIII)I"⟩ : MethodName)) hown (mvT hZ (own_w hw 23 rfl)) (mvT hZ (own_w hw 24 rfl)) (mvT hZ (own_w hw 25 rfl)) (mvT hZ (own_w hw 26 rfl)) (by decide) (backOf (W := 1) (rmx l Z a0 hw [] (p0 &&& (3 : Int32)) ((p1 &&& (2147483647 : Int32)) % (3 : Int32)) ((p2 &&& (2147483647 : Int32)) % (3 : Int32)) ((p3 &&& (2147483647 : Int32)) % (3 : Int32)) (1 : Int32) T26.heap n0 O26 ) hZ (own_w hw 26 rfl) (own_w hw 25 rfl) (by decide) (by decide)) (g := (mkF m 203 #[.val (.int p0), .val (.int p1), .val (.int p2), .val (.int p3), .val (.int p4), .val (.int p5), .val (.int (p0 &&& (3 : Int32))), .val (.int ((p1 &&& (2147483647 : Int32)) % (3 : Int32))), .val (.int ((p2 &&& (2147483647 : Int32)) % (3 : Int32))), .val (.int ((p3 &&& (2147483647 : Int32)) % (3 : Int32))), .val (.ref a1), .val (.int (1 : Int32))] [(.int (1 : Int32)), (.int ((p3 &&& (2147483647 : Int32)) % (3 : Int32))), (.int ((p2 &&& (2147483647 : Int32)) % (3 : Int32))), (.int ((p1 &&& (2147483647 : Int32)) % (3 : Int32))), (.int (p0 &&& (3 : Int32))), (.int (ad 1 ((p2 &&& (2147483647 : Int32)) % (3 : Int32)) (ad 1 ((p1 &&& (2147483647 : Int32)) % (3 : Int32)) (0 : Int32))))])) rfl (by rw [hml]; rfl) (argsL := [(.int (p0 &&& (3 : Int32))), (.int ((p1 &&& (2147483647 : Int32)) % (3 : Int32))), (.int ((p2 &&& (2147483647 : Int32)) % (3 : Int32))), (.int ((p3 &&& (2147483647 : Int32)) % (3 : Int32))), (.int (1 : Int32))]) (rest := [(.int (ad 1 ((p2 &&& (2147483647 : Int32)) % (3 : Int32)) (ad 1 ((p1 &&& (2147483647 : Int32)) % (3 : Int32)) (0 : Int32))))]) (lenOf pd0_2 rfl) rfl (by show 2 * 0 + _ ≤ _; exact Nat.le_of_eq rfl) (hb hby at_203) (fun _ _ => ⟨rfl, e34, (by decide : 3 + 0 ≤ _), (by decide : 10 + 0 ≤ _)⟩)
          dsimp only [Pt.U, Pt.locs, Pt.cells, Pt.slots] at X35 l35 y35 z35 st35 hQ35
          subst l35 y35 z35
          obtain ⟨rfl, Nc35, e35⟩ := hQ35
          have N35 := Fr.app N34 Nc35
          refine Go.st st35 ?_
          show Go p e below s _ _ _ (T35.setTop (mkF m 206 #[.val (.int p0), .val (.int p1), .val (.int p2), .val (.int p3), .val (.int p4), .val (.int p5), .val (.int (p0 &&& (3 : Int32))), .val (.int ((p1 &&& (2147483647 : Int32)) % (3 : Int32))), .val (.int ((p2 &&& (2147483647 : Int32)) % (3 : Int32))), .val (.int ((p3 &&& (2147483647 : Int32)) % (3 : Int32))), .val (.ref a1), .val (.int (1 : Int32))] [(.int (fEx (p0 &&& (3 : Int32)) ((p1 &&& (2147483647 : Int32)) % (3 : Int32)) ((p2 &&& (2147483647 : Int32)) % (3 : Int32)) ((p3 &&& (2147483647 : Int32)) % (3 : Int32)) (1 : Int32))), (.int (ad 1 ((p2 &&& (2147483647 : Int32)) % (3 : Int32)) (ad 1 ((p1 &&& (2147483647 : Int32)) % (3 : Int32)) (0 : Int32))))]))
          refine Go.st (fun _ kq_ => XS.icmpNo X35.here hx rfl (hb hby at_206) rfl (XT.ii_ne_f (own_q2_1 _ _ _ _ (own_n3 p0) c42_3 c57_15 c72_27)) kq_) ?_
          show Go p e below s _ _ _ (T35.setTop (mkF m 209 #[.val (.int p0), .val (.int p1), .val (.int p2), .val (.int p3), .val (.int p4), .val (.int p5), .val (.int (p0 &&& (3 : Int32))), .val (.int ((p1 &&& (2147483647 : Int32)) % (3 : Int32))), .val (.int ((p2 &&& (2147483647 : Int32)) % (3 : Int32))), .val (.int ((p3 &&& (2147483647 : Int32)) % (3 : Int32))), .val (.ref a1), .val (.int (1 : Int32))] []))
          refine Go.st (fun _ kq_ => XS.iconst X35.here hx rfl (hb hby at_209) kq_) ?_
          show Go p e below s _ _ _ (T35.setTop (mkF m 210 #[.val (.int p0), .val (.int p1), .val (.int p2), .val (.int p3), .val (.int p4), .val (.int p5), .val (.int (p0 &&& (3 : Int32))), .val (.int ((p1 &&& (2147483647 : Int32)) % (3 : Int32))), .val (.int ((p2 &&& (2147483647 : Int32)) % (3 : Int32))), .val (.int ((p3 &&& (2147483647 : Int32)) % (3 : Int32))), .val (.ref a1), .val (.int (1 : Int32))] [(.int (1 : Int32))]))
          refine Go.st (fun _ kq_ => XS.goto X35.here hx rfl (pc0 := 210) (pc' := 214) rfl (hb hby at_210) (by decide) (by decide) kq_) ?_
          show Go p e below s _ _ _ (T35.setTop (mkF m 214 #[.val (.int p0), .val (.int p1), .val (.int p2), .val (.int p3), .val (.int p4), .val (.int p5), .val (.int (p0 &&& (3 : Int32))), .val (.int ((p1 &&& (2147483647 : Int32)) % (3 : Int32))), .val (.int ((p2 &&& (2147483647 : Int32)) % (3 : Int32))), .val (.int ((p3 &&& (2147483647 : Int32)) % (3 : Int32))), .val (.ref a1), .val (.int (1 : Int32))] [(.int (1 : Int32))]))
          refine Go.st (fun _ kq_ => XS.istore X35.here hx rfl (hb hby at_214) rfl (l' := #[.val (.int p0), .val (.int p1), .val (.int p2), .val (.int p3), .val (.int p4), .val (.int p5), .val (.int (p0 &&& (3 : Int32))), .val (.int ((p1 &&& (2147483647 : Int32)) % (3 : Int32))), .val (.int ((p2 &&& (2147483647 : Int32)) % (3 : Int32))), .val (.int ((p3 &&& (2147483647 : Int32)) % (3 : Int32))), .val (.ref a1), .val (.int (1 : Int32))]) rfl kq_) ?_
          show Go p e below s _ _ _ (T35.setTop (mkF m 216 #[.val (.int p0), .val (.int p1), .val (.int p2), .val (.int p3), .val (.int p4), .val (.int p5), .val (.int (p0 &&& (3 : Int32))), .val (.int ((p1 &&& (2147483647 : Int32)) % (3 : Int32))), .val (.int ((p2 &&& (2147483647 : Int32)) % (3 : Int32))), .val (.int ((p3 &&& (2147483647 : Int32)) % (3 : Int32))), .val (.ref a1), .val (.int (1 : Int32))] []))
          refine Go.st (fun _ kq_ => XS.iload X35.here hx rfl (hb hby at_216) rfl kq_) ?_
          show Go p e below s _ _ _ (T35.setTop (mkF m 218 #[.val (.int p0), .val (.int p1), .val (.int p2), .val (.int p3), .val (.int p4), .val (.int p5), .val (.int (p0 &&& (3 : Int32))), .val (.int ((p1 &&& (2147483647 : Int32)) % (3 : Int32))), .val (.int ((p2 &&& (2147483647 : Int32)) % (3 : Int32))), .val (.int ((p3 &&& (2147483647 : Int32)) % (3 : Int32))), .val (.ref a1), .val (.int (1 : Int32))] [(.int (1 : Int32))]))
          refine Go.st (fun _ kq_ => XS.ifNo X35.here hx rfl (hb hby at_218) rfl (by decide) kq_) ?_
          show Go p e below s _ _ _ (T35.setTop (mkF m 221 #[.val (.int p0), .val (.int p1), .val (.int p2), .val (.int p3), .val (.int p4), .val (.int p5), .val (.int (p0 &&& (3 : Int32))), .val (.int ((p1 &&& (2147483647 : Int32)) % (3 : Int32))), .val (.int ((p2 &&& (2147483647 : Int32)) % (3 : Int32))), .val (.int ((p3 &&& (2147483647 : Int32)) % (3 : Int32))), .val (.ref a1), .val (.int (1 : Int32))] []))
          refine Go.st (fun _ kq_ => XS.aload X35.here hx rfl (hb hby at_221) rfl rfl kq_) ?_
          show Go p e below s _ _ _ (T35.setTop (mkF m 223 #[.val (.int p0), .val (.int p1), .val (.int p2), .val (.int p3), .val (.int p4), .val (.int p5), .val (.int (p0 &&& (3 : Int32))), .val (.int ((p1 &&& (2147483647 : Int32)) % (3 : Int32))), .val (.int ((p2 &&& (2147483647 : Int32)) % (3 : Int32))), .val (.int ((p3 &&& (2147483647 : Int32)) % (3 : Int32))), .val (.ref a1), .val (.int (1 : Int32))] [(.ref a1)]))
          refine Go.st (fun _ kq_ => XS.iconst X35.here hx rfl (hb hby at_223) kq_) ?_
          show Go p e below s _ _ _ (T35.setTop (mkF m 224 #[.val (.int p0), .val (.int p1), .val (.int p2), .val (.int p3), .val (.int p4), .val (.int p5), .val (.int (p0 &&& (3 : Int32))), .val (.int ((p1 &&& (2147483647 : Int32)) % (3 : Int32))), .val (.int ((p2 &&& (2147483647 : Int32)) % (3 : Int32))), .val (.int ((p3 &&& (2147483647 : Int32)) % (3 : Int32))), .val (.ref a1), .val (.int (1 : Int32))] [(.int (2 : Int32)), (.ref a1)]))
          obtain ⟨cq36, kq36, qa36, qb36, qc36⟩ := isOf hZ e35 E_a1
          obtain ⟨_, _, ⟨T36, L36, k36, n36⟩, -, X36, ⟨Lc36, hQ36, l36, y36, z36⟩, st36⟩ := X35.virtualBack hx (y := (⟨"com/example/element_ranker/elementranker/TagStatistics", "elementCount", "(I)I"⟩ : MethodName)) (z := (⟨"com/example/element_ranker/elementranker/TagStatistics", "elementCount", "(I)I"⟩ : MethodName)) hown (mvT hZ (own_w hw 16 rfl)) (mvT hZ (own_w hw 17 rfl)) (notFace_of_selects (args := #[]) (mvT hZ (own_w hw 19 rfl))) (mvT hZ (own_w hw 19 rfl)) (mvT hZ (own_w hw 18 rfl)) (by decide) (backOf (W := 0) (rme2 l Z a0 hw [] a1 b2 kb2 d2 kd2 (ad 0 ((p2 &&& (2147483647 : Int32)) % (3 : Int32)) (ad 0 ((p1 &&& (2147483647 : Int32)) % (3 : Int32)) (0 : Int32))) (ad 1 ((p2 &&& (2147483647 : Int32)) % (3 : Int32)) (ad 1 ((p1 &&& (2147483647 : Int32)) % (3 : Int32)) (0 : Int32))) (ad 2 ((p2 &&& (2147483647 : Int32)) % (3 : Int32)) (ad 2 ((p1 &&& (2147483647 : Int32)) % (3 : Int32)) (0 : Int32))) (adL 0 ((p2 &&& (2147483647 : Int32)) % (3 : Int32)) p5 (adL 0 ((p1 &&& (2147483647 : Int32)) % (3 : Int32)) p4 (0 : Int64))) (adL 1 ((p2 &&& (2147483647 : Int32)) % (3 : Int32)) p5 (adL 1 ((p1 &&& (2147483647 : Int32)) % (3 : Int32)) p4 (0 : Int64))) (adL 2 ((p2 &&& (2147483647 : Int32)) % (3 : Int32)) p5 (adL 2 ((p1 &&& (2147483647 : Int32)) % (3 : Int32)) p4 (0 : Int64))) (((0 : Int32) + (1 : Int32)) + (1 : Int32)) (((0 : Int64) + p4.toInt64) + p5.toInt64) T26.heap n0 O26 E_a1 F_a1_elementCounts F_a1_totalLengths F_a1_elementCount F_a1_totalLength V_b2 V_d2) hZ (own_w hw 20 rfl) (own_w hw 3 rfl) (by decide) (by decide)) qa36 qc36 (g := (mkF m 224 #[.val (.int p0), .val (.int p1), .val (.int p2), .val (.int p3), .val (.int p4), .val (.int p5), .val (.int (p0 &&& (3 : Int32))), .val (.int ((p1 &&& (2147483647 : Int32)) % (3 : Int32))), .val (.int ((p2 &&& (2147483647 : Int32)) % (3 : Int32))), .val (.int ((p3 &&& (2147483647 : Int32)) % (3 : Int32))), .val (.ref a1), .val (.int (1 : Int32))] [(.int (2 : Int32)), (.ref a1)])) rfl (by rw [hml]; rfl) (Steps.refl _) (argsL := [(.int (2 : Int32))]) (rest := []) (lenOf pd0_1 rfl) rfl (by show 2 * 0 + _ ≤ _; exact Nat.le_of_eq rfl) (hb hby at_224) (fun _ _ => ⟨rfl, e35, (by decide : 3 + 0 ≤ _), (by decide : 10 + 0 ≤ _)⟩)
          dsimp only [Pt.U, Pt.locs, Pt.cells, Pt.slots] at X36 l36 y36 z36 st36 hQ36
          subst l36 y36 z36
          obtain ⟨rfl, Nc36, e36⟩ := hQ36
          have N36 := Fr.app N35 Nc36
          refine Go.tr st36 ?_
          show Go p e below s _ _ _ (T36.setTop (mkF m 227 #[.val (.int p0), .val (.int p1), .val (.int p2), .val (.int p3), .val (.int p4), .val (.int p5), .val (.int (p0 &&& (3 : Int32))), .val (.int ((p1 &&& (2147483647 : Int32)) % (3 : Int32))), .val (.int ((p2 &&& (2147483647 : Int32)) % (3 : Int32))), .val (.int ((p3 &&& (2147483647 : Int32)) % (3 : Int32))), .val (.ref a1), .val (.int (1 : Int32))] [(.int (ad 2 ((p2 &&& (2147483647 : Int32)) % (3 : Int32)) (ad 2 ((p1 &&& (2147483647 : Int32)) % (3 : Int32)) (0 : Int32))))]))
          refine Go.st (fun _ kq_ => XS.iload X36.here hx rfl (hb hby at_227) rfl kq_) ?_
          show Go p e below s _ _ _ (T36.setTop (mkF m 229 #[.val (.int p0), .val (.int p1), .val (.int p2), .val (.int p3), .val (.int p4), .val (.int p5), .val (.int (p0 &&& (3 : Int32))), .val (.int ((p1 &&& (2147483647 : Int32)) % (3 : Int32))), .val (.int ((p2 &&& (2147483647 : Int32)) % (3 : Int32))), .val (.int ((p3 &&& (2147483647 : Int32)) % (3 : Int32))), .val (.ref a1), .val (.int (1 : Int32))] [(.int (p0 &&& (3 : Int32))), (.int (ad 2 ((p2 &&& (2147483647 : Int32)) % (3 : Int32)) (ad 2 ((p1 &&& (2147483647 : Int32)) % (3 : Int32)) (0 : Int32))))]))
          refine Go.st (fun _ kq_ => XS.iload X36.here hx rfl (hb hby at_229) rfl kq_) ?_
          show Go p e below s _ _ _ (T36.setTop (mkF m 231 #[.val (.int p0), .val (.int p1), .val (.int p2), .val (.int p3), .val (.int p4), .val (.int p5), .val (.int (p0 &&& (3 : Int32))), .val (.int ((p1 &&& (2147483647 : Int32)) % (3 : Int32))), .val (.int ((p2 &&& (2147483647 : Int32)) % (3 : Int32))), .val (.int ((p3 &&& (2147483647 : Int32)) % (3 : Int32))), .val (.ref a1), .val (.int (1 : Int32))] [(.int ((p1 &&& (2147483647 : Int32)) % (3 : Int32))), (.int (p0 &&& (3 : Int32))), (.int (ad 2 ((p2 &&& (2147483647 : Int32)) % (3 : Int32)) (ad 2 ((p1 &&& (2147483647 : Int32)) % (3 : Int32)) (0 : Int32))))]))
          refine Go.st (fun _ kq_ => XS.iload X36.here hx rfl (hb hby at_231) rfl kq_) ?_
          show Go p e below s _ _ _ (T36.setTop (mkF m 233 #[.val (.int p0), .val (.int p1), .val (.int p2), .val (.int p3), .val (.int p4), .val (.int p5), .val (.int (p0 &&& (3 : Int32))), .val (.int ((p1 &&& (2147483647 : Int32)) % (3 : Int32))), .val (.int ((p2 &&& (2147483647 : Int32)) % (3 : Int32))), .val (.int ((p3 &&& (2147483647 : Int32)) % (3 : Int32))), .val (.ref a1), .val (.int (1 : Int32))] [(.int ((p2 &&& (2147483647 : Int32)) % (3 : Int32))), (.int ((p1 &&& (2147483647 : Int32)) % (3 : Int32))), (.int (p0 &&& (3 : Int32))), (.int (ad 2 ((p2 &&& (2147483647 : Int32)) % (3 : Int32)) (ad 2 ((p1 &&& (2147483647 : Int32)) % (3 : Int32)) (0 : Int32))))]))
          refine Go.st (fun _ kq_ => XS.iload X36.here hx rfl (hb hby at_233) rfl kq_) ?_
          show Go p e below s _ _ _ (T36.setTop (mkF m 235 #[.val (.int p0), .val (.int p1), .val (.int p2), .val (.int p3), .val (.int p4), .val (.int p5), .val (.int (p0 &&& (3 : Int32))), .val (.int ((p1 &&& (2147483647 : Int32)) % (3 : Int32))), .val (.int ((p2 &&& (2147483647 : Int32)) % (3 : Int32))), .val (.int ((p3 &&& (2147483647 : Int32)) % (3 : Int32))), .val (.ref a1), .val (.int (1 : Int32))] [(.int ((p3 &&& (2147483647 : Int32)) % (3 : Int32))), (.int ((p2 &&& (2147483647 : Int32)) % (3 : Int32))), (.int ((p1 &&& (2147483647 : Int32)) % (3 : Int32))), (.int (p0 &&& (3 : Int32))), (.int (ad 2 ((p2 &&& (2147483647 : Int32)) % (3 : Int32)) (ad 2 ((p1 &&& (2147483647 : Int32)) % (3 : Int32)) (0 : Int32))))]))
          refine Go.st (fun _ kq_ => XS.iconst X36.here hx rfl (hb hby at_235) kq_) ?_
          show Go p e below s _ _ _ (T36.setTop (mkF m 236 #[.val (.int p0), .val (.int p1), .val (.int p2), .val (.int p3), .val (.int p4), .val (.int p5), .val (.int (p0 &&& (3 : Int32))), .val (.int ((p1 &&& (2147483647 : Int32)) % (3 : Int32))), .val (.int ((p2 &&& (2147483647 : Int32)) % (3 : Int32))), .val (.int ((p3 &&& (2147483647 : Int32)) % (3 : Int32))), .val (.ref a1), .val (.int (1 : Int32))] [(.int (2 : Int32)), (.int ((p3 &&& (2147483647 : Int32)) % (3 : Int32))), (.int ((p2 &&& (2147483647 : Int32)) % (3 : Int32))), (.int ((p1 &&& (2147483647 : Int32)) % (3 : Int32))), (.int (p0 &&& (3 : Int32))), (.int (ad 2 ((p2 &&& (2147483647 : Int32)) % (3 : Int32)) (ad 2 ((p1 &&& (2147483647 : Int32)) % (3 : Int32)) (0 : Int32))))]))
          obtain ⟨_, _, ⟨T37, L37, k37, n37⟩, -, X37, ⟨Lc37, hQ37, l37, y37, z37⟩, st37⟩ := Jvm.LawKit.callS X36 hx (y := (⟨"com/example/element_ranker/elementranker/TagStatisticsElementCountPinLaw", "expected", "(IIIII)I"⟩ : MethodName)) hown (mvT hZ (own_w hw 23 rfl)) (mvT hZ (own_w hw 24 rfl)) (mvT hZ (own_w hw 25 rfl)) (mvT hZ (own_w hw 26 rfl)) (by decide) (backOf (W := 1) (rmx l Z a0 hw [] (p0 &&& (3 : Int32)) ((p1 &&& (2147483647 : Int32)) % (3 : Int32)) ((p2 &&& (2147483647 : Int32)) % (3 : Int32)) ((p3 &&& (2147483647 : Int32)) % (3 : Int32)) (2 : Int32) T26.heap n0 O26 ) hZ (own_w hw 26 rfl) (own_w hw 25 rfl) (by decide) (by decide)) (g := (mkF m 236 #[.val (.int p0), .val (.int p1), .val (.int p2), .val (.int p3), .val (.int p4), .val (.int p5), .val (.int (p0 &&& (3 : Int32))), .val (.int ((p1 &&& (2147483647 : Int32)) % (3 : Int32))), .val (.int ((p2 &&& (2147483647 : Int32)) % (3 : Int32))), .val (.int ((p3 &&& (2147483647 : Int32)) % (3 : Int32))), .val (.ref a1), .val (.int (1 : Int32))] [(.int (2 : Int32)), (.int ((p3 &&& (2147483647 : Int32)) % (3 : Int32))), (.int ((p2 &&& (2147483647 : Int32)) % (3 : Int32))), (.int ((p1 &&& (2147483647 : Int32)) % (3 : Int32))), (.int (p0 &&& (3 : Int32))), (.int (ad 2 ((p2 &&& (2147483647 : Int32)) % (3 : Int32)) (ad 2 ((p1 &&& (2147483647 : Int32)) % (3 : Int32)) (0 : Int32))))])) rfl (by rw [hml]; rfl) (argsL := [(.int (p0 &&& (3 : Int32))), (.int ((p1 &&& (2147483647 : Int32)) % (3 : Int32))), (.int ((p2 &&& (2147483647 : Int32)) % (3 : Int32))), (.int ((p3 &&& (2147483647 : Int32)) % (3 : Int32))), (.int (2 : Int32))]) (rest := [(.int (ad 2 ((p2 &&& (2147483647 : Int32)) % (3 : Int32)) (ad 2 ((p1 &&& (2147483647 : Int32)) % (3 : Int32)) (0 : Int32))))]) (lenOf pd0_2 rfl) rfl (by show 2 * 0 + _ ≤ _; exact Nat.le_of_eq rfl) (hb hby at_236) (fun _ _ => ⟨rfl, e36, (by decide : 3 + 0 ≤ _), (by decide : 10 + 0 ≤ _)⟩)
          dsimp only [Pt.U, Pt.locs, Pt.cells, Pt.slots] at X37 l37 y37 z37 st37 hQ37
          subst l37 y37 z37
          obtain ⟨rfl, Nc37, e37⟩ := hQ37
          have N37 := Fr.app N36 Nc37
          refine Go.st st37 ?_
          show Go p e below s _ _ _ (T37.setTop (mkF m 239 #[.val (.int p0), .val (.int p1), .val (.int p2), .val (.int p3), .val (.int p4), .val (.int p5), .val (.int (p0 &&& (3 : Int32))), .val (.int ((p1 &&& (2147483647 : Int32)) % (3 : Int32))), .val (.int ((p2 &&& (2147483647 : Int32)) % (3 : Int32))), .val (.int ((p3 &&& (2147483647 : Int32)) % (3 : Int32))), .val (.ref a1), .val (.int (1 : Int32))] [(.int (fEx (p0 &&& (3 : Int32)) ((p1 &&& (2147483647 : Int32)) % (3 : Int32)) ((p2 &&& (2147483647 : Int32)) % (3 : Int32)) ((p3 &&& (2147483647 : Int32)) % (3 : Int32)) (2 : Int32))), (.int (ad 2 ((p2 &&& (2147483647 : Int32)) % (3 : Int32)) (ad 2 ((p1 &&& (2147483647 : Int32)) % (3 : Int32)) (0 : Int32))))]))
          refine Go.st (fun _ kq_ => XS.icmpNo X37.here hx rfl (hb hby at_239) rfl (XT.ii_ne_f (own_q2_2 _ _ _ _ (own_n3 p0) c42_3 c57_15 c72_27)) kq_) ?_
          show Go p e below s _ _ _ (T37.setTop (mkF m 242 #[.val (.int p0), .val (.int p1), .val (.int p2), .val (.int p3), .val (.int p4), .val (.int p5), .val (.int (p0 &&& (3 : Int32))), .val (.int ((p1 &&& (2147483647 : Int32)) % (3 : Int32))), .val (.int ((p2 &&& (2147483647 : Int32)) % (3 : Int32))), .val (.int ((p3 &&& (2147483647 : Int32)) % (3 : Int32))), .val (.ref a1), .val (.int (1 : Int32))] []))
          refine Go.st (fun _ kq_ => XS.iconst X37.here hx rfl (hb hby at_242) kq_) ?_
          show Go p e below s _ _ _ (T37.setTop (mkF m 243 #[.val (.int p0), .val (.int p1), .val (.int p2), .val (.int p3), .val (.int p4), .val (.int p5), .val (.int (p0 &&& (3 : Int32))), .val (.int ((p1 &&& (2147483647 : Int32)) % (3 : Int32))), .val (.int ((p2 &&& (2147483647 : Int32)) % (3 : Int32))), .val (.int ((p3 &&& (2147483647 : Int32)) % (3 : Int32))), .val (.ref a1), .val (.int (1 : Int32))] [(.int (1 : Int32))]))
          refine Go.st (fun _ kq_ => XS.goto X37.here hx rfl (pc0 := 243) (pc' := 247) rfl (hb hby at_243) (by decide) (by decide) kq_) ?_
          show Go p e below s _ _ _ (T37.setTop (mkF m 247 #[.val (.int p0), .val (.int p1), .val (.int p2), .val (.int p3), .val (.int p4), .val (.int p5), .val (.int (p0 &&& (3 : Int32))), .val (.int ((p1 &&& (2147483647 : Int32)) % (3 : Int32))), .val (.int ((p2 &&& (2147483647 : Int32)) % (3 : Int32))), .val (.int ((p3 &&& (2147483647 : Int32)) % (3 : Int32))), .val (.ref a1), .val (.int (1 : Int32))] [(.int (1 : Int32))]))
          refine Go.st (fun _ kq_ => XS.istore X37.here hx rfl (hb hby at_247) rfl (l' := #[.val (.int p0), .val (.int p1), .val (.int p2), .val (.int p3), .val (.int p4), .val (.int p5), .val (.int (p0 &&& (3 : Int32))), .val (.int ((p1 &&& (2147483647 : Int32)) % (3 : Int32))), .val (.int ((p2 &&& (2147483647 : Int32)) % (3 : Int32))), .val (.int ((p3 &&& (2147483647 : Int32)) % (3 : Int32))), .val (.ref a1), .val (.int (1 : Int32))]) rfl kq_) ?_
          show Go p e below s _ _ _ (T37.setTop (mkF m 249 #[.val (.int p0), .val (.int p1), .val (.int p2), .val (.int p3), .val (.int p4), .val (.int p5), .val (.int (p0 &&& (3 : Int32))), .val (.int ((p1 &&& (2147483647 : Int32)) % (3 : Int32))), .val (.int ((p2 &&& (2147483647 : Int32)) % (3 : Int32))), .val (.int ((p3 &&& (2147483647 : Int32)) % (3 : Int32))), .val (.ref a1), .val (.int (1 : Int32))] []))
          refine Go.st (fun _ kq_ => XS.iload X37.here hx rfl (hb hby at_249) rfl kq_) ?_
          show Go p e below s _ _ _ (T37.setTop (mkF m 251 #[.val (.int p0), .val (.int p1), .val (.int p2), .val (.int p3), .val (.int p4), .val (.int p5), .val (.int (p0 &&& (3 : Int32))), .val (.int ((p1 &&& (2147483647 : Int32)) % (3 : Int32))), .val (.int ((p2 &&& (2147483647 : Int32)) % (3 : Int32))), .val (.int ((p3 &&& (2147483647 : Int32)) % (3 : Int32))), .val (.ref a1), .val (.int (1 : Int32))] [(.int (1 : Int32))]))
          exact Go.ret X37 hlk (some (.int (nar .boolean (1 : Int32)))) (fun h => by rw [Bd.returns] at h; cases h) (by rw [e37]; exact ⟨rfl, N37⟩) (by decide) (by decide) (fun fs hr => retN X37 hx (t := .boolean) Bd.returns (by simp) (hb hby at_251) hr)
        · refine Go.st (fun _ kq_ => XS.icmpNo X26.here hx rfl (hb hby at_72) rfl (XT.ii_lt_f c72_27) kq_) ?_
          show Go p e below s _ _ _ (T26.setTop (mkF m 75 #[.val (.int p0), .val (.int p1), .val (.int p2), .val (.int p3), .val (.int p4), .val (.int p5), .val (.int (p0 &&& (3 : Int32))), .val (.int ((p1 &&& (2147483647 : Int32)) % (3 : Int32))), .val (.int ((p2 &&& (2147483647 : Int32)) % (3 : Int32))), .val (.int ((p3 &&& (2147483647 : Int32)) % (3 : Int32))), .val (.ref a1), .unset] []))
          refine Go.st (fun _ kq_ => XS.aload X26.here hx rfl (hb hby at_75) rfl rfl kq_) ?_
          show Go p e below s _ _ _ (T26.setTop (mkF m 77 #[.val (.int p0), .val (.int p1), .val (.int p2), .val (.int p3), .val (.int p4), .val (.int p5), .val (.int (p0 &&& (3 : Int32))), .val (.int ((p1 &&& (2147483647 : Int32)) % (3 : Int32))), .val (.int ((p2 &&& (2147483647 : Int32)) % (3 : Int32))), .val (.int ((p3 &&& (2147483647 : Int32)) % (3 : Int32))), .val (.ref a1), .unset] [(.ref a1)]))
          refine Go.st (fun _ kq_ => XS.iload X26.here hx rfl (hb hby at_77) rfl kq_) ?_
          show Go p e below s _ _ _ (T26.setTop (mkF m 79 #[.val (.int p0), .val (.int p1), .val (.int p2), .val (.int p3), .val (.int p4), .val (.int p5), .val (.int (p0 &&& (3 : Int32))), .val (.int ((p1 &&& (2147483647 : Int32)) % (3 : Int32))), .val (.int ((p2 &&& (2147483647 : Int32)) % (3 : Int32))), .val (.int ((p3 &&& (2147483647 : Int32)) % (3 : Int32))), .val (.ref a1), .unset] [(.int ((p3 &&& (2147483647 : Int32)) % (3 : Int32))), (.ref a1)]))
          refine Go.st (fun _ kq_ => XS.iload X26.here hx rfl (hb hby at_79) rfl kq_) ?_
          show Go p e below s _ _ _ (T26.setTop (mkF m 81 #[.val (.int p0), .val (.int p1), .val (.int p2), .val (.int p3), .val (.int p4), .val (.int p5), .val (.int (p0 &&& (3 : Int32))), .val (.int ((p1 &&& (2147483647 : Int32)) % (3 : Int32))), .val (.int ((p2 &&& (2147483647 : Int32)) % (3 : Int32))), .val (.int ((p3 &&& (2147483647 : Int32)) % (3 : Int32))), .val (.ref a1), .unset] [(.int p4), (.int ((p3 &&& (2147483647 : Int32)) % (3 : Int32))), (.ref a1)]))
          refine Go.st (fun _ kq_ => XS.iload X26.here hx rfl (hb hby at_81) rfl kq_) ?_
          show Go p e below s _ _ _ (T26.setTop (mkF m 83 #[.val (.int p0), .val (.int p1), .val (.int p2), .val (.int p3), .val (.int p4), .val (.int p5), .val (.int (p0 &&& (3 : Int32))), .val (.int ((p1 &&& (2147483647 : Int32)) % (3 : Int32))), .val (.int ((p2 &&& (2147483647 : Int32)) % (3 : Int32))), .val (.int ((p3 &&& (2147483647 : Int32)) % (3 : Int32))), .val (.ref a1), .unset] [(.int p5), (.int p4), (.int ((p3 &&& (2147483647 : Int32)) % (3 : Int32))), (.ref a1)]))
          refine Go.st (fun _ kq_ => XT.ixor X26.here hx rfl (hb hby at_83) rfl kq_) ?_
          show Go p e below s _ _ _ (T26.setTop (mkF m 84 #[.val (.int p0), .val (.int p1), .val (.int p2), .val (.int p3), .val (.int p4), .val (.int p5), .val (.int (p0 &&& (3 : Int32))), .val (.int ((p1 &&& (2147483647 : Int32)) % (3 : Int32))), .val (.int ((p2 &&& (2147483647 : Int32)) % (3 : Int32))), .val (.int ((p3 &&& (2147483647 : Int32)) % (3 : Int32))), .val (.ref a1), .unset] [(.int (p4 ^^^ p5)), (.int ((p3 &&& (2147483647 : Int32)) % (3 : Int32))), (.ref a1)]))
          obtain ⟨cq38, kq38, qa38, qb38, qc38⟩ := isOf hZ rfl E_a1
          obtain ⟨_, _, ⟨T38, L38, k38, n38⟩, -, X38, ⟨Lc38, hQ38, l38, y38, z38⟩, st38⟩ := X26.virtualBack hx (y := (⟨"com/example/element_ranker/elementranker/TagStatistics", "add", "(II)V"⟩ : MethodName)) (z := (⟨"com/example/element_ranker/elementranker/TagStatistics", "add", "(II)V"⟩ : MethodName)) hown (mvT hZ (own_w hw 27 rfl)) (mvT hZ (own_w hw 28 rfl)) (notFace_of_selects (args := #[]) (mvT hZ (own_w hw 30 rfl))) (mvT hZ (own_w hw 30 rfl)) (mvT hZ (own_w hw 29 rfl)) (by decide) (backOf (W := 0) (rma l Z a0 hw [] a1 b2 kb2 d2 kd2 (ad 0 ((p2 &&& (2147483647 : Int32)) % (3 : Int32)) (ad 0 ((p1 &&& (2147483647 : Int32)) % (3 : Int32)) (0 : Int32))) (ad 1 ((p2 &&& (2147483647 : Int32)) % (3 : Int32)) (ad 1 ((p1 &&& (2147483647 : Int32)) % (3 : Int32)) (0 : Int32))) (ad 2 ((p2 &&& (2147483647 : Int32)) % (3 : Int32)) (ad 2 ((p1 &&& (2147483647 : Int32)) % (3 : Int32)) (0 : Int32))) (adL 0 ((p2 &&& (2147483647 : Int32)) % (3 : Int32)) p5 (adL 0 ((p1 &&& (2147483647 : Int32)) % (3 : Int32)) p4 (0 : Int64))) (adL 1 ((p2 &&& (2147483647 : Int32)) % (3 : Int32)) p5 (adL 1 ((p1 &&& (2147483647 : Int32)) % (3 : Int32)) p4 (0 : Int64))) (adL 2 ((p2 &&& (2147483647 : Int32)) % (3 : Int32)) p5 (adL 2 ((p1 &&& (2147483647 : Int32)) % (3 : Int32)) p4 (0 : Int64))) (((0 : Int32) + (1 : Int32)) + (1 : Int32)) (((0 : Int64) + p4.toInt64) + p5.toInt64) ((p3 &&& (2147483647 : Int32)) % (3 : Int32)) (p4 ^^^ p5) T26.heap n0 O26 E_a1 F_a1_elementCounts F_a1_totalLengths F_a1_elementCount F_a1_totalLength V_b2 V_d2 g_a1 g_b2 g_d2 ne_a1_b2 ne_a1_d2 ned2 (own_rem p3 3 (by decide))) hZ (own_w hw 31 rfl) (own_w hw 3 rfl) (by decide) (by decide)) qa38 qc38 (g := (mkF m 84 #[.val (.int p0), .val (.int p1), .val (.int p2), .val (.int p3), .val (.int p4), .val (.int p5), .val (.int (p0 &&& (3 : Int32))), .val (.int ((p1 &&& (2147483647 : Int32)) % (3 : Int32))), .val (.int ((p2 &&& (2147483647 : Int32)) % (3 : Int32))), .val (.int ((p3 &&& (2147483647 : Int32)) % (3 : Int32))), .val (.ref a1), .unset] [(.int (p4 ^^^ p5)), (.int ((p3 &&& (2147483647 : Int32)) % (3 : Int32))), (.ref a1)])) rfl (by rw [hml]; rfl) (Steps.refl _) (argsL := [(.int ((p3 &&& (2147483647 : Int32)) % (3 : Int32))), (.int (p4 ^^^ p5))]) (rest := []) (lenOf pd0_3 rfl) rfl (by show 2 * 0 + _ ≤ _; exact Nat.le_of_eq rfl) (hb hby at_84) (fun _ _ => ⟨rfl, rfl, (by decide : 3 + 0 ≤ _), (by decide : 10 + 0 ≤ _)⟩)
          dsimp only [Pt.U, Pt.locs, Pt.cells, Pt.slots] at X38 l38 y38 z38 st38 hQ38
          subst l38 y38 z38
          obtain ⟨rfl, Nc38, Kc38, NE_a1, NF_a1_elementCounts, NF_a1_totalLengths, NF_a1_elementCount, NF_a1_totalLength, NV_b2, NV_d2⟩ := hQ38
          have N38 := Fr.app N26 Nc38
          have O38 := O26.keep Kc38 (allS g_a1 (allS g_b2 (allS g_d2 all0)))
          have E_a1 := NE_a1
          have F_a1_elementCounts := NF_a1_elementCounts
          have F_a1_totalLengths := NF_a1_totalLengths
          have F_a1_elementCount := NF_a1_elementCount
          have F_a1_totalLength := NF_a1_totalLength
          have V_b2 := NV_b2
          have V_d2 := NV_d2
          refine Go.tr st38 ?_
          show Go p e below s _ _ _ (T38.setTop (mkF m 87 #[.val (.int p0), .val (.int p1), .val (.int p2), .val (.int p3), .val (.int p4), .val (.int p5), .val (.int (p0 &&& (3 : Int32))), .val (.int ((p1 &&& (2147483647 : Int32)) % (3 : Int32))), .val (.int ((p2 &&& (2147483647 : Int32)) % (3 : Int32))), .val (.int ((p3 &&& (2147483647 : Int32)) % (3 : Int32))), .val (.ref a1), .unset] []))
          refine Go.st (fun _ kq_ => XS.aload X38.here hx rfl (hb hby at_87) rfl rfl kq_) ?_
          show Go p e below s _ _ _ (T38.setTop (mkF m 89 #[.val (.int p0), .val (.int p1), .val (.int p2), .val (.int p3), .val (.int p4), .val (.int p5), .val (.int (p0 &&& (3 : Int32))), .val (.int ((p1 &&& (2147483647 : Int32)) % (3 : Int32))), .val (.int ((p2 &&& (2147483647 : Int32)) % (3 : Int32))), .val (.int ((p3 &&& (2147483647 : Int32)) % (3 : Int32))), .val (.ref a1), .unset] [(.ref a1)]))
          refine Go.st (fun _ kq_ => XS.iconst X38.here hx rfl (hb hby at_89) kq_) ?_
          show Go p e below s _ _ _ (T38.setTop (mkF m 90 #[.val (.int p0), .val (.int p1), .val (.int p2), .val (.int p3), .val (.int p4), .val (.int p5), .val (.int (p0 &&& (3 : Int32))), .val (.int ((p1 &&& (2147483647 : Int32)) % (3 : Int32))), .val (.int ((p2 &&& (2147483647 : Int32)) % (3 : Int32))), .val (.int ((p3 &&& (2147483647 : Int32)) % (3 : Int32))), .val (.ref a1), .unset] [(.int (-1 : Int32)), (.ref a1)]))
          obtain ⟨cq39, kq39, qa39, qb39, qc39⟩ := isOf hZ rfl E_a1
          obtain ⟨_, _, ⟨T39, L39, k39, n39⟩, -, X39, ⟨Lc39, hQ39, l39, y39, z39⟩, st39⟩ := X38.virtualBack hx (y := (⟨"com/example/element_ranker/elementranker/TagStatistics", "elementCount", "(I)I"⟩ : MethodName)) (z := (⟨"com/example/element_ranker/elementranker/TagStatistics", "elementCount", "(I)I"⟩ : MethodName)) hown (mvT hZ (own_w hw 16 rfl)) (mvT hZ (own_w hw 17 rfl)) (notFace_of_selects (args := #[]) (mvT hZ (own_w hw 19 rfl))) (mvT hZ (own_w hw 19 rfl)) (mvT hZ (own_w hw 18 rfl)) (by decide) (backOf (W := 0) (rmem1 l Z a0 hw [] a1 b2 kb2 d2 kd2 (ad 0 ((p3 &&& (2147483647 : Int32)) % (3 : Int32)) (ad 0 ((p2 &&& (2147483647 : Int32)) % (3 : Int32)) (ad 0 ((p1 &&& (2147483647 : Int32)) % (3 : Int32)) (0 : Int32)))) (ad 1 ((p3 &&& (2147483647 : Int32)) % (3 : Int32)) (ad 1 ((p2 &&& (2147483647 : Int32)) % (3 : Int32)) (ad 1 ((p1 &&& (2147483647 : Int32)) % (3 : Int32)) (0 : Int32)))) (ad 2 ((p3 &&& (2147483647 : Int32)) % (3 : Int32)) (ad 2 ((p2 &&& (2147483647 : Int32)) % (3 : Int32)) (ad 2 ((p1 &&& (2147483647 : Int32)) % (3 : Int32)) (0 : Int32)))) (adL 0 ((p3 &&& (2147483647 : Int32)) % (3 : Int32)) (p4 ^^^ p5) (adL 0 ((p2 &&& (2147483647 : Int32)) % (3 : Int32)) p5 (adL 0 ((p1 &&& (2147483647 : Int32)) % (3 : Int32)) p4 (0 : Int64)))) (adL 1 ((p3 &&& (2147483647 : Int32)) % (3 : Int32)) (p4 ^^^ p5) (adL 1 ((p2 &&& (2147483647 : Int32)) % (3 : Int32)) p5 (adL 1 ((p1 &&& (2147483647 : Int32)) % (3 : Int32)) p4 (0 : Int64)))) (adL 2 ((p3 &&& (2147483647 : Int32)) % (3 : Int32)) (p4 ^^^ p5) (adL 2 ((p2 &&& (2147483647 : Int32)) % (3 : Int32)) p5 (adL 2 ((p1 &&& (2147483647 : Int32)) % (3 : Int32)) p4 (0 : Int64)))) ((((0 : Int32) + (1 : Int32)) + (1 : Int32)) + (1 : Int32)) ((((0 : Int64) + p4.toInt64) + p5.toInt64) + (p4 ^^^ p5).toInt64) T38.heap n0 O38 E_a1 F_a1_elementCounts F_a1_totalLengths F_a1_elementCount F_a1_totalLength V_b2 V_d2) hZ (own_w hw 20 rfl) (own_w hw 3 rfl) (by decide) (by decide)) qa39 qc39 (g := (mkF m 90 #[.val (.int p0), .val (.int p1), .val (.int p2), .val (.int p3), .val (.int p4), .val (.int p5), .val (.int (p0 &&& (3 : Int32))), .val (.int ((p1 &&& (2147483647 : Int32)) % (3 : Int32))), .val (.int ((p2 &&& (2147483647 : Int32)) % (3 : Int32))), .val (.int ((p3 &&& (2147483647 : Int32)) % (3 : Int32))), .val (.ref a1), .unset] [(.int (-1 : Int32)), (.ref a1)])) rfl (by rw [hml]; rfl) (Steps.refl _) (argsL := [(.int (-1 : Int32))]) (rest := []) (lenOf pd0_1 rfl) rfl (by show 2 * 0 + _ ≤ _; exact Nat.le_of_eq rfl) (hb hby at_90) (fun _ _ => ⟨rfl, rfl, (by decide : 3 + 0 ≤ _), (by decide : 10 + 0 ≤ _)⟩)
          dsimp only [Pt.U, Pt.locs, Pt.cells, Pt.slots] at X39 l39 y39 z39 st39 hQ39
          subst l39 y39 z39
          obtain ⟨rfl, Nc39, e39⟩ := hQ39
          have N39 := Fr.app N38 Nc39
          refine Go.tr st39 ?_
          show Go p e below s _ _ _ (T39.setTop (mkF m 93 #[.val (.int p0), .val (.int p1), .val (.int p2), .val (.int p3), .val (.int p4), .val (.int p5), .val (.int (p0 &&& (3 : Int32))), .val (.int ((p1 &&& (2147483647 : Int32)) % (3 : Int32))), .val (.int ((p2 &&& (2147483647 : Int32)) % (3 : Int32))), .val (.int ((p3 &&& (2147483647 : Int32)) % (3 : Int32))), .val (.ref a1), .unset] [(.int ((((0 : Int32) + (1 : Int32)) + (1 : Int32)) + (1 : Int32)))]))
          refine Go.st (fun _ kq_ => XS.iload X39.here hx rfl (hb hby at_93) rfl kq_) ?_
          show Go p e below s _ _ _ (T39.setTop (mkF m 95 #[.val (.int p0), .val (.int p1), .val (.int p2), .val (.int p3), .val (.int p4), .val (.int p5), .val (.int (p0 &&& (3 : Int32))), .val (.int ((p1 &&& (2147483647 : Int32)) % (3 : Int32))), .val (.int ((p2 &&& (2147483647 : Int32)) % (3 : Int32))), .val (.int ((p3 &&& (2147483647 : Int32)) % (3 : Int32))), .val (.ref a1), .unset] [(.int (p0 &&& (3 : Int32))), (.int ((((0 : Int32) + (1 : Int32)) + (1 : Int32)) + (1 : Int32)))]))
          refine Go.st (fun _ kq_ => XS.iload X39.here hx rfl (hb hby at_95) rfl kq_) ?_
          show Go p e below s _ _ _ (T39.setTop (mkF m 97 #[.val (.int p0), .val (.int p1), .val (.int p2), .val (.int p3), .val (.int p4), .val (.int p5), .val (.int (p0 &&& (3 : Int32))), .val (.int ((p1 &&& (2147483647 : Int32)) % (3 : Int32))), .val (.int ((p2 &&& (2147483647 : Int32)) % (3 : Int32))), .val (.int ((p3 &&& (2147483647 : Int32)) % (3 : Int32))), .val (.ref a1), .unset] [(.int ((p1 &&& (2147483647 : Int32)) % (3 : Int32))), (.int (p0 &&& (3 : Int32))), (.int ((((0 : Int32) + (1 : Int32)) + (1 : Int32)) + (1 : Int32)))]))
          refine Go.st (fun _ kq_ => XS.iload X39.here hx rfl (hb hby at_97) rfl kq_) ?_
          show Go p e below s _ _ _ (T39.setTop (mkF m 99 #[.val (.int p0), .val (.int p1), .val (.int p2), .val (.int p3), .val (.int p4), .val (.int p5), .val (.int (p0 &&& (3 : Int32))), .val (.int ((p1 &&& (2147483647 : Int32)) % (3 : Int32))), .val (.int ((p2 &&& (2147483647 : Int32)) % (3 : Int32))), .val (.int ((p3 &&& (2147483647 : Int32)) % (3 : Int32))), .val (.ref a1), .unset] [(.int ((p2 &&& (2147483647 : Int32)) % (3 : Int32))), (.int ((p1 &&& (2147483647 : Int32)) % (3 : Int32))), (.int (p0 &&& (3 : Int32))), (.int ((((0 : Int32) + (1 : Int32)) + (1 : Int32)) + (1 : Int32)))]))
          refine Go.st (fun _ kq_ => XS.iload X39.here hx rfl (hb hby at_99) rfl kq_) ?_
          show Go p e below s _ _ _ (T39.setTop (mkF m 101 #[.val (.int p0), .val (.int p1), .val (.int p2), .val (.int p3), .val (.int p4), .val (.int p5), .val (.int (p0 &&& (3 : Int32))), .val (.int ((p1 &&& (2147483647 : Int32)) % (3 : Int32))), .val (.int ((p2 &&& (2147483647 : Int32)) % (3 : Int32))), .val (.int ((p3 &&& (2147483647 : Int32)) % (3 : Int32))), .val (.ref a1), .unset] [(.int ((p3 &&& (2147483647 : Int32)) % (3 : Int32))), (.int ((p2 &&& (2147483647 : Int32)) % (3 : Int32))), (.int ((p1 &&& (2147483647 : Int32)) % (3 : Int32))), (.int (p0 &&& (3 : Int32))), (.int ((((0 : Int32) + (1 : Int32)) + (1 : Int32)) + (1 : Int32)))]))
          refine Go.st (fun _ kq_ => XS.iconst X39.here hx rfl (hb hby at_101) kq_) ?_
          show Go p e below s _ _ _ (T39.setTop (mkF m 102 #[.val (.int p0), .val (.int p1), .val (.int p2), .val (.int p3), .val (.int p4), .val (.int p5), .val (.int (p0 &&& (3 : Int32))), .val (.int ((p1 &&& (2147483647 : Int32)) % (3 : Int32))), .val (.int ((p2 &&& (2147483647 : Int32)) % (3 : Int32))), .val (.int ((p3 &&& (2147483647 : Int32)) % (3 : Int32))), .val (.ref a1), .unset] [(.int (-1 : Int32)), (.int ((p3 &&& (2147483647 : Int32)) % (3 : Int32))), (.int ((p2 &&& (2147483647 : Int32)) % (3 : Int32))), (.int ((p1 &&& (2147483647 : Int32)) % (3 : Int32))), (.int (p0 &&& (3 : Int32))), (.int ((((0 : Int32) + (1 : Int32)) + (1 : Int32)) + (1 : Int32)))]))
          obtain ⟨_, _, ⟨T40, L40, k40, n40⟩, -, X40, ⟨Lc40, hQ40, l40, y40, z40⟩, st40⟩ := Jvm.LawKit.callS X39 hx (y := (⟨"com/example/element_ranker/elementranker/TagStatisticsElementCountPinLaw", "expected", "(IIIII)I"⟩ : MethodName)) hown (mvT hZ (own_w hw 23 rfl)) (mvT hZ (own_w hw 24 rfl)) (mvT hZ (own_w hw 25 rfl)) (mvT hZ (own_w hw 26 rfl)) (by decide) (backOf (W := 1) (rmx l Z a0 hw [] (p0 &&& (3 : Int32)) ((p1 &&& (2147483647 : Int32)) % (3 : Int32)) ((p2 &&& (2147483647 : Int32)) % (3 : Int32)) ((p3 &&& (2147483647 : Int32)) % (3 : Int32)) (-1 : Int32) T38.heap n0 O38 ) hZ (own_w hw 26 rfl) (own_w hw 25 rfl) (by decide) (by decide)) (g := (mkF m 102 #[.val (.int p0), .val (.int p1), .val (.int p2), .val (.int p3), .val (.int p4), .val (.int p5), .val (.int (p0 &&& (3 : Int32))), .val (.int ((p1 &&& (2147483647 : Int32)) % (3 : Int32))), .val (.int ((p2 &&& (2147483647 : Int32)) % (3 : Int32))), .val (.int ((p3 &&& (2147483647 : Int32)) % (3 : Int32))), .val (.ref a1), .unset] [(.int (-1 : Int32)), (.int ((p3 &&& (2147483647 : Int32)) % (3 : Int32))), (.int ((p2 &&& (2147483647 : Int32)) % (3 : Int32))), (.int ((p1 &&& (2147483647 : Int32)) % (3 : Int32))), (.int (p0 &&& (3 : Int32))), (.int ((((0 : Int32) + (1 : Int32)) + (1 : Int32)) + (1 : Int32)))])) rfl (by rw [hml]; rfl) (argsL := [(.int (p0 &&& (3 : Int32))), (.int ((p1 &&& (2147483647 : Int32)) % (3 : Int32))), (.int ((p2 &&& (2147483647 : Int32)) % (3 : Int32))), (.int ((p3 &&& (2147483647 : Int32)) % (3 : Int32))), (.int (-1 : Int32))]) (rest := [(.int ((((0 : Int32) + (1 : Int32)) + (1 : Int32)) + (1 : Int32)))]) (lenOf pd0_2 rfl) rfl (by show 2 * 0 + _ ≤ _; exact Nat.le_of_eq rfl) (hb hby at_102) (fun _ _ => ⟨rfl, e39, (by decide : 3 + 0 ≤ _), (by decide : 10 + 0 ≤ _)⟩)
          dsimp only [Pt.U, Pt.locs, Pt.cells, Pt.slots] at X40 l40 y40 z40 st40 hQ40
          subst l40 y40 z40
          obtain ⟨rfl, Nc40, e40⟩ := hQ40
          have N40 := Fr.app N39 Nc40
          refine Go.st st40 ?_
          show Go p e below s _ _ _ (T40.setTop (mkF m 105 #[.val (.int p0), .val (.int p1), .val (.int p2), .val (.int p3), .val (.int p4), .val (.int p5), .val (.int (p0 &&& (3 : Int32))), .val (.int ((p1 &&& (2147483647 : Int32)) % (3 : Int32))), .val (.int ((p2 &&& (2147483647 : Int32)) % (3 : Int32))), .val (.int ((p3 &&& (2147483647 : Int32)) % (3 : Int32))), .val (.ref a1), .unset] [(.int (fEx (p0 &&& (3 : Int32)) ((p1 &&& (2147483647 : Int32)) % (3 : Int32)) ((p2 &&& (2147483647 : Int32)) % (3 : Int32)) ((p3 &&& (2147483647 : Int32)) % (3 : Int32)) (-1 : Int32))), (.int ((((0 : Int32) + (1 : Int32)) + (1 : Int32)) + (1 : Int32)))]))
          refine Go.st (fun _ kq_ => XS.icmpNo X40.here hx rfl (hb hby at_105) rfl (XT.ii_ne_f (own_q3_m1 _ _ _ _ (own_n3 p0) c42_3 c57_15 c72_27)) kq_) ?_
          show Go p e below s _ _ _ (T40.setTop (mkF m 108 #[.val (.int p0), .val (.int p1), .val (.int p2), .val (.int p3), .val (.int p4), .val (.int p5), .val (.int (p0 &&& (3 : Int32))), .val (.int ((p1 &&& (2147483647 : Int32)) % (3 : Int32))), .val (.int ((p2 &&& (2147483647 : Int32)) % (3 : Int32))), .val (.int ((p3 &&& (2147483647 : Int32)) % (3 : Int32))), .val (.ref a1), .unset] []))
          refine Go.st (fun _ kq_ => XS.iconst X40.here hx rfl (hb hby at_108) kq_) ?_
          show Go p e below s _ _ _ (T40.setTop (mkF m 109 #[.val (.int p0), .val (.int p1), .val (.int p2), .val (.int p3), .val (.int p4), .val (.int p5), .val (.int (p0 &&& (3 : Int32))), .val (.int ((p1 &&& (2147483647 : Int32)) % (3 : Int32))), .val (.int ((p2 &&& (2147483647 : Int32)) % (3 : Int32))), .val (.int ((p3 &&& (2147483647 : Int32)) % (3 : Int32))), .val (.ref a1), .unset] [(.int (1 : Int32))]))
          refine Go.st (fun _ kq_ => XS.goto X40.here hx rfl (pc0 := 109) (pc' := 113) rfl (hb hby at_109) (by decide) (by decide) kq_) ?_
          show Go p e below s _ _ _ (T40.setTop (mkF m 113 #[.val (.int p0), .val (.int p1), .val (.int p2), .val (.int p3), .val (.int p4), .val (.int p5), .val (.int (p0 &&& (3 : Int32))), .val (.int ((p1 &&& (2147483647 : Int32)) % (3 : Int32))), .val (.int ((p2 &&& (2147483647 : Int32)) % (3 : Int32))), .val (.int ((p3 &&& (2147483647 : Int32)) % (3 : Int32))), .val (.ref a1), .unset] [(.int (1 : Int32))]))
          refine Go.st (fun _ kq_ => XS.istore X40.here hx rfl (hb hby at_113) rfl (l' := #[.val (.int p0), .val (.int p1), .val (.int p2), .val (.int p3), .val (.int p4), .val (.int p5), .val (.int (p0 &&& (3 : Int32))), .val (.int ((p1 &&& (2147483647 : Int32)) % (3 : Int32))), .val (.int ((p2 &&& (2147483647 : Int32)) % (3 : Int32))), .val (.int ((p3 &&& (2147483647 : Int32)) % (3 : Int32))), .val (.ref a1), .val (.int (1 : Int32))]) rfl kq_) ?_
          show Go p e below s _ _ _ (T40.setTop (mkF m 115 #[.val (.int p0), .val (.int p1), .val (.int p2), .val (.int p3), .val (.int p4), .val (.int p5), .val (.int (p0 &&& (3 : Int32))), .val (.int ((p1 &&& (2147483647 : Int32)) % (3 : Int32))), .val (.int ((p2 &&& (2147483647 : Int32)) % (3 : Int32))), .val (.int ((p3 &&& (2147483647 : Int32)) % (3 : Int32))), .val (.ref a1), .val (.int (1 : Int32))] []))
          refine Go.st (fun _ kq_ => XS.iload X40.here hx rfl (hb hby at_115) rfl kq_) ?_
          show Go p e below s _ _ _ (T40.setTop (mkF m 117 #[.val (.int p0), .val (.int p1), .val (.int p2), .val (.int p3), .val (.int p4), .val (.int p5), .val (.int (p0 &&& (3 : Int32))), .val (.int ((p1 &&& (2147483647 : Int32)) % (3 : Int32))), .val (.int ((p2 &&& (2147483647 : Int32)) % (3 : Int32))), .val (.int ((p3 &&& (2147483647 : Int32)) % (3 : Int32))), .val (.ref a1), .val (.int (1 : Int32))] [(.int (1 : Int32))]))
          refine Go.st (fun _ kq_ => XS.ifNo X40.here hx rfl (hb hby at_117) rfl (by decide) kq_) ?_
          show Go p e below s _ _ _ (T40.setTop (mkF m 120 #[.val (.int p0), .val (.int p1), .val (.int p2), .val (.int p3), .val (.int p4), .val (.int p5), .val (.int (p0 &&& (3 : Int32))), .val (.int ((p1 &&& (2147483647 : Int32)) % (3 : Int32))), .val (.int ((p2 &&& (2147483647 : Int32)) % (3 : Int32))), .val (.int ((p3 &&& (2147483647 : Int32)) % (3 : Int32))), .val (.ref a1), .val (.int (1 : Int32))] []))
          refine Go.st (fun _ kq_ => XS.aload X40.here hx rfl (hb hby at_120) rfl rfl kq_) ?_
          show Go p e below s _ _ _ (T40.setTop (mkF m 122 #[.val (.int p0), .val (.int p1), .val (.int p2), .val (.int p3), .val (.int p4), .val (.int p5), .val (.int (p0 &&& (3 : Int32))), .val (.int ((p1 &&& (2147483647 : Int32)) % (3 : Int32))), .val (.int ((p2 &&& (2147483647 : Int32)) % (3 : Int32))), .val (.int ((p3 &&& (2147483647 : Int32)) % (3 : Int32))), .val (.ref a1), .val (.int (1 : Int32))] [(.ref a1)]))
          refine Go.st (fun _ kq_ => XS.bipush X40.here hx rfl (hb hby at_122) kq_) ?_
          show Go p e below s _ _ _ (T40.setTop (mkF m 124 #[.val (.int p0), .val (.int p1), .val (.int p2), .val (.int p3), .val (.int p4), .val (.int p5), .val (.int (p0 &&& (3 : Int32))), .val (.int ((p1 &&& (2147483647 : Int32)) % (3 : Int32))), .val (.int ((p2 &&& (2147483647 : Int32)) % (3 : Int32))), .val (.int ((p3 &&& (2147483647 : Int32)) % (3 : Int32))), .val (.ref a1), .val (.int (1 : Int32))] [(.int (-2 : Int32)), (.ref a1)]))
          obtain ⟨cq41, kq41, qa41, qb41, qc41⟩ := isOf hZ e40 E_a1
          obtain ⟨_, _, ⟨T41, L41, k41, n41⟩, -, X41, ⟨Lc41, hQ41, l41, y41, z41⟩, st41⟩ := X40.virtualBack hx (y := (⟨"com/example/element_ranker/elementranker/TagStatistics", "elementCount", "(I)I"⟩ : MethodName)) (z := (⟨"com/example/element_ranker/elementranker/TagStatistics", "elementCount", "(I)I"⟩ : MethodName)) hown (mvT hZ (own_w hw 16 rfl)) (mvT hZ (own_w hw 17 rfl)) (notFace_of_selects (args := #[]) (mvT hZ (own_w hw 19 rfl))) (mvT hZ (own_w hw 19 rfl)) (mvT hZ (own_w hw 18 rfl)) (by decide) (backOf (W := 0) (rmem2 l Z a0 hw [] a1 b2 kb2 d2 kd2 (ad 0 ((p3 &&& (2147483647 : Int32)) % (3 : Int32)) (ad 0 ((p2 &&& (2147483647 : Int32)) % (3 : Int32)) (ad 0 ((p1 &&& (2147483647 : Int32)) % (3 : Int32)) (0 : Int32)))) (ad 1 ((p3 &&& (2147483647 : Int32)) % (3 : Int32)) (ad 1 ((p2 &&& (2147483647 : Int32)) % (3 : Int32)) (ad 1 ((p1 &&& (2147483647 : Int32)) % (3 : Int32)) (0 : Int32)))) (ad 2 ((p3 &&& (2147483647 : Int32)) % (3 : Int32)) (ad 2 ((p2 &&& (2147483647 : Int32)) % (3 : Int32)) (ad 2 ((p1 &&& (2147483647 : Int32)) % (3 : Int32)) (0 : Int32)))) (adL 0 ((p3 &&& (2147483647 : Int32)) % (3 : Int32)) (p4 ^^^ p5) (adL 0 ((p2 &&& (2147483647 : Int32)) % (3 : Int32)) p5 (adL 0 ((p1 &&& (2147483647 : Int32)) % (3 : Int32)) p4 (0 : Int64)))) (adL 1 ((p3 &&& (2147483647 : Int32)) % (3 : Int32)) (p4 ^^^ p5) (adL 1 ((p2 &&& (2147483647 : Int32)) % (3 : Int32)) p5 (adL 1 ((p1 &&& (2147483647 : Int32)) % (3 : Int32)) p4 (0 : Int64)))) (adL 2 ((p3 &&& (2147483647 : Int32)) % (3 : Int32)) (p4 ^^^ p5) (adL 2 ((p2 &&& (2147483647 : Int32)) % (3 : Int32)) p5 (adL 2 ((p1 &&& (2147483647 : Int32)) % (3 : Int32)) p4 (0 : Int64)))) ((((0 : Int32) + (1 : Int32)) + (1 : Int32)) + (1 : Int32)) ((((0 : Int64) + p4.toInt64) + p5.toInt64) + (p4 ^^^ p5).toInt64) T38.heap n0 O38 E_a1 F_a1_elementCounts F_a1_totalLengths F_a1_elementCount F_a1_totalLength V_b2 V_d2) hZ (own_w hw 20 rfl) (own_w hw 3 rfl) (by decide) (by decide)) qa41 qc41 (g := (mkF m 124 #[.val (.int p0), .val (.int p1), .val (.int p2), .val (.int p3), .val (.int p4), .val (.int p5), .val (.int (p0 &&& (3 : Int32))), .val (.int ((p1 &&& (2147483647 : Int32)) % (3 : Int32))), .val (.int ((p2 &&& (2147483647 : Int32)) % (3 : Int32))), .val (.int ((p3 &&& (2147483647 : Int32)) % (3 : Int32))), .val (.ref a1), .val (.int (1 : Int32))] [(.int (-2 : Int32)), (.ref a1)])) rfl (by rw [hml]; rfl) (Steps.refl _) (argsL := [(.int (-2 : Int32))]) (rest := []) (lenOf pd0_1 rfl) rfl (by show 2 * 0 + _ ≤ _; exact Nat.le_of_eq rfl) (hb hby at_124) (fun _ _ => ⟨rfl, e40, (by decide : 3 + 0 ≤ _), (by decide : 10 + 0 ≤ _)⟩)
          dsimp only [Pt.U, Pt.locs, Pt.cells, Pt.slots] at X41 l41 y41 z41 st41 hQ41
          subst l41 y41 z41
          obtain ⟨rfl, Nc41, e41⟩ := hQ41
          have N41 := Fr.app N40 Nc41
          refine Go.tr st41 ?_
          show Go p e below s _ _ _ (T41.setTop (mkF m 127 #[.val (.int p0), .val (.int p1), .val (.int p2), .val (.int p3), .val (.int p4), .val (.int p5), .val (.int (p0 &&& (3 : Int32))), .val (.int ((p1 &&& (2147483647 : Int32)) % (3 : Int32))), .val (.int ((p2 &&& (2147483647 : Int32)) % (3 : Int32))), .val (.int ((p3 &&& (2147483647 : Int32)) % (3 : Int32))), .val (.ref a1), .val (.int (1 : Int32))] [(.int (0 : Int32))]))
          refine Go.st (fun _ kq_ => XS.iload X41.here hx rfl (hb hby at_127) rfl kq_) ?_
          show Go p e below s _ _ _ (T41.setTop (mkF m 129 #[.val (.int p0), .val (.int p1), .val (.int p2), .val (.int p3), .val (.int p4), .val (.int p5), .val (.int (p0 &&& (3 : Int32))), .val (.int ((p1 &&& (2147483647 : Int32)) % (3 : Int32))), .val (.int ((p2 &&& (2147483647 : Int32)) % (3 : Int32))), .val (.int ((p3 &&& (2147483647 : Int32)) % (3 : Int32))), .val (.ref a1), .val (.int (1 : Int32))] [(.int (p0 &&& (3 : Int32))), (.int (0 : Int32))]))
          refine Go.st (fun _ kq_ => XS.iload X41.here hx rfl (hb hby at_129) rfl kq_) ?_
          show Go p e below s _ _ _ (T41.setTop (mkF m 131 #[.val (.int p0), .val (.int p1), .val (.int p2), .val (.int p3), .val (.int p4), .val (.int p5), .val (.int (p0 &&& (3 : Int32))), .val (.int ((p1 &&& (2147483647 : Int32)) % (3 : Int32))), .val (.int ((p2 &&& (2147483647 : Int32)) % (3 : Int32))), .val (.int ((p3 &&& (2147483647 : Int32)) % (3 : Int32))), .val (.ref a1), .val (.int (1 : Int32))] [(.int ((p1 &&& (2147483647 : Int32)) % (3 : Int32))), (.int (p0 &&& (3 : Int32))), (.int (0 : Int32))]))
          refine Go.st (fun _ kq_ => XS.iload X41.here hx rfl (hb hby at_131) rfl kq_) ?_
          show Go p e below s _ _ _ (T41.setTop (mkF m 133 #[.val (.int p0), .val (.int p1), .val (.int p2), .val (.int p3), .val (.int p4), .val (.int p5), .val (.int (p0 &&& (3 : Int32))), .val (.int ((p1 &&& (2147483647 : Int32)) % (3 : Int32))), .val (.int ((p2 &&& (2147483647 : Int32)) % (3 : Int32))), .val (.int ((p3 &&& (2147483647 : Int32)) % (3 : Int32))), .val (.ref a1), .val (.int (1 : Int32))] [(.int ((p2 &&& (2147483647 : Int32)) % (3 : Int32))), (.int ((p1 &&& (2147483647 : Int32)) % (3 : Int32))), (.int (p0 &&& (3 : Int32))), (.int (0 : Int32))]))
          refine Go.st (fun _ kq_ => XS.iload X41.here hx rfl (hb hby at_133) rfl kq_) ?_
          show Go p e below s _ _ _ (T41.setTop (mkF m 135 #[.val (.int p0), .val (.int p1), .val (.int p2), .val (.int p3), .val (.int p4), .val (.int p5), .val (.int (p0 &&& (3 : Int32))), .val (.int ((p1 &&& (2147483647 : Int32)) % (3 : Int32))), .val (.int ((p2 &&& (2147483647 : Int32)) % (3 : Int32))), .val (.int ((p3 &&& (2147483647 : Int32)) % (3 : Int32))), .val (.ref a1), .val (.int (1 : Int32))] [(.int ((p3 &&& (2147483647 : Int32)) % (3 : Int32))), (.int ((p2 &&& (2147483647 : Int32)) % (3 : Int32))), (.int ((p1 &&& (2147483647 : Int32)) % (3 : Int32))), (.int (p0 &&& (3 : Int32))), (.int (0 : Int32))]))
          refine Go.st (fun _ kq_ => XS.bipush X41.here hx rfl (hb hby at_135) kq_) ?_
          show Go p e below s _ _ _ (T41.setTop (mkF m 137 #[.val (.int p0), .val (.int p1), .val (.int p2), .val (.int p3), .val (.int p4), .val (.int p5), .val (.int (p0 &&& (3 : Int32))), .val (.int ((p1 &&& (2147483647 : Int32)) % (3 : Int32))), .val (.int ((p2 &&& (2147483647 : Int32)) % (3 : Int32))), .val (.int ((p3 &&& (2147483647 : Int32)) % (3 : Int32))), .val (.ref a1), .val (.int (1 : Int32))] [(.int (-2 : Int32)), (.int ((p3 &&& (2147483647 : Int32)) % (3 : Int32))), (.int ((p2 &&& (2147483647 : Int32)) % (3 : Int32))), (.int ((p1 &&& (2147483647 : Int32)) % (3 : Int32))), (.int (p0 &&& (3 : Int32))), (.int (0 : Int32))]))
          obtain ⟨_, _, ⟨T42, L42, k42, n42⟩, -, X42, ⟨Lc42, hQ42, l42, y42, z42⟩, st42⟩ := Jvm.LawKit.callS X41 hx (y := (⟨"com/example/element_ranker/elementranker/TagStatisticsElementCountPinLaw", "expected", "(IIIII)I"⟩ : MethodName)) hown (mvT hZ (own_w hw 23 rfl)) (mvT hZ (own_w hw 24 rfl)) (mvT hZ (own_w hw 25 rfl)) (mvT hZ (own_w hw 26 rfl)) (by decide) (backOf (W := 1) (rmx l Z a0 hw [] (p0 &&& (3 : Int32)) ((p1 &&& (2147483647 : Int32)) % (3 : Int32)) ((p2 &&& (2147483647 : Int32)) % (3 : Int32)) ((p3 &&& (2147483647 : Int32)) % (3 : Int32)) (-2 : Int32) T38.heap n0 O38 ) hZ (own_w hw 26 rfl) (own_w hw 25 rfl) (by decide) (by decide)) (g := (mkF m 137 #[.val (.int p0), .val (.int p1), .val (.int p2), .val (.int p3), .val (.int p4), .val (.int p5), .val (.int (p0 &&& (3 : Int32))), .val (.int ((p1 &&& (2147483647 : Int32)) % (3 : Int32))), .val (.int ((p2 &&& (2147483647 : Int32)) % (3 : Int32))), .val (.int ((p3 &&& (2147483647 : Int32)) % (3 : Int32))), .val (.ref a1), .val (.int (1 : Int32))] [(.int (-2 : Int32)), (.int ((p3 &&& (2147483647 : Int32)) % (3 : Int32))), (.int ((p2 &&& (2147483647 : Int32)) % (3 : Int32))), (.int ((p1 &&& (2147483647 : Int32)) % (3 : Int32))), (.int (p0 &&& (3 : Int32))), (.int (0 : Int32))])) rfl (by rw [hml]; rfl) (argsL := [(.int (p0 &&& (3 : Int32))), (.int ((p1 &&& (2147483647 : Int32)) % (3 : Int32))), (.int ((p2 &&& (2147483647 : Int32)) % (3 : Int32))), (.int ((p3 &&& (2147483647 : Int32)) % (3 : Int32))), (.int (-2 : Int32))]) (rest := [(.int (0 : Int32))]) (lenOf pd0_2 rfl) rfl (by show 2 * 0 + _ ≤ _; exact Nat.le_of_eq rfl) (hb hby at_137) (fun _ _ => ⟨rfl, e41, (by decide : 3 + 0 ≤ _), (by decide : 10 + 0 ≤ _)⟩)
          dsimp only [Pt.U, Pt.locs, Pt.cells, Pt.slots] at X42 l42 y42 z42 st42 hQ42
          subst l42 y42 z42
          obtain ⟨rfl, Nc42, e42⟩ := hQ42
          have N42 := Fr.app N41 Nc42
          refine Go.st st42 ?_
          show Go p e below s _ _ _ (T42.setTop (mkF m 140 #[.val (.int p0), .val (.int p1), .val (.int p2), .val (.int p3), .val (.int p4), .val (.int p5), .val (.int (p0 &&& (3 : Int32))), .val (.int ((p1 &&& (2147483647 : Int32)) % (3 : Int32))), .val (.int ((p2 &&& (2147483647 : Int32)) % (3 : Int32))), .val (.int ((p3 &&& (2147483647 : Int32)) % (3 : Int32))), .val (.ref a1), .val (.int (1 : Int32))] [(.int (fEx (p0 &&& (3 : Int32)) ((p1 &&& (2147483647 : Int32)) % (3 : Int32)) ((p2 &&& (2147483647 : Int32)) % (3 : Int32)) ((p3 &&& (2147483647 : Int32)) % (3 : Int32)) (-2 : Int32))), (.int (0 : Int32))]))
          refine Go.st (fun _ kq_ => XS.icmpNo X42.here hx rfl (hb hby at_140) rfl (XT.ii_ne_f (own_q3_m2 _ _ _ _ (own_n3 p0) c42_3 c57_15 c72_27)) kq_) ?_
          show Go p e below s _ _ _ (T42.setTop (mkF m 143 #[.val (.int p0), .val (.int p1), .val (.int p2), .val (.int p3), .val (.int p4), .val (.int p5), .val (.int (p0 &&& (3 : Int32))), .val (.int ((p1 &&& (2147483647 : Int32)) % (3 : Int32))), .val (.int ((p2 &&& (2147483647 : Int32)) % (3 : Int32))), .val (.int ((p3 &&& (2147483647 : Int32)) % (3 : Int32))), .val (.ref a1), .val (.int (1 : Int32))] []))
          refine Go.st (fun _ kq_ => XS.iconst X42.here hx rfl (hb hby at_143) kq_) ?_
          show Go p e below s _ _ _ (T42.setTop (mkF m 144 #[.val (.int p0), .val (.int p1), .val (.int p2), .val (.int p3), .val (.int p4), .val (.int p5), .val (.int (p0 &&& (3 : Int32))), .val (.int ((p1 &&& (2147483647 : Int32)) % (3 : Int32))), .val (.int ((p2 &&& (2147483647 : Int32)) % (3 : Int32))), .val (.int ((p3 &&& (2147483647 : Int32)) % (3 : Int32))), .val (.ref a1), .val (.int (1 : Int32))] [(.int (1 : Int32))]))
          refine Go.st (fun _ kq_ => XS.goto X42.here hx rfl (pc0 := 144) (pc' := 148) rfl (hb hby at_144) (by decide) (by decide) kq_) ?_
          show Go p e below s _ _ _ (T42.setTop (mkF m 148 #[.val (.int p0), .val (.int p1), .val (.int p2), .val (.int p3), .val (.int p4), .val (.int p5), .val (.int (p0 &&& (3 : Int32))), .val (.int ((p1 &&& (2147483647 : Int32)) % (3 : Int32))), .val (.int ((p2 &&& (2147483647 : Int32)) % (3 : Int32))), .val (.int ((p3 &&& (2147483647 : Int32)) % (3 : Int32))), .val (.ref a1), .val (.int (1 : Int32))] [(.int (1 : Int32))]))
          refine Go.st (fun _ kq_ => XS.istore X42.here hx rfl (hb hby at_148) rfl (l' := #[.val (.int p0), .val (.int p1), .val (.int p2), .val (.int p3), .val (.int p4), .val (.int p5), .val (.int (p0 &&& (3 : Int32))), .val (.int ((p1 &&& (2147483647 : Int32)) % (3 : Int32))), .val (.int ((p2 &&& (2147483647 : Int32)) % (3 : Int32))), .val (.int ((p3 &&& (2147483647 : Int32)) % (3 : Int32))), .val (.ref a1), .val (.int (1 : Int32))]) rfl kq_) ?_
          show Go p e below s _ _ _ (T42.setTop (mkF m 150 #[.val (.int p0), .val (.int p1), .val (.int p2), .val (.int p3), .val (.int p4), .val (.int p5), .val (.int (p0 &&& (3 : Int32))), .val (.int ((p1 &&& (2147483647 : Int32)) % (3 : Int32))), .val (.int ((p2 &&& (2147483647 : Int32)) % (3 : Int32))), .val (.int ((p3 &&& (2147483647 : Int32)) % (3 : Int32))), .val (.ref a1), .val (.int (1 : Int32))] []))
          refine Go.st (fun _ kq_ => XS.iload X42.here hx rfl (hb hby at_150) rfl kq_) ?_
          show Go p e below s _ _ _ (T42.setTop (mkF m 152 #[.val (.int p0), .val (.int p1), .val (.int p2), .val (.int p3), .val (.int p4), .val (.int p5), .val (.int (p0 &&& (3 : Int32))), .val (.int ((p1 &&& (2147483647 : Int32)) % (3 : Int32))), .val (.int ((p2 &&& (2147483647 : Int32)) % (3 : Int32))), .val (.int ((p3 &&& (2147483647 : Int32)) % (3 : Int32))), .val (.ref a1), .val (.int (1 : Int32))] [(.int (1 : Int32))]))
          refine Go.st (fun _ kq_ => XS.ifNo X42.here hx rfl (hb hby at_152) rfl (by decide) kq_) ?_
          show Go p e below s _ _ _ (T42.setTop (mkF m 155 #[.val (.int p0), .val (.int p1), .val (.int p2), .val (.int p3), .val (.int p4), .val (.int p5), .val (.int (p0 &&& (3 : Int32))), .val (.int ((p1 &&& (2147483647 : Int32)) % (3 : Int32))), .val (.int ((p2 &&& (2147483647 : Int32)) % (3 : Int32))), .val (.int ((p3 &&& (2147483647 : Int32)) % (3 : Int32))), .val (.ref a1), .val (.int (1 : Int32))] []))
          refine Go.st (fun _ kq_ => XS.aload X42.here hx rfl (hb hby at_155) rfl rfl kq_) ?_
          show Go p e below s _ _ _ (T42.setTop (mkF m 157 #[.val (.int p0), .val (.int p1), .val (.int p2), .val (.int p3), .val (.int p4), .val (.int p5), .val (.int (p0 &&& (3 : Int32))), .val (.int ((p1 &&& (2147483647 : Int32)) % (3 : Int32))), .val (.int ((p2 &&& (2147483647 : Int32)) % (3 : Int32))), .val (.int ((p3 &&& (2147483647 : Int32)) % (3 : Int32))), .val (.ref a1), .val (.int (1 : Int32))] [(.ref a1)]))
          refine Go.st (fun _ kq_ => XS.iconst X42.here hx rfl (hb hby at_157) kq_) ?_
          show Go p e below s _ _ _ (T42.setTop (mkF m 158 #[.val (.int p0), .val (.int p1), .val (.int p2), .val (.int p3), .val (.int p4), .val (.int p5), .val (.int (p0 &&& (3 : Int32))), .val (.int ((p1 &&& (2147483647 : Int32)) % (3 : Int32))), .val (.int ((p2 &&& (2147483647 : Int32)) % (3 : Int32))), .val (.int ((p3 &&& (2147483647 : Int32)) % (3 : Int32))), .val (.ref a1), .val (.int (1 : Int32))] [(.int (0 : Int32)), (.ref a1)]))
          obtain ⟨cq43, kq43, qa43, qb43, qc43⟩ := isOf hZ e42 E_a1
          obtain ⟨_, _, ⟨T43, L43, k43, n43⟩, -, X43, ⟨Lc43, hQ43, l43, y43, z43⟩, st43⟩ := X42.virtualBack hx (y := (⟨"com/example/element_ranker/elementranker/TagStatistics", "elementCount", "(I)I"⟩ : MethodName)) (z := (⟨"com/example/element_ranker/elementranker/TagStatistics", "elementCount", "(I)I"⟩ : MethodName)) hown (mvT hZ (own_w hw 16 rfl)) (mvT hZ (own_w hw 17 rfl)) (notFace_of_selects (args := #[]) (mvT hZ (own_w hw 19 rfl))) (mvT hZ (own_w hw 19 rfl)) (mvT hZ (own_w hw 18 rfl)) (by decide) (backOf (W := 0) (rme0 l Z a0 hw [] a1 b2 kb2 d2 kd2 (ad 0 ((p3 &&& (2147483647 : Int32)) % (3 : Int32)) (ad 0 ((p2 &&& (2147483647 : Int32)) % (3 : Int32)) (ad 0 ((p1 &&& (2147483647 : Int32)) % (3 : Int32)) (0 : Int32)))) (ad 1 ((p3 &&& (2147483647 : Int32)) % (3 : Int32)) (ad 1 ((p2 &&& (2147483647 : Int32)) % (3 : Int32)) (ad 1 ((p1 &&& (2147483647 : Int32)) % (3 : Int32)) (0 : Int32)))) (ad 2 ((p3 &&& (2147483647 : Int32)) % (3 : Int32)) (ad 2 ((p2 &&& (2147483647 : Int32)) % (3 : Int32)) (ad 2 ((p1 &&& (2147483647 : Int32)) % (3 : Int32)) (0 : Int32)))) (adL 0 ((p3 &&& (2147483647 : Int32)) % (3 : Int32)) (p4 ^^^ p5) (adL 0 ((p2 &&& (2147483647 : Int32)) % (3 : Int32)) p5 (adL 0 ((p1 &&& (2147483647 : Int32)) % (3 : Int32)) p4 (0 : Int64)))) (adL 1 ((p3 &&& (2147483647 : Int32)) % (3 : Int32)) (p4 ^^^ p5) (adL 1 ((p2 &&& (2147483647 : Int32)) % (3 : Int32)) p5 (adL 1 ((p1 &&& (2147483647 : Int32)) % (3 : Int32)) p4 (0 : Int64)))) (adL 2 ((p3 &&& (2147483647 : Int32)) % (3 : Int32)) (p4 ^^^ p5) (adL 2 ((p2 &&& (2147483647 : Int32)) % (3 : Int32)) p5 (adL 2 ((p1 &&& (2147483647 : Int32)) % (3 : Int32)) p4 (0 : Int64)))) ((((0 : Int32) + (1 : Int32)) + (1 : Int32)) + (1 : Int32)) ((((0 : Int64) + p4.toInt64) + p5.toInt64) + (p4 ^^^ p5).toInt64) T38.heap n0 O38 E_a1 F_a1_elementCounts F_a1_totalLengths F_a1_elementCount F_a1_totalLength V_b2 V_d2) hZ (own_w hw 20 rfl) (own_w hw 3 rfl) (by decide) (by decide)) qa43 qc43 (g := (mkF m 158 #[.val (.int p0), .val (.int p1), .val (.int p2), .val (.int p3), .val (.int p4), .val (.int p5), .val (.int (p0 &&& (3 : Int32))), .val (.int ((p1 &&& (2147483647 : Int32)) % (3 : Int32))), .val (.int ((p2 &&& (2147483647 : Int32)) % (3 : Int32))), .val (.int ((p3 &&& (2147483647 : Int32)) % (3 : Int32))), .val (.ref a1), .val (.int (1 : Int32))] [(.int (0 : Int32)), (.ref a1)])) rfl (by rw [hml]; rfl) (Steps.refl _) (argsL := [(.int (0 : Int32))]) (rest := []) (lenOf pd0_1 rfl) rfl (by show 2 * 0 + _ ≤ _; exact Nat.le_of_eq rfl) (hb hby at_158) (fun _ _ => ⟨rfl, e42, (by decide : 3 + 0 ≤ _), (by decide : 10 + 0 ≤ _)⟩)
          dsimp only [Pt.U, Pt.locs, Pt.cells, Pt.slots] at X43 l43 y43 z43 st43 hQ43
          subst l43 y43 z43
          obtain ⟨rfl, Nc43, e43⟩ := hQ43
          have N43 := Fr.app N42 Nc43
          refine Go.tr st43 ?_
          show Go p e below s _ _ _ (T43.setTop (mkF m 161 #[.val (.int p0), .val (.int p1), .val (.int p2), .val (.int p3), .val (.int p4), .val (.int p5), .val (.int (p0 &&& (3 : Int32))), .val (.int ((p1 &&& (2147483647 : Int32)) % (3 : Int32))), .val (.int ((p2 &&& (2147483647 : Int32)) % (3 : Int32))), .val (.int ((p3 &&& (2147483647 : Int32)) % (3 : Int32))), .val (.ref a1), .val (.int (1 : Int32))] [(.int (ad 0 ((p3 &&& (2147483647 : Int32)) % (3 : Int32)) (ad 0 ((p2 &&& (2147483647 : Int32)) % (3 : Int32)) (ad 0 ((p1 &&& (2147483647 : Int32)) % (3 : Int32)) (0 : Int32)))))]))
          refine Go.st (fun _ kq_ => XS.iload X43.here hx rfl (hb hby at_161) rfl kq_) ?_
          show Go p e below s _ _ _ (T43.setTop (mkF m 163 #[.val (.int p0), .val (.int p1), .val (.int p2), .val (.int p3), .val (.int p4), .val (.int p5), .val (.int (p0 &&& (3 : Int32))), .val (.int ((p1 &&& (2147483647 : Int32)) % (3 : Int32))), .val (.int ((p2 &&& (2147483647 : Int32)) % (3 : Int32))), .val (.int ((p3 &&& (2147483647 : Int32)) % (3 : Int32))), .val (.ref a1), .val (.int (1 : Int32))] [(.int (p0 &&& (3 : Int32))), (.int (ad 0 ((p3 &&& (2147483647 : Int32)) % (3 : Int32)) (ad 0 ((p2 &&& (2147483647 : Int32)) % (3 : Int32)) (ad 0 ((p1 &&& (2147483647 : Int32)) % (3 : Int32)) (0 : Int32)))))]))
          refine Go.st (fun _ kq_ => XS.iload X43.here hx rfl (hb hby at_163) rfl kq_) ?_
          show Go p e below s _ _ _ (T43.setTop (mkF m 165 #[.val (.int p0), .val (.int p1), .val (.int p2), .val (.int p3), .val (.int p4), .val (.int p5), .val (.int (p0 &&& (3 : Int32))), .val (.int ((p1 &&& (2147483647 : Int32)) % (3 : Int32))), .val (.int ((p2 &&& (2147483647 : Int32)) % (3 : Int32))), .val (.int ((p3 &&& (2147483647 : Int32)) % (3 : Int32))), .val (.ref a1), .val (.int (1 : Int32))] [(.int ((p1 &&& (2147483647 : Int32)) % (3 : Int32))), (.int (p0 &&& (3 : Int32))), (.int (ad 0 ((p3 &&& (2147483647 : Int32)) % (3 : Int32)) (ad 0 ((p2 &&& (2147483647 : Int32)) % (3 : Int32)) (ad 0 ((p1 &&& (2147483647 : Int32)) % (3 : Int32)) (0 : Int32)))))]))
          refine Go.st (fun _ kq_ => XS.iload X43.here hx rfl (hb hby at_165) rfl kq_) ?_
          show Go p e below s _ _ _ (T43.setTop (mkF m 167 #[.val (.int p0), .val (.int p1), .val (.int p2), .val (.int p3), .val (.int p4), .val (.int p5), .val (.int (p0 &&& (3 : Int32))), .val (.int ((p1 &&& (2147483647 : Int32)) % (3 : Int32))), .val (.int ((p2 &&& (2147483647 : Int32)) % (3 : Int32))), .val (.int ((p3 &&& (2147483647 : Int32)) % (3 : Int32))), .val (.ref a1), .val (.int (1 : Int32))] [(.int ((p2 &&& (2147483647 : Int32)) % (3 : Int32))), (.int ((p1 &&& (2147483647 : Int32)) % (3 : Int32))), (.int (p0 &&& (3 : Int32))), (.int (ad 0 ((p3 &&& (2147483647 : Int32)) % (3 : Int32)) (ad 0 ((p2 &&& (2147483647 : Int32)) % (3 : Int32)) (ad 0 ((p1 &&& (2147483647 : Int32)) % (3 : Int32)) (0 : Int32)))))]))
          refine Go.st (fun _ kq_ => XS.iload X43.here hx rfl (hb hby at_167) rfl kq_) ?_
          show Go p e below s _ _ _ (T43.setTop (mkF m 169 #[.val (.int p0), .val (.int p1), .val (.int p2), .val (.int p3), .val (.int p4), .val (.int p5), .val (.int (p0 &&& (3 : Int32))), .val (.int ((p1 &&& (2147483647 : Int32)) % (3 : Int32))), .val (.int ((p2 &&& (2147483647 : Int32)) % (3 : Int32))), .val (.int ((p3 &&& (2147483647 : Int32)) % (3 : Int32))), .val (.ref a1), .val (.int (1 : Int32))] [(.int ((p3 &&& (2147483647 : Int32)) % (3 : Int32))), (.int ((p2 &&& (2147483647 : Int32)) % (3 : Int32))), (.int ((p1 &&& (2147483647 : Int32)) % (3 : Int32))), (.int (p0 &&& (3 : Int32))), (.int (ad 0 ((p3 &&& (2147483647 : Int32)) % (3 : Int32)) (ad 0 ((p2 &&& (2147483647 : Int32)) % (3 : Int32)) (ad 0 ((p1 &&& (2147483647 : Int32)) % (3 : Int32)) (0 : Int32)))))]))
          refine Go.st (fun _ kq_ => XS.iconst X43.here hx rfl (hb hby at_169) kq_) ?_
          show Go p e below s _ _ _ (T43.setTop (mkF m 170 #[.val (.int p0), .val (.int p1), .val (.int p2), .val (.int p3), .val (.int p4), .val (.int p5), .val (.int (p0 &&& (3 : Int32))), .val (.int ((p1 &&& (2147483647 : Int32)) % (3 : Int32))), .val (.int ((p2 &&& (2147483647 : Int32)) % (3 : Int32))), .val (.int ((p3 &&& (2147483647 : Int32)) % (3 : Int32))), .val (.ref a1), .val (.int (1 : Int32))] [(.int (0 : Int32)), (.int ((p3 &&& (2147483647 : Int32)) % (3 : Int32))), (.int ((p2 &&& (2147483647 : Int32)) % (3 : Int32))), (.int ((p1 &&& (2147483647 : Int32)) % (3 : Int32))), (.int (p0 &&& (3 : Int32))), (.int (ad 0 ((p3 &&& (2147483647 : Int32)) % (3 : Int32)) (ad 0 ((p2 &&& (2147483647 : Int32)) % (3 : Int32)) (ad 0 ((p1 &&& (2147483647 : Int32)) % (3 : Int32)) (0 : Int32)))))]))
          obtain ⟨_, _, ⟨T44, L44, k44, n44⟩, -, X44, ⟨Lc44, hQ44, l44, y44, z44⟩, st44⟩ := Jvm.LawKit.callS X43 hx (y := (⟨"com/example/element_ranker/elementranker/TagStatisticsElementCountPinLaw", "expected", "(IIIII)I"⟩ : MethodName)) hown (mvT hZ (own_w hw 23 rfl)) (mvT hZ (own_w hw 24 rfl)) (mvT hZ (own_w hw 25 rfl)) (mvT hZ (own_w hw 26 rfl)) (by decide) (backOf (W := 1) (rmx l Z a0 hw [] (p0 &&& (3 : Int32)) ((p1 &&& (2147483647 : Int32)) % (3 : Int32)) ((p2 &&& (2147483647 : Int32)) % (3 : Int32)) ((p3 &&& (2147483647 : Int32)) % (3 : Int32)) (0 : Int32) T38.heap n0 O38 ) hZ (own_w hw 26 rfl) (own_w hw 25 rfl) (by decide) (by decide)) (g := (mkF m 170 #[.val (.int p0), .val (.int p1), .val (.int p2), .val (.int p3), .val (.int p4), .val (.int p5), .val (.int (p0 &&& (3 : Int32))), .val (.int ((p1 &&& (2147483647 : Int32)) % (3 : Int32))), .val (.int ((p2 &&& (2147483647 : Int32)) % (3 : Int32))), .val (.int ((p3 &&& (2147483647 : Int32)) % (3 : Int32))), .val (.ref a1), .val (.int (1 : Int32))] [(.int (0 : Int32)), (.int ((p3 &&& (2147483647 : Int32)) % (3 : Int32))), (.int ((p2 &&& (2147483647 : Int32)) % (3 : Int32))), (.int ((p1 &&& (2147483647 : Int32)) % (3 : Int32))), (.int (p0 &&& (3 : Int32))), (.int (ad 0 ((p3 &&& (2147483647 : Int32)) % (3 : Int32)) (ad 0 ((p2 &&& (2147483647 : Int32)) % (3 : Int32)) (ad 0 ((p1 &&& (2147483647 : Int32)) % (3 : Int32)) (0 : Int32)))))])) rfl (by rw [hml]; rfl) (argsL := [(.int (p0 &&& (3 : Int32))), (.int ((p1 &&& (2147483647 : Int32)) % (3 : Int32))), (.int ((p2 &&& (2147483647 : Int32)) % (3 : Int32))), (.int ((p3 &&& (2147483647 : Int32)) % (3 : Int32))), (.int (0 : Int32))]) (rest := [(.int (ad 0 ((p3 &&& (2147483647 : Int32)) % (3 : Int32)) (ad 0 ((p2 &&& (2147483647 : Int32)) % (3 : Int32)) (ad 0 ((p1 &&& (2147483647 : Int32)) % (3 : Int32)) (0 : Int32)))))]) (lenOf pd0_2 rfl) rfl (by show 2 * 0 + _ ≤ _; exact Nat.le_of_eq rfl) (hb hby at_170) (fun _ _ => ⟨rfl, e43, (by decide : 3 + 0 ≤ _), (by decide : 10 + 0 ≤ _)⟩)
          dsimp only [Pt.U, Pt.locs, Pt.cells, Pt.slots] at X44 l44 y44 z44 st44 hQ44
          subst l44 y44 z44
          obtain ⟨rfl, Nc44, e44⟩ := hQ44
          have N44 := Fr.app N43 Nc44
          refine Go.st st44 ?_
          show Go p e below s _ _ _ (T44.setTop (mkF m 173 #[.val (.int p0), .val (.int p1), .val (.int p2), .val (.int p3), .val (.int p4), .val (.int p5), .val (.int (p0 &&& (3 : Int32))), .val (.int ((p1 &&& (2147483647 : Int32)) % (3 : Int32))), .val (.int ((p2 &&& (2147483647 : Int32)) % (3 : Int32))), .val (.int ((p3 &&& (2147483647 : Int32)) % (3 : Int32))), .val (.ref a1), .val (.int (1 : Int32))] [(.int (fEx (p0 &&& (3 : Int32)) ((p1 &&& (2147483647 : Int32)) % (3 : Int32)) ((p2 &&& (2147483647 : Int32)) % (3 : Int32)) ((p3 &&& (2147483647 : Int32)) % (3 : Int32)) (0 : Int32))), (.int (ad 0 ((p3 &&& (2147483647 : Int32)) % (3 : Int32)) (ad 0 ((p2 &&& (2147483647 : Int32)) % (3 : Int32)) (ad 0 ((p1 &&& (2147483647 : Int32)) % (3 : Int32)) (0 : Int32)))))]))
          refine Go.st (fun _ kq_ => XS.icmpNo X44.here hx rfl (hb hby at_173) rfl (XT.ii_ne_f (own_q3_0 _ _ _ _ (own_n3 p0) c42_3 c57_15 c72_27)) kq_) ?_
          show Go p e below s _ _ _ (T44.setTop (mkF m 176 #[.val (.int p0), .val (.int p1), .val (.int p2), .val (.int p3), .val (.int p4), .val (.int p5), .val (.int (p0 &&& (3 : Int32))), .val (.int ((p1 &&& (2147483647 : Int32)) % (3 : Int32))), .val (.int ((p2 &&& (2147483647 : Int32)) % (3 : Int32))), .val (.int ((p3 &&& (2147483647 : Int32)) % (3 : Int32))), .val (.ref a1), .val (.int (1 : Int32))] []))
          refine Go.st (fun _ kq_ => XS.iconst X44.here hx rfl (hb hby at_176) kq_) ?_
          show Go p e below s _ _ _ (T44.setTop (mkF m 177 #[.val (.int p0), .val (.int p1), .val (.int p2), .val (.int p3), .val (.int p4), .val (.int p5), .val (.int (p0 &&& (3 : Int32))), .val (.int ((p1 &&& (2147483647 : Int32)) % (3 : Int32))), .val (.int ((p2 &&& (2147483647 : Int32)) % (3 : Int32))), .val (.int ((p3 &&& (2147483647 : Int32)) % (3 : Int32))), .val (.ref a1), .val (.int (1 : Int32))] [(.int (1 : Int32))]))
          refine Go.st (fun _ kq_ => XS.goto X44.here hx rfl (pc0 := 177) (pc' := 181) rfl (hb hby at_177) (by decide) (by decide) kq_) ?_
          show Go p e below s _ _ _ (T44.setTop (mkF m 181 #[.val (.int p0), .val (.int p1), .val (.int p2), .val (.int p3), .val (.int p4), .val (.int p5), .val (.int (p0 &&& (3 : Int32))), .val (.int ((p1 &&& (2147483647 : Int32)) % (3 : Int32))), .val (.int ((p2 &&& (2147483647 : Int32)) % (3 : Int32))), .val (.int ((p3 &&& (2147483647 : Int32)) % (3 : Int32))), .val (.ref a1), .val (.int (1 : Int32))] [(.int (1 : Int32))]))
          refine Go.st (fun _ kq_ => XS.istore X44.here hx rfl (hb hby at_181) rfl (l' := #[.val (.int p0), .val (.int p1), .val (.int p2), .val (.int p3), .val (.int p4), .val (.int p5), .val (.int (p0 &&& (3 : Int32))), .val (.int ((p1 &&& (2147483647 : Int32)) % (3 : Int32))), .val (.int ((p2 &&& (2147483647 : Int32)) % (3 : Int32))), .val (.int ((p3 &&& (2147483647 : Int32)) % (3 : Int32))), .val (.ref a1), .val (.int (1 : Int32))]) rfl kq_) ?_
          show Go p e below s _ _ _ (T44.setTop (mkF m 183 #[.val (.int p0), .val (.int p1), .val (.int p2), .val (.int p3), .val (.int p4), .val (.int p5), .val (.int (p0 &&& (3 : Int32))), .val (.int ((p1 &&& (2147483647 : Int32)) % (3 : Int32))), .val (.int ((p2 &&& (2147483647 : Int32)) % (3 : Int32))), .val (.int ((p3 &&& (2147483647 : Int32)) % (3 : Int32))), .val (.ref a1), .val (.int (1 : Int32))] []))
          refine Go.st (fun _ kq_ => XS.iload X44.here hx rfl (hb hby at_183) rfl kq_) ?_
          show Go p e below s _ _ _ (T44.setTop (mkF m 185 #[.val (.int p0), .val (.int p1), .val (.int p2), .val (.int p3), .val (.int p4), .val (.int p5), .val (.int (p0 &&& (3 : Int32))), .val (.int ((p1 &&& (2147483647 : Int32)) % (3 : Int32))), .val (.int ((p2 &&& (2147483647 : Int32)) % (3 : Int32))), .val (.int ((p3 &&& (2147483647 : Int32)) % (3 : Int32))), .val (.ref a1), .val (.int (1 : Int32))] [(.int (1 : Int32))]))
          refine Go.st (fun _ kq_ => XS.ifNo X44.here hx rfl (hb hby at_185) rfl (by decide) kq_) ?_
          show Go p e below s _ _ _ (T44.setTop (mkF m 188 #[.val (.int p0), .val (.int p1), .val (.int p2), .val (.int p3), .val (.int p4), .val (.int p5), .val (.int (p0 &&& (3 : Int32))), .val (.int ((p1 &&& (2147483647 : Int32)) % (3 : Int32))), .val (.int ((p2 &&& (2147483647 : Int32)) % (3 : Int32))), .val (.int ((p3 &&& (2147483647 : Int32)) % (3 : Int32))), .val (.ref a1), .val (.int (1 : Int32))] []))
          refine Go.st (fun _ kq_ => XS.aload X44.here hx rfl (hb hby at_188) rfl rfl kq_) ?_
          show Go p e below s _ _ _ (T44.setTop (mkF m 190 #[.val (.int p0), .val (.int p1), .val (.int p2), .val (.int p3), .val (.int p4), .val (.int p5), .val (.int (p0 &&& (3 : Int32))), .val (.int ((p1 &&& (2147483647 : Int32)) % (3 : Int32))), .val (.int ((p2 &&& (2147483647 : Int32)) % (3 : Int32))), .val (.int ((p3 &&& (2147483647 : Int32)) % (3 : Int32))), .val (.ref a1), .val (.int (1 : Int32))] [(.ref a1)]))
          refine Go.st (fun _ kq_ => XS.iconst X44.here hx rfl (hb hby at_190) kq_) ?_
          show Go p e below s _ _ _ (T44.setTop (mkF m 191 #[.val (.int p0), .val (.int p1), .val (.int p2), .val (.int p3), .val (.int p4), .val (.int p5), .val (.int (p0 &&& (3 : Int32))), .val (.int ((p1 &&& (2147483647 : Int32)) % (3 : Int32))), .val (.int ((p2 &&& (2147483647 : Int32)) % (3 : Int32))), .val (.int ((p3 &&& (2147483647 : Int32)) % (3 : Int32))), .val (.ref a1), .val (.int (1 : Int32))] [(.int (1 : Int32)), (.ref a1)]))
          obtain ⟨cq45, kq45, qa45, qb45, qc45⟩ := isOf hZ e44 E_a1
          obtain ⟨_, _, ⟨T45, L45, k45, n45⟩, -, X45, ⟨Lc45, hQ45, l45, y45, z45⟩, st45⟩ := X44.virtualBack hx (y := (⟨"com/example/element_ranker/elementranker/TagStatistics", "elementCount", "(I)I"⟩ : MethodName)) (z := (⟨"com/example/element_ranker/elementranker/TagStatistics", "elementCount", "(I)I"⟩ : MethodName)) hown (mvT hZ (own_w hw 16 rfl)) (mvT hZ (own_w hw 17 rfl)) (notFace_of_selects (args := #[]) (mvT hZ (own_w hw 19 rfl))) (mvT hZ (own_w hw 19 rfl)) (mvT hZ (own_w hw 18 rfl)) (by decide) (backOf (W := 0) (rme1 l Z a0 hw [] a1 b2 kb2 d2 kd2 (ad 0 ((p3 &&& (2147483647 : Int32)) % (3 : Int32)) (ad 0 ((p2 &&& (2147483647 : Int32)) % (3 : Int32)) (ad 0 ((p1 &&& (2147483647 : Int32)) % (3 : Int32)) (0 : Int32)))) (ad 1 ((p3 &&& (2147483647 : Int32)) % (3 : Int32)) (ad 1 ((p2 &&& (2147483647 : Int32)) % (3 : Int32)) (ad 1 ((p1 &&& (2147483647 : Int32)) % (3 : Int32)) (0 : Int32)))) (ad 2 ((p3 &&& (2147483647 : Int32)) % (3 : Int32)) (ad 2 ((p2 &&& (2147483647 : Int32)) % (3 : Int32)) (ad 2 ((p1 &&& (2147483647 : Int32)) % (3 : Int32)) (0 : Int32)))) (adL 0 ((p3 &&& (2147483647 : Int32)) % (3 : Int32)) (p4 ^^^ p5) (adL 0 ((p2 &&& (2147483647 : Int32)) % (3 : Int32)) p5 (adL 0 ((p1 &&& (2147483647 : Int32)) % (3 : Int32)) p4 (0 : Int64)))) (adL 1 ((p3 &&& (2147483647 : Int32)) % (3 : Int32)) (p4 ^^^ p5) (adL 1 ((p2 &&& (2147483647 : Int32)) % (3 : Int32)) p5 (adL 1 ((p1 &&& (2147483647 : Int32)) % (3 : Int32)) p4 (0 : Int64)))) (adL 2 ((p3 &&& (2147483647 : Int32)) % (3 : Int32)) (p4 ^^^ p5) (adL 2 ((p2 &&& (2147483647 : Int32)) % (3 : Int32)) p5 (adL 2 ((p1 &&& (2147483647 : Int32)) % (3 : Int32)) p4 (0 : Int64)))) ((((0 : Int32) + (1 : Int32)) + (1 : Int32)) + (1 : Int32)) ((((0 : Int64) + p4.toInt64) + p5.toInt64) + (p4 ^^^ p5).toInt64) T38.heap n0 O38 E_a1 F_a1_elementCounts F_a1_totalLengths F_a1_elementCount F_a1_totalLength V_b2 V_d2) hZ (own_w hw 20 rfl) (own_w hw 3 rfl) (by decide) (by decide)) qa45 qc45 (g := (mkF m 191 #[.val (.int p0), .val (.int p1), .val (.int p2), .val (.int p3), .val (.int p4), .val (.int p5), .val (.int (p0 &&& (3 : Int32))), .val (.int ((p1 &&& (2147483647 : Int32)) % (3 : Int32))), .val (.int ((p2 &&& (2147483647 : Int32)) % (3 : Int32))), .val (.int ((p3 &&& (2147483647 : Int32)) % (3 : Int32))), .val (.ref a1), .val (.int (1 : Int32))] [(.int (1 : Int32)), (.ref a1)])) rfl (by rw [hml]; rfl) (Steps.refl _) (argsL := [(.int (1 : Int32))]) (rest := []) (lenOf pd0_1 rfl) rfl (by show 2 * 0 + _ ≤ _; exact Nat.le_of_eq rfl) (hb hby at_191) (fun _ _ => ⟨rfl, e44, (by decide : 3 + 0 ≤ _), (by decide : 10 + 0 ≤ _)⟩)
          dsimp only [Pt.U, Pt.locs, Pt.cells, Pt.slots] at X45 l45 y45 z45 st45 hQ45
          subst l45 y45 z45
          obtain ⟨rfl, Nc45, e45⟩ := hQ45
          have N45 := Fr.app N44 Nc45
          refine Go.tr st45 ?_
          show Go p e below s _ _ _ (T45.setTop (mkF m 194 #[.val (.int p0), .val (.int p1), .val (.int p2), .val (.int p3), .val (.int p4), .val (.int p5), .val (.int (p0 &&& (3 : Int32))), .val (.int ((p1 &&& (2147483647 : Int32)) % (3 : Int32))), .val (.int ((p2 &&& (2147483647 : Int32)) % (3 : Int32))), .val (.int ((p3 &&& (2147483647 : Int32)) % (3 : Int32))), .val (.ref a1), .val (.int (1 : Int32))] [(.int (ad 1 ((p3 &&& (2147483647 : Int32)) % (3 : Int32)) (ad 1 ((p2 &&& (2147483647 : Int32)) % (3 : Int32)) (ad 1 ((p1 &&& (2147483647 : Int32)) % (3 : Int32)) (0 : Int32)))))]))
          refine Go.st (fun _ kq_ => XS.iload X45.here hx rfl (hb hby at_194) rfl kq_) ?_
          show Go p e below s _ _ _ (T45.setTop (mkF m 196 #[.val (.int p0), .val (.int p1), .val (.int p2), .val (.int p3), .val (.int p4), .val (.int p5), .val (.int (p0 &&& (3 : Int32))), .val (.int ((p1 &&& (2147483647 : Int32)) % (3 : Int32))), .val (.int ((p2 &&& (2147483647 : Int32)) % (3 : Int32))), .val (.int ((p3 &&& (2147483647 : Int32)) % (3 : Int32))), .val (.ref a1), .val (.int (1 : Int32))] [(.int (p0 &&& (3 : Int32))), (.int (ad 1 ((p3 &&& (2147483647 : Int32)) % (3 : Int32)) (ad 1 ((p2 &&& (2147483647 : Int32)) % (3 : Int32)) (ad 1 ((p1 &&& (2147483647 : Int32)) % (3 : Int32)) (0 : Int32)))))]))
          refine Go.st (fun _ kq_ => XS.iload X45.here hx rfl (hb hby at_196) rfl kq_) ?_
          show Go p e below s _ _ _ (T45.setTop (mkF m 198 #[.val (.int p0), .val (.int p1), .val (.int p2), .val (.int p3), .val (.int p4), .val (.int p5), .val (.int (p0 &&& (3 : Int32))), .val (.int ((p1 &&& (2147483647 : Int32)) % (3 : Int32))), .val (.int ((p2 &&& (2147483647 : Int32)) % (3 : Int32))), .val (.int ((p3 &&& (2147483647 : Int32)) % (3 : Int32))), .val (.ref a1), .val (.int (1 : Int32))] [(.int ((p1 &&& (2147483647 : Int32)) % (3 : Int32))), (.int (p0 &&& (3 : Int32))), (.int (ad 1 ((p3 &&& (2147483647 : Int32)) % (3 : Int32)) (ad 1 ((p2 &&& (2147483647 : Int32)) % (3 : Int32)) (ad 1 ((p1 &&& (2147483647 : Int32)) % (3 : Int32)) (0 : Int32)))))]))
          refine Go.st (fun _ kq_ => XS.iload X45.here hx rfl (hb hby at_198) rfl kq_) ?_
          show Go p e below s _ _ _ (T45.setTop (mkF m 200 #[.val (.int p0), .val (.int p1), .val (.int p2), .val (.int p3), .val (.int p4), .val (.int p5), .val (.int (p0 &&& (3 : Int32))), .val (.int ((p1 &&& (2147483647 : Int32)) % (3 : Int32))), .val (.int ((p2 &&& (2147483647 : Int32)) % (3 : Int32))), .val (.int ((p3 &&& (2147483647 : Int32)) % (3 : Int32))), .val (.ref a1), .val (.int (1 : Int32))] [(.int ((p2 &&& (2147483647 : Int32)) % (3 : Int32))), (.int ((p1 &&& (2147483647 : Int32)) % (3 : Int32))), (.int (p0 &&& (3 : Int32))), (.int (ad 1 ((p3 &&& (2147483647 : Int32)) % (3 : Int32)) (ad 1 ((p2 &&& (2147483647 : Int32)) % (3 : Int32)) (ad 1 ((p1 &&& (2147483647 : Int32)) % (3 : Int32)) (0 : Int32)))))]))
          refine Go.st (fun _ kq_ => XS.iload X45.here hx rfl (hb hby at_200) rfl kq_) ?_
          show Go p e below s _ _ _ (T45.setTop (mkF m 202 #[.val (.int p0), .val (.int p1), .val (.int p2), .val (.int p3), .val (.int p4), .val (.int p5), .val (.int (p0 &&& (3 : Int32))), .val (.int ((p1 &&& (2147483647 : Int32)) % (3 : Int32))), .val (.int ((p2 &&& (2147483647 : Int32)) % (3 : Int32))), .val (.int ((p3 &&& (2147483647 : Int32)) % (3 : Int32))), .val (.ref a1), .val (.int (1 : Int32))] [(.int ((p3 &&& (2147483647 : Int32)) % (3 : Int32))), (.int ((p2 &&& (2147483647 : Int32)) % (3 : Int32))), (.int ((p1 &&& (2147483647 : Int32)) % (3 : Int32))), (.int (p0 &&& (3 : Int32))), (.int (ad 1 ((p3 &&& (2147483647 : Int32)) % (3 : Int32)) (ad 1 ((p2 &&& (2147483647 : Int32)) % (3 : Int32)) (ad 1 ((p1 &&& (2147483647 : Int32)) % (3 : Int32)) (0 : Int32)))))]))
          refine Go.st (fun _ kq_ => XS.iconst X45.here hx rfl (hb hby at_202) kq_) ?_
          show Go p e below s _ _ _ (T45.setTop (mkF m 203 #[.val (.int p0), .val (.int p1), .val (.int p2), .val (.int p3), .val (.int p4), .val (.int p5), .val (.int (p0 &&& (3 : Int32))), .val (.int ((p1 &&& (2147483647 : Int32)) % (3 : Int32))), .val (.int ((p2 &&& (2147483647 : Int32)) % (3 : Int32))), .val (.int ((p3 &&& (2147483647 : Int32)) % (3 : Int32))), .val (.ref a1), .val (.int (1 : Int32))] [(.int (1 : Int32)), (.int ((p3 &&& (2147483647 : Int32)) % (3 : Int32))), (.int ((p2 &&& (2147483647 : Int32)) % (3 : Int32))), (.int ((p1 &&& (2147483647 : Int32)) % (3 : Int32))), (.int (p0 &&& (3 : Int32))), (.int (ad 1 ((p3 &&& (2147483647 : Int32)) % (3 : Int32)) (ad 1 ((p2 &&& (2147483647 : Int32)) % (3 : Int32)) (ad 1 ((p1 &&& (2147483647 : Int32)) % (3 : Int32)) (0 : Int32)))))]))
          obtain ⟨_, _, ⟨T46, L46, k46, n46⟩, -, X46, ⟨Lc46, hQ46, l46, y46, z46⟩, st46⟩ := Jvm.LawKit.callS X45 hx (y := (⟨"com/example/element_ranker/elementranker/TagStatisticsElementCountPinLaw", "expected", "(IIIII)I"⟩ : MethodName)) hown (mvT hZ (own_w hw 23 rfl)) (mvT hZ (own_w hw 24 rfl)) (mvT hZ (own_w hw 25 rfl)) (mvT hZ (own_w hw 26 rfl)) (by decide) (backOf (W := 1) (rmx l Z a0 hw [] (p0 &&& (3 : Int32)) ((p1 &&& (2147483647 : Int32)) % (3 : Int32)) ((p2 &&& (2147483647 : Int32)) % (3 : Int32)) ((p3 &&& (2147483647 : Int32)) % (3 : Int32)) (1 : Int32) T38.heap n0 O38 ) hZ (own_w hw 26 rfl) (own_w hw 25 rfl) (by decide) (by decide)) (g := (mkF m 203 #[.val (.int p0), .val (.int p1), .val (.int p2), .val (.int p3), .val (.int p4), .val (.int p5), .val (.int (p0 &&& (3 : Int32))), .val (.int ((p1 &&& (2147483647 : Int32)) % (3 : Int32))), .val (.int ((p2 &&& (2147483647 : Int32)) % (3 : Int32))), .val (.int ((p3 &&& (2147483647 : Int32)) % (3 : Int32))), .val (.ref a1), .val (.int (1 : Int32))] [(.int (1 : Int32)), (.int ((p3 &&& (2147483647 : Int32)) % (3 : Int32))), (.int ((p2 &&& (2147483647 : Int32)) % (3 : Int32))), (.int ((p1 &&& (2147483647 : Int32)) % (3 : Int32))), (.int (p0 &&& (3 : Int32))), (.int (ad 1 ((p3 &&& (2147483647 : Int32)) % (3 : Int32)) (ad 1 ((p2 &&& (2147483647 : Int32)) % (3 : Int32)) (ad 1 ((p1 &&& (2147483647 : Int32)) % (3 : Int32)) (0 : Int32)))))])) rfl (by rw [hml]; rfl) (argsL := [(.int (p0 &&& (3 : Int32))), (.int ((p1 &&& (2147483647 : Int32)) % (3 : Int32))), (.int ((p2 &&& (2147483647 : Int32)) % (3 : Int32))), (.int ((p3 &&& (2147483647 : Int32)) % (3 : Int32))), (.int (1 : Int32))]) (rest := [(.int (ad 1 ((p3 &&& (2147483647 : Int32)) % (3 : Int32)) (ad 1 ((p2 &&& (2147483647 : Int32)) % (3 : Int32)) (ad 1 ((p1 &&& (2147483647 : Int32)) % (3 : Int32)) (0 : Int32)))))]) (lenOf pd0_2 rfl) rfl (by show 2 * 0 + _ ≤ _; exact Nat.le_of_eq rfl) (hb hby at_203) (fun _ _ => ⟨rfl, e45, (by decide : 3 + 0 ≤ _), (by decide : 10 + 0 ≤ _)⟩)
          dsimp only [Pt.U, Pt.locs, Pt.cells, Pt.slots] at X46 l46 y46 z46 st46 hQ46
          subst l46 y46 z46
          obtain ⟨rfl, Nc46, e46⟩ := hQ46
          have N46 := Fr.app N45 Nc46
          refine Go.st st46 ?_
          show Go p e below s _ _ _ (T46.setTop (mkF m 206 #[.val (.int p0), .val (.int p1), .val (.int p2), .val (.int p3), .val (.int p4), .val (.int p5), .val (.int (p0 &&& (3 : Int32))), .val (.int ((p1 &&& (2147483647 : Int32)) % (3 : Int32))), .val (.int ((p2 &&& (2147483647 : Int32)) % (3 : Int32))), .val (.int ((p3 &&& (2147483647 : Int32)) % (3 : Int32))), .val (.ref a1), .val (.int (1 : Int32))] [(.int (fEx (p0 &&& (3 : Int32)) ((p1 &&& (2147483647 : Int32)) % (3 : Int32)) ((p2 &&& (2147483647 : Int32)) % (3 : Int32)) ((p3 &&& (2147483647 : Int32)) % (3 : Int32)) (1 : Int32))), (.int (ad 1 ((p3 &&& (2147483647 : Int32)) % (3 : Int32)) (ad 1 ((p2 &&& (2147483647 : Int32)) % (3 : Int32)) (ad 1 ((p1 &&& (2147483647 : Int32)) % (3 : Int32)) (0 : Int32)))))]))
          refine Go.st (fun _ kq_ => XS.icmpNo X46.here hx rfl (hb hby at_206) rfl (XT.ii_ne_f (own_q3_1 _ _ _ _ (own_n3 p0) c42_3 c57_15 c72_27)) kq_) ?_
          show Go p e below s _ _ _ (T46.setTop (mkF m 209 #[.val (.int p0), .val (.int p1), .val (.int p2), .val (.int p3), .val (.int p4), .val (.int p5), .val (.int (p0 &&& (3 : Int32))), .val (.int ((p1 &&& (2147483647 : Int32)) % (3 : Int32))), .val (.int ((p2 &&& (2147483647 : Int32)) % (3 : Int32))), .val (.int ((p3 &&& (2147483647 : Int32)) % (3 : Int32))), .val (.ref a1), .val (.int (1 : Int32))] []))
          refine Go.st (fun _ kq_ => XS.iconst X46.here hx rfl (hb hby at_209) kq_) ?_
          show Go p e below s _ _ _ (T46.setTop (mkF m 210 #[.val (.int p0), .val (.int p1), .val (.int p2), .val (.int p3), .val (.int p4), .val (.int p5), .val (.int (p0 &&& (3 : Int32))), .val (.int ((p1 &&& (2147483647 : Int32)) % (3 : Int32))), .val (.int ((p2 &&& (2147483647 : Int32)) % (3 : Int32))), .val (.int ((p3 &&& (2147483647 : Int32)) % (3 : Int32))), .val (.ref a1), .val (.int (1 : Int32))] [(.int (1 : Int32))]))
          refine Go.st (fun _ kq_ => XS.goto X46.here hx rfl (pc0 := 210) (pc' := 214) rfl (hb hby at_210) (by decide) (by decide) kq_) ?_
          show Go p e below s _ _ _ (T46.setTop (mkF m 214 #[.val (.int p0), .val (.int p1), .val (.int p2), .val (.int p3), .val (.int p4), .val (.int p5), .val (.int (p0 &&& (3 : Int32))), .val (.int ((p1 &&& (2147483647 : Int32)) % (3 : Int32))), .val (.int ((p2 &&& (2147483647 : Int32)) % (3 : Int32))), .val (.int ((p3 &&& (2147483647 : Int32)) % (3 : Int32))), .val (.ref a1), .val (.int (1 : Int32))] [(.int (1 : Int32))]))
          refine Go.st (fun _ kq_ => XS.istore X46.here hx rfl (hb hby at_214) rfl (l' := #[.val (.int p0), .val (.int p1), .val (.int p2), .val (.int p3), .val (.int p4), .val (.int p5), .val (.int (p0 &&& (3 : Int32))), .val (.int ((p1 &&& (2147483647 : Int32)) % (3 : Int32))), .val (.int ((p2 &&& (2147483647 : Int32)) % (3 : Int32))), .val (.int ((p3 &&& (2147483647 : Int32)) % (3 : Int32))), .val (.ref a1), .val (.int (1 : Int32))]) rfl kq_) ?_
          show Go p e below s _ _ _ (T46.setTop (mkF m 216 #[.val (.int p0), .val (.int p1), .val (.int p2), .val (.int p3), .val (.int p4), .val (.int p5), .val (.int (p0 &&& (3 : Int32))), .val (.int ((p1 &&& (2147483647 : Int32)) % (3 : Int32))), .val (.int ((p2 &&& (2147483647 : Int32)) % (3 : Int32))), .val (.int ((p3 &&& (2147483647 : Int32)) % (3 : Int32))), .val (.ref a1), .val (.int (1 : Int32))] []))
          refine Go.st (fun _ kq_ => XS.iload X46.here hx rfl (hb hby at_216) rfl kq_) ?_
          show Go p e below s _ _ _ (T46.setTop (mkF m 218 #[.val (.int p0), .val (.int p1), .val (.int p2), .val (.int p3), .val (.int p4), .val (.int p5), .val (.int (p0 &&& (3 : Int32))), .val (.int ((p1 &&& (2147483647 : Int32)) % (3 : Int32))), .val (.int ((p2 &&& (2147483647 : Int32)) % (3 : Int32))), .val (.int ((p3 &&& (2147483647 : Int32)) % (3 : Int32))), .val (.ref a1), .val (.int (1 : Int32))] [(.int (1 : Int32))]))
          refine Go.st (fun _ kq_ => XS.ifNo X46.here hx rfl (hb hby at_218) rfl (by decide) kq_) ?_
          show Go p e below s _ _ _ (T46.setTop (mkF m 221 #[.val (.int p0), .val (.int p1), .val (.int p2), .val (.int p3), .val (.int p4), .val (.int p5), .val (.int (p0 &&& (3 : Int32))), .val (.int ((p1 &&& (2147483647 : Int32)) % (3 : Int32))), .val (.int ((p2 &&& (2147483647 : Int32)) % (3 : Int32))), .val (.int ((p3 &&& (2147483647 : Int32)) % (3 : Int32))), .val (.ref a1), .val (.int (1 : Int32))] []))
          refine Go.st (fun _ kq_ => XS.aload X46.here hx rfl (hb hby at_221) rfl rfl kq_) ?_
          show Go p e below s _ _ _ (T46.setTop (mkF m 223 #[.val (.int p0), .val (.int p1), .val (.int p2), .val (.int p3), .val (.int p4), .val (.int p5), .val (.int (p0 &&& (3 : Int32))), .val (.int ((p1 &&& (2147483647 : Int32)) % (3 : Int32))), .val (.int ((p2 &&& (2147483647 : Int32)) % (3 : Int32))), .val (.int ((p3 &&& (2147483647 : Int32)) % (3 : Int32))), .val (.ref a1), .val (.int (1 : Int32))] [(.ref a1)]))
          refine Go.st (fun _ kq_ => XS.iconst X46.here hx rfl (hb hby at_223) kq_) ?_
          show Go p e below s _ _ _ (T46.setTop (mkF m 224 #[.val (.int p0), .val (.int p1), .val (.int p2), .val (.int p3), .val (.int p4), .val (.int p5), .val (.int (p0 &&& (3 : Int32))), .val (.int ((p1 &&& (2147483647 : Int32)) % (3 : Int32))), .val (.int ((p2 &&& (2147483647 : Int32)) % (3 : Int32))), .val (.int ((p3 &&& (2147483647 : Int32)) % (3 : Int32))), .val (.ref a1), .val (.int (1 : Int32))] [(.int (2 : Int32)), (.ref a1)]))
          obtain ⟨cq47, kq47, qa47, qb47, qc47⟩ := isOf hZ e46 E_a1
          obtain ⟨_, _, ⟨T47, L47, k47, n47⟩, -, X47, ⟨Lc47, hQ47, l47, y47, z47⟩, st47⟩ := X46.virtualBack hx (y := (⟨"com/example/element_ranker/elementranker/TagStatistics", "elementCount", "(I)I"⟩ : MethodName)) (z := (⟨"com/example/element_ranker/elementranker/TagStatistics", "elementCount", "(I)I"⟩ : MethodName)) hown (mvT hZ (own_w hw 16 rfl)) (mvT hZ (own_w hw 17 rfl)) (notFace_of_selects (args := #[]) (mvT hZ (own_w hw 19 rfl))) (mvT hZ (own_w hw 19 rfl)) (mvT hZ (own_w hw 18 rfl)) (by decide) (backOf (W := 0) (rme2 l Z a0 hw [] a1 b2 kb2 d2 kd2 (ad 0 ((p3 &&& (2147483647 : Int32)) % (3 : Int32)) (ad 0 ((p2 &&& (2147483647 : Int32)) % (3 : Int32)) (ad 0 ((p1 &&& (2147483647 : Int32)) % (3 : Int32)) (0 : Int32)))) (ad 1 ((p3 &&& (2147483647 : Int32)) % (3 : Int32)) (ad 1 ((p2 &&& (2147483647 : Int32)) % (3 : Int32)) (ad 1 ((p1 &&& (2147483647 : Int32)) % (3 : Int32)) (0 : Int32)))) (ad 2 ((p3 &&& (2147483647 : Int32)) % (3 : Int32)) (ad 2 ((p2 &&& (2147483647 : Int32)) % (3 : Int32)) (ad 2 ((p1 &&& (2147483647 : Int32)) % (3 : Int32)) (0 : Int32)))) (adL 0 ((p3 &&& (2147483647 : Int32)) % (3 : Int32)) (p4 ^^^ p5) (adL 0 ((p2 &&& (2147483647 : Int32)) % (3 : Int32)) p5 (adL 0 ((p1 &&& (2147483647 : Int32)) % (3 : Int32)) p4 (0 : Int64)))) (adL 1 ((p3 &&& (2147483647 : Int32)) % (3 : Int32)) (p4 ^^^ p5) (adL 1 ((p2 &&& (2147483647 : Int32)) % (3 : Int32)) p5 (adL 1 ((p1 &&& (2147483647 : Int32)) % (3 : Int32)) p4 (0 : Int64)))) (adL 2 ((p3 &&& (2147483647 : Int32)) % (3 : Int32)) (p4 ^^^ p5) (adL 2 ((p2 &&& (2147483647 : Int32)) % (3 : Int32)) p5 (adL 2 ((p1 &&& (2147483647 : Int32)) % (3 : Int32)) p4 (0 : Int64)))) ((((0 : Int32) + (1 : Int32)) + (1 : Int32)) + (1 : Int32)) ((((0 : Int64) + p4.toInt64) + p5.toInt64) + (p4 ^^^ p5).toInt64) T38.heap n0 O38 E_a1 F_a1_elementCounts F_a1_totalLengths F_a1_elementCount F_a1_totalLength V_b2 V_d2) hZ (own_w hw 20 rfl) (own_w hw 3 rfl) (by decide) (by decide)) qa47 qc47 (g := (mkF m 224 #[.val (.int p0), .val (.int p1), .val (.int p2), .val (.int p3), .val (.int p4), .val (.int p5), .val (.int (p0 &&& (3 : Int32))), .val (.int ((p1 &&& (2147483647 : Int32)) % (3 : Int32))), .val (.int ((p2 &&& (2147483647 : Int32)) % (3 : Int32))), .val (.int ((p3 &&& (2147483647 : Int32)) % (3 : Int32))), .val (.ref a1), .val (.int (1 : Int32))] [(.int (2 : Int32)), (.ref a1)])) rfl (by rw [hml]; rfl) (Steps.refl _) (argsL := [(.int (2 : Int32))]) (rest := []) (lenOf pd0_1 rfl) rfl (by show 2 * 0 + _ ≤ _; exact Nat.le_of_eq rfl) (hb hby at_224) (fun _ _ => ⟨rfl, e46, (by decide : 3 + 0 ≤ _), (by decide : 10 + 0 ≤ _)⟩)
          dsimp only [Pt.U, Pt.locs, Pt.cells, Pt.slots] at X47 l47 y47 z47 st47 hQ47
          subst l47 y47 z47
          obtain ⟨rfl, Nc47, e47⟩ := hQ47
          have N47 := Fr.app N46 Nc47
          refine Go.tr st47 ?_
          show Go p e below s _ _ _ (T47.setTop (mkF m 227 #[.val (.int p0), .val (.int p1), .val (.int p2), .val (.int p3), .val (.int p4), .val (.int p5), .val (.int (p0 &&& (3 : Int32))), .val (.int ((p1 &&& (2147483647 : Int32)) % (3 : Int32))), .val (.int ((p2 &&& (2147483647 : Int32)) % (3 : Int32))), .val (.int ((p3 &&& (2147483647 : Int32)) % (3 : Int32))), .val (.ref a1), .val (.int (1 : Int32))] [(.int (ad 2 ((p3 &&& (2147483647 : Int32)) % (3 : Int32)) (ad 2 ((p2 &&& (2147483647 : Int32)) % (3 : Int32)) (ad 2 ((p1 &&& (2147483647 : Int32)) % (3 : Int32)) (0 : Int32)))))]))
          refine Go.st (fun _ kq_ => XS.iload X47.here hx rfl (hb hby at_227) rfl kq_) ?_
          show Go p e below s _ _ _ (T47.setTop (mkF m 229 #[.val (.int p0), .val (.int p1), .val (.int p2), .val (.int p3), .val (.int p4), .val (.int p5), .val (.int (p0 &&& (3 : Int32))), .val (.int ((p1 &&& (2147483647 : Int32)) % (3 : Int32))), .val (.int ((p2 &&& (2147483647 : Int32)) % (3 : Int32))), .val (.int ((p3 &&& (2147483647 : Int32)) % (3 : Int32))), .val (.ref a1), .val (.int (1 : Int32))] [(.int (p0 &&& (3 : Int32))), (.int (ad 2 ((p3 &&& (2147483647 : Int32)) % (3 : Int32)) (ad 2 ((p2 &&& (2147483647 : Int32)) % (3 : Int32)) (ad 2 ((p1 &&& (2147483647 : Int32)) % (3 : Int32)) (0 : Int32)))))]))
          refine Go.st (fun _ kq_ => XS.iload X47.here hx rfl (hb hby at_229) rfl kq_) ?_
          show Go p e below s _ _ _ (T47.setTop (mkF m 231 #[.val (.int p0), .val (.int p1), .val (.int p2), .val (.int p3), .val (.int p4), .val (.int p5), .val (.int (p0 &&& (3 : Int32))), .val (.int ((p1 &&& (2147483647 : Int32)) % (3 : Int32))), .val (.int ((p2 &&& (2147483647 : Int32)) % (3 : Int32))), .val (.int ((p3 &&& (2147483647 : Int32)) % (3 : Int32))), .val (.ref a1), .val (.int (1 : Int32))] [(.int ((p1 &&& (2147483647 : Int32)) % (3 : Int32))), (.int (p0 &&& (3 : Int32))), (.int (ad 2 ((p3 &&& (2147483647 : Int32)) % (3 : Int32)) (ad 2 ((p2 &&& (2147483647 : Int32)) % (3 : Int32)) (ad 2 ((p1 &&& (2147483647 : Int32)) % (3 : Int32)) (0 : Int32)))))]))
          refine Go.st (fun _ kq_ => XS.iload X47.here hx rfl (hb hby at_231) rfl kq_) ?_
          show Go p e below s _ _ _ (T47.setTop (mkF m 233 #[.val (.int p0), .val (.int p1), .val (.int p2), .val (.int p3), .val (.int p4), .val (.int p5), .val (.int (p0 &&& (3 : Int32))), .val (.int ((p1 &&& (2147483647 : Int32)) % (3 : Int32))), .val (.int ((p2 &&& (2147483647 : Int32)) % (3 : Int32))), .val (.int ((p3 &&& (2147483647 : Int32)) % (3 : Int32))), .val (.ref a1), .val (.int (1 : Int32))] [(.int ((p2 &&& (2147483647 : Int32)) % (3 : Int32))), (.int ((p1 &&& (2147483647 : Int32)) % (3 : Int32))), (.int (p0 &&& (3 : Int32))), (.int (ad 2 ((p3 &&& (2147483647 : Int32)) % (3 : Int32)) (ad 2 ((p2 &&& (2147483647 : Int32)) % (3 : Int32)) (ad 2 ((p1 &&& (2147483647 : Int32)) % (3 : Int32)) (0 : Int32)))))]))
          refine Go.st (fun _ kq_ => XS.iload X47.here hx rfl (hb hby at_233) rfl kq_) ?_
          show Go p e below s _ _ _ (T47.setTop (mkF m 235 #[.val (.int p0), .val (.int p1), .val (.int p2), .val (.int p3), .val (.int p4), .val (.int p5), .val (.int (p0 &&& (3 : Int32))), .val (.int ((p1 &&& (2147483647 : Int32)) % (3 : Int32))), .val (.int ((p2 &&& (2147483647 : Int32)) % (3 : Int32))), .val (.int ((p3 &&& (2147483647 : Int32)) % (3 : Int32))), .val (.ref a1), .val (.int (1 : Int32))] [(.int ((p3 &&& (2147483647 : Int32)) % (3 : Int32))), (.int ((p2 &&& (2147483647 : Int32)) % (3 : Int32))), (.int ((p1 &&& (2147483647 : Int32)) % (3 : Int32))), (.int (p0 &&& (3 : Int32))), (.int (ad 2 ((p3 &&& (2147483647 : Int32)) % (3 : Int32)) (ad 2 ((p2 &&& (2147483647 : Int32)) % (3 : Int32)) (ad 2 ((p1 &&& (2147483647 : Int32)) % (3 : Int32)) (0 : Int32)))))]))
          refine Go.st (fun _ kq_ => XS.iconst X47.here hx rfl (hb hby at_235) kq_) ?_
          show Go p e below s _ _ _ (T47.setTop (mkF m 236 #[.val (.int p0), .val (.int p1), .val (.int p2), .val (.int p3), .val (.int p4), .val (.int p5), .val (.int (p0 &&& (3 : Int32))), .val (.int ((p1 &&& (2147483647 : Int32)) % (3 : Int32))), .val (.int ((p2 &&& (2147483647 : Int32)) % (3 : Int32))), .val (.int ((p3 &&& (2147483647 : Int32)) % (3 : Int32))), .val (.ref a1), .val (.int (1 : Int32))] [(.int (2 : Int32)), (.int ((p3 &&& (2147483647 : Int32)) % (3 : Int32))), (.int ((p2 &&& (2147483647 : Int32)) % (3 : Int32))), (.int ((p1 &&& (2147483647 : Int32)) % (3 : Int32))), (.int (p0 &&& (3 : Int32))), (.int (ad 2 ((p3 &&& (2147483647 : Int32)) % (3 : Int32)) (ad 2 ((p2 &&& (2147483647 : Int32)) % (3 : Int32)) (ad 2 ((p1 &&& (2147483647 : Int32)) % (3 : Int32)) (0 : Int32)))))]))
          obtain ⟨_, _, ⟨T48, L48, k48, n48⟩, -, X48, ⟨Lc48, hQ48, l48, y48, z48⟩, st48⟩ := Jvm.LawKit.callS X47 hx (y := (⟨"com/example/element_ranker/elementranker/TagStatisticsElementCountPinLaw", "expected", "(IIIII)I"⟩ : MethodName)) hown (mvT hZ (own_w hw 23 rfl)) (mvT hZ (own_w hw 24 rfl)) (mvT hZ (own_w hw 25 rfl)) (mvT hZ (own_w hw 26 rfl)) (by decide) (backOf (W := 1) (rmx l Z a0 hw [] (p0 &&& (3 : Int32)) ((p1 &&& (2147483647 : Int32)) % (3 : Int32)) ((p2 &&& (2147483647 : Int32)) % (3 : Int32)) ((p3 &&& (2147483647 : Int32)) % (3 : Int32)) (2 : Int32) T38.heap n0 O38 ) hZ (own_w hw 26 rfl) (own_w hw 25 rfl) (by decide) (by decide)) (g := (mkF m 236 #[.val (.int p0), .val (.int p1), .val (.int p2), .val (.int p3), .val (.int p4), .val (.int p5), .val (.int (p0 &&& (3 : Int32))), .val (.int ((p1 &&& (2147483647 : Int32)) % (3 : Int32))), .val (.int ((p2 &&& (2147483647 : Int32)) % (3 : Int32))), .val (.int ((p3 &&& (2147483647 : Int32)) % (3 : Int32))), .val (.ref a1), .val (.int (1 : Int32))] [(.int (2 : Int32)), (.int ((p3 &&& (2147483647 : Int32)) % (3 : Int32))), (.int ((p2 &&& (2147483647 : Int32)) % (3 : Int32))), (.int ((p1 &&& (2147483647 : Int32)) % (3 : Int32))), (.int (p0 &&& (3 : Int32))), (.int (ad 2 ((p3 &&& (2147483647 : Int32)) % (3 : Int32)) (ad 2 ((p2 &&& (2147483647 : Int32)) % (3 : Int32)) (ad 2 ((p1 &&& (2147483647 : Int32)) % (3 : Int32)) (0 : Int32)))))])) rfl (by rw [hml]; rfl) (argsL := [(.int (p0 &&& (3 : Int32))), (.int ((p1 &&& (2147483647 : Int32)) % (3 : Int32))), (.int ((p2 &&& (2147483647 : Int32)) % (3 : Int32))), (.int ((p3 &&& (2147483647 : Int32)) % (3 : Int32))), (.int (2 : Int32))]) (rest := [(.int (ad 2 ((p3 &&& (2147483647 : Int32)) % (3 : Int32)) (ad 2 ((p2 &&& (2147483647 : Int32)) % (3 : Int32)) (ad 2 ((p1 &&& (2147483647 : Int32)) % (3 : Int32)) (0 : Int32)))))]) (lenOf pd0_2 rfl) rfl (by show 2 * 0 + _ ≤ _; exact Nat.le_of_eq rfl) (hb hby at_236) (fun _ _ => ⟨rfl, e47, (by decide : 3 + 0 ≤ _), (by decide : 10 + 0 ≤ _)⟩)
          dsimp only [Pt.U, Pt.locs, Pt.cells, Pt.slots] at X48 l48 y48 z48 st48 hQ48
          subst l48 y48 z48
          obtain ⟨rfl, Nc48, e48⟩ := hQ48
          have N48 := Fr.app N47 Nc48
          refine Go.st st48 ?_
          show Go p e below s _ _ _ (T48.setTop (mkF m 239 #[.val (.int p0), .val (.int p1), .val (.int p2), .val (.int p3), .val (.int p4), .val (.int p5), .val (.int (p0 &&& (3 : Int32))), .val (.int ((p1 &&& (2147483647 : Int32)) % (3 : Int32))), .val (.int ((p2 &&& (2147483647 : Int32)) % (3 : Int32))), .val (.int ((p3 &&& (2147483647 : Int32)) % (3 : Int32))), .val (.ref a1), .val (.int (1 : Int32))] [(.int (fEx (p0 &&& (3 : Int32)) ((p1 &&& (2147483647 : Int32)) % (3 : Int32)) ((p2 &&& (2147483647 : Int32)) % (3 : Int32)) ((p3 &&& (2147483647 : Int32)) % (3 : Int32)) (2 : Int32))), (.int (ad 2 ((p3 &&& (2147483647 : Int32)) % (3 : Int32)) (ad 2 ((p2 &&& (2147483647 : Int32)) % (3 : Int32)) (ad 2 ((p1 &&& (2147483647 : Int32)) % (3 : Int32)) (0 : Int32)))))]))
          refine Go.st (fun _ kq_ => XS.icmpNo X48.here hx rfl (hb hby at_239) rfl (XT.ii_ne_f (own_q3_2 _ _ _ _ (own_n3 p0) c42_3 c57_15 c72_27)) kq_) ?_
          show Go p e below s _ _ _ (T48.setTop (mkF m 242 #[.val (.int p0), .val (.int p1), .val (.int p2), .val (.int p3), .val (.int p4), .val (.int p5), .val (.int (p0 &&& (3 : Int32))), .val (.int ((p1 &&& (2147483647 : Int32)) % (3 : Int32))), .val (.int ((p2 &&& (2147483647 : Int32)) % (3 : Int32))), .val (.int ((p3 &&& (2147483647 : Int32)) % (3 : Int32))), .val (.ref a1), .val (.int (1 : Int32))] []))
          refine Go.st (fun _ kq_ => XS.iconst X48.here hx rfl (hb hby at_242) kq_) ?_
          show Go p e below s _ _ _ (T48.setTop (mkF m 243 #[.val (.int p0), .val (.int p1), .val (.int p2), .val (.int p3), .val (.int p4), .val (.int p5), .val (.int (p0 &&& (3 : Int32))), .val (.int ((p1 &&& (2147483647 : Int32)) % (3 : Int32))), .val (.int ((p2 &&& (2147483647 : Int32)) % (3 : Int32))), .val (.int ((p3 &&& (2147483647 : Int32)) % (3 : Int32))), .val (.ref a1), .val (.int (1 : Int32))] [(.int (1 : Int32))]))
          refine Go.st (fun _ kq_ => XS.goto X48.here hx rfl (pc0 := 243) (pc' := 247) rfl (hb hby at_243) (by decide) (by decide) kq_) ?_
          show Go p e below s _ _ _ (T48.setTop (mkF m 247 #[.val (.int p0), .val (.int p1), .val (.int p2), .val (.int p3), .val (.int p4), .val (.int p5), .val (.int (p0 &&& (3 : Int32))), .val (.int ((p1 &&& (2147483647 : Int32)) % (3 : Int32))), .val (.int ((p2 &&& (2147483647 : Int32)) % (3 : Int32))), .val (.int ((p3 &&& (2147483647 : Int32)) % (3 : Int32))), .val (.ref a1), .val (.int (1 : Int32))] [(.int (1 : Int32))]))
          refine Go.st (fun _ kq_ => XS.istore X48.here hx rfl (hb hby at_247) rfl (l' := #[.val (.int p0), .val (.int p1), .val (.int p2), .val (.int p3), .val (.int p4), .val (.int p5), .val (.int (p0 &&& (3 : Int32))), .val (.int ((p1 &&& (2147483647 : Int32)) % (3 : Int32))), .val (.int ((p2 &&& (2147483647 : Int32)) % (3 : Int32))), .val (.int ((p3 &&& (2147483647 : Int32)) % (3 : Int32))), .val (.ref a1), .val (.int (1 : Int32))]) rfl kq_) ?_
          show Go p e below s _ _ _ (T48.setTop (mkF m 249 #[.val (.int p0), .val (.int p1), .val (.int p2), .val (.int p3), .val (.int p4), .val (.int p5), .val (.int (p0 &&& (3 : Int32))), .val (.int ((p1 &&& (2147483647 : Int32)) % (3 : Int32))), .val (.int ((p2 &&& (2147483647 : Int32)) % (3 : Int32))), .val (.int ((p3 &&& (2147483647 : Int32)) % (3 : Int32))), .val (.ref a1), .val (.int (1 : Int32))] []))
          refine Go.st (fun _ kq_ => XS.iload X48.here hx rfl (hb hby at_249) rfl kq_) ?_
          show Go p e below s _ _ _ (T48.setTop (mkF m 251 #[.val (.int p0), .val (.int p1), .val (.int p2), .val (.int p3), .val (.int p4), .val (.int p5), .val (.int (p0 &&& (3 : Int32))), .val (.int ((p1 &&& (2147483647 : Int32)) % (3 : Int32))), .val (.int ((p2 &&& (2147483647 : Int32)) % (3 : Int32))), .val (.int ((p3 &&& (2147483647 : Int32)) % (3 : Int32))), .val (.ref a1), .val (.int (1 : Int32))] [(.int (1 : Int32))]))
          exact Go.ret X48 hlk (some (.int (nar .boolean (1 : Int32)))) (fun h => by rw [Bd.returns] at h; cases h) (by rw [e48]; exact ⟨rfl, N48⟩) (by decide) (by decide) (fun fs hr => retN X48 hx (t := .boolean) Bd.returns (by simp) (hb hby at_251) hr)
  obtain ⟨s2, o2, st2, r2⟩ := G
  exact ⟨s2, o2, castTop (ef0 m p0 p1 p2 p3 p4 p5) st2, r2⟩
set_option maxRecDepth 65536 in
set_option maxHeartbeats 40000000 in
theorem comes_1 {Post : Tables → Env → Array Value → State → Outcome → State → Prop} (hpost : ∀ tb e args s v u, (limb_1_1.after args s (.returned v) u = true ∧ limb_1_2.after args s (.returned v) u = true ∧ True) → FrameEnd s (.returned v) u (Jvm.fieldLocs frame_1_writes args s ++ Jvm.arrayLocs frame_1_arrays args s ++ Jvm.staticLocs frame_1_statics s) 16 128 → Post tb e args s (.returned v) u) :
    ArmFor flags0 classFile x code maxLocals ret World_1 tables_1 room_1 Calls_1 rest_1 Pre_1 Post := by
  intro l hfl _ _ p e ha hc hk s m args below hf hA hF happ hP
  obtain ⟨hcalls, hrest, hpre⟩ := hP
  obtain ⟨-, -, -, hnamed, -, -, -, hat⟩ := (Spec.applies_iff hf).mp happ
  obtain ⟨hg, hn⟩ := and_e (Cond.before_iff.mp (show (Jvm.Cond.and given_1 narrow_1).before args s = true from hpre))
  obtain ⟨h1, r1⟩ := and_e hg
  obtain ⟨a0, r2⟩ := and_e r1
  obtain ⟨a1, r3⟩ := and_e r2
  obtain ⟨a2, r4⟩ := and_e r3
  obtain ⟨a3, r5⟩ := and_e r4
  obtain ⟨a4, r6⟩ := and_e r5
  obtain ⟨w0, w1, w2, w3, w4, w5, rfl⟩ : ∃ w0 w1 w2 w3 w4 w5 : Value, args = #[w0, w1, w2, w3, w4, w5] := by
    have hs : args.size = 6 := by simpa [Cond.value, given_1] using h1
    obtain ⟨L⟩ := args
    match L, hs with
    | [w0, w1, w2, w3, w4, w5], _ => exact ⟨w0, w1, w2, w3, w4, w5, rfl⟩
  have hw := fun d (hd : d ∈ tables_1) => atoms_spec (ws := Jvm.Cond.code x code maxLocals ret :: tables_1) hat d (List.mem_cons_of_mem _ hd)
  have hfit : Fit s := fun {y c} hc i hi => by
    obtain ⟨ha, rfl⟩ := Array.getElem?_eq_some_iff.mp hc
    have q := List.all_eq_true.mp ((Array.all_eq_true_iff_forall_mem.mp hF) _ (Array.getElem_mem ha)) i (List.mem_range.mpr hi)
    simpa [Array.getElem?_eq_getElem hi] using q
  obtain ⟨i0, ei0⟩ := is_v a0
  obtain rfl : w0 = (.int i0) := Option.some.inj ei0
  obtain ⟨i1, ei1⟩ := is_v a1
  obtain rfl : w1 = (.int i1) := Option.some.inj ei1
  obtain ⟨i2, ei2⟩ := is_v a2
  obtain rfl : w2 = (.int i2) := Option.some.inj ei2
  obtain ⟨i3, ei3⟩ := is_v a3
  obtain rfl : w3 = (.int i3) := Option.some.inj ei3
  obtain ⟨i4, ei4⟩ := is_v a4
  obtain rfl : w4 = (.int i4) := Option.some.inj ei4
  obtain ⟨i5, ei5⟩ := is_v r6
  obtain rfl : w5 = (.int i5) := Option.some.inj ei5
  obtain ⟨n, o, h1, h2, h3, _, L, rfl, ⟨rfl, N⟩, hq⟩ := rm0 l s _ hw tables_1 i0 i1 i2 i3 i4 i5 s.heap s.heap.size (Old.start s) p e ha hc hk s m _ below hf ((Spec.applies_iff_loose hf).mp happ).1 ⟨rfl, State.Warmed39.refl s, rfl⟩ trivial
  refine ⟨n, _, h1, h2, h3, hpost _ _ _ _ _ _ ⟨Cond.after_iff.mpr rfl, Cond.after_iff.mpr (eq_i res_at (Term.int_eval (1)) rfl), trivial⟩ ⟨hq.1, hq.2.1, (hq.2.2.sift fun y hy => Or.inr (N y hy)).mono (by decide) (by decide)⟩⟩
theorem main_1_1 : Claimed_1_1 := comes_1 fun _ _ _ _ _ _ h hF => ⟨h.1, hF⟩
theorem main_1_2 : Claimed_1_2 := comes_1 fun _ _ _ _ _ _ h hF => ⟨h.2.1, hF⟩
end Jvm.Pilot.@@N@@
namespace Jvm.Pilot.@@N@@
open Jvm Jvm.ClassFile Sem Op Lib Jvm.Free Jvm.Stand Jvm.Pilot.@@N@@.Jvm.D
/-! MADE BY PROGRAM (witnessworld.py) out of the Statement's table words and the real class files: 11 classes; the members and pool entries that the words name. The judged class is class 1, her method 2. -/
namespace start1
open Jvm.ClassFile
def u (s : String) : CpInfo := .utf8 (stringToUtf16 s)
/-- a pool by its gaps: so many unusable entries, then the entry; so many at the end -/
def gap : Nat → List CpInfo → List CpInfo
  | 0, r => r
  | n + 1, r => .unusable :: gap n r
def poolList (es : List (Nat × CpInfo)) (last : Nat) : List CpInfo := es.foldr (fun e r => gap e.1 (e.2 :: r)) (gap last [])
def pool (es : List (Nat × CpInfo)) (last : Nat) : Array CpInfo := ⟨poolList es last⟩
def fileOf (pool : Array CpInfo) (this : Nat) (attrs : Array Attribute := #[]) (ms : Array MethodInfo := #[]) (fl : Nat := 33) (sup : Nat := 0) (ifs : Array Nat := #[]) (fds : Array FieldInfo := #[]) : ClassFile where
  minorVersion := 0
  majorVersion := 65
  constantPool := pool
  accessFlags := fl
  thisClass := this
  superClass := sup
  interfaces := ifs
  fields := fds
  methods := ms
  attributes := attrs
def plain (name : String) (sup : Option ClassId) : Class where
  name := name
  kind := .ordinary
  loader := none
  accessFlags := 33
  super := sup
  interfaces := #[]
  cf := none
  fields := #[]
  methods := #[]
  instanceTypes := #[]
  staticTypes := #[]
  resolved := #[]
  callSites := []
  init := .initialized
  statics := none
  mirror := none

def pool0 : Array CpInfo := pool [(5, u "<init>"), (0, u "()V"), (1, .class_ 10), (1, u "java/lang/Object")] 113

def k0c0 : Code := { maxStack := 0, maxLocals := 1, code := object_method_1_code, exceptionTable := #[], attributes := #[] }
def k0m0 : Method := { name := "<init>", desc := "()V", sig := { parameters := [], returnType := none }, accessFlags := 1, code := some k0c0 }
/-- java/lang/Object -/
def k0 : Class := { plain "java/lang/Object" none with
  accessFlags := 33
  interfaces := #[]
  cf := some (fileOf pool0 8 #[] #[{ accessFlags := 1, nameIndex := 5, descriptorIndex := 6, attributes := #[] }] 33 0 #[] #[])
  fields := #[]
  methods := #[k0m0]
  instanceTypes := #[]
  staticTypes := #[]
  resolved := Array.replicate 124 none
  statics := none }

def pool1 : Array CpInfo := pool [(2, .class_ 4), (1, u "java/lang/Object"), (0, u "<init>"), (0, u "()V"), (0, .integer 2147483647), (0, .class_ 9), (0, u "com/example/element_ranker/elementranker/TagStatistics"), (0, .methodref 8 11), (0, .nameAndType 5 12), (0, u "(I)V"), (0, .methodref 8 14), (0, .nameAndType 15 16), (0, u "add"), (0, u "(II)V"), (2, .methodref 8 20), (0, .nameAndType 21 22), (0, u "elementCount"), (0, u "(I)I"), (0, .methodref 24 25), (0, .class_ 26), (0, .nameAndType 27 28), (0, u "com/example/element_ranker/elementranker/TagStatisticsElementCountPinLaw"), (0, u "expected"), (0, u "(IIIII)I"), (3, u "law"), (0, u "(IIIIII)Z")] 2

def k1m0 : Method := { name := "<init>", desc := "()V", sig := { parameters := [], returnType := none }, accessFlags := 2, code := none }
def k1c1 : Code := { maxStack := 2, maxLocals := 6, code := method_2_code, exceptionTable := #[], attributes := #[] }
def k1m1 : Method := { name := "expected", desc := "(IIIII)I", sig := { parameters := [.int, .int, .int, .int, .int], returnType := some .int }, accessFlags := 10, code := some k1c1 }
def k1c2 : Code := { maxStack := 6, maxLocals := 12, code := code, exceptionTable := #[], attributes := #[] }
def k1m2 : Method := { name := "law", desc := "(IIIIII)Z", sig := { parameters := [.int, .int, .int, .int, .int, .int], returnType := some .boolean }, accessFlags := 9, code := some k1c2 }
/-- com/example/element_ranker/elementranker/TagStatisticsElementCountPinLaw -/
def k1 : Class := { plain "com/example/element_ranker/elementranker/TagStatisticsElementCountPinLaw" (some 0) with
  accessFlags := 49
  interfaces := #[]
  cf := some (fileOf pool1 24 #[] #[{ accessFlags := 2, nameIndex := 5, descriptorIndex := 6, attributes := #[] }, { accessFlags := 10, nameIndex := 27, descriptorIndex := 28, attributes := #[] }, { accessFlags := 9, nameIndex := 32, descriptorIndex := 33, attributes := #[] }] 49 2 #[] #[])
  fields := #[]
  methods := #[k1m0, k1m1, k1m2]
  instanceTypes := #[]
  staticTypes := #[]
  resolved := Array.replicate 36 none
  statics := none }

def pool2 : Array CpInfo := pool [(1, .methodref 2 3), (0, .class_ 4), (0, .nameAndType 5 6), (0, u "java/lang/Object"), (0, u "<init>"), (0, u "()V"), (0, .fieldref 8 9), (0, .class_ 10), (0, .nameAndType 11 12), (0, u "com/example/element_ranker/elementranker/TagStatistics"), (0, u "elementCounts"), (0, u "[I"), (0, .fieldref 8 14), (0, .nameAndType 15 16), (0, u "totalLengths"), (0, u "[J"), (0, .fieldref 8 18), (0, .nameAndType 19 20), (0, u "elementCount"), (0, u "I"), (0, .fieldref 8 22), (0, .nameAndType 23 24), (0, u "totalLength"), (0, u "J"), (4, u "(I)I"), (0, u "(I)V"), (2, u "add"), (0, u "(II)V")] 5

def k2c0 : Code := { maxStack := 2, maxLocals := 2, code := prog_53_method_1_code, exceptionTable := #[], attributes := #[] }
def k2m0 : Method := { name := "<init>", desc := "(I)V", sig := { parameters := [.int], returnType := none }, accessFlags := 0, code := some k2c0 }
def k2c1 : Code := { maxStack := 6, maxLocals := 3, code := prog_53_method_2_code, exceptionTable := #[], attributes := #[] }
def k2m1 : Method := { name := "add", desc := "(II)V", sig := { parameters := [.int, .int], returnType := none }, accessFlags := 0, code := some k2c1 }
def k2c2 : Code := { maxStack := 2, maxLocals := 3, code := prog_53_method_3_code, exceptionTable := #[], attributes := #[] }
def k2m2 : Method := { name := "elementCount", desc := "(I)I", sig := { parameters := [.int], returnType := some .int }, accessFlags := 0, code := some k2c2 }
/-- com/example/element_ranker/elementranker/TagStatistics -/
def k2 : Class := { plain "com/example/element_ranker/elementranker/TagStatistics" (some 0) with
  accessFlags := 48
  interfaces := #[]
  cf := some (fileOf pool2 8 #[] #[{ accessFlags := 0, nameIndex := 5, descriptorIndex := 30, attributes := #[] }, { accessFlags := 0, nameIndex := 33, descriptorIndex := 34, attributes := #[] }, { accessFlags := 0, nameIndex := 19, descriptorIndex := 29, attributes := #[] }] 48 2 #[] #[{ accessFlags := 18, nameIndex := 11, descriptorIndex := 12, attributes := #[] }, { accessFlags := 18, nameIndex := 15, descriptorIndex := 16, attributes := #[] }, { accessFlags := 2, nameIndex := 19, descriptorIndex := 20, attributes := #[] }, { accessFlags := 2, nameIndex := 23, descriptorIndex := 24, attributes := #[] }])
  fields := #[{ name := "elementCounts", type := (.array .int), accessFlags := 18, slot := 0, constantValue := 0 }, { name := "totalLengths", type := (.array .long), accessFlags := 18, slot := 1, constantValue := 0 }, { name := "elementCount", type := .int, accessFlags := 2, slot := 2, constantValue := 0 }, { name := "totalLength", type := .long, accessFlags := 2, slot := 3, constantValue := 0 }]
  methods := #[k2m0, k2m1, k2m2]
  instanceTypes := #[(.array .int), (.array .long), .int, .long]
  staticTypes := #[]
  resolved := Array.replicate 40 none
  statics := none }

def pool3 : Array CpInfo := pool [(1, u "java/lang/Cloneable"), (0, .class_ 1), (0, u "java/lang/Object"), (0, .class_ 3)] 3

/-- java/lang/Cloneable -/
def k3 : Class := { plain "java/lang/Cloneable" (some 0) with
  accessFlags := 1537
  interfaces := #[]
  cf := some (fileOf pool3 2 #[] #[] 1537 4 #[] #[])
  fields := #[]
  methods := #[]
  instanceTypes := #[]
  staticTypes := #[]
  resolved := Array.replicate 8 none
  statics := none }

def pool4 : Array CpInfo := pool [(1, u "java/io/Serializable"), (0, .class_ 1), (0, u "java/lang/Object"), (0, .class_ 3)] 3

/-- java/io/Serializable -/
def k4 : Class := { plain "java/io/Serializable" (some 0) with
  accessFlags := 1537
  interfaces := #[]
  cf := some (fileOf pool4 2 #[] #[] 1537 4 #[] #[])
  fields := #[]
  methods := #[]
  instanceTypes := #[]
  staticTypes := #[]
  resolved := Array.replicate 8 none
  statics := none }

/-- the primitive byte -/
def k5 : Class := { plain "byte" none with kind := .primitive 'B', accessFlags := 0x411 }
/-- [B -/
def k6 : Class := { plain "[B" (some 0) with kind := .array 5 .byte, interfaces := #[3, 4], accessFlags := 1041 }

/-- the primitive int -/
def k7 : Class := { plain "int" none with kind := .primitive 'I', accessFlags := 0x411 }
/-- [I -/
def k8 : Class := { plain "[I" (some 0) with kind := .array 7 .int, interfaces := #[3, 4], accessFlags := 1041 }

/-- the primitive long -/
def k9 : Class := { plain "long" none with kind := .primitive 'J', accessFlags := 0x411 }
/-- [J -/
def k10 : Class := { plain "[J" (some 0) with kind := .array 9 .long, interfaces := #[3, 4], accessFlags := 1041 }

def heap : Heap := #[]
def classes : Array Class := #[k0, k1, k2, k3, k4, k5, k6, k7, k8, k9, k10]
def interned : List (Array UInt16 × Addr) := []
def slotsUsed : Nat := 0
def theMethod : MethodId := ⟨1, 2⟩
def args0 : Array Value := #[.int 7, .int 1, .int 2, .int 3, .int 4, .int 9]
def aboutOver (below : List Frame) : State where
  vm := { classes := classes, interned := interned.toArray }
  heap := heap
  slotsUsed := slotsUsed
  threads := #[{ frames := .invoking theMethod args0 :: below }]
def below0 : List Frame := [.native { method := ⟨0, 0⟩, args := #[] }]
def about1 : State := aboutOver below0
def p0 : Program := .bare "" "" ""
def e0 : Env := launch0.env 0 0 0
theorem w_frames : about1.frames = Frame.invoking theMethod args0 :: below0 := rfl
set_option maxRecDepth 65536 in
theorem w_args : argsFit about1.vm theMethod args0 = true := by decide +kernel
set_option maxRecDepth 65536 in
theorem w_heap : heapFits about1 = true := by decide +kernel
set_option maxRecDepth 65536 in
theorem w_runnable : about1.curStatus? = some .runnable := by decide +kernel
set_option maxRecDepth 65536 in
theorem w_alone : about1.alone = true := by decide +kernel
set_option maxRecDepth 65536 in
theorem w_named : about1.methodNamed? x = some theMethod := by decide +kernel
set_option maxRecDepth 65536 in
theorem w_hears : about1.hears theMethod below0 = true := by decide +kernel
set_option maxRecDepth 65536 in
theorem w_ripe : about1.ripe theMethod args0 below0 = true := by decide +kernel
theorem w_running : about1.status = .running := rfl
set_option maxRecDepth 65536 in
theorem w_room : about1.hasRoom e0.platform room_1 = true :=
  launch0.hasRoom_least _ room_1 (by decide +kernel) (by decide +kernel) (by decide +kernel) (by decide +kernel) (by decide +kernel) (by decide +kernel)
theorem allAtoms_all (ts : List Jvm.Cond) (a : Array Jvm.Value) (st : Jvm.State) : (allAtoms ts).before a st = ts.all (fun c => c.before a st) := by
  induction ts with
  | nil => rfl
  | cons c t ih =>
    show (Jvm.Cond.and c (allAtoms t)).before a st = _
    rw [Jvm.Cond.before_and, ih, List.all_cons]
def words1 : List Jvm.Cond := Jvm.Cond.code x code maxLocals ret :: tables_1
/-- a 'code' word, met by the world's own term for the bytes: nothing is compared byte by byte -/
theorem code_word {y : MethodName} {bytes : ByteArray} {mx : Nat} {rt : Option FieldType} {a : Array Value} {s : State} {m : MethodId} {meth : Method} {c : Code} (h1 : s.methodNamed? y = some m) (h2 : s.vm.method? m = some meth) (h3 : meth.code = some c) (h4 : c.code = bytes)
    (h5 : (c.maxLocals == mx && c.exceptionTable.isEmpty && decide (c.maxStack ≤ mostOperands) && decide (meth.sig.returnType = rt) && !meth.locks && decide (parseMethodDescriptor y.desc = some meth.sig)) = true) : (Jvm.Cond.code y bytes mx rt).before a s = true := by
  simp only [Bool.and_eq_true, beq_iff_eq, Bool.not_eq_true', decide_eq_true_eq] at h5
  obtain ⟨⟨⟨⟨⟨g1, g2⟩, g3⟩, g4⟩, g5⟩, g6⟩ := h5
  simp [Cond.before, Cond.holds, Cond.value, h1, h2, h3, h4, g1, g2, g3, g4, g5, g6]
def isCode : Jvm.Cond → Bool
  | .code _ _ _ _ => true
  | _ => false
theorem all_split {L : List Jvm.Cond} {P : Jvm.Cond → Bool} (h1 : L.all (fun c => isCode c || P c) = true) (h2 : ∀ c ∈ L.filter isCode, P c = true) : L.all P = true := by
  refine List.all_eq_true.mpr fun c hc => ?_
  have h := List.all_eq_true.mp h1 c hc
  rcases Bool.eq_false_or_eq_true (isCode c) with hi | hi
  · exact h2 c (List.mem_filter.mpr ⟨hc, hi⟩)
  · simpa [hi] using h
set_option maxRecDepth 65536 in
theorem w_c0 : (Jvm.Cond.code x code maxLocals ret).before args0 about1 = true := code_word (m := ⟨1, 2⟩) (meth := k1m2) (c := k1c2) (by decide +kernel) rfl rfl rfl (by decide +kernel)
set_option maxRecDepth 65536 in
theorem w_c1 : (Jvm.Cond.code ({ cls := "com/example/element_ranker/elementranker/TagStatistics", name := "<init>", desc := "(I)V" } : Jvm.MethodName) prog_53_method_1_code (2 : Nat) (Option.none : Option Jvm.ClassFile.FieldType)).before args0 about1 = true := code_word (m := ⟨2, 0⟩) (meth := k2m0) (c := k2c0) (by decide +kernel) rfl rfl rfl (by decide +kernel)
set_option maxRecDepth 65536 in
theorem w_c2 : (Jvm.Cond.code ({ cls := "java/lang/Object", name := "<init>", desc := "()V" } : Jvm.MethodName) object_method_1_code (1 : Nat) (Option.none : Option Jvm.ClassFile.FieldType)).before args0 about1 = true := code_word (m := ⟨0, 0⟩) (meth := k0m0) (c := k0c0) (by decide +kernel) rfl rfl rfl (by decide +kernel)
set_option maxRecDepth 65536 in
theorem w_c3 : (Jvm.Cond.code ({ cls := "com/example/element_ranker/elementranker/TagStatistics", name := "elementCount", desc := "(I)I" } : Jvm.MethodName) prog_53_method_3_code (3 : Nat) (Option.some Jvm.ClassFile.FieldType.int)).before args0 about1 = true := code_word (m := ⟨2, 2⟩) (meth := k2m2) (c := k2c2) (by decide +kernel) rfl rfl rfl (by decide +kernel)
set_option maxRecDepth 65536 in
theorem w_c4 : (Jvm.Cond.code ({ cls := "com/example/element_ranker/elementranker/TagStatisticsElementCountPinLaw", name := "expected", desc := "(IIIII)I" } : Jvm.MethodName) method_2_code (6 : Nat) (Option.some Jvm.ClassFile.FieldType.int)).before args0 about1 = true := code_word (m := ⟨1, 1⟩) (meth := k1m1) (c := k1c1) (by decide +kernel) rfl rfl rfl (by decide +kernel)
set_option maxRecDepth 65536 in
theorem w_c5 : (Jvm.Cond.code ({ cls := "com/example/element_ranker/elementranker/TagStatistics", name := "add", desc := "(II)V" } : Jvm.MethodName) prog_53_method_2_code (3 : Nat) (Option.none : Option Jvm.ClassFile.FieldType)).before args0 about1 = true := code_word (m := ⟨2, 1⟩) (meth := k2m1) (c := k2c1) (by decide +kernel) rfl rfl rfl (by decide +kernel)
def codes1 : List Jvm.Cond := [Jvm.Cond.code x code maxLocals ret, Jvm.Cond.code ({ cls := "com/example/element_ranker/elementranker/TagStatistics", name := "<init>", desc := "(I)V" } : Jvm.MethodName) prog_53_method_1_code (2 : Nat) (Option.none : Option Jvm.ClassFile.FieldType), Jvm.Cond.code ({ cls := "java/lang/Object", name := "<init>", desc := "()V" } : Jvm.MethodName) object_method_1_code (1 : Nat) (Option.none : Option Jvm.ClassFile.FieldType), Jvm.Cond.code ({ cls := "com/example/element_ranker/elementranker/TagStatistics", name := "elementCount", desc := "(I)I" } : Jvm.MethodName) prog_53_method_3_code (3 : Nat) (Option.some Jvm.ClassFile.FieldType.int), Jvm.Cond.code ({ cls := "com/example/element_ranker/elementranker/TagStatisticsElementCountPinLaw", name := "expected", desc := "(IIIII)I" } : Jvm.MethodName) method_2_code (6 : Nat) (Option.some Jvm.ClassFile.FieldType.int), Jvm.Cond.code ({ cls := "com/example/element_ranker/elementranker/TagStatistics", name := "add", desc := "(II)V" } : Jvm.MethodName) prog_53_method_2_code (3 : Nat) (Option.none : Option Jvm.ClassFile.FieldType)]
set_option maxRecDepth 65536 in
theorem codes_eq : words1.filter isCode = codes1 := rfl
theorem w_codes : ∀ c ∈ words1.filter isCode, c.before args0 about1 = true := by
  rw [codes_eq]
  intro c hc
  simp only [codes1, List.mem_cons, List.not_mem_nil, or_false] at hc
  rcases hc with rfl | rfl | rfl | rfl | rfl | rfl
  · exact w_c0
  · exact w_c1
  · exact w_c2
  · exact w_c3
  · exact w_c4
  · exact w_c5
set_option maxRecDepth 65536 in
theorem w_t1 : (words1.take 24).all (fun c => isCode c || c.before args0 about1) = true := by decide +kernel
set_option maxRecDepth 65536 in
theorem w_t2 : (words1.drop 24).all (fun c => isCode c || c.before args0 about1) = true := by decide +kernel
theorem w_tables : (allAtoms (Jvm.Cond.code x code maxLocals ret :: tables_1)).before args0 about1 = true := by
  rw [allAtoms_all]
  show words1.all (fun c => c.before args0 about1) = true
  refine all_split ?_ w_codes
  rw [← List.take_append_drop 24 words1, List.all_append, w_t1, w_t2]
  rfl
set_option maxRecDepth 65536 in
theorem w_case : (Jvm.Cond.and given_1 narrow_1).before args0 about1 = true := by decide +kernel
theorem w_applies : (headSpec (Jvm.Cond.code x code maxLocals ret :: tables_1) room_1).applies x e0.platform about1 = true :=
  (Spec.applies_iff w_frames).mpr ⟨w_running, w_runnable, w_alone, w_named, w_hears, w_ripe, w_room, w_tables⟩
theorem atStart : AtStart classFile x code maxLocals ret World_1 tables_1 room_1 Calls_1 rest_1 Pre_1 launch0 p0 e0 about1 theMethod args0 below0 :=
  ⟨lists_1, trivial, launch0.admits_env _ _ _, launch0.least_env, fairChoices_fair.cas, fairChoices_fair.clock, w_frames, w_args, w_heap, w_applies, trivial, trivial, w_case⟩
end start1
theorem witness_1 : WitnessClaimed_1 := ⟨start1.p0, start1.e0, start1.about1, start1.theMethod, start1.args0, start1.below0, start1.atStart⟩
end Jvm.Pilot.@@N@@
