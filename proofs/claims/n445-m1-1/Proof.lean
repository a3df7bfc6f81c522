import JvmDerived
import JvmDerived.Pilot.@@N@@Statement
import JvmDerived.Pilot.@@N@@Code
set_option linter.unusedVariables false
set_option linter.unusedSimpArgs false
namespace Jvm.RoadKit
open Sem ClassFile Op Lib Jvm.Stand Jvm.Free Jvm.LawKit
section New
variable {p : Program} {l : Launch} {e : Env} {R : Room} {s : State} {m : MethodId} {args : Array Value} {below : List Frame} {meth : Method} {c : Code} {T : State} {locs : List Loc} {cells slots : Nat}
theorem retI (X : Stand p l e R s m args below meth c T locs cells slots) (hx : p.tables.exec = Jvm.exec) {pc : Nat} {Ls : Array Slot} {z : Int32} {rest : List Value} (hret : meth.sig.returnType = some .int) (hd : decode c.code pc = .ok (.ireturn, 1)) {fs : List Frame}
    (hl : ∀ (f : JFrame) (acts : List Action), f.method = m → f.locked = none → f.entered = [] → (doReturn e (T.setTop f) acts (some (.int z))).1 = T.setFrames fs) : Steps p.tables e below (T.setTop (mkF m pc Ls (.int z :: rest))) (T.setFrames fs) := by
  have hm' : T.vm.method? m = some meth := X.method'
  have hn : narrow .int (.int z) = .int z := rfl
  show Steps p.tables e below (T.setTop { method := m, pc := pc, locals := Ls, stack := _ :: rest, locked := none }) _
  jvm_step X.here [X.here.top, hx, hd, hm', hret, hn]
  first | (intro acts; rw [hl _ acts rfl rfl rfl]) | rw [hl _ _ rfl rfl rfl]
  exact Steps.refl _
end New
end Jvm.RoadKit
namespace Jvm.Pilot.@@N@@
open Jvm Jvm.ClassFile Sem Op Lib Jvm.Free Jvm.Stand Jvm.LawKit Jvm.RoadKit Bundle Jvm.Pilot.@@N@@.Jvm.D
/-! own small kit: a walk forward, state by state -/
section OwnKit
variable {p : Program} {l : Launch} {e : Env} {R : Room} {s : State} {m : MethodId} {args : Array Value} {below : List Frame} {meth : Method} {c : Code} {T : State} {locs : List Loc} {cells slots : Nat} {rc rs : Nat} {Q : Option Value → Heap → List Loc → Prop} {Z : State} {h h' : Heap} {a b : Addr} {S S' : State}
/-- from S the run comes to its return, and Q holds there -/
def Go (p : Program) (e : Env) (below : List Frame) (s : State) (rc rs : Nat) (Q : Option Value → Heap → List Loc → Prop) (S : State) : Prop :=
  ∃ s₂ o, Steps p.tables e below S s₂ ∧ s₂.status = .running ∧ Ended s₂ below o ∧ ∃ v L, o = .returned v ∧ Q v s₂.heap L ∧ FrameEnd s o s₂ L rc rs
theorem Go.st (k : ∀ t, Steps p.tables e below S' t → Steps p.tables e below S t) (g : Go p e below s rc rs Q S') : Go p e below s rc rs Q S := by
  obtain ⟨x, y, z, r⟩ := g
  exact ⟨x, y, k x z, r⟩
theorem Go.tr (k : Steps p.tables e below S S') (g : Go p e below s rc rs Q S') : Go p e below s rc rs Q S := by
  obtain ⟨x, y, z, r⟩ := g
  exact ⟨x, y, k.trans z, r⟩
theorem Go.ret (X : Stand p l e R s m args below meth c T locs cells slots) (hlk : meth.locks = false) (v : Option Value) (hv : meth.sig.returnType = none → v = none) {g : JFrame} (hQ : Q v T.heap locs) (hc : cells ≤ rc) (hs : slots ≤ rs)
    (k : ∀ fs, (∀ (f : JFrame) (acts : List Action), f.method = m → f.locked = none → f.entered = [] → (doReturn e (T.setTop f) acts v).1 = T.setFrames fs) → Steps p.tables e below (T.setTop g) (T.setFrames fs)) : Go p e below s rc rs Q (T.setTop g) := by
  obtain ⟨fs, hr, hrun, hended, hW, hsame⟩ := X.leave (v := v) hv hlk
  exact ⟨_, _, k fs hr, hrun, hended, _, _, rfl, hQ, ⟨_, rfl⟩, hW, hsame.mono hc hs⟩
theorem own_w {a0 : Array Value} (hw : ∀ d ∈ tables_1, d.before a0 Z = true) (k : Nat) {d : Jvm.Cond} (q : tables_1[k]? = some d) : d.before a0 Z = true := hw _ (List.mem_of_getElem? q)
theorem own_idx {n j : Int32} {cl : Cell} (S : cl.slots.size = n.toNatClampNeg) (q1 : ¬ j < 0) (q2 : j < n) : ¬ (j < 0 ∨ cl.slots.size ≤ j.toNatClampNeg) := inb_of S ⟨q1, q2⟩
theorem own_iaload (X : Stand p l e R s m args below meth c T locs cells slots) (hx : p.tables.exec = Jvm.exec) (hZ : Z.Warmed39 s.vm) (eT : T.heap = h) {k : ClassId} {n : Int32} {vs : List Value} {d : Value} (V : Arv Z h a k .int n vs d) {j : Int32} (q1 : ¬ j < 0) (q2 : j < n) {v : Value} (hv : vs.getD j.toNatClampNeg d = v) {g : JFrame} (hg : g.method = m) {rest : List Value} (hs : g.stack = .int j :: .ref a :: rest) (hd : decode c.code g.pc = .ok (.iaload, 1)) (t : State) (kk : Steps p.tables e below (T.setTop { g with pc := g.pc + 1, stack := v :: rest }) t) : Steps p.tables e below (T.setTop g) t := by
  obtain ⟨cl, A, -, S, -, H, -⟩ := V
  have hin := own_idx S q1 q2
  exact X.iaload hx (j := j) (v := v) (by rw [eT]; exact A.1) (State.isArrayOf_alike hZ.alike A.2.1) A.2.2 hin (H.at hin hv) (g := g) hg hs hd _ kk
theorem own_laload (X : Stand p l e R s m args below meth c T locs cells slots) (hx : p.tables.exec = Jvm.exec) (hZ : Z.Warmed39 s.vm) (eT : T.heap = h) {k : ClassId} {n : Int32} {vs : List Value} {d : Value} (V : Arv Z h a k .long n vs d) {j : Int32} (q1 : ¬ j < 0) (q2 : j < n) {v : Value} (hv : vs.getD j.toNatClampNeg d = v) {g : JFrame} (hg : g.method = m) {rest : List Value} (hs : g.stack = .int j :: .ref a :: rest) (hd : decode c.code g.pc = .ok (.laload, 1)) (t : State) (kk : Steps p.tables e below (T.setTop { g with pc := g.pc + 1, stack := v :: rest }) t) : Steps p.tables e below (T.setTop g) t := by
  obtain ⟨cl, A, -, S, -, H, -⟩ := V
  have hin := own_idx S q1 q2
  exact X.laload hx (j := j) (v := v) (by rw [eT]; exact A.1) (State.isArrayOf_alike hZ.alike A.2.1) A.2.2 hin (H.at hin hv) (g := g) hg hs hd _ kk
theorem own_caload (X : Stand p l e R s m args below meth c T locs cells slots) (hx : p.tables.exec = Jvm.exec) (hZ : Z.Warmed39 s.vm) (eT : T.heap = h) {k : ClassId} {n : Int32} {vs : List Value} {d : Value} (V : Arv Z h a k .char n vs d) {j : Int32} (q1 : ¬ j < 0) (q2 : j < n) {v : Value} (hv : vs.getD j.toNatClampNeg d = v) {g : JFrame} (hg : g.method = m) {rest : List Value} (hs : g.stack = .int j :: .ref a :: rest) (hd : decode c.code g.pc = .ok (.caload, 1)) (t : State) (kk : Steps p.tables e below (T.setTop { g with pc := g.pc + 1, stack := v :: rest }) t) : Steps p.tables e below (T.setTop g) t := by
  obtain ⟨cl, A, -, S, -, H, -⟩ := V
  have hin := own_idx S q1 q2
  exact X.caload hx (j := j) (v := v) (by rw [eT]; exact A.1) (State.isArrayOf_alike hZ.alike A.2.1) A.2.2 hin (H.at hin hv) (g := g) hg hs hd _ kk
theorem own_baloadB (X : Stand p l e R s m args below meth c T locs cells slots) (hx : p.tables.exec = Jvm.exec) (hZ : Z.Warmed39 s.vm) (eT : T.heap = h) {k : ClassId} {n : Int32} {vs : List Value} {d : Value} (V : Arv Z h a k .byte n vs d) {j : Int32} (q1 : ¬ j < 0) (q2 : j < n) {v : Value} (hv : vs.getD j.toNatClampNeg d = v) {g : JFrame} (hg : g.method = m) {rest : List Value} (hs : g.stack = .int j :: .ref a :: rest) (hd : decode c.code g.pc = .ok (.baload, 1)) (t : State) (kk : Steps p.tables e below (T.setTop { g with pc := g.pc + 1, stack := v :: rest }) t) : Steps p.tables e below (T.setTop g) t := by
  obtain ⟨cl, A, -, S, -, H, -⟩ := V
  have hin := own_idx S q1 q2
  exact X.baloadBytes hx (j := j) (v := v) (by rw [eT]; exact A.1) (State.isArrayOf_alike hZ.alike A.2.1) A.2.2 hin (H.at hin hv) (g := g) hg hs hd _ kk
theorem own_baloadZ (X : Stand p l e R s m args below meth c T locs cells slots) (hx : p.tables.exec = Jvm.exec) (hZ : Z.Warmed39 s.vm) (eT : T.heap = h) {k : ClassId} {n : Int32} {vs : List Value} {d : Value} (V : Arv Z h a k .boolean n vs d) {j : Int32} (q1 : ¬ j < 0) (q2 : j < n) {v : Value} (hv : vs.getD j.toNatClampNeg d = v) {g : JFrame} (hg : g.method = m) {rest : List Value} (hs : g.stack = .int j :: .ref a :: rest) (hd : decode c.code g.pc = .ok (.baload, 1)) (t : State) (kk : Steps p.tables e below (T.setTop { g with pc := g.pc + 1, stack := v :: rest }) t) : Steps p.tables e below (T.setTop g) t := by
  obtain ⟨cl, A, -, S, -, H, -⟩ := V
  have hin := own_idx S q1 q2
  exact X.baloadBooleans hx (j := j) (v := v) (by rw [eT]; exact A.1) (State.isArrayOf_alike hZ.alike A.2.1) A.2.2 hin (H.at hin hv) (g := g) hg hs hd _ kk
theorem own_aaload (X : Stand p l e R s m args below meth c T locs cells slots) (hx : p.tables.exec = Jvm.exec) (hZ : Z.Warmed39 s.vm) (eT : T.heap = h) {k : ClassId} {n : Int32} {vs : List Value} {d : Value} {ty : FieldType} (V : Arv Z h a k ty n vs d) (hty : ty.isReference = true) {j : Int32} (q1 : ¬ j < 0) (q2 : j < n) {v : Value} (hv : vs.getD j.toNatClampNeg d = v) {g : JFrame} (hg : g.method = m) {rest : List Value} (hs : g.stack = .int j :: .ref a :: rest) (hd : decode c.code g.pc = .ok (.aaload, 1)) (t : State) (kk : Steps p.tables e below (T.setTop { g with pc := g.pc + 1, stack := v :: rest }) t) : Steps p.tables e below (T.setTop g) t := by
  obtain ⟨cl, A, -, S, -, H, -⟩ := V
  have hin := own_idx S q1 q2
  exact X.aaload hx (j := j) (v := v) (by rw [eT]; exact A.1) (State.isArrayOf_alike hZ.alike A.2.1) hty A.2.2 hin (H.at hin hv) (g := g) hg hs hd _ kk
theorem own_len (X : Stand p l e R s m args below meth c T locs cells slots) (hx : p.tables.exec = Jvm.exec) (hZ : Z.Warmed39 s.vm) (eT : T.heap = h) {k : ClassId} {n : Int32} {vs : List Value} {d : Value} {ty : FieldType} (V : Arv Z h a k ty n vs d) {g : JFrame} (hg : g.method = m) {rest : List Value} (hs : g.stack = .ref a :: rest) (hd : decode c.code g.pc = .ok (.arraylength, 1)) (t : State) (kk : Steps p.tables e below (T.setTop { g with pc := g.pc + 1, stack := .int n :: rest }) t) : Steps p.tables e below (T.setTop g) t := by
  obtain ⟨cl, A, -, S, N, -, -⟩ := V
  refine X.arraylength hx (by rw [eT]; exact A.1) (State.isArrayOf_alike hZ.alike A.2.1) (g := g) hg hs hd _ ?_
  rw [len_of S N]
  exact kk
theorem own_stI (X : Stand p l e R s m args below meth c T locs cells slots) (hx : p.tables.exec = Jvm.exec) (hZ : Z.Warmed39 s.vm) (eT : T.heap = h) {k : ClassId} {n : Int32} {vs : List Value} {d : Value} (V : Arv Z h a k .int n vs d) {j x : Int32} (q1 : ¬ j < 0) (q2 : j < n) (i : Nat) (hi : j.toNatClampNeg = i) (hl : i < vs.length) {g : JFrame} (hg : g.method = m) {rest : List Value} (hs : g.stack = .int x :: .int j :: .ref a :: rest) (hd : decode c.code g.pc = .ok (.iastore, 1)) :
    ∃ T' h', Stand p l e R s m args below meth c T' (locs ++ [⟨a, j.toNatClampNeg⟩]) cells slots ∧ T'.heap = h' ∧ Wr h h' a j.toNatClampNeg (.int x) ∧ Arv Z h' a k .int n (vs.set i (.int x)) d ∧ ∀ t, Steps p.tables e below (T'.setTop { g with pc := g.pc + 1, stack := rest }) t → Steps p.tables e below (T.setTop g) t := by
  obtain ⟨cl, A, q, S, N, H, G⟩ := V
  obtain ⟨T', h', X', e', W', st⟩ := stI X hx hZ eT A (own_idx S q1 q2) (g := g) hg hs hd
  exact ⟨T', h', X', e', W', Arv.set A q S N H G rfl W' i hi hl, st⟩
theorem own_stJ (X : Stand p l e R s m args below meth c T locs cells slots) (hx : p.tables.exec = Jvm.exec) (hZ : Z.Warmed39 s.vm) (eT : T.heap = h) {k : ClassId} {n : Int32} {vs : List Value} {d : Value} (V : Arv Z h a k .long n vs d) {j : Int32} {x : Int64} (q1 : ¬ j < 0) (q2 : j < n) (i : Nat) (hi : j.toNatClampNeg = i) (hl : i < vs.length) {g : JFrame} (hg : g.method = m) {rest : List Value} (hs : g.stack = .long x :: .int j :: .ref a :: rest) (hd : decode c.code g.pc = .ok (.lastore, 1)) :
    ∃ T' h', Stand p l e R s m args below meth c T' (locs ++ [⟨a, j.toNatClampNeg⟩]) cells slots ∧ T'.heap = h' ∧ Wr h h' a j.toNatClampNeg (.long x) ∧ Arv Z h' a k .long n (vs.set i (.long x)) d ∧ ∀ t, Steps p.tables e below (T'.setTop { g with pc := g.pc + 1, stack := rest }) t → Steps p.tables e below (T.setTop g) t := by
  obtain ⟨cl, A, q, S, N, H, G⟩ := V
  obtain ⟨T', h', X', e', W', st⟩ := stJ X hx hZ eT A (own_idx S q1 q2) (g := g) hg hs hd
  exact ⟨T', h', X', e', W', Arv.set A q S N H G rfl W' i hi hl, st⟩
theorem own_stC (X : Stand p l e R s m args below meth c T locs cells slots) (hx : p.tables.exec = Jvm.exec) (hZ : Z.Warmed39 s.vm) (eT : T.heap = h) {k : ClassId} {n : Int32} {vs : List Value} {d : Value} (V : Arv Z h a k .char n vs d) {j x : Int32} (q1 : ¬ j < 0) (q2 : j < n) (i : Nat) (hi : j.toNatClampNeg = i) (hl : i < vs.length) {g : JFrame} (hg : g.method = m) {rest : List Value} (hs : g.stack = .int x :: .int j :: .ref a :: rest) (hd : decode c.code g.pc = .ok (.castore, 1)) :
    ∃ T' h', Stand p l e R s m args below meth c T' (locs ++ [⟨a, j.toNatClampNeg⟩]) cells slots ∧ T'.heap = h' ∧ Wr h h' a j.toNatClampNeg (.int (nar .char x)) ∧ Arv Z h' a k .char n (vs.set i (.int (nar .char x))) d ∧ ∀ t, Steps p.tables e below (T'.setTop { g with pc := g.pc + 1, stack := rest }) t → Steps p.tables e below (T.setTop g) t := by
  obtain ⟨cl, A, q, S, N, H, G⟩ := V
  obtain ⟨T', h', X', e', W', st⟩ := stC X hx hZ eT A (own_idx S q1 q2) (g := g) hg hs hd
  exact ⟨T', h', X', e', W', Arv.set A q S N H G (fits_nar_char _) W' i hi hl, st⟩
theorem own_stB (X : Stand p l e R s m args below meth c T locs cells slots) (hx : p.tables.exec = Jvm.exec) (hZ : Z.Warmed39 s.vm) (eT : T.heap = h) {k : ClassId} {n : Int32} {vs : List Value} {d : Value} (V : Arv Z h a k .byte n vs d) {j x : Int32} (q1 : ¬ j < 0) (q2 : j < n) (i : Nat) (hi : j.toNatClampNeg = i) (hl : i < vs.length) {g : JFrame} (hg : g.method = m) {rest : List Value} (hs : g.stack = .int x :: .int j :: .ref a :: rest) (hd : decode c.code g.pc = .ok (.bastore, 1)) :
    ∃ T' h', Stand p l e R s m args below meth c T' (locs ++ [⟨a, j.toNatClampNeg⟩]) cells slots ∧ T'.heap = h' ∧ Wr h h' a j.toNatClampNeg (.int (nar .byte x)) ∧ Arv Z h' a k .byte n (vs.set i (.int (nar .byte x))) d ∧ ∀ t, Steps p.tables e below (T'.setTop { g with pc := g.pc + 1, stack := rest }) t → Steps p.tables e below (T.setTop g) t := by
  obtain ⟨cl, A, q, S, N, H, G⟩ := V
  obtain ⟨T', h', X', e', W', st⟩ := stB X hx hZ eT A (own_idx S q1 q2) (g := g) hg hs hd
  exact ⟨T', h', X', e', W', Arv.set A q S N H G (fits_nar_byte _) W' i hi hl, st⟩
theorem own_stZ (X : Stand p l e R s m args below meth c T locs cells slots) (hx : p.tables.exec = Jvm.exec) (hZ : Z.Warmed39 s.vm) (eT : T.heap = h) {k : ClassId} {n : Int32} {vs : List Value} {d : Value} (V : Arv Z h a k .boolean n vs d) {j x : Int32} (q1 : ¬ j < 0) (q2 : j < n) (i : Nat) (hi : j.toNatClampNeg = i) (hl : i < vs.length) {g : JFrame} (hg : g.method = m) {rest : List Value} (hs : g.stack = .int x :: .int j :: .ref a :: rest) (hd : decode c.code g.pc = .ok (.bastore, 1)) :
    ∃ T' h', Stand p l e R s m args below meth c T' (locs ++ [⟨a, j.toNatClampNeg⟩]) cells slots ∧ T'.heap = h' ∧ Wr h h' a j.toNatClampNeg (.int (nar .boolean x)) ∧ Arv Z h' a k .boolean n (vs.set i (.int (nar .boolean x))) d ∧ ∀ t, Steps p.tables e below (T'.setTop { g with pc := g.pc + 1, stack := rest }) t → Steps p.tables e below (T.setTop g) t := by
  obtain ⟨cl, A, q, S, N, H, G⟩ := V
  obtain ⟨T', h', X', e', W', st⟩ := stZ X hx hZ eT A (own_idx S q1 q2) (g := g) hg hs hd
  exact ⟨T', h', X', e', W', Arv.set A q S N H G (fits_nar_bool _) W' i hi hl, st⟩
theorem own_old {n0 : Nat} (O : Old Z n0 h) : n0 ≤ h.size := O.1 ▸ O.2.1
theorem own_res {z z' y : Int32} (hq : y = z') (hz : z = z') : some (Value.int z) = some (Value.int y) := by rw [hq, hz]
theorem own_resJ {z z' y : Int64} (hq : y = z') (hz : z = z') : some (Value.long z) = some (Value.long y) := by rw [hq, hz]
theorem own_narR {v : Value} {t : FieldType} (q : v.isRef = true) (r : t.isReference = true := by rfl) : narrow t v = v := by
  rcases ref_cases q with rfl | ⟨_, rfl⟩ <;> cases t <;> first | rfl | (simp [FieldType.isReference] at r)
theorem own_fitR {v : Value} {t : FieldType} (q : v.isRef = true) (r : t.isReference = true := by rfl) : fits t v = true := by
  rcases ref_cases q with rfl | ⟨_, rfl⟩ <;> cases t <;> first | rfl | (simp [FieldType.isReference] at r)
theorem own_fld {ar : Array Value} {t : Term} {x : Addr} {C n d : String} {k : Int32} (ht : t.eval ar s none [] s = some (.ref x)) (q : (Jvm.Cond.eq (.field t C n d) (.int k)).value ar s none s [] = some true) : Fld s s.heap x C n d (.int k) := by
  obtain ⟨u, w, e1, e2, -, k2⟩ := cmp_v (Or.inl q)
  have e3 : (Term.int k).eval ar s none [] s = some (.int k) := Term.int_eval k
  rw [e3] at e2
  obtain rfl := Option.some.inj e2
  obtain ⟨z, rfl⟩ := k2
  have e4 : z = k := gotT (Cond.eq_ints e1 e3) q
  subst e4
  rw [fld_at ht] at e1
  exact Fld.start e1
theorem own_neI {u w : Int32} (q : u ≠ w) : Value.int u ≠ Value.int w := fun z => q (Value.int.inj z)
theorem own_stR (X : Stand p l e R s m args below meth c T locs cells slots) (hx : p.tables.exec = Jvm.exec) (hZ : Z.Warmed39 s.vm) (eT : T.heap = h) {k : ClassId} {n : Int32} {vs : List Value} {d : Value} {ty : FieldType} {C : String} (V : Arv Z h a k ty n vs d) (hty : ty.isReference = true) (O : Ovr Z k C) {y : Addr} (I : Ins Z h y C true) {j : Int32} (q1 : ¬ j < 0) (q2 : j < n) (i : Nat) (hi : j.toNatClampNeg = i) (hl : i < vs.length) {g : JFrame} (hg : g.method = m) {rest : List Value} (hs : g.stack = .ref y :: .int j :: .ref a :: rest) (hd : decode c.code g.pc = .ok (.aastore, 1)) :
    ∃ T' h', Stand p l e R s m args below meth c T' (locs ++ [⟨a, j.toNatClampNeg⟩]) cells slots ∧ T'.heap = h' ∧ Wr h h' a j.toNatClampNeg (.ref y) ∧ Arv Z h' a k ty n (vs.set i (.ref y)) d ∧ ∀ t, Steps p.tables e below (T'.setTop { g with pc := g.pc + 1, stack := rest }) t → Steps p.tables e below (T.setTop g) t := by
  obtain ⟨cl, A, q, S, N, H, G⟩ := V
  obtain ⟨T', h', X', e', W', st⟩ := stR X hx hZ eT A (own_idx S q1 q2) hty (Sto.ofV A q O I) (g := g) hg hs hd
  exact ⟨T', h', X', e', W', Arv.set A q S N H G (own_fitR rfl hty) W' i hi hl, st⟩
theorem own_dupx2 (X : Stand p l e R s m args below meth c T locs cells slots) (hx : p.tables.exec = Jvm.exec) {g : JFrame} (hg : g.method = m) {x y z : Value} {rest : List Value} (hd : decode c.code g.pc = .ok (.dup_x2, 1)) (hs : g.stack = x :: y :: z :: rest) (hc : x.category = 1) (hc' : y.category = 1) (hc'' : z.category = 1) (t : State) (kk : Steps p.tables e below (T.setTop { g with pc := g.pc + 1, stack := x :: y :: z :: x :: rest }) t) : Steps p.tables e below (T.setTop g) t := by
  subst hg
  jvm_step X.here [X.here.top, hx, hd, dup_x2.wp_sem, hs, hc, hc', hc'']
  exact kk
theorem own_gen {n0 : Nat} (X : Stand p l e R s m args below meth c T locs cells slots) (N : Fr n0 locs) : ∃ L, Stand p l e R s m args below meth c T L cells slots ∧ Fr n0 L := ⟨_, X, N⟩
end OwnKit
/-! the same with the wide end (String constants may have been interned) -/
section OwnW
variable {p : Program} {l : Launch} {e : Env} {R : Room} {s : State} {m : MethodId} {args : Array Value} {below : List Frame} {meth : Method} {c : Code} {T : State} {locs : List Loc} {cells slots : Nat} {rc rs : Nat} {Q : Option Value → Heap → List Loc → Prop} {S S' : State}
def GoW (p : Program) (e : Env) (below : List Frame) (s : State) (rc rs : Nat) (Q : Option Value → Heap → List Loc → Prop) (S : State) : Prop :=
  ∃ s₂ o, Steps p.tables e below S s₂ ∧ s₂.status = .running ∧ Ended s₂ below o ∧ ∃ v L, o = .returned v ∧ Q v s₂.heap L ∧ ReturnedEndW s o s₂ L rc rs
theorem GoW.st (k : ∀ t, Steps p.tables e below S' t → Steps p.tables e below S t) (g : GoW p e below s rc rs Q S') : GoW p e below s rc rs Q S := by
  obtain ⟨x, y, z, r⟩ := g
  exact ⟨x, y, k x z, r⟩
theorem GoW.tr (k : Steps p.tables e below S S') (g : GoW p e below s rc rs Q S') : GoW p e below s rc rs Q S := by
  obtain ⟨x, y, z, r⟩ := g
  exact ⟨x, y, k.trans z, r⟩
theorem GoW.ret {vm1 : Vm} {n1 : Nat} (X : Stand p l e R (s.setVm vm1) m args below meth c T locs cells slots) (hlk : meth.locks = false) (hS : s.Since vm1 n1) (hn : n1 ≤ T.heap.size) (v : Option Value) (hv : meth.sig.returnType = none → v = none) {g : JFrame} (hQ : Q v T.heap locs) (hc : cells ≤ rc) (hs : slots ≤ rs)
    (k : ∀ fs, (∀ (f : JFrame) (acts : List Action), f.method = m → f.locked = none → f.entered = [] → (doReturn e (T.setTop f) acts v).1 = T.setFrames fs) → Steps p.tables e below (T.setTop g) (T.setFrames fs)) : GoW p e below s rc rs Q (T.setTop g) := by
  obtain ⟨fs, hr, hrun, hended, hE⟩ := X.leaveW hS hn (v := v) hv hlk
  exact ⟨_, _, k fs hr, hrun, hended, _, _, rfl, hQ, hE.1, hE.2.1, hE.2.2.1, hE.2.2.2.mono hc hs⟩
end OwnW
theorem own_lt (x y : Int32) : (x < y) = (x.toInt < y.toInt) := propext Int32.lt_iff_toInt_lt
theorem own_eq (x y : Int32) : (x = y) = (x.toInt = y.toInt) := propext Int32.toInt_inj.symm
theorem own_rem (x k : Int32) (hk : 0 < k.toInt) : ¬ ((x &&& 2147483647) % k < 0) ∧ (x &&& 2147483647) % k < k := by
  have h1 := c_mask x 2147483647 31 (by decide) (by decide)
  have h2 := c_iremV (x &&& 2147483647) k
  have h3 : 0 ≤ (x &&& 2147483647).toInt := by rw [h1]; exact Int.emod_nonneg _ (by decide)
  have h4 := h2.1 h3 hk
  rw [own_lt, own_lt]
  have h5 : (0 : Int32).toInt = 0 := rfl
  omega
theorem own_ofNat {i j : Nat} (hi : i < 1000) (hj : j < 1000) (z : Int32.ofNat i = Int32.ofNat j) : i = j := by
  have h1 : (Int32.ofNat i).toInt = (i : Int) := len_toInt (by omega)
  have h2 : (Int32.ofNat j).toInt = (j : Int) := len_toInt (by omega)
  rw [z] at h1
  omega
section OwnT
variable {s : State} {ar : Array Value}
theorem own_fldR {t : Term} {x y : Addr} {C n d : String} (ht : t.eval ar s none [] s = some (.ref x)) (e : (Term.field t C n d).eval ar s none [] s = some (.ref y)) : Fld s s.heap x C n d (.ref y) := Fld.start ((fld_at ht).symm.trans e)
theorem own_int {t : Term} {k : Int32} (q : (Jvm.Cond.eq t (.int k)).value ar s none s [] = some true) : t.eval ar s none [] s = some (.int k) := by
  obtain ⟨u, w, e1, e2, -, k2⟩ := cmp_v (Or.inl q)
  have e3 : (Term.int k).eval ar s none [] s = some (.int k) := Term.int_eval k
  rw [e3] at e2
  obtain rfl := Option.some.inj e2
  obtain ⟨z, rfl⟩ := k2
  have e4 : z = k := gotT (Cond.eq_ints e1 e3) q
  subst e4
  exact e1
theorem own_lenv {t : Term} {x : Addr} {cl : Cell} {ty : FieldType} {n : Int32} (ev : t.eval ar s none [] s = some (.ref x)) (A : Arr s s.heap x cl ty) (q : (Jvm.Cond.eq (.length t) (.int n)).value ar s none s [] = some true) : cl.slots.size < 2 ^ 31 ∧ cl.slots.size.toInt32 = n := by
  have e1 := own_int q
  obtain ⟨a, cell, h1, h2, h3⟩ := Term.length_spec e1
  cases ev.symm.trans h1
  have h4 : s.arrayAt? x = some cl := A.fin (Vm.Alike.refl _)
  cases h2.symm.trans h4
  refine ⟨?_, (Value.int.inj h3).symm⟩
  by_cases hlt : cl.slots.size < 2147483648
  · exact hlt
  · exfalso
    simp [Term.eval, h1, h4, hlt] at e1
theorem own_elemv {t : Term} {x : Addr} {cl : Cell} {ty : FieldType} {i k : Int32} (ev : t.eval ar s none [] s = some (.ref x)) (A : Arr s s.heap x cl ty) (q : (Jvm.Cond.eq (.elem t (.int i)) (.int k)).value ar s none s [] = some true) : cl.slots[i.toNatClampNeg]? = some (.int k) :=
  (elem_in (own_int q) ev (Term.int_eval i) A.1).2
end OwnT
def OwnSt (Z : State) (c : Nat → Addr) : Prop := Sta Z Z.heap "com/example/pemmican/pemmican/DataType" "STRING" "Lcom/example/pemmican/pemmican/DataType;" (.ref (c 0)) ∧ Sta Z Z.heap "com/example/pemmican/pemmican/DataType" "INTEGER" "Lcom/example/pemmican/pemmican/DataType;" (.ref (c 1)) ∧ Sta Z Z.heap "com/example/pemmican/pemmican/DataType" "FLOAT" "Lcom/example/pemmican/pemmican/DataType;" (.ref (c 2)) ∧ Sta Z Z.heap "com/example/pemmican/pemmican/DataType" "DOUBLE" "Lcom/example/pemmican/pemmican/DataType;" (.ref (c 3)) ∧ Sta Z Z.heap "com/example/pemmican/pemmican/DataType" "BOOLEAN" "Lcom/example/pemmican/pemmican/DataType;" (.ref (c 4)) ∧ (∀ i, i < 5 → Exa Z Z.heap (c i) "com/example/pemmican/pemmican/DataType") ∧ (∀ i j, i < 5 → j < 5 → c i = c j → i = j)
def OwnT (Z : State) (c sa va : Nat → Addr) (kv : Nat → ClassId) : Prop := (Fld Z Z.heap (c 0) "com/example/pemmican/pemmican/DataType" "pmmlName" "Ljava/lang/String;" (.ref (sa 0)) ∧ Exa Z Z.heap (sa 0) "java/lang/String" ∧ Fld Z Z.heap (sa 0) "java/lang/String" "coder" "B" (.int (0 : Int32)) ∧ Fld Z Z.heap (sa 0) "java/lang/String" "value" "[B" (.ref (va 0)) ∧ Arv Z Z.heap (va 0) (kv 0) .byte (6 : Int32) [(.int (115 : Int32)), (.int (116 : Int32)), (.int (114 : Int32)), (.int (105 : Int32)), (.int (110 : Int32)), (.int (103 : Int32))] (.int (0 : Int32))) ∧ (Fld Z Z.heap (c 1) "com/example/pemmican/pemmican/DataType" "pmmlName" "Ljava/lang/String;" (.ref (sa 1)) ∧ Exa Z Z.heap (sa 1) "java/lang/String" ∧ Fld Z Z.heap (sa 1) "java/lang/String" "coder" "B" (.int (0 : Int32)) ∧ Fld Z Z.heap (sa 1) "java/lang/String" "value" "[B" (.ref (va 1)) ∧ Arv Z Z.heap (va 1) (kv 1) .byte (7 : Int32) [(.int (105 : Int32)), (.int (110 : Int32)), (.int (116 : Int32)), (.int (101 : Int32)), (.int (103 : Int32)), (.int (101 : Int32)), (.int (114 : Int32))] (.int (0 : Int32))) ∧ (Fld Z Z.heap (c 2) "com/example/pemmican/pemmican/DataType" "pmmlName" "Ljava/lang/String;" (.ref (sa 2)) ∧ Exa Z Z.heap (sa 2) "java/lang/String" ∧ Fld Z Z.heap (sa 2) "java/lang/String" "coder" "B" (.int (0 : Int32)) ∧ Fld Z Z.heap (sa 2) "java/lang/String" "value" "[B" (.ref (va 2)) ∧ Arv Z Z.heap (va 2) (kv 2) .byte (5 : Int32) [(.int (102 : Int32)), (.int (108 : Int32)), (.int (111 : Int32)), (.int (97 : Int32)), (.int (116 : Int32))] (.int (0 : Int32))) ∧ (Fld Z Z.heap (c 3) "com/example/pemmican/pemmican/DataType" "pmmlName" "Ljava/lang/String;" (.ref (sa 3)) ∧ Exa Z Z.heap (sa 3) "java/lang/String" ∧ Fld Z Z.heap (sa 3) "java/lang/String" "coder" "B" (.int (0 : Int32)) ∧ Fld Z Z.heap (sa 3) "java/lang/String" "value" "[B" (.ref (va 3)) ∧ Arv Z Z.heap (va 3) (kv 3) .byte (6 : Int32) [(.int (100 : Int32)), (.int (111 : Int32)), (.int (117 : Int32)), (.int (98 : Int32)), (.int (108 : Int32)), (.int (101 : Int32))] (.int (0 : Int32))) ∧ (Fld Z Z.heap (c 4) "com/example/pemmican/pemmican/DataType" "pmmlName" "Ljava/lang/String;" (.ref (sa 4)) ∧ Exa Z Z.heap (sa 4) "java/lang/String" ∧ Fld Z Z.heap (sa 4) "java/lang/String" "coder" "B" (.int (0 : Int32)) ∧ Fld Z Z.heap (sa 4) "java/lang/String" "value" "[B" (.ref (va 4)) ∧ Arv Z Z.heap (va 4) (kv 4) .byte (7 : Int32) [(.int (98 : Int32)), (.int (111 : Int32)), (.int (111 : Int32)), (.int (108 : Int32)), (.int (101 : Int32)), (.int (97 : Int32)), (.int (110 : Int32))] (.int (0 : Int32)))
theorem d1_0 : decode prog_16_method_5_code 0 = .ok (.aload_n 0, 1) := by decide +kernel
theorem d1_1 : decode prog_16_method_5_code 1 = .ok (.getfield 38, 3) := by decide +kernel
theorem d1_4 : decode prog_16_method_5_code 4 = .ok (.areturn, 1) := by decide +kernel
theorem pn1 : plainName "com/example/pemmican/pemmican/DataType" = true := by first | (simp [plainName, overriddenIn]; done) | decide +kernel
theorem ef1 (m : MethodId) (x0 : Addr) : entryFrame m #[(.ref x0)] 1 = mkF m 0 #[.val (.ref x0)] [] := by first | (simp [entryFrame, mkF, argsToLocals, Value.category, maxLocals]; done) | rfl
def Q1 (Z : State) (a : Addr) (t : Addr) (h0 : Heap) (n0 : Nat) (v : Option Value) (h : Heap) (L : List Loc) : Prop := v = some (.ref t) ∧ Fr n0 L ∧ h = h0
set_option maxRecDepth 65536 in
set_option maxHeartbeats 40000000 in
theorem rm1 (l : Launch) (Z : State) (a0 : Array Value) (hw : ∀ d ∈ tables_1, d.before a0 Z = true) (ws : List Jvm.Cond) (a : Addr) (t : Addr) (h0 : Heap) (n0 : Nat) (O0 : Old Z n0 h0) (F : Fld Z h0 a "com/example/pemmican/pemmican/DataType" "pmmlName" "Ljava/lang/String;" (.ref t)) :
    MetFree l (⟨"com/example/pemmican/pemmican/DataType", "pmmlName", "()Ljava/lang/String;"⟩ : MethodName) (head1 (Jvm.Cond.code (⟨"com/example/pemmican/pemmican/DataType", "pmmlName", "()Ljava/lang/String;"⟩ : MethodName) prog_16_method_5_code 1 (some (.object "java/lang/String")) :: ws) ({ frames := 0, cells := 0, slots := 0, locals := 0 } : Room)) (fun A_ U_ => A_ = #[(.ref a)] ∧ Z.Warmed39 U_.vm ∧ U_.heap = h0) (fun _ _ _ _ _ => True) (fun _ U o U' => ∃ v L, o = .returned v ∧ Q1 Z a t h0 n0 v U'.heap L ∧ FrameEnd U o U' L ({ frames := 0, cells := 0, slots := 0, locals := 0 } : Room).cells ({ frames := 0, cells := 0, slots := 0, locals := 0 } : Room).slots) := by
  refine MetFree.of_bodySF (plainFor_of_name pn1) hisR ?_
  intro p e s m args below meth cd s₁ Bd hml0 hP hK
  obtain ⟨rfl, hZ, hh⟩ := hP
  have hx := Bd.exec
  have hby := Bd.bytes
  have hlk : meth.locks = false := BodyLoose.notSynchronized Bd
  have hml : cd.maxLocals = 1 := hml0
  have hown : s.vm.findClass "com/example/pemmican/pemmican/DataType" = some m.cls := findClass_of_methodNamed Bd.named
  have hnm := (name_of_methodNamed Bd.named Bd.method).1
  have X0 : Stand p l e ({ frames := 0, cells := 0, slots := 0, locals := 0 } : Room) s m #[(.ref a)] below meth cd s₁ [] 0 0 := Stand.of_body Bd
  have e0 : s₁.heap = h0 := by rw [← hh, Bd.state]; rfl
  have N0 := Fr.nil n0
  have G : Go p e below s 0 0 (Q1 Z a t h0 n0) (s₁.setTop (mkF m 0 #[.val (.ref a)] [])) := by
    show Go p e below s _ _ _ (s₁.setTop (mkF m 0 #[.val (.ref a)] []))
    refine Go.st (fun _ kq_ => XS.aloadN X0.here hx rfl (hb hby d1_0) rfl rfl kq_) ?_
    show Go p e below s _ _ _ (s₁.setTop (mkF m 1 #[.val (.ref a)] [(.ref a)]))
    obtain ⟨T1, X1, e1, st1⟩ := getF X0 hx hZ hown (host := "") (Or.inl (own_w hw 17 rfl)) Via.refl e0 F (g := (mkF m 1 #[.val (.ref a)] [(.ref a)])) rfl rfl (hb hby d1_1)
    refine Go.st st1 ?_
    show Go p e below s _ _ _ (T1.setTop (mkF m 4 #[.val (.ref a)] [(.ref t)]))
    exact Go.ret X1 hlk (some (.ref t)) (fun h => by rw [Bd.returns] at h; cases h) (by rw [e1]; exact ⟨rfl, N0, rfl⟩) (by decide) (by decide) (fun fs hr => retOut X1 hx Bd.returns rfl (Or.inr (Or.inr (Or.inr (Or.inr ⟨rfl, rfl, rfl⟩)))) (hb hby d1_4) hr)
  obtain ⟨s2, o2, st2, r2⟩ := G
  exact ⟨s2, o2, castTop (ef1 m a) st2, r2⟩
theorem d2_0 : decode prog_16_method_6_code 0 = .ok (.aload_n 0, 1) := by decide +kernel
theorem d2_1 : decode prog_16_method_6_code 1 = .ok (.getstatic 7, 3) := by decide +kernel
theorem d2_4 : decode prog_16_method_6_code 4 = .ok (.if_acmp .eq 17, 3) := by decide +kernel
theorem d2_7 : decode prog_16_method_6_code 7 = .ok (.aload_n 0, 1) := by decide +kernel
theorem d2_8 : decode prog_16_method_6_code 8 = .ok (.getstatic 10, 3) := by decide +kernel
theorem d2_11 : decode prog_16_method_6_code 11 = .ok (.if_acmp .eq 10, 3) := by decide +kernel
theorem d2_14 : decode prog_16_method_6_code 14 = .ok (.aload_n 0, 1) := by decide +kernel
theorem d2_15 : decode prog_16_method_6_code 15 = .ok (.getstatic 13, 3) := by decide +kernel
theorem d2_18 : decode prog_16_method_6_code 18 = .ok (.if_acmp .ne 7, 3) := by decide +kernel
theorem d2_21 : decode prog_16_method_6_code 21 = .ok (.iconst 1, 1) := by decide +kernel
theorem d2_22 : decode prog_16_method_6_code 22 = .ok (.goto 4, 3) := by decide +kernel
theorem d2_25 : decode prog_16_method_6_code 25 = .ok (.iconst 0, 1) := by decide +kernel
theorem d2_26 : decode prog_16_method_6_code 26 = .ok (.ireturn, 1) := by decide +kernel
theorem pn2 : plainName "com/example/pemmican/pemmican/DataType" = true := by first | (simp [plainName, overriddenIn]; done) | decide +kernel
theorem ef2 (m : MethodId) (x0 : Addr) : entryFrame m #[(.ref x0)] 1 = mkF m 0 #[.val (.ref x0)] [] := by first | (simp [entryFrame, mkF, argsToLocals, Value.category, maxLocals]; done) | rfl
def fNu (c : Nat → Addr) (i : Nat) : Int32 := (if ((.ref (c i)) : Value) = (.ref (c 1)) then (1 : Int32) else (if ((.ref (c i)) : Value) = (.ref (c 2)) then (1 : Int32) else (if ((.ref (c i)) : Value) = (.ref (c 3)) then (1 : Int32) else (0 : Int32))))
def Q2 (Z : State) (c : Nat → Addr) (i : Nat) (h0 : Heap) (n0 : Nat) (v : Option Value) (h : Heap) (L : List Loc) : Prop := v = some (.int (fNu c i)) ∧ Fr n0 L ∧ h = h0
set_option maxRecDepth 65536 in
set_option maxHeartbeats 40000000 in
theorem rm2 (l : Launch) (Z : State) (a0 : Array Value) (hw : ∀ d ∈ tables_1, d.before a0 Z = true) (ws : List Jvm.Cond) (c : Nat → Addr) (i : Nat) (h0 : Heap) (n0 : Nat) (O0 : Old Z n0 h0) (HS : OwnSt Z c) :
    MetFree l (⟨"com/example/pemmican/pemmican/DataType", "isNumber", "()Z"⟩ : MethodName) (head1 (Jvm.Cond.code (⟨"com/example/pemmican/pemmican/DataType", "isNumber", "()Z"⟩ : MethodName) prog_16_method_6_code 1 (some .boolean) :: ws) ({ frames := 0, cells := 0, slots := 0, locals := 0 } : Room)) (fun A_ U_ => A_ = #[(.ref (c i))] ∧ Z.Warmed39 U_.vm ∧ U_.heap = h0) (fun _ _ _ _ _ => True) (fun _ U o U' => ∃ v L, o = .returned v ∧ Q2 Z c i h0 n0 v U'.heap L ∧ FrameEnd U o U' L ({ frames := 0, cells := 0, slots := 0, locals := 0 } : Room).cells ({ frames := 0, cells := 0, slots := 0, locals := 0 } : Room).slots) := by
  refine MetFree.of_bodySF (plainFor_of_name pn2) hisR ?_
  intro p e s m args below meth cd s₁ Bd hml0 hP hK
  obtain ⟨rfl, hZ, hh⟩ := hP
  have hx := Bd.exec
  have hby := Bd.bytes
  have hlk : meth.locks = false := BodyLoose.notSynchronized Bd
  have hml : cd.maxLocals = 1 := hml0
  have hown : s.vm.findClass "com/example/pemmican/pemmican/DataType" = some m.cls := findClass_of_methodNamed Bd.named
  have hnm := (name_of_methodNamed Bd.named Bd.method).1
  have X0 : Stand p l e ({ frames := 0, cells := 0, slots := 0, locals := 0 } : Room) s m #[(.ref (c i))] below meth cd s₁ [] 0 0 := Stand.of_body Bd
  have e0 : s₁.heap = h0 := by rw [← hh, Bd.state]; rfl
  have N0 := Fr.nil n0
  have G : Go p e below s 0 0 (Q2 Z c i h0 n0) (s₁.setTop (mkF m 0 #[.val (.ref (c i))] [])) := by
    show Go p e below s _ _ _ (s₁.setTop (mkF m 0 #[.val (.ref (c i))] []))
    refine Go.st (fun _ kq_ => XS.aloadN X0.here hx rfl (hb hby d2_0) rfl rfl kq_) ?_
    show Go p e below s _ _ _ (s₁.setTop (mkF m 1 #[.val (.ref (c i))] [(.ref (c i))]))
    obtain ⟨T1, X1, e1, st1⟩ := getS X0 hx hZ hown (host := "") (own_w hw 38 rfl) Via.refl e0 (HS.2.1.ext O0.2) (g := (mkF m 1 #[.val (.ref (c i))] [(.ref (c i))])) rfl (hb hby d2_1)
    refine Go.st st1 ?_
    show Go p e below s _ _ _ (T1.setTop (mkF m 4 #[.val (.ref (c i))] [(.ref (c 1)), (.ref (c i))]))
    by_cases c4_2 : ((.ref (c i)) : Value) = (.ref (c 1))
    · refine Go.st (fun _ kq_ => XT.acmpYes X1.here hx rfl (pc0 := 4) (pc' := 21) rfl (hb hby d2_4) rfl rfl rfl (XT.aa_eq_t c4_2) (by decide) (by decide) kq_) ?_
      show Go p e below s _ _ _ (T1.setTop (mkF m 21 #[.val (.ref (c i))] []))
      refine Go.st (fun _ kq_ => XS.iconst X1.here hx rfl (hb hby d2_21) kq_) ?_
      show Go p e below s _ _ _ (T1.setTop (mkF m 22 #[.val (.ref (c i))] [(.int (1 : Int32))]))
      refine Go.st (fun _ kq_ => XS.goto X1.here hx rfl (pc0 := 22) (pc' := 26) rfl (hb hby d2_22) (by decide) (by decide) kq_) ?_
      show Go p e below s _ _ _ (T1.setTop (mkF m 26 #[.val (.ref (c i))] [(.int (1 : Int32))]))
      exact Go.ret X1 hlk (some (.int (nar .boolean (1 : Int32)))) (fun h => by rw [Bd.returns] at h; cases h) (by rw [e1]; exact ⟨own_res (z' := (1 : Int32)) (by unfold fNu; rw [if_pos c4_2]) rfl, N0, rfl⟩) (by decide) (by decide) (fun fs hr => retN X1 hx (t := .boolean) Bd.returns (by simp) (hb hby d2_26) hr)
    · refine Go.st (fun _ kq_ => XT.acmpNo X1.here hx rfl (hb hby d2_4) rfl rfl rfl (XT.aa_eq_f c4_2) kq_) ?_
      show Go p e below s _ _ _ (T1.setTop (mkF m 7 #[.val (.ref (c i))] []))
      refine Go.st (fun _ kq_ => XS.aloadN X1.here hx rfl (hb hby d2_7) rfl rfl kq_) ?_
      show Go p e below s _ _ _ (T1.setTop (mkF m 8 #[.val (.ref (c i))] [(.ref (c i))]))
      obtain ⟨T3, X3, e3, st3⟩ := getS X1 hx hZ hown (host := "") (own_w hw 40 rfl) Via.refl e1 (HS.2.2.1.ext O0.2) (g := (mkF m 8 #[.val (.ref (c i))] [(.ref (c i))])) rfl (hb hby d2_8)
      refine Go.st st3 ?_
      show Go p e below s _ _ _ (T3.setTop (mkF m 11 #[.val (.ref (c i))] [(.ref (c 2)), (.ref (c i))]))
      by_cases c11_4 : ((.ref (c i)) : Value) = (.ref (c 2))
      · refine Go.st (fun _ kq_ => XT.acmpYes X3.here hx rfl (pc0 := 11) (pc' := 21) rfl (hb hby d2_11) rfl rfl rfl (XT.aa_eq_t c11_4) (by decide) (by decide) kq_) ?_
        show Go p e below s _ _ _ (T3.setTop (mkF m 21 #[.val (.ref (c i))] []))
        refine Go.st (fun _ kq_ => XS.iconst X3.here hx rfl (hb hby d2_21) kq_) ?_
        show Go p e below s _ _ _ (T3.setTop (mkF m 22 #[.val (.ref (c i))] [(.int (1 : Int32))]))
        refine Go.st (fun _ kq_ => XS.goto X3.here hx rfl (pc0 := 22) (pc' := 26) rfl (hb hby d2_22) (by decide) (by decide) kq_) ?_
        show Go p e below s _ _ _ (T3.setTop (mkF m 26 #[.val (.ref (c i))] [(.int (1 : Int32))]))
        exact Go.ret X3 hlk (some (.int (nar .boolean (1 : Int32)))) (fun h => by rw [Bd.returns] at h; cases h) (by rw [e3]; exact ⟨own_res (z' := (1 : Int32)) (by unfold fNu; rw [if_neg c4_2, if_pos c11_4]) rfl, N0, rfl⟩) (by decide) (by decide) (fun fs hr => retN X3 hx (t := .boolean) Bd.returns (by simp) (hb hby d2_26) hr)
      · refine Go.st (fun _ kq_ => XT.acmpNo X3.here hx rfl (hb hby d2_11) rfl rfl rfl (XT.aa_eq_f c11_4) kq_) ?_
        show Go p e below s _ _ _ (T3.setTop (mkF m 14 #[.val (.ref (c i))] []))
        refine Go.st (fun _ kq_ => XS.aloadN X3.here hx rfl (hb hby d2_14) rfl rfl kq_) ?_
        show Go p e below s _ _ _ (T3.setTop (mkF m 15 #[.val (.ref (c i))] [(.ref (c i))]))
        obtain ⟨T5, X5, e5, st5⟩ := getS X3 hx hZ hown (host := "") (own_w hw 42 rfl) Via.refl e3 (HS.2.2.2.1.ext O0.2) (g := (mkF m 15 #[.val (.ref (c i))] [(.ref (c i))])) rfl (hb hby d2_15)
        refine Go.st st5 ?_
        show Go p e below s _ _ _ (T5.setTop (mkF m 18 #[.val (.ref (c i))] [(.ref (c 3)), (.ref (c i))]))
        by_cases c18_6 : ((.ref (c i)) : Value) = (.ref (c 3))
        · refine Go.st (fun _ kq_ => XT.acmpNo X5.here hx rfl (hb hby d2_18) rfl rfl rfl (XT.aa_ne_f c18_6) kq_) ?_
          show Go p e below s _ _ _ (T5.setTop (mkF m 21 #[.val (.ref (c i))] []))
          refine Go.st (fun _ kq_ => XS.iconst X5.here hx rfl (hb hby d2_21) kq_) ?_
          show Go p e below s _ _ _ (T5.setTop (mkF m 22 #[.val (.ref (c i))] [(.int (1 : Int32))]))
          refine Go.st (fun _ kq_ => XS.goto X5.here hx rfl (pc0 := 22) (pc' := 26) rfl (hb hby d2_22) (by decide) (by decide) kq_) ?_
          show Go p e below s _ _ _ (T5.setTop (mkF m 26 #[.val (.ref (c i))] [(.int (1 : Int32))]))
          exact Go.ret X5 hlk (some (.int (nar .boolean (1 : Int32)))) (fun h => by rw [Bd.returns] at h; cases h) (by rw [e5]; exact ⟨own_res (z' := (1 : Int32)) (by unfold fNu; rw [if_neg c4_2, if_neg c11_4, if_pos c18_6]) rfl, N0, rfl⟩) (by decide) (by decide) (fun fs hr => retN X5 hx (t := .boolean) Bd.returns (by simp) (hb hby d2_26) hr)
        · refine Go.st (fun _ kq_ => XT.acmpYes X5.here hx rfl (pc0 := 18) (pc' := 25) rfl (hb hby d2_18) rfl rfl rfl (XT.aa_ne_t c18_6) (by decide) (by decide) kq_) ?_
          show Go p e below s _ _ _ (T5.setTop (mkF m 25 #[.val (.ref (c i))] []))
          refine Go.st (fun _ kq_ => XS.iconst X5.here hx rfl (hb hby d2_25) kq_) ?_
          show Go p e below s _ _ _ (T5.setTop (mkF m 26 #[.val (.ref (c i))] [(.int (0 : Int32))]))
          exact Go.ret X5 hlk (some (.int (nar .boolean (0 : Int32)))) (fun h => by rw [Bd.returns] at h; cases h) (by rw [e5]; exact ⟨own_res (z' := (0 : Int32)) (by unfold fNu; rw [if_neg c4_2, if_neg c11_4, if_neg c18_6]) rfl, N0, rfl⟩) (by decide) (by decide) (fun fs hr => retN X5 hx (t := .boolean) Bd.returns (by simp) (hb hby d2_26) hr)
  obtain ⟨s2, o2, st2, r2⟩ := G
  exact ⟨s2, o2, castTop (ef2 m (c i)) st2, r2⟩
theorem own_ci (c : Nat → Addr) (inj : ∀ i j, i < 5 → j < 5 → c i = c j → i = j) (i j : Nat) (hi : i < 5) (hj : j < 5) (q : ¬ i = j) : ¬ (Value.ref (c i)) = .ref (c j) := fun z => q (inj i j hi hj (Value.ref.inj z))
theorem fNu_0 (c : Nat → Addr) (inj : ∀ i j, i < 5 → j < 5 → c i = c j → i = j) : fNu c 0 = 0 := by unfold fNu; rw [if_neg (own_ci c inj 0 1 (by decide) (by decide) (by decide)), if_neg (own_ci c inj 0 2 (by decide) (by decide) (by decide)), if_neg (own_ci c inj 0 3 (by decide) (by decide) (by decide))]
theorem fNu_1 (c : Nat → Addr) (inj : ∀ i j, i < 5 → j < 5 → c i = c j → i = j) : fNu c 1 = 1 := by unfold fNu; rw [if_pos rfl]
theorem fNu_2 (c : Nat → Addr) (inj : ∀ i j, i < 5 → j < 5 → c i = c j → i = j) : fNu c 2 = 1 := by unfold fNu; rw [if_neg (own_ci c inj 2 1 (by decide) (by decide) (by decide)), if_pos rfl]
theorem fNu_3 (c : Nat → Addr) (inj : ∀ i j, i < 5 → j < 5 → c i = c j → i = j) : fNu c 3 = 1 := by unfold fNu; rw [if_neg (own_ci c inj 3 1 (by decide) (by decide) (by decide)), if_neg (own_ci c inj 3 2 (by decide) (by decide) (by decide)), if_pos rfl]
theorem fNu_4 (c : Nat → Addr) (inj : ∀ i j, i < 5 → j < 5 → c i = c j → i = j) : fNu c 4 = 0 := by unfold fNu; rw [if_neg (own_ci c inj 4 1 (by decide) (by decide) (by decide)), if_neg (own_ci c inj 4 2 (by decide) (by decide) (by decide)), if_neg (own_ci c inj 4 3 (by decide) (by decide) (by decide))]
theorem own_5 {k : Int32} (h : ¬ k < 0 ∧ k < 5) : k = 0 ∨ k = 1 ∨ k = 2 ∨ k = 3 ∨ k = 4 := by
  simp only [own_lt, own_eq, Int32.reduceToInt] at h ⊢
  omega
theorem dq0l_0 : decode jdk_43_method_13_code 0 = .ok (.aload_n 0, 1) := by decide +kernel
theorem dq0l_1 : decode jdk_43_method_13_code 1 = .ok (.arraylength, 1) := by decide +kernel
theorem dq0l_2 : decode jdk_43_method_13_code 2 = .ok (.aload_n 1, 1) := by decide +kernel
theorem dq0l_3 : decode jdk_43_method_13_code 3 = .ok (.arraylength, 1) := by decide +kernel
theorem dq0l_4 : decode jdk_43_method_13_code 4 = .ok (.if_icmp .ne 30, 3) := by decide +kernel
theorem dq0l_7 : decode jdk_43_method_13_code 7 = .ok (.iconst 0, 1) := by decide +kernel
theorem dq0l_8 : decode jdk_43_method_13_code 8 = .ok (.istore_n 2, 1) := by decide +kernel
theorem dq0l_9 : decode jdk_43_method_13_code 9 = .ok (.iload_n 2, 1) := by decide +kernel
theorem dq0l_10 : decode jdk_43_method_13_code 10 = .ok (.aload_n 0, 1) := by decide +kernel
theorem dq0l_11 : decode jdk_43_method_13_code 11 = .ok (.arraylength, 1) := by decide +kernel
theorem dq0l_12 : decode jdk_43_method_13_code 12 = .ok (.if_icmp .ge 20, 3) := by decide +kernel
theorem dq0l_15 : decode jdk_43_method_13_code 15 = .ok (.aload_n 0, 1) := by decide +kernel
theorem dq0l_16 : decode jdk_43_method_13_code 16 = .ok (.iload_n 2, 1) := by decide +kernel
theorem dq0l_17 : decode jdk_43_method_13_code 17 = .ok (.baload, 1) := by decide +kernel
theorem dq0l_18 : decode jdk_43_method_13_code 18 = .ok (.aload_n 1, 1) := by decide +kernel
theorem dq0l_19 : decode jdk_43_method_13_code 19 = .ok (.iload_n 2, 1) := by decide +kernel
theorem dq0l_20 : decode jdk_43_method_13_code 20 = .ok (.baload, 1) := by decide +kernel
theorem dq0l_21 : decode jdk_43_method_13_code 21 = .ok (.if_icmp .eq 5, 3) := by decide +kernel
theorem dq0l_26 : decode jdk_43_method_13_code 26 = .ok (.iinc 2 1, 3) := by decide +kernel
theorem dq0l_29 : decode jdk_43_method_13_code 29 = .ok (.goto (-20), 3) := by decide +kernel
theorem dq0l_32 : decode jdk_43_method_13_code 32 = .ok (.iconst 1, 1) := by decide +kernel
theorem dq0l_33 : decode jdk_43_method_13_code 33 = .ok (.ireturn, 1) := by decide +kernel
theorem pnq0l : plainName "java/lang/StringLatin1" = true := by first | (simp [plainName, overriddenIn]; done) | decide +kernel
theorem efq0l (m : MethodId) (x0 : Addr) (x1 : Addr) : entryFrame m #[(.ref x0), (.ref x1)] 3 = mkF m 0 #[.val (.ref x0), .val (.ref x1), .unset] [] := by first | (simp [entryFrame, mkF, argsToLocals, Value.category, maxLocals]; done) | rfl
def Qq0l (Z : State) (a : Addr) (ka : ClassId) (b : Addr) (kb : ClassId) (h0 : Heap) (n0 : Nat) (v : Option Value) (h : Heap) (L : List Loc) : Prop := v = some (.int (1 : Int32)) ∧ Fr n0 L ∧ h = h0
set_option maxRecDepth 65536 in
set_option maxHeartbeats 40000000 in
theorem rmq0l (l : Launch) (Z : State) (a0 : Array Value) (hw : ∀ d ∈ tables_1, d.before a0 Z = true) (ws : List Jvm.Cond) (a : Addr) (ka : ClassId) (b : Addr) (kb : ClassId) (h0 : Heap) (n0 : Nat) (O0 : Old Z n0 h0) (V_a : Arv Z h0 a ka .byte (6 : Int32) [(.int (115 : Int32)), (.int (116 : Int32)), (.int (114 : Int32)), (.int (105 : Int32)), (.int (110 : Int32)), (.int (103 : Int32))] (.int (0 : Int32))) (V_b : Arv Z h0 b kb .byte (6 : Int32) [(.int (115 : Int32)), (.int (116 : Int32)), (.int (114 : Int32)), (.int (105 : Int32)), (.int (110 : Int32)), (.int (103 : Int32))] (.int (0 : Int32))) :
    MetFree l (⟨"java/lang/StringLatin1", "equals", "([B[B)Z"⟩ : MethodName) (head1 (Jvm.Cond.code (⟨"java/lang/StringLatin1", "equals", "([B[B)Z"⟩ : MethodName) jdk_43_method_13_code 3 (some .boolean) :: ws) ({ frames := 0, cells := 0, slots := 0, locals := 0 } : Room)) (fun A_ U_ => A_ = #[(.ref a), (.ref b)] ∧ Z.Warmed39 U_.vm ∧ U_.heap = h0) (fun _ _ _ _ _ => True) (fun _ U o U' => ∃ v L, o = .returned v ∧ Qq0l Z a ka b kb h0 n0 v U'.heap L ∧ FrameEnd U o U' L ({ frames := 0, cells := 0, slots := 0, locals := 0 } : Room).cells ({ frames := 0, cells := 0, slots := 0, locals := 0 } : Room).slots) := by
  refine MetFree.of_bodySF (plainFor_of_name pnq0l) hisR ?_
  intro p e s m args below meth cd s₁ Bd hml0 hP hK
  obtain ⟨rfl, hZ, hh⟩ := hP
  have hx := Bd.exec
  have hby := Bd.bytes
  have hlk : meth.locks = false := BodyLoose.notSynchronized Bd
  have hml : cd.maxLocals = 3 := hml0
  have hown : s.vm.findClass "java/lang/StringLatin1" = some m.cls := findClass_of_methodNamed Bd.named
  have hnm := (name_of_methodNamed Bd.named Bd.method).1
  have X0 : Stand p l e ({ frames := 0, cells := 0, slots := 0, locals := 0 } : Room) s m #[(.ref a), (.ref b)] below meth cd s₁ [] 0 0 := Stand.of_body Bd
  have e0 : s₁.heap = h0 := by rw [← hh, Bd.state]; rfl
  have N0 := Fr.nil n0
  have G : Go p e below s 0 0 (Qq0l Z a ka b kb h0 n0) (s₁.setTop (mkF m 0 #[.val (.ref a), .val (.ref b), .unset] [])) := by
    show Go p e below s _ _ _ (s₁.setTop (mkF m 0 #[.val (.ref a), .val (.ref b), .unset] []))
    refine Go.st (fun _ kq_ => XS.aloadN X0.here hx rfl (hb hby dq0l_0) rfl rfl kq_) ?_
    show Go p e below s _ _ _ (s₁.setTop (mkF m 1 #[.val (.ref a), .val (.ref b), .unset] [(.ref a)]))
    refine Go.st (fun _ kq_ => own_len X0 hx hZ e0 V_a (g := (mkF m 1 #[.val (.ref a), .val (.ref b), .unset] [(.ref a)])) rfl rfl (hb hby dq0l_1) _ kq_) ?_
    show Go p e below s _ _ _ (s₁.setTop (mkF m 2 #[.val (.ref a), .val (.ref b), .unset] [(.int (6 : Int32))]))
    refine Go.st (fun _ kq_ => XS.aloadN X0.here hx rfl (hb hby dq0l_2) rfl rfl kq_) ?_
    show Go p e below s _ _ _ (s₁.setTop (mkF m 3 #[.val (.ref a), .val (.ref b), .unset] [(.ref b), (.int (6 : Int32))]))
    refine Go.st (fun _ kq_ => own_len X0 hx hZ e0 V_b (g := (mkF m 3 #[.val (.ref a), .val (.ref b), .unset] [(.ref b), (.int (6 : Int32))])) rfl rfl (hb hby dq0l_3) _ kq_) ?_
    show Go p e below s _ _ _ (s₁.setTop (mkF m 4 #[.val (.ref a), .val (.ref b), .unset] [(.int (6 : Int32)), (.int (6 : Int32))]))
    refine Go.st (fun _ kq_ => XS.icmpNo X0.here hx rfl (hb hby dq0l_4) rfl (by decide) kq_) ?_
    show Go p e below s _ _ _ (s₁.setTop (mkF m 7 #[.val (.ref a), .val (.ref b), .unset] []))
    refine Go.st (fun _ kq_ => XS.iconst X0.here hx rfl (hb hby dq0l_7) kq_) ?_
    show Go p e below s _ _ _ (s₁.setTop (mkF m 8 #[.val (.ref a), .val (.ref b), .unset] [(.int (0 : Int32))]))
    refine Go.st (fun _ kq_ => XS.istoreN X0.here hx rfl (hb hby dq0l_8) rfl (l' := #[.val (.ref a), .val (.ref b), .val (.int (0 : Int32))]) rfl kq_) ?_
    show Go p e below s _ _ _ (s₁.setTop (mkF m 9 #[.val (.ref a), .val (.ref b), .val (.int (0 : Int32))] []))
    refine Go.st (fun _ kq_ => XS.iloadN X0.here hx rfl (hb hby dq0l_9) rfl kq_) ?_
    show Go p e below s _ _ _ (s₁.setTop (mkF m 10 #[.val (.ref a), .val (.ref b), .val (.int (0 : Int32))] [(.int (0 : Int32))]))
    refine Go.st (fun _ kq_ => XS.aloadN X0.here hx rfl (hb hby dq0l_10) rfl rfl kq_) ?_
    show Go p e below s _ _ _ (s₁.setTop (mkF m 11 #[.val (.ref a), .val (.ref b), .val (.int (0 : Int32))] [(.ref a), (.int (0 : Int32))]))
    refine Go.st (fun _ kq_ => own_len X0 hx hZ e0 V_a (g := (mkF m 11 #[.val (.ref a), .val (.ref b), .val (.int (0 : Int32))] [(.ref a), (.int (0 : Int32))])) rfl rfl (hb hby dq0l_11) _ kq_) ?_
    show Go p e below s _ _ _ (s₁.setTop (mkF m 12 #[.val (.ref a), .val (.ref b), .val (.int (0 : Int32))] [(.int (6 : Int32)), (.int (0 : Int32))]))
    refine Go.st (fun _ kq_ => XS.icmpNo X0.here hx rfl (hb hby dq0l_12) rfl (by decide) kq_) ?_
    show Go p e below s _ _ _ (s₁.setTop (mkF m 15 #[.val (.ref a), .val (.ref b), .val (.int (0 : Int32))] []))
    refine Go.st (fun _ kq_ => XS.aloadN X0.here hx rfl (hb hby dq0l_15) rfl rfl kq_) ?_
    show Go p e below s _ _ _ (s₁.setTop (mkF m 16 #[.val (.ref a), .val (.ref b), .val (.int (0 : Int32))] [(.ref a)]))
    refine Go.st (fun _ kq_ => XS.iloadN X0.here hx rfl (hb hby dq0l_16) rfl kq_) ?_
    show Go p e below s _ _ _ (s₁.setTop (mkF m 17 #[.val (.ref a), .val (.ref b), .val (.int (0 : Int32))] [(.int (0 : Int32)), (.ref a)]))
    refine Go.st (fun _ kq_ => own_baloadB X0 hx hZ e0 V_a (by decide) (by decide) (v := (.int (115 : Int32))) rfl (g := (mkF m 17 #[.val (.ref a), .val (.ref b), .val (.int (0 : Int32))] [(.int (0 : Int32)), (.ref a)])) rfl rfl (hb hby dq0l_17) _ kq_) ?_
    show Go p e below s _ _ _ (s₁.setTop (mkF m 18 #[.val (.ref a), .val (.ref b), .val (.int (0 : Int32))] [(.int (115 : Int32))]))
    refine Go.st (fun _ kq_ => XS.aloadN X0.here hx rfl (hb hby dq0l_18) rfl rfl kq_) ?_
    show Go p e below s _ _ _ (s₁.setTop (mkF m 19 #[.val (.ref a), .val (.ref b), .val (.int (0 : Int32))] [(.ref b), (.int (115 : Int32))]))
    refine Go.st (fun _ kq_ => XS.iloadN X0.here hx rfl (hb hby dq0l_19) rfl kq_) ?_
    show Go p e below s _ _ _ (s₁.setTop (mkF m 20 #[.val (.ref a), .val (.ref b), .val (.int (0 : Int32))] [(.int (0 : Int32)), (.ref b), (.int (115 : Int32))]))
    refine Go.st (fun _ kq_ => own_baloadB X0 hx hZ e0 V_b (by decide) (by decide) (v := (.int (115 : Int32))) rfl (g := (mkF m 20 #[.val (.ref a), .val (.ref b), .val (.int (0 : Int32))] [(.int (0 : Int32)), (.ref b), (.int (115 : Int32))])) rfl rfl (hb hby dq0l_20) _ kq_) ?_
    show Go p e below s _ _ _ (s₁.setTop (mkF m 21 #[.val (.ref a), .val (.ref b), .val (.int (0 : Int32))] [(.int (115 : Int32)), (.int (115 : Int32))]))
    refine Go.st (fun _ kq_ => XS.icmpYes X0.here hx rfl (pc0 := 21) (pc' := 26) rfl (hb hby dq0l_21) rfl (by decide) (by decide) (by decide) kq_) ?_
    show Go p e below s _ _ _ (s₁.setTop (mkF m 26 #[.val (.ref a), .val (.ref b), .val (.int (0 : Int32))] []))
    refine Go.st (fun _ kq_ => XT.iincV X0.here hx rfl (1 : Int32) (hb hby dq0l_26) rfl rfl (l' := #[.val (.ref a), .val (.ref b), .val (.int (1 : Int32))]) rfl kq_) ?_
    show Go p e below s _ _ _ (s₁.setTop (mkF m 29 #[.val (.ref a), .val (.ref b), .val (.int (1 : Int32))] []))
    refine Go.st (fun _ kq_ => XS.goto X0.here hx rfl (pc0 := 29) (pc' := 9) rfl (hb hby dq0l_29) (by decide) (by decide) kq_) ?_
    show Go p e below s _ _ _ (s₁.setTop (mkF m 9 #[.val (.ref a), .val (.ref b), .val (.int (1 : Int32))] []))
    refine Go.st (fun _ kq_ => XS.iloadN X0.here hx rfl (hb hby dq0l_9) rfl kq_) ?_
    show Go p e below s _ _ _ (s₁.setTop (mkF m 10 #[.val (.ref a), .val (.ref b), .val (.int (1 : Int32))] [(.int (1 : Int32))]))
    refine Go.st (fun _ kq_ => XS.aloadN X0.here hx rfl (hb hby dq0l_10) rfl rfl kq_) ?_
    show Go p e below s _ _ _ (s₁.setTop (mkF m 11 #[.val (.ref a), .val (.ref b), .val (.int (1 : Int32))] [(.ref a), (.int (1 : Int32))]))
    refine Go.st (fun _ kq_ => own_len X0 hx hZ e0 V_a (g := (mkF m 11 #[.val (.ref a), .val (.ref b), .val (.int (1 : Int32))] [(.ref a), (.int (1 : Int32))])) rfl rfl (hb hby dq0l_11) _ kq_) ?_
    show Go p e below s _ _ _ (s₁.setTop (mkF m 12 #[.val (.ref a), .val (.ref b), .val (.int (1 : Int32))] [(.int (6 : Int32)), (.int (1 : Int32))]))
    refine Go.st (fun _ kq_ => XS.icmpNo X0.here hx rfl (hb hby dq0l_12) rfl (by decide) kq_) ?_
    show Go p e below s _ _ _ (s₁.setTop (mkF m 15 #[.val (.ref a), .val (.ref b), .val (.int (1 : Int32))] []))
    refine Go.st (fun _ kq_ => XS.aloadN X0.here hx rfl (hb hby dq0l_15) rfl rfl kq_) ?_
    show Go p e below s _ _ _ (s₁.setTop (mkF m 16 #[.val (.ref a), .val (.ref b), .val (.int (1 : Int32))] [(.ref a)]))
    refine Go.st (fun _ kq_ => XS.iloadN X0.here hx rfl (hb hby dq0l_16) rfl kq_) ?_
    show Go p e below s _ _ _ (s₁.setTop (mkF m 17 #[.val (.ref a), .val (.ref b), .val (.int (1 : Int32))] [(.int (1 : Int32)), (.ref a)]))
    refine Go.st (fun _ kq_ => own_baloadB X0 hx hZ e0 V_a (by decide) (by decide) (v := (.int (116 : Int32))) rfl (g := (mkF m 17 #[.val (.ref a), .val (.ref b), .val (.int (1 : Int32))] [(.int (1 : Int32)), (.ref a)])) rfl rfl (hb hby dq0l_17) _ kq_) ?_
    show Go p e below s _ _ _ (s₁.setTop (mkF m 18 #[.val (.ref a), .val (.ref b), .val (.int (1 : Int32))] [(.int (116 : Int32))]))
    refine Go.st (fun _ kq_ => XS.aloadN X0.here hx rfl (hb hby dq0l_18) rfl rfl kq_) ?_
    show Go p e below s _ _ _ (s₁.setTop (mkF m 19 #[.val (.ref a), .val (.ref b), .val (.int (1 : Int32))] [(.ref b), (.int (116 : Int32))]))
    refine Go.st (fun _ kq_ => XS.iloadN X0.here hx rfl (hb hby dq0l_19) rfl kq_) ?_
    show Go p e below s _ _ _ (s₁.setTop (mkF m 20 #[.val (.ref a), .val (.ref b), .val (.int (1 : Int32))] [(.int (1 : Int32)), (.ref b), (.int (116 : Int32))]))
    refine Go.st (fun _ kq_ => own_baloadB X0 hx hZ e0 V_b (by decide) (by decide) (v := (.int (116 : Int32))) rfl (g := (mkF m 20 #[.val (.ref a), .val (.ref b), .val (.int (1 : Int32))] [(.int (1 : Int32)), (.ref b), (.int (116 : Int32))])) rfl rfl (hb hby dq0l_20) _ kq_) ?_
    show Go p e below s _ _ _ (s₁.setTop (mkF m 21 #[.val (.ref a), .val (.ref b), .val (.int (1 : Int32))] [(.int (116 : Int32)), (.int (116 : Int32))]))
    refine Go.st (fun _ kq_ => XS.icmpYes X0.here hx rfl (pc0 := 21) (pc' := 26) rfl (hb hby dq0l_21) rfl (by decide) (by decide) (by decide) kq_) ?_
    show Go p e below s _ _ _ (s₁.setTop (mkF m 26 #[.val (.ref a), .val (.ref b), .val (.int (1 : Int32))] []))
    refine Go.st (fun _ kq_ => XT.iincV X0.here hx rfl (1 : Int32) (hb hby dq0l_26) rfl rfl (l' := #[.val (.ref a), .val (.ref b), .val (.int (2 : Int32))]) rfl kq_) ?_
    show Go p e below s _ _ _ (s₁.setTop (mkF m 29 #[.val (.ref a), .val (.ref b), .val (.int (2 : Int32))] []))
    refine Go.st (fun _ kq_ => XS.goto X0.here hx rfl (pc0 := 29) (pc' := 9) rfl (hb hby dq0l_29) (by decide) (by decide) kq_) ?_
    show Go p e below s _ _ _ (s₁.setTop (mkF m 9 #[.val (.ref a), .val (.ref b), .val (.int (2 : Int32))] []))
    refine Go.st (fun _ kq_ => XS.iloadN X0.here hx rfl (hb hby dq0l_9) rfl kq_) ?_
    show Go p e below s _ _ _ (s₁.setTop (mkF m 10 #[.val (.ref a), .val (.ref b), .val (.int (2 : Int32))] [(.int (2 : Int32))]))
    refine Go.st (fun _ kq_ => XS.aloadN X0.here hx rfl (hb hby dq0l_10) rfl rfl kq_) ?_
    show Go p e below s _ _ _ (s₁.setTop (mkF m 11 #[.val (.ref a), .val (.ref b), .val (.int (2 : Int32))] [(.ref a), (.int (2 : Int32))]))
    refine Go.st (fun _ kq_ => own_len X0 hx hZ e0 V_a (g := (mkF m 11 #[.val (.ref a), .val (.ref b), .val (.int (2 : Int32))] [(.ref a), (.int (2 : Int32))])) rfl rfl (hb hby dq0l_11) _ kq_) ?_
    show Go p e below s _ _ _ (s₁.setTop (mkF m 12 #[.val (.ref a), .val (.ref b), .val (.int (2 : Int32))] [(.int (6 : Int32)), (.int (2 : Int32))]))
    refine Go.st (fun _ kq_ => XS.icmpNo X0.here hx rfl (hb hby dq0l_12) rfl (by decide) kq_) ?_
    show Go p e below s _ _ _ (s₁.setTop (mkF m 15 #[.val (.ref a), .val (.ref b), .val (.int (2 : Int32))] []))
    refine Go.st (fun _ kq_ => XS.aloadN X0.here hx rfl (hb hby dq0l_15) rfl rfl kq_) ?_
    show Go p e below s _ _ _ (s₁.setTop (mkF m 16 #[.val (.ref a), .val (.ref b), .val (.int (2 : Int32))] [(.ref a)]))
    refine Go.st (fun _ kq_ => XS.iloadN X0.here hx rfl (hb hby dq0l_16) rfl kq_) ?_
    show Go p e below s _ _ _ (s₁.setTop (mkF m 17 #[.val (.ref a), .val (.ref b), .val (.int (2 : Int32))] [(.int (2 : Int32)), (.ref a)]))
    refine Go.st (fun _ kq_ => own_baloadB X0 hx hZ e0 V_a (by decide) (by decide) (v := (.int (114 : Int32))) rfl (g := (mkF m 17 #[.val (.ref a), .val (.ref b), .val (.int (2 : Int32))] [(.int (2 : Int32)), (.ref a)])) rfl rfl (hb hby dq0l_17) _ kq_) ?_
    show Go p e below s _ _ _ (s₁.setTop (mkF m 18 #[.val (.ref a), .val (.ref b), .val (.int (2 : Int32))] [(.int (114 : Int32))]))
    refine Go.st (fun _ kq_ => XS.aloadN X0.here hx rfl (hb hby dq0l_18) rfl rfl kq_) ?_
    show Go p e below s _ _ _ (s₁.setTop (mkF m 19 #[.val (.ref a), .val (.ref b), .val (.int (2 : Int32))] [(.ref b), (.int (114 : Int32))]))
    refine Go.st (fun _ kq_ => XS.iloadN X0.here hx rfl (hb hby dq0l_19) rfl kq_) ?_
    show Go p e below s _ _ _ (s₁.setTop (mkF m 20 #[.val (.ref a), .val (.ref b), .val (.int (2 : Int32))] [(.int (2 : Int32)), (.ref b), (.int (114 : Int32))]))
    refine Go.st (fun _ kq_ => own_baloadB X0 hx hZ e0 V_b (by decide) (by decide) (v := (.int (114 : Int32))) rfl (g := (mkF m 20 #[.val (.ref a), .val (.ref b), .val (.int (2 : Int32))] [(.int (2 : Int32)), (.ref b), (.int (114 : Int32))])) rfl rfl (hb hby dq0l_20) _ kq_) ?_
    show Go p e below s _ _ _ (s₁.setTop (mkF m 21 #[.val (.ref a), .val (.ref b), .val (.int (2 : Int32))] [(.int (114 : Int32)), (.int (114 : Int32))]))
    refine Go.st (fun _ kq_ => XS.icmpYes X0.here hx rfl (pc0 := 21) (pc' := 26) rfl (hb hby dq0l_21) rfl (by decide) (by decide) (by decide) kq_) ?_
    show Go p e below s _ _ _ (s₁.setTop (mkF m 26 #[.val (.ref a), .val (.ref b), .val (.int (2 : Int32))] []))
    refine Go.st (fun _ kq_ => XT.iincV X0.here hx rfl (1 : Int32) (hb hby dq0l_26) rfl rfl (l' := #[.val (.ref a), .val (.ref b), .val (.int (3 : Int32))]) rfl kq_) ?_
    show Go p e below s _ _ _ (s₁.setTop (mkF m 29 #[.val (.ref a), .val (.ref b), .val (.int (3 : Int32))] []))
    refine Go.st (fun _ kq_ => XS.goto X0.here hx rfl (pc0 := 29) (pc' := 9) rfl (hb hby dq0l_29) (by decide) (by decide) kq_) ?_
    show Go p e below s _ _ _ (s₁.setTop (mkF m 9 #[.val (.ref a), .val (.ref b), .val (.int (3 : Int32))] []))
    refine Go.st (fun _ kq_ => XS.iloadN X0.here hx rfl (hb hby dq0l_9) rfl kq_) ?_
    show Go p e below s _ _ _ (s₁.setTop (mkF m 10 #[.val (.ref a), .val (.ref b), .val (.int (3 : Int32))] [(.int (3 : Int32))]))
    refine Go.st (fun _ kq_ => XS.aloadN X0.here hx rfl (hb hby dq0l_10) rfl rfl kq_) ?_
    show Go p e below s _ _ _ (s₁.setTop (mkF m 11 #[.val (.ref a), .val (.ref b), .val (.int (3 : Int32))] [(.ref a), (.int (3 : Int32))]))
    refine Go.st (fun _ kq_ => own_len X0 hx hZ e0 V_a (g := (mkF m 11 #[.val (.ref a), .val (.ref b), .val (.int (3 : Int32))] [(.ref a), (.int (3 : Int32))])) rfl rfl (hb hby dq0l_11) _ kq_) ?_
    show Go p e below s _ _ _ (s₁.setTop (mkF m 12 #[.val (.ref a), .val (.ref b), .val (.int (3 : Int32))] [(.int (6 : Int32)), (.int (3 : Int32))]))
    refine Go.st (fun _ kq_ => XS.icmpNo X0.here hx rfl (hb hby dq0l_12) rfl (by decide) kq_) ?_
    show Go p e below s _ _ _ (s₁.setTop (mkF m 15 #[.val (.ref a), .val (.ref b), .val (.int (3 : Int32))] []))
    refine Go.st (fun _ kq_ => XS.aloadN X0.here hx rfl (hb hby dq0l_15) rfl rfl kq_) ?_
    show Go p e below s _ _ _ (s₁.setTop (mkF m 16 #[.val (.ref a), .val (.ref b), .val (.int (3 : Int32))] [(.ref a)]))
    refine Go.st (fun _ kq_ => XS.iloadN X0.here hx rfl (hb hby dq0l_16) rfl kq_) ?_
    show Go p e below s _ _ _ (s₁.setTop (mkF m 17 #[.val (.ref a), .val (.ref b), .val (.int (3 : Int32))] [(.int (3 : Int32)), (.ref a)]))
    refine Go.st (fun _ kq_ => own_baloadB X0 hx hZ e0 V_a (by decide) (by decide) (v := (.int (105 : Int32))) rfl (g := (mkF m 17 #[.val (.ref a), .val (.ref b), .val (.int (3 : Int32))] [(.int (3 : Int32)), (.ref a)])) rfl rfl (hb hby dq0l_17) _ kq_) ?_
    show Go p e below s _ _ _ (s₁.setTop (mkF m 18 #[.val (.ref a), .val (.ref b), .val (.int (3 : Int32))] [(.int (105 : Int32))]))
    refine Go.st (fun _ kq_ => XS.aloadN X0.here hx rfl (hb hby dq0l_18) rfl rfl kq_) ?_
    show Go p e below s _ _ _ (s₁.setTop (mkF m 19 #[.val (.ref a), .val (.ref b), .val (.int (3 : Int32))] [(.ref b), (.int (105 : Int32))]))
    refine Go.st (fun _ kq_ => XS.iloadN X0.here hx rfl (hb hby dq0l_19) rfl kq_) ?_
    show Go p e below s _ _ _ (s₁.setTop (mkF m 20 #[.val (.ref a), .val (.ref b), .val (.int (3 : Int32))] [(.int (3 : Int32)), (.ref b), (.int (105 : Int32))]))
    refine Go.st (fun _ kq_ => own_baloadB X0 hx hZ e0 V_b (by decide) (by decide) (v := (.int (105 : Int32))) rfl (g := (mkF m 20 #[.val (.ref a), .val (.ref b), .val (.int (3 : Int32))] [(.int (3 : Int32)), (.ref b), (.int (105 : Int32))])) rfl rfl (hb hby dq0l_20) _ kq_) ?_
    show Go p e below s _ _ _ (s₁.setTop (mkF m 21 #[.val (.ref a), .val (.ref b), .val (.int (3 : Int32))] [(.int (105 : Int32)), (.int (105 : Int32))]))
    refine Go.st (fun _ kq_ => XS.icmpYes X0.here hx rfl (pc0 := 21) (pc' := 26) rfl (hb hby dq0l_21) rfl (by decide) (by decide) (by decide) kq_) ?_
    show Go p e below s _ _ _ (s₁.setTop (mkF m 26 #[.val (.ref a), .val (.ref b), .val (.int (3 : Int32))] []))
    refine Go.st (fun _ kq_ => XT.iincV X0.here hx rfl (1 : Int32) (hb hby dq0l_26) rfl rfl (l' := #[.val (.ref a), .val (.ref b), .val (.int (4 : Int32))]) rfl kq_) ?_
    show Go p e below s _ _ _ (s₁.setTop (mkF m 29 #[.val (.ref a), .val (.ref b), .val (.int (4 : Int32))] []))
    refine Go.st (fun _ kq_ => XS.goto X0.here hx rfl (pc0 := 29) (pc' := 9) rfl (hb hby dq0l_29) (by decide) (by decide) kq_) ?_
    show Go p e below s _ _ _ (s₁.setTop (mkF m 9 #[.val (.ref a), .val (.ref b), .val (.int (4 : Int32))] []))
    refine Go.st (fun _ kq_ => XS.iloadN X0.here hx rfl (hb hby dq0l_9) rfl kq_) ?_
    show Go p e below s _ _ _ (s₁.setTop (mkF m 10 #[.val (.ref a), .val (.ref b), .val (.int (4 : Int32))] [(.int (4 : Int32))]))
    refine Go.st (fun _ kq_ => XS.aloadN X0.here hx rfl (hb hby dq0l_10) rfl rfl kq_) ?_
    show Go p e below s _ _ _ (s₁.setTop (mkF m 11 #[.val (.ref a), .val (.ref b), .val (.int (4 : Int32))] [(.ref a), (.int (4 : Int32))]))
    refine Go.st (fun _ kq_ => own_len X0 hx hZ e0 V_a (g := (mkF m 11 #[.val (.ref a), .val (.ref b), .val (.int (4 : Int32))] [(.ref a), (.int (4 : Int32))])) rfl rfl (hb hby dq0l_11) _ kq_) ?_
    show Go p e below s _ _ _ (s₁.setTop (mkF m 12 #[.val (.ref a), .val (.ref b), .val (.int (4 : Int32))] [(.int (6 : Int32)), (.int (4 : Int32))]))
    refine Go.st (fun _ kq_ => XS.icmpNo X0.here hx rfl (hb hby dq0l_12) rfl (by decide) kq_) ?_
    show Go p e below s _ _ _ (s₁.setTop (mkF m 15 #[.val (.ref a), .val (.ref b), .val (.int (4 : Int32))] []))
    refine Go.st (fun _ kq_ => XS.aloadN X0.here hx rfl (hb hby dq0l_15) rfl rfl kq_) ?_
    show Go p e below s _ _ _ (s₁.setTop (mkF m 16 #[.val (.ref a), .val (.ref b), .val (.int (4 : Int32))] [(.ref a)]))
    refine Go.st (fun _ kq_ => XS.iloadN X0.here hx rfl (hb hby dq0l_16) rfl kq_) ?_
    show Go p e below s _ _ _ (s₁.setTop (mkF m 17 #[.val (.ref a), .val (.ref b), .val (.int (4 : Int32))] [(.int (4 : Int32)), (.ref a)]))
    refine Go.st (fun _ kq_ => own_baloadB X0 hx hZ e0 V_a (by decide) (by decide) (v := (.int (110 : Int32))) rfl (g := (mkF m 17 #[.val (.ref a), .val (.ref b), .val (.int (4 : Int32))] [(.int (4 : Int32)), (.ref a)])) rfl rfl (hb hby dq0l_17) _ kq_) ?_
    show Go p e below s _ _ _ (s₁.setTop (mkF m 18 #[.val (.ref a), .val (.ref b), .val (.int (4 : Int32))] [(.int (110 : Int32))]))
    refine Go.st (fun _ kq_ => XS.aloadN X0.here hx rfl (hb hby dq0l_18) rfl rfl kq_) ?_
    show Go p e below s _ _ _ (s₁.setTop (mkF m 19 #[.val (.ref a), .val (.ref b), .val (.int (4 : Int32))] [(.ref b), (.int (110 : Int32))]))
    refine Go.st (fun _ kq_ => XS.iloadN X0.here hx rfl (hb hby dq0l_19) rfl kq_) ?_
    show Go p e below s _ _ _ (s₁.setTop (mkF m 20 #[.val (.ref a), .val (.ref b), .val (.int (4 : Int32))] [(.int (4 : Int32)), (.ref b), (.int (110 : Int32))]))
    refine Go.st (fun _ kq_ => own_baloadB X0 hx hZ e0 V_b (by decide) (by decide) (v := (.int (110 : Int32))) rfl (g := (mkF m 20 #[.val (.ref a), .val (.ref b), .val (.int (4 : Int32))] [(.int (4 : Int32)), (.ref b), (.int (110 : Int32))])) rfl rfl (hb hby dq0l_20) _ kq_) ?_
    show Go p e below s _ _ _ (s₁.setTop (mkF m 21 #[.val (.ref a), .val (.ref b), .val (.int (4 : Int32))] [(.int (110 : Int32)), (.int (110 : Int32))]))
    refine Go.st (fun _ kq_ => XS.icmpYes X0.here hx rfl (pc0 := 21) (pc' := 26) rfl (hb hby dq0l_21) rfl (by decide) (by decide) (by decide) kq_) ?_
    show Go p e below s _ _ _ (s₁.setTop (mkF m 26 #[.val (.ref a), .val (.ref b), .val (.int (4 : Int32))] []))
    refine Go.st (fun _ kq_ => XT.iincV X0.here hx rfl (1 : Int32) (hb hby dq0l_26) rfl rfl (l' := #[.val (.ref a), .val (.ref b), .val (.int (5 : Int32))]) rfl kq_) ?_
    show Go p e below s _ _ _ (s₁.setTop (mkF m 29 #[.val (.ref a), .val (.ref b), .val (.int (5 : Int32))] []))
    refine Go.st (fun _ kq_ => XS.goto X0.here hx rfl (pc0 := 29) (pc' := 9) rfl (hb hby dq0l_29) (by decide) (by decide) kq_) ?_
    show Go p e below s _ _ _ (s₁.setTop (mkF m 9 #[.val (.ref a), .val (.ref b), .val (.int (5 : Int32))] []))
    refine Go.st (fun _ kq_ => XS.iloadN X0.here hx rfl (hb hby dq0l_9) rfl kq_) ?_
    show Go p e below s _ _ _ (s₁.setTop (mkF m 10 #[.val (.ref a), .val (.ref b), .val (.int (5 : Int32))] [(.int (5 : Int32))]))
    refine Go.st (fun _ kq_ => XS.aloadN X0.here hx rfl (hb hby dq0l_10) rfl rfl kq_) ?_
    show Go p e below s _ _ _ (s₁.setTop (mkF m 11 #[.val (.ref a), .val (.ref b), .val (.int (5 : Int32))] [(.ref a), (.int (5 : Int32))]))
    refine Go.st (fun _ kq_ => own_len X0 hx hZ e0 V_a (g := (mkF m 11 #[.val (.ref a), .val (.ref b), .val (.int (5 : Int32))] [(.ref a), (.int (5 : Int32))])) rfl rfl (hb hby dq0l_11) _ kq_) ?_
    show Go p e below s _ _ _ (s₁.setTop (mkF m 12 #[.val (.ref a), .val (.ref b), .val (.int (5 : Int32))] [(.int (6 : Int32)), (.int (5 : Int32))]))
    refine Go.st (fun _ kq_ => XS.icmpNo X0.here hx rfl (hb hby dq0l_12) rfl (by decide) kq_) ?_
    show Go p e below s _ _ _ (s₁.setTop (mkF m 15 #[.val (.ref a), .val (.ref b), .val (.int (5 : Int32))] []))
    refine Go.st (fun _ kq_ => XS.aloadN X0.here hx rfl (hb hby dq0l_15) rfl rfl kq_) ?_
    show Go p e below s _ _ _ (s₁.setTop (mkF m 16 #[.val (.ref a), .val (.ref b), .val (.int (5 : Int32))] [(.ref a)]))
    refine Go.st (fun _ kq_ => XS.iloadN X0.here hx rfl (hb hby dq0l_16) rfl kq_) ?_
    show Go p e below s _ _ _ (s₁.setTop (mkF m 17 #[.val (.ref a), .val (.ref b), .val (.int (5 : Int32))] [(.int (5 : Int32)), (.ref a)]))
    refine Go.st (fun _ kq_ => own_baloadB X0 hx hZ e0 V_a (by decide) (by decide) (v := (.int (103 : Int32))) rfl (g := (mkF m 17 #[.val (.ref a), .val (.ref b), .val (.int (5 : Int32))] [(.int (5 : Int32)), (.ref a)])) rfl rfl (hb hby dq0l_17) _ kq_) ?_
    show Go p e below s _ _ _ (s₁.setTop (mkF m 18 #[.val (.ref a), .val (.ref b), .val (.int (5 : Int32))] [(.int (103 : Int32))]))
    refine Go.st (fun _ kq_ => XS.aloadN X0.here hx rfl (hb hby dq0l_18) rfl rfl kq_) ?_
    show Go p e below s _ _ _ (s₁.setTop (mkF m 19 #[.val (.ref a), .val (.ref b), .val (.int (5 : Int32))] [(.ref b), (.int (103 : Int32))]))
    refine Go.st (fun _ kq_ => XS.iloadN X0.here hx rfl (hb hby dq0l_19) rfl kq_) ?_
    show Go p e below s _ _ _ (s₁.setTop (mkF m 20 #[.val (.ref a), .val (.ref b), .val (.int (5 : Int32))] [(.int (5 : Int32)), (.ref b), (.int (103 : Int32))]))
    refine Go.st (fun _ kq_ => own_baloadB X0 hx hZ e0 V_b (by decide) (by decide) (v := (.int (103 : Int32))) rfl (g := (mkF m 20 #[.val (.ref a), .val (.ref b), .val (.int (5 : Int32))] [(.int (5 : Int32)), (.ref b), (.int (103 : Int32))])) rfl rfl (hb hby dq0l_20) _ kq_) ?_
    show Go p e below s _ _ _ (s₁.setTop (mkF m 21 #[.val (.ref a), .val (.ref b), .val (.int (5 : Int32))] [(.int (103 : Int32)), (.int (103 : Int32))]))
    refine Go.st (fun _ kq_ => XS.icmpYes X0.here hx rfl (pc0 := 21) (pc' := 26) rfl (hb hby dq0l_21) rfl (by decide) (by decide) (by decide) kq_) ?_
    show Go p e below s _ _ _ (s₁.setTop (mkF m 26 #[.val (.ref a), .val (.ref b), .val (.int (5 : Int32))] []))
    refine Go.st (fun _ kq_ => XT.iincV X0.here hx rfl (1 : Int32) (hb hby dq0l_26) rfl rfl (l' := #[.val (.ref a), .val (.ref b), .val (.int (6 : Int32))]) rfl kq_) ?_
    show Go p e below s _ _ _ (s₁.setTop (mkF m 29 #[.val (.ref a), .val (.ref b), .val (.int (6 : Int32))] []))
    refine Go.st (fun _ kq_ => XS.goto X0.here hx rfl (pc0 := 29) (pc' := 9) rfl (hb hby dq0l_29) (by decide) (by decide) kq_) ?_
    show Go p e below s _ _ _ (s₁.setTop (mkF m 9 #[.val (.ref a), .val (.ref b), .val (.int (6 : Int32))] []))
    refine Go.st (fun _ kq_ => XS.iloadN X0.here hx rfl (hb hby dq0l_9) rfl kq_) ?_
    show Go p e below s _ _ _ (s₁.setTop (mkF m 10 #[.val (.ref a), .val (.ref b), .val (.int (6 : Int32))] [(.int (6 : Int32))]))
    refine Go.st (fun _ kq_ => XS.aloadN X0.here hx rfl (hb hby dq0l_10) rfl rfl kq_) ?_
    show Go p e below s _ _ _ (s₁.setTop (mkF m 11 #[.val (.ref a), .val (.ref b), .val (.int (6 : Int32))] [(.ref a), (.int (6 : Int32))]))
    refine Go.st (fun _ kq_ => own_len X0 hx hZ e0 V_a (g := (mkF m 11 #[.val (.ref a), .val (.ref b), .val (.int (6 : Int32))] [(.ref a), (.int (6 : Int32))])) rfl rfl (hb hby dq0l_11) _ kq_) ?_
    show Go p e below s _ _ _ (s₁.setTop (mkF m 12 #[.val (.ref a), .val (.ref b), .val (.int (6 : Int32))] [(.int (6 : Int32)), (.int (6 : Int32))]))
    refine Go.st (fun _ kq_ => XS.icmpYes X0.here hx rfl (pc0 := 12) (pc' := 32) rfl (hb hby dq0l_12) rfl (by decide) (by decide) (by decide) kq_) ?_
    show Go p e below s _ _ _ (s₁.setTop (mkF m 32 #[.val (.ref a), .val (.ref b), .val (.int (6 : Int32))] []))
    refine Go.st (fun _ kq_ => XS.iconst X0.here hx rfl (hb hby dq0l_32) kq_) ?_
    show Go p e below s _ _ _ (s₁.setTop (mkF m 33 #[.val (.ref a), .val (.ref b), .val (.int (6 : Int32))] [(.int (1 : Int32))]))
    exact Go.ret X0 hlk (some (.int (nar .boolean (1 : Int32)))) (fun h => by rw [Bd.returns] at h; cases h) (by rw [e0]; exact ⟨rfl, N0, rfl⟩) (by decide) (by decide) (fun fs hr => retN X0 hx (t := .boolean) Bd.returns (by simp) (hb hby dq0l_33) hr)
  obtain ⟨s2, o2, st2, r2⟩ := G
  exact ⟨s2, o2, castTop (efq0l m a b) st2, r2⟩
theorem dq0_0 : decode jdk_42_method_66_code 0 = .ok (.aload_n 0, 1) := by decide +kernel
theorem dq0_1 : decode jdk_42_method_66_code 1 = .ok (.aload_n 1, 1) := by decide +kernel
theorem dq0_2 : decode jdk_42_method_66_code 2 = .ok (.if_acmp .ne 5, 3) := by decide +kernel
theorem dq0_5 : decode jdk_42_method_66_code 5 = .ok (.iconst 1, 1) := by decide +kernel
theorem dq0_6 : decode jdk_42_method_66_code 6 = .ok (.ireturn, 1) := by decide +kernel
theorem dq0_7 : decode jdk_42_method_66_code 7 = .ok (.aload_n 1, 1) := by decide +kernel
theorem dq0_8 : decode jdk_42_method_66_code 8 = .ok (.instanceof 10, 3) := by decide +kernel
theorem dq0_11 : decode jdk_42_method_66_code 11 = .ok (.ifCond .eq 43, 3) := by decide +kernel
theorem dq0_14 : decode jdk_42_method_66_code 14 = .ok (.aload_n 1, 1) := by decide +kernel
theorem dq0_15 : decode jdk_42_method_66_code 15 = .ok (.checkcast 10, 3) := by decide +kernel
theorem dq0_18 : decode jdk_42_method_66_code 18 = .ok (.astore_n 2, 1) := by decide +kernel
theorem dq0_19 : decode jdk_42_method_66_code 19 = .ok (.getstatic 38, 3) := by decide +kernel
theorem dq0_22 : decode jdk_42_method_66_code 22 = .ok (.ifCond .eq 14, 3) := by decide +kernel
theorem dq0_25 : decode jdk_42_method_66_code 25 = .ok (.aload_n 0, 1) := by decide +kernel
theorem dq0_26 : decode jdk_42_method_66_code 26 = .ok (.getfield 15, 3) := by decide +kernel
theorem dq0_29 : decode jdk_42_method_66_code 29 = .ok (.aload_n 2, 1) := by decide +kernel
theorem dq0_30 : decode jdk_42_method_66_code 30 = .ok (.getfield 15, 3) := by decide +kernel
theorem dq0_33 : decode jdk_42_method_66_code 33 = .ok (.if_icmp .ne 21, 3) := by decide +kernel
theorem dq0_36 : decode jdk_42_method_66_code 36 = .ok (.aload_n 0, 1) := by decide +kernel
theorem dq0_37 : decode jdk_42_method_66_code 37 = .ok (.getfield 9, 3) := by decide +kernel
theorem dq0_40 : decode jdk_42_method_66_code 40 = .ok (.aload_n 2, 1) := by decide +kernel
theorem dq0_41 : decode jdk_42_method_66_code 41 = .ok (.getfield 9, 3) := by decide +kernel
theorem dq0_44 : decode jdk_42_method_66_code 44 = .ok (.invokestatic 541, 3) := by decide +kernel
theorem dq0_47 : decode jdk_42_method_66_code 47 = .ok (.ifCond .eq 7, 3) := by decide +kernel
theorem dq0_50 : decode jdk_42_method_66_code 50 = .ok (.iconst 1, 1) := by decide +kernel
theorem dq0_51 : decode jdk_42_method_66_code 51 = .ok (.goto 4, 3) := by decide +kernel
theorem dq0_55 : decode jdk_42_method_66_code 55 = .ok (.ireturn, 1) := by decide +kernel
theorem pdq0_0 : parseMethodDescriptor "([B[B)Z" = some ⟨[(.array .byte), (.array .byte)], some .boolean⟩ := by decide +kernel
theorem pnq0 : plainName "java/lang/String" = true := by first | (simp [plainName, overriddenIn]; done) | decide +kernel
theorem efq0 (m : MethodId) (x0 : Addr) (x1 : Addr) : entryFrame m #[(.ref x0), (.ref x1)] 3 = mkF m 0 #[.val (.ref x0), .val (.ref x1), .unset] [] := by first | (simp [entryFrame, mkF, argsToLocals, Value.category, maxLocals]; done) | rfl
def Qq0 (Z : State) (x : Addr) (a : Addr) (ka : ClassId) (y : Addr) (b : Addr) (kb : ClassId) (zc : Int32) (h0 : Heap) (n0 : Nat) (v : Option Value) (h : Heap) (L : List Loc) : Prop := v = some (.int (1 : Int32)) ∧ Fr n0 L ∧ h = h0
set_option maxRecDepth 65536 in
set_option maxHeartbeats 40000000 in
theorem rmq0 (l : Launch) (Z : State) (a0 : Array Value) (hw : ∀ d ∈ tables_1, d.before a0 Z = true) (ws : List Jvm.Cond) (x : Addr) (a : Addr) (ka : ClassId) (y : Addr) (b : Addr) (kb : ClassId) (zc : Int32) (h0 : Heap) (n0 : Nat) (O0 : Old Z n0 h0) (E_x : Exa Z h0 x "java/lang/String") (F_x_coder : Fld Z h0 x "java/lang/String" "coder" "B" (.int (0 : Int32))) (F_x_value : Fld Z h0 x "java/lang/String" "value" "[B" (.ref a)) (V_a : Arv Z h0 a ka .byte (6 : Int32) [(.int (115 : Int32)), (.int (116 : Int32)), (.int (114 : Int32)), (.int (105 : Int32)), (.int (110 : Int32)), (.int (103 : Int32))] (.int (0 : Int32))) (E_y : Exa Z h0 y "java/lang/String") (F_y_coder : Fld Z h0 y "java/lang/String" "coder" "B" (.int (0 : Int32))) (F_y_value : Fld Z h0 y "java/lang/String" "value" "[B" (.ref b)) (V_b : Arv Z h0 b kb .byte (6 : Int32) [(.int (115 : Int32)), (.int (116 : Int32)), (.int (114 : Int32)), (.int (105 : Int32)), (.int (110 : Int32)), (.int (103 : Int32))] (.int (0 : Int32))) (SC : Sta Z Z.heap "java/lang/String" "COMPACT_STRINGS" "Z" (.int zc)) (hcs : ¬ zc = 0) :
    MetFree l (⟨"java/lang/String", "equals", "(Ljava/lang/Object;)Z"⟩ : MethodName) (head1 (Jvm.Cond.code (⟨"java/lang/String", "equals", "(Ljava/lang/Object;)Z"⟩ : MethodName) jdk_42_method_66_code 3 (some .boolean) :: ws) ({ frames := 1, cells := 0, slots := 0, locals := 14 } : Room)) (fun A_ U_ => A_ = #[(.ref x), (.ref y)] ∧ Z.Warmed39 U_.vm ∧ U_.heap = h0) (fun _ _ _ _ _ => True) (fun _ U o U' => ∃ v L, o = .returned v ∧ Qq0 Z x a ka y b kb zc h0 n0 v U'.heap L ∧ FrameEnd U o U' L ({ frames := 1, cells := 0, slots := 0, locals := 14 } : Room).cells ({ frames := 1, cells := 0, slots := 0, locals := 14 } : Room).slots) := by
  refine MetFree.of_bodySF (plainFor_of_name pnq0) hisR ?_
  intro p e s m args below meth cd s₁ Bd hml0 hP hK
  obtain ⟨rfl, hZ, hh⟩ := hP
  have hx := Bd.exec
  have hby := Bd.bytes
  have hlk : meth.locks = false := BodyLoose.notSynchronized Bd
  have hml : cd.maxLocals = 3 := hml0
  have hown : s.vm.findClass "java/lang/String" = some m.cls := findClass_of_methodNamed Bd.named
  have hnm := (name_of_methodNamed Bd.named Bd.method).1
  have X0 : Stand p l e ({ frames := 1, cells := 0, slots := 0, locals := 14 } : Room) s m #[(.ref x), (.ref y)] below meth cd s₁ [] 0 0 := Stand.of_body Bd
  have e0 : s₁.heap = h0 := by rw [← hh, Bd.state]; rfl
  have N0 := Fr.nil n0
  have G : Go p e below s 0 0 (Qq0 Z x a ka y b kb zc h0 n0) (s₁.setTop (mkF m 0 #[.val (.ref x), .val (.ref y), .unset] [])) := by
    show Go p e below s _ _ _ (s₁.setTop (mkF m 0 #[.val (.ref x), .val (.ref y), .unset] []))
    refine Go.st (fun _ kq_ => XS.aloadN X0.here hx rfl (hb hby dq0_0) rfl rfl kq_) ?_
    show Go p e below s _ _ _ (s₁.setTop (mkF m 1 #[.val (.ref x), .val (.ref y), .unset] [(.ref x)]))
    refine Go.st (fun _ kq_ => XS.aloadN X0.here hx rfl (hb hby dq0_1) rfl rfl kq_) ?_
    show Go p e below s _ _ _ (s₁.setTop (mkF m 2 #[.val (.ref x), .val (.ref y), .unset] [(.ref y), (.ref x)]))
    by_cases c2_1 : ((.ref x) : Value) = (.ref y)
    · refine Go.st (fun _ kq_ => XT.acmpNo X0.here hx rfl (hb hby dq0_2) rfl rfl rfl (XT.aa_ne_f c2_1) kq_) ?_
      show Go p e below s _ _ _ (s₁.setTop (mkF m 5 #[.val (.ref x), .val (.ref y), .unset] []))
      refine Go.st (fun _ kq_ => XS.iconst X0.here hx rfl (hb hby dq0_5) kq_) ?_
      show Go p e below s _ _ _ (s₁.setTop (mkF m 6 #[.val (.ref x), .val (.ref y), .unset] [(.int (1 : Int32))]))
      exact Go.ret X0 hlk (some (.int (nar .boolean (1 : Int32)))) (fun h => by rw [Bd.returns] at h; cases h) (by rw [e0]; exact ⟨rfl, N0, rfl⟩) (by decide) (by decide) (fun fs hr => retN X0 hx (t := .boolean) Bd.returns (by simp) (hb hby dq0_6) hr)
    · refine Go.st (fun _ kq_ => XT.acmpYes X0.here hx rfl (pc0 := 2) (pc' := 7) rfl (hb hby dq0_2) rfl rfl rfl (XT.aa_ne_t c2_1) (by decide) (by decide) kq_) ?_
      show Go p e below s _ _ _ (s₁.setTop (mkF m 7 #[.val (.ref x), .val (.ref y), .unset] []))
      refine Go.st (fun _ kq_ => XS.aloadN X0.here hx rfl (hb hby dq0_7) rfl rfl kq_) ?_
      show Go p e below s _ _ _ (s₁.setTop (mkF m 8 #[.val (.ref x), .val (.ref y), .unset] [(.ref y)]))
      obtain ⟨T2, X2, e2, st2⟩ := instY X0 hx hZ hown (own_w hw 24 rfl) e0 (Ins.self E_y) (g := (mkF m 8 #[.val (.ref x), .val (.ref y), .unset] [(.ref y)])) rfl rfl (hb hby dq0_8)
      refine Go.st st2 ?_
      show Go p e below s _ _ _ (T2.setTop (mkF m 11 #[.val (.ref x), .val (.ref y), .unset] [(.int (1 : Int32))]))
      refine Go.st (fun _ kq_ => XS.ifNo X2.here hx rfl (hb hby dq0_11) rfl (by decide) kq_) ?_
      show Go p e below s _ _ _ (T2.setTop (mkF m 14 #[.val (.ref x), .val (.ref y), .unset] []))
      refine Go.st (fun _ kq_ => XS.aloadN X2.here hx rfl (hb hby dq0_14) rfl rfl kq_) ?_
      show Go p e below s _ _ _ (T2.setTop (mkF m 15 #[.val (.ref x), .val (.ref y), .unset] [(.ref y)]))
      obtain ⟨T3, X3, e3, st3⟩ := castY X2 hx hZ hown (own_w hw 24 rfl) e2 (Ins.self E_y) (g := (mkF m 15 #[.val (.ref x), .val (.ref y), .unset] [(.ref y)])) rfl rfl (hb hby dq0_15)
      refine Go.st st3 ?_
      show Go p e below s _ _ _ (T3.setTop (mkF m 18 #[.val (.ref x), .val (.ref y), .unset] [(.ref y)]))
      refine Go.st (fun _ kq_ => XS.astoreN X3.here hx rfl (hb hby dq0_18) rfl rfl (l' := #[.val (.ref x), .val (.ref y), .val (.ref y)]) rfl kq_) ?_
      show Go p e below s _ _ _ (T3.setTop (mkF m 19 #[.val (.ref x), .val (.ref y), .val (.ref y)] []))
      obtain ⟨T4, X4, e4, st4⟩ := getS X3 hx hZ hown (host := "") (own_w hw 26 rfl) Via.refl e3 (SC.ext O0.2) (g := (mkF m 19 #[.val (.ref x), .val (.ref y), .val (.ref y)] [])) rfl (hb hby dq0_19)
      refine Go.st st4 ?_
      show Go p e below s _ _ _ (T4.setTop (mkF m 22 #[.val (.ref x), .val (.ref y), .val (.ref y)] [(.int zc)]))
      refine Go.st (fun _ kq_ => XS.ifNo X4.here hx rfl (hb hby dq0_22) rfl (XT.i0_eq_f hcs) kq_) ?_
      show Go p e below s _ _ _ (T4.setTop (mkF m 25 #[.val (.ref x), .val (.ref y), .val (.ref y)] []))
      refine Go.st (fun _ kq_ => XS.aloadN X4.here hx rfl (hb hby dq0_25) rfl rfl kq_) ?_
      show Go p e below s _ _ _ (T4.setTop (mkF m 26 #[.val (.ref x), .val (.ref y), .val (.ref y)] [(.ref x)]))
      obtain ⟨T5, X5, e5, st5⟩ := getF X4 hx hZ hown (host := "") (Or.inl (own_w hw 27 rfl)) Via.refl e4 F_x_coder (g := (mkF m 26 #[.val (.ref x), .val (.ref y), .val (.ref y)] [(.ref x)])) rfl rfl (hb hby dq0_26)
      refine Go.st st5 ?_
      show Go p e below s _ _ _ (T5.setTop (mkF m 29 #[.val (.ref x), .val (.ref y), .val (.ref y)] [(.int (0 : Int32))]))
      refine Go.st (fun _ kq_ => XS.aloadN X5.here hx rfl (hb hby dq0_29) rfl rfl kq_) ?_
      show Go p e below s _ _ _ (T5.setTop (mkF m 30 #[.val (.ref x), .val (.ref y), .val (.ref y)] [(.ref y), (.int (0 : Int32))]))
      obtain ⟨T6, X6, e6, st6⟩ := getF X5 hx hZ hown (host := "") (Or.inl (own_w hw 27 rfl)) Via.refl e5 F_y_coder (g := (mkF m 30 #[.val (.ref x), .val (.ref y), .val (.ref y)] [(.ref y), (.int (0 : Int32))])) rfl rfl (hb hby dq0_30)
      refine Go.st st6 ?_
      show Go p e below s _ _ _ (T6.setTop (mkF m 33 #[.val (.ref x), .val (.ref y), .val (.ref y)] [(.int (0 : Int32)), (.int (0 : Int32))]))
      refine Go.st (fun _ kq_ => XS.icmpNo X6.here hx rfl (hb hby dq0_33) rfl (by decide) kq_) ?_
      show Go p e below s _ _ _ (T6.setTop (mkF m 36 #[.val (.ref x), .val (.ref y), .val (.ref y)] []))
      refine Go.st (fun _ kq_ => XS.aloadN X6.here hx rfl (hb hby dq0_36) rfl rfl kq_) ?_
      show Go p e below s _ _ _ (T6.setTop (mkF m 37 #[.val (.ref x), .val (.ref y), .val (.ref y)] [(.ref x)]))
      obtain ⟨T7, X7, e7, st7⟩ := getF X6 hx hZ hown (host := "") (Or.inl (own_w hw 28 rfl)) Via.refl e6 F_x_value (g := (mkF m 37 #[.val (.ref x), .val (.ref y), .val (.ref y)] [(.ref x)])) rfl rfl (hb hby dq0_37)
      refine Go.st st7 ?_
      show Go p e below s _ _ _ (T7.setTop (mkF m 40 #[.val (.ref x), .val (.ref y), .val (.ref y)] [(.ref a)]))
      refine Go.st (fun _ kq_ => XS.aloadN X7.here hx rfl (hb hby dq0_40) rfl rfl kq_) ?_
      show Go p e below s _ _ _ (T7.setTop (mkF m 41 #[.val (.ref x), .val (.ref y), .val (.ref y)] [(.ref y), (.ref a)]))
      obtain ⟨T8, X8, e8, st8⟩ := getF X7 hx hZ hown (host := "") (Or.inl (own_w hw 28 rfl)) Via.refl e7 F_y_value (g := (mkF m 41 #[.val (.ref x), .val (.ref y), .val (.ref y)] [(.ref y), (.ref a)])) rfl rfl (hb hby dq0_41)
      refine Go.st st8 ?_
      show Go p e below s _ _ _ (T8.setTop (mkF m 44 #[.val (.ref x), .val (.ref y), .val (.ref y)] [(.ref b), (.ref a)]))
      obtain ⟨_, _, ⟨T9, L9, k9, n9⟩, -, X9, ⟨Lc9, hQ9, l9, y9, z9⟩, st9⟩ := Jvm.LawKit.callS X8 hx (y := (⟨"java/lang/StringLatin1", "equals", "([B[B)Z"⟩ : MethodName)) hown (mvT hZ (own_w hw 29 rfl)) (mvT hZ (own_w hw 30 rfl)) (mvT hZ (own_w hw 31 rfl)) (mvT hZ (own_w hw 32 rfl)) (by decide) (backOf (W := 0) (rmq0l l Z a0 hw [] a ka b kb h0 n0 O0 V_a V_b) hZ (own_w hw 32 rfl) (own_w hw 31 rfl) (by decide) (by decide)) (g := (mkF m 44 #[.val (.ref x), .val (.ref y), .val (.ref y)] [(.ref b), (.ref a)])) rfl (by rw [hml]; rfl) (argsL := [(.ref a), (.ref b)]) (rest := []) (lenOf pdq0_0 rfl) rfl (by show 2 * 0 + _ ≤ _; exact Nat.le_of_eq rfl) (hb hby dq0_44) (fun _ _ => ⟨rfl, e8, (by decide : 0 + 0 ≤ _), (by decide : 0 + 0 ≤ _)⟩)
      dsimp only [Pt.U, Pt.locs, Pt.cells, Pt.slots] at X9 l9 y9 z9 st9 hQ9
      subst y9 z9
      obtain ⟨rfl, Nc9, e9⟩ := hQ9
      have N9 : Fr n0 L9 := by rw [l9]; exact Fr.app N0 Nc9
      refine Go.st st9 ?_
      show Go p e below s _ _ _ (T9.setTop (mkF m 47 #[.val (.ref x), .val (.ref y), .val (.ref y)] [(.int (1 : Int32))]))
      refine Go.st (fun _ kq_ => XS.ifNo X9.here hx rfl (hb hby dq0_47) rfl (by decide) kq_) ?_
      show Go p e below s _ _ _ (T9.setTop (mkF m 50 #[.val (.ref x), .val (.ref y), .val (.ref y)] []))
      refine Go.st (fun _ kq_ => XS.iconst X9.here hx rfl (hb hby dq0_50) kq_) ?_
      show Go p e below s _ _ _ (T9.setTop (mkF m 51 #[.val (.ref x), .val (.ref y), .val (.ref y)] [(.int (1 : Int32))]))
      refine Go.st (fun _ kq_ => XS.goto X9.here hx rfl (pc0 := 51) (pc' := 55) rfl (hb hby dq0_51) (by decide) (by decide) kq_) ?_
      show Go p e below s _ _ _ (T9.setTop (mkF m 55 #[.val (.ref x), .val (.ref y), .val (.ref y)] [(.int (1 : Int32))]))
      exact Go.ret X9 hlk (some (.int (nar .boolean (1 : Int32)))) (fun h => by rw [Bd.returns] at h; cases h) (by rw [e9]; exact ⟨rfl, N9, rfl⟩) (by decide) (by decide) (fun fs hr => retN X9 hx (t := .boolean) Bd.returns (by simp) (hb hby dq0_55) hr)
  obtain ⟨s2, o2, st2, r2⟩ := G
  exact ⟨s2, o2, castTop (efq0 m x y) st2, r2⟩
theorem dq1l_0 : decode jdk_43_method_13_code 0 = .ok (.aload_n 0, 1) := by decide +kernel
theorem dq1l_1 : decode jdk_43_method_13_code 1 = .ok (.arraylength, 1) := by decide +kernel
theorem dq1l_2 : decode jdk_43_method_13_code 2 = .ok (.aload_n 1, 1) := by decide +kernel
theorem dq1l_3 : decode jdk_43_method_13_code 3 = .ok (.arraylength, 1) := by decide +kernel
theorem dq1l_4 : decode jdk_43_method_13_code 4 = .ok (.if_icmp .ne 30, 3) := by decide +kernel
theorem dq1l_7 : decode jdk_43_method_13_code 7 = .ok (.iconst 0, 1) := by decide +kernel
theorem dq1l_8 : decode jdk_43_method_13_code 8 = .ok (.istore_n 2, 1) := by decide +kernel
theorem dq1l_9 : decode jdk_43_method_13_code 9 = .ok (.iload_n 2, 1) := by decide +kernel
theorem dq1l_10 : decode jdk_43_method_13_code 10 = .ok (.aload_n 0, 1) := by decide +kernel
theorem dq1l_11 : decode jdk_43_method_13_code 11 = .ok (.arraylength, 1) := by decide +kernel
theorem dq1l_12 : decode jdk_43_method_13_code 12 = .ok (.if_icmp .ge 20, 3) := by decide +kernel
theorem dq1l_15 : decode jdk_43_method_13_code 15 = .ok (.aload_n 0, 1) := by decide +kernel
theorem dq1l_16 : decode jdk_43_method_13_code 16 = .ok (.iload_n 2, 1) := by decide +kernel
theorem dq1l_17 : decode jdk_43_method_13_code 17 = .ok (.baload, 1) := by decide +kernel
theorem dq1l_18 : decode jdk_43_method_13_code 18 = .ok (.aload_n 1, 1) := by decide +kernel
theorem dq1l_19 : decode jdk_43_method_13_code 19 = .ok (.iload_n 2, 1) := by decide +kernel
theorem dq1l_20 : decode jdk_43_method_13_code 20 = .ok (.baload, 1) := by decide +kernel
theorem dq1l_21 : decode jdk_43_method_13_code 21 = .ok (.if_icmp .eq 5, 3) := by decide +kernel
theorem dq1l_26 : decode jdk_43_method_13_code 26 = .ok (.iinc 2 1, 3) := by decide +kernel
theorem dq1l_29 : decode jdk_43_method_13_code 29 = .ok (.goto (-20), 3) := by decide +kernel
theorem dq1l_32 : decode jdk_43_method_13_code 32 = .ok (.iconst 1, 1) := by decide +kernel
theorem dq1l_33 : decode jdk_43_method_13_code 33 = .ok (.ireturn, 1) := by decide +kernel
theorem pnq1l : plainName "java/lang/StringLatin1" = true := by first | (simp [plainName, overriddenIn]; done) | decide +kernel
theorem efq1l (m : MethodId) (x0 : Addr) (x1 : Addr) : entryFrame m #[(.ref x0), (.ref x1)] 3 = mkF m 0 #[.val (.ref x0), .val (.ref x1), .unset] [] := by first | (simp [entryFrame, mkF, argsToLocals, Value.category, maxLocals]; done) | rfl
def Qq1l (Z : State) (a : Addr) (ka : ClassId) (b : Addr) (kb : ClassId) (h0 : Heap) (n0 : Nat) (v : Option Value) (h : Heap) (L : List Loc) : Prop := v = some (.int (1 : Int32)) ∧ Fr n0 L ∧ h = h0
set_option maxRecDepth 65536 in
set_option maxHeartbeats 40000000 in
theorem rmq1l (l : Launch) (Z : State) (a0 : Array Value) (hw : ∀ d ∈ tables_1, d.before a0 Z = true) (ws : List Jvm.Cond) (a : Addr) (ka : ClassId) (b : Addr) (kb : ClassId) (h0 : Heap) (n0 : Nat) (O0 : Old Z n0 h0) (V_a : Arv Z h0 a ka .byte (7 : Int32) [(.int (105 : Int32)), (.int (110 : Int32)), (.int (116 : Int32)), (.int (101 : Int32)), (.int (103 : Int32)), (.int (101 : Int32)), (.int (114 : Int32))] (.int (0 : Int32))) (V_b : Arv Z h0 b kb .byte (7 : Int32) [(.int (105 : Int32)), (.int (110 : Int32)), (.int (116 : Int32)), (.int (101 : Int32)), (.int (103 : Int32)), (.int (101 : Int32)), (.int (114 : Int32))] (.int (0 : Int32))) :
    MetFree l (⟨"java/lang/StringLatin1", "equals", "([B[B)Z"⟩ : MethodName) (head1 (Jvm.Cond.code (⟨"java/lang/StringLatin1", "equals", "([B[B)Z"⟩ : MethodName) jdk_43_method_13_code 3 (some .boolean) :: ws) ({ frames := 0, cells := 0, slots := 0, locals := 0 } : Room)) (fun A_ U_ => A_ = #[(.ref a), (.ref b)] ∧ Z.Warmed39 U_.vm ∧ U_.heap = h0) (fun _ _ _ _ _ => True) (fun _ U o U' => ∃ v L, o = .returned v ∧ Qq1l Z a ka b kb h0 n0 v U'.heap L ∧ FrameEnd U o U' L ({ frames := 0, cells := 0, slots := 0, locals := 0 } : Room).cells ({ frames := 0, cells := 0, slots := 0, locals := 0 } : Room).slots) := by
  refine MetFree.of_bodySF (plainFor_of_name pnq1l) hisR ?_
  intro p e s m args below meth cd s₁ Bd hml0 hP hK
  obtain ⟨rfl, hZ, hh⟩ := hP
  have hx := Bd.exec
  have hby := Bd.bytes
  have hlk : meth.locks = false := BodyLoose.notSynchronized Bd
  have hml : cd.maxLocals = 3 := hml0
  have hown : s.vm.findClass "java/lang/StringLatin1" = some m.cls := findClass_of_methodNamed Bd.named
  have hnm := (name_of_methodNamed Bd.named Bd.method).1
  have X0 : Stand p l e ({ frames := 0, cells := 0, slots := 0, locals := 0 } : Room) s m #[(.ref a), (.ref b)] below meth cd s₁ [] 0 0 := Stand.of_body Bd
  have e0 : s₁.heap = h0 := by rw [← hh, Bd.state]; rfl
  have N0 := Fr.nil n0
  have G : Go p e below s 0 0 (Qq1l Z a ka b kb h0 n0) (s₁.setTop (mkF m 0 #[.val (.ref a), .val (.ref b), .unset] [])) := by
    show Go p e below s _ _ _ (s₁.setTop (mkF m 0 #[.val (.ref a), .val (.ref b), .unset] []))
    refine Go.st (fun _ kq_ => XS.aloadN X0.here hx rfl (hb hby dq1l_0) rfl rfl kq_) ?_
    show Go p e below s _ _ _ (s₁.setTop (mkF m 1 #[.val (.ref a), .val (.ref b), .unset] [(.ref a)]))
    refine Go.st (fun _ kq_ => own_len X0 hx hZ e0 V_a (g := (mkF m 1 #[.val (.ref a), .val (.ref b), .unset] [(.ref a)])) rfl rfl (hb hby dq1l_1) _ kq_) ?_
    show Go p e below s _ _ _ (s₁.setTop (mkF m 2 #[.val (.ref a), .val (.ref b), .unset] [(.int (7 : Int32))]))
    refine Go.st (fun _ kq_ => XS.aloadN X0.here hx rfl (hb hby dq1l_2) rfl rfl kq_) ?_
    show Go p e below s _ _ _ (s₁.setTop (mkF m 3 #[.val (.ref a), .val (.ref b), .unset] [(.ref b), (.int (7 : Int32))]))
    refine Go.st (fun _ kq_ => own_len X0 hx hZ e0 V_b (g := (mkF m 3 #[.val (.ref a), .val (.ref b), .unset] [(.ref b), (.int (7 : Int32))])) rfl rfl (hb hby dq1l_3) _ kq_) ?_
    show Go p e below s _ _ _ (s₁.setTop (mkF m 4 #[.val (.ref a), .val (.ref b), .unset] [(.int (7 : Int32)), (.int (7 : Int32))]))
    refine Go.st (fun _ kq_ => XS.icmpNo X0.here hx rfl (hb hby dq1l_4) rfl (by decide) kq_) ?_
    show Go p e below s _ _ _ (s₁.setTop (mkF m 7 #[.val (.ref a), .val (.ref b), .unset] []))
    refine Go.st (fun _ kq_ => XS.iconst X0.here hx rfl (hb hby dq1l_7) kq_) ?_
    show Go p e below s _ _ _ (s₁.setTop (mkF m 8 #[.val (.ref a), .val (.ref b), .unset] [(.int (0 : Int32))]))
    refine Go.st (fun _ kq_ => XS.istoreN X0.here hx rfl (hb hby dq1l_8) rfl (l' := #[.val (.ref a), .val (.ref b), .val (.int (0 : Int32))]) rfl kq_) ?_
    show Go p e below s _ _ _ (s₁.setTop (mkF m 9 #[.val (.ref a), .val (.ref b), .val (.int (0 : Int32))] []))
    refine Go.st (fun _ kq_ => XS.iloadN X0.here hx rfl (hb hby dq1l_9) rfl kq_) ?_
    show Go p e below s _ _ _ (s₁.setTop (mkF m 10 #[.val (.ref a), .val (.ref b), .val (.int (0 : Int32))] [(.int (0 : Int32))]))
    refine Go.st (fun _ kq_ => XS.aloadN X0.here hx rfl (hb hby dq1l_10) rfl rfl kq_) ?_
    show Go p e below s _ _ _ (s₁.setTop (mkF m 11 #[.val (.ref a), .val (.ref b), .val (.int (0 : Int32))] [(.ref a), (.int (0 : Int32))]))
    refine Go.st (fun _ kq_ => own_len X0 hx hZ e0 V_a (g := (mkF m 11 #[.val (.ref a), .val (.ref b), .val (.int (0 : Int32))] [(.ref a), (.int (0 : Int32))])) rfl rfl (hb hby dq1l_11) _ kq_) ?_
    show Go p e below s _ _ _ (s₁.setTop (mkF m 12 #[.val (.ref a), .val (.ref b), .val (.int (0 : Int32))] [(.int (7 : Int32)), (.int (0 : Int32))]))
    refine Go.st (fun _ kq_ => XS.icmpNo X0.here hx rfl (hb hby dq1l_12) rfl (by decide) kq_) ?_
    show Go p e below s _ _ _ (s₁.setTop (mkF m 15 #[.val (.ref a), .val (.ref b), .val (.int (0 : Int32))] []))
    refine Go.st (fun _ kq_ => XS.aloadN X0.here hx rfl (hb hby dq1l_15) rfl rfl kq_) ?_
    show Go p e below s _ _ _ (s₁.setTop (mkF m 16 #[.val (.ref a), .val (.ref b), .val (.int (0 : Int32))] [(.ref a)]))
    refine Go.st (fun _ kq_ => XS.iloadN X0.here hx rfl (hb hby dq1l_16) rfl kq_) ?_
    show Go p e below s _ _ _ (s₁.setTop (mkF m 17 #[.val (.ref a), .val (.ref b), .val (.int (0 : Int32))] [(.int (0 : Int32)), (.ref a)]))
    refine Go.st (fun _ kq_ => own_baloadB X0 hx hZ e0 V_a (by decide) (by decide) (v := (.int (105 : Int32))) rfl (g := (mkF m 17 #[.val (.ref a), .val (.ref b), .val (.int (0 : Int32))] [(.int (0 : Int32)), (.ref a)])) rfl rfl (hb hby dq1l_17) _ kq_) ?_
    show Go p e below s _ _ _ (s₁.setTop (mkF m 18 #[.val (.ref a), .val (.ref b), .val (.int (0 : Int32))] [(.int (105 : Int32))]))
    refine Go.st (fun _ kq_ => XS.aloadN X0.here hx rfl (hb hby dq1l_18) rfl rfl kq_) ?_
    show Go p e below s _ _ _ (s₁.setTop (mkF m 19 #[.val (.ref a), .val (.ref b), .val (.int (0 : Int32))] [(.ref b), (.int (105 : Int32))]))
    refine Go.st (fun _ kq_ => XS.iloadN X0.here hx rfl (hb hby dq1l_19) rfl kq_) ?_
    show Go p e below s _ _ _ (s₁.setTop (mkF m 20 #[.val (.ref a), .val (.ref b), .val (.int (0 : Int32))] [(.int (0 : Int32)), (.ref b), (.int (105 : Int32))]))
    refine Go.st (fun _ kq_ => own_baloadB X0 hx hZ e0 V_b (by decide) (by decide) (v := (.int (105 : Int32))) rfl (g := (mkF m 20 #[.val (.ref a), .val (.ref b), .val (.int (0 : Int32))] [(.int (0 : Int32)), (.ref b), (.int (105 : Int32))])) rfl rfl (hb hby dq1l_20) _ kq_) ?_
    show Go p e below s _ _ _ (s₁.setTop (mkF m 21 #[.val (.ref a), .val (.ref b), .val (.int (0 : Int32))] [(.int (105 : Int32)), (.int (105 : Int32))]))
    refine Go.st (fun _ kq_ => XS.icmpYes X0.here hx rfl (pc0 := 21) (pc' := 26) rfl (hb hby dq1l_21) rfl (by decide) (by decide) (by decide) kq_) ?_
    show Go p e below s _ _ _ (s₁.setTop (mkF m 26 #[.val (.ref a), .val (.ref b), .val (.int (0 : Int32))] []))
    refine Go.st (fun _ kq_ => XT.iincV X0.here hx rfl (1 : Int32) (hb hby dq1l_26) rfl rfl (l' := #[.val (.ref a), .val (.ref b), .val (.int (1 : Int32))]) rfl kq_) ?_
    show Go p e below s _ _ _ (s₁.setTop (mkF m 29 #[.val (.ref a), .val (.ref b), .val (.int (1 : Int32))] []))
    refine Go.st (fun _ kq_ => XS.goto X0.here hx rfl (pc0 := 29) (pc' := 9) rfl (hb hby dq1l_29) (by decide) (by decide) kq_) ?_
    show Go p e below s _ _ _ (s₁.setTop (mkF m 9 #[.val (.ref a), .val (.ref b), .val (.int (1 : Int32))] []))
    refine Go.st (fun _ kq_ => XS.iloadN X0.here hx rfl (hb hby dq1l_9) rfl kq_) ?_
    show Go p e below s _ _ _ (s₁.setTop (mkF m 10 #[.val (.ref a), .val (.ref b), .val (.int (1 : Int32))] [(.int (1 : Int32))]))
    refine Go.st (fun _ kq_ => XS.aloadN X0.here hx rfl (hb hby dq1l_10) rfl rfl kq_) ?_
    show Go p e below s _ _ _ (s₁.setTop (mkF m 11 #[.val (.ref a), .val (.ref b), .val (.int (1 : Int32))] [(.ref a), (.int (1 : Int32))]))
    refine Go.st (fun _ kq_ => own_len X0 hx hZ e0 V_a (g := (mkF m 11 #[.val (.ref a), .val (.ref b), .val (.int (1 : Int32))] [(.ref a), (.int (1 : Int32))])) rfl rfl (hb hby dq1l_11) _ kq_) ?_
    show Go p e below s _ _ _ (s₁.setTop (mkF m 12 #[.val (.ref a), .val (.ref b), .val (.int (1 : Int32))] [(.int (7 : Int32)), (.int (1 : Int32))]))
    refine Go.st (fun _ kq_ => XS.icmpNo X0.here hx rfl (hb hby dq1l_12) rfl (by decide) kq_) ?_
    show Go p e below s _ _ _ (s₁.setTop (mkF m 15 #[.val (.ref a), .val (.ref b), .val (.int (1 : Int32))] []))
    refine Go.st (fun _ kq_ => XS.aloadN X0.here hx rfl (hb hby dq1l_15) rfl rfl kq_) ?_
    show Go p e below s _ _ _ (s₁.setTop (mkF m 16 #[.val (.ref a), .val (.ref b), .val (.int (1 : Int32))] [(.ref a)]))
    refine Go.st (fun _ kq_ => XS.iloadN X0.here hx rfl (hb hby dq1l_16) rfl kq_) ?_
    show Go p e below s _ _ _ (s₁.setTop (mkF m 17 #[.val (.ref a), .val (.ref b), .val (.int (1 : Int32))] [(.int (1 : Int32)), (.ref a)]))
    refine Go.st (fun _ kq_ => own_baloadB X0 hx hZ e0 V_a (by decide) (by decide) (v := (.int (110 : Int32))) rfl (g := (mkF m 17 #[.val (.ref a), .val (.ref b), .val (.int (1 : Int32))] [(.int (1 : Int32)), (.ref a)])) rfl rfl (hb hby dq1l_17) _ kq_) ?_
    show Go p e below s _ _ _ (s₁.setTop (mkF m 18 #[.val (.ref a), .val (.ref b), .val (.int (1 : Int32))] [(.int (110 : Int32))]))
    refine Go.st (fun _ kq_ => XS.aloadN X0.here hx rfl (hb hby dq1l_18) rfl rfl kq_) ?_
    show Go p e below s _ _ _ (s₁.setTop (mkF m 19 #[.val (.ref a), .val (.ref b), .val (.int (1 : Int32))] [(.ref b), (.int (110 : Int32))]))
    refine Go.st (fun _ kq_ => XS.iloadN X0.here hx rfl (hb hby dq1l_19) rfl kq_) ?_
    show Go p e below s _ _ _ (s₁.setTop (mkF m 20 #[.val (.ref a), .val (.ref b), .val (.int (1 : Int32))] [(.int (1 : Int32)), (.ref b), (.int (110 : Int32))]))
    refine Go.st (fun _ kq_ => own_baloadB X0 hx hZ e0 V_b (by decide) (by decide) (v := (.int (110 : Int32))) rfl (g := (mkF m 20 #[.val (.ref a), .val (.ref b), .val (.int (1 : Int32))] [(.int (1 : Int32)), (.ref b), (.int (110 : Int32))])) rfl rfl (hb hby dq1l_20) _ kq_) ?_
    show Go p e below s _ _ _ (s₁.setTop (mkF m 21 #[.val (.ref a), .val (.ref b), .val (.int (1 : Int32))] [(.int (110 : Int32)), (.int (110 : Int32))]))
    refine Go.st (fun _ kq_ => XS.icmpYes X0.here hx rfl (pc0 := 21) (pc' := 26) rfl (hb hby dq1l_21) rfl (by decide) (by decide) (by decide) kq_) ?_
    show Go p e below s _ _ _ (s₁.setTop (mkF m 26 #[.val (.ref a), .val (.ref b), .val (.int (1 : Int32))] []))
    refine Go.st (fun _ kq_ => XT.iincV X0.here hx rfl (1 : Int32) (hb hby dq1l_26) rfl rfl (l' := #[.val (.ref a), .val (.ref b), .val (.int (2 : Int32))]) rfl kq_) ?_
    show Go p e below s _ _ _ (s₁.setTop (mkF m 29 #[.val (.ref a), .val (.ref b), .val (.int (2 : Int32))] []))
    refine Go.st (fun _ kq_ => XS.goto X0.here hx rfl (pc0 := 29) (pc' := 9) rfl (hb hby dq1l_29) (by decide) (by decide) kq_) ?_
    show Go p e below s _ _ _ (s₁.setTop (mkF m 9 #[.val (.ref a), .val (.ref b), .val (.int (2 : Int32))] []))
    refine Go.st (fun _ kq_ => XS.iloadN X0.here hx rfl (hb hby dq1l_9) rfl kq_) ?_
    show Go p e below s _ _ _ (s₁.setTop (mkF m 10 #[.val (.ref a), .val (.ref b), .val (.int (2 : Int32))] [(.int (2 : Int32))]))
    refine Go.st (fun _ kq_ => XS.aloadN X0.here hx rfl (hb hby dq1l_10) rfl rfl kq_) ?_
    show Go p e below s _ _ _ (s₁.setTop (mkF m 11 #[.val (.ref a), .val (.ref b), .val (.int (2 : Int32))] [(.ref a), (.int (2 : Int32))]))
    refine Go.st (fun _ kq_ => own_len X0 hx hZ e0 V_a (g := (mkF m 11 #[.val (.ref a), .val (.ref b), .val (.int (2 : Int32))] [(.ref a), (.int (2 : Int32))])) rfl rfl (hb hby dq1l_11) _ kq_) ?_
    show Go p e below s _ _ _ (s₁.setTop (mkF m 12 #[.val (.ref a), .val (.ref b), .val (.int (2 : Int32))] [(.int (7 : Int32)), (.int (2 : Int32))]))
    refine Go.st (fun _ kq_ => XS.icmpNo X0.here hx rfl (hb hby dq1l_12) rfl (by decide) kq_) ?_
    show Go p e below s _ _ _ (s₁.setTop (mkF m 15 #[.val (.ref a), .val (.ref b), .val (.int (2 : Int32))] []))
    refine Go.st (fun _ kq_ => XS.aloadN X0.here hx rfl (hb hby dq1l_15) rfl rfl kq_) ?_
    show Go p e below s _ _ _ (s₁.setTop (mkF m 16 #[.val (.ref a), .val (.ref b), .val (.int (2 : Int32))] [(.ref a)]))
    refine Go.st (fun _ kq_ => XS.iloadN X0.here hx rfl (hb hby dq1l_16) rfl kq_) ?_
    show Go p e below s _ _ _ (s₁.setTop (mkF m 17 #[.val (.ref a), .val (.ref b), .val (.int (2 : Int32))] [(.int (2 : Int32)), (.ref a)]))
    refine Go.st (fun _ kq_ => own_baloadB X0 hx hZ e0 V_a (by decide) (by decide) (v := (.int (116 : Int32))) rfl (g := (mkF m 17 #[.val (.ref a), .val (.ref b), .val (.int (2 : Int32))] [(.int (2 : Int32)), (.ref a)])) rfl rfl (hb hby dq1l_17) _ kq_) ?_
    show Go p e below s _ _ _ (s₁.setTop (mkF m 18 #[.val (.ref a), .val (.ref b), .val (.int (2 : Int32))] [(.int (116 : Int32))]))
    refine Go.st (fun _ kq_ => XS.aloadN X0.here hx rfl (hb hby dq1l_18) rfl rfl kq_) ?_
    show Go p e below s _ _ _ (s₁.setTop (mkF m 19 #[.val (.ref a), .val (.ref b), .val (.int (2 : Int32))] [(.ref b), (.int (116 : Int32))]))
    refine Go.st (fun _ kq_ => XS.iloadN X0.here hx rfl (hb hby dq1l_19) rfl kq_) ?_
    show Go p e below s _ _ _ (s₁.setTop (mkF m 20 #[.val (.ref a), .val (.ref b), .val (.int (2 : Int32))] [(.int (2 : Int32)), (.ref b), (.int (116 : Int32))]))
    refine Go.st (fun _ kq_ => own_baloadB X0 hx hZ e0 V_b (by decide) (by decide) (v := (.int (116 : Int32))) rfl (g := (mkF m 20 #[.val (.ref a), .val (.ref b), .val (.int (2 : Int32))] [(.int (2 : Int32)), (.ref b), (.int (116 : Int32))])) rfl rfl (hb hby dq1l_20) _ kq_) ?_
    show Go p e below s _ _ _ (s₁.setTop (mkF m 21 #[.val (.ref a), .val (.ref b), .val (.int (2 : Int32))] [(.int (116 : Int32)), (.int (116 : Int32))]))
    refine Go.st (fun _ kq_ => XS.icmpYes X0.here hx rfl (pc0 := 21) (pc' := 26) rfl (hb hby dq1l_21) rfl (by decide) (by decide) (by decide) kq_) ?_
    show Go p e below s _ _ _ (s₁.setTop (mkF m 26 #[.val (.ref a), .val (.ref b), .val (.int (2 : Int32))] []))
    refine Go.st (fun _ kq_ => XT.iincV X0.here hx rfl (1 : Int32) (hb hby dq1l_26) rfl rfl (l' := #[.val (.ref a), .val (.ref b), .val (.int (3 : Int32))]) rfl kq_) ?_
    show Go p e below s _ _ _ (s₁.setTop (mkF m 29 #[.val (.ref a), .val (.ref b), .val (.int (3 : Int32))] []))
    refine Go.st (fun _ kq_ => XS.goto X0.here hx rfl (pc0 := 29) (pc' := 9) rfl (hb hby dq1l_29) (by decide) (by decide) kq_) ?_
    show Go p e below s _ _ _ (s₁.setTop (mkF m 9 #[.val (.ref a), .val (.ref b), .val (.int (3 : Int32))] []))
    refine Go.st (fun _ kq_ => XS.iloadN X0.here hx rfl (hb hby dq1l_9) rfl kq_) ?_
    show Go p e below s _ _ _ (s₁.setTop (mkF m 10 #[.val (.ref a), .val (.ref b), .val (.int (3 : Int32))] [(.int (3 : Int32))]))
    refine Go.st (fun _ kq_ => XS.aloadN X0.here hx rfl (hb hby dq1l_10) rfl rfl kq_) ?_
    show Go p e below s _ _ _ (s₁.setTop (mkF m 11 #[.val (.ref a), .val (.ref b), .val (.int (3 : Int32))] [(.ref a), (.int (3 : Int32))]))
    refine Go.st (fun _ kq_ => own_len X0 hx hZ e0 V_a (g := (mkF m 11 #[.val (.ref a), .val (.ref b), .val (.int (3 : Int32))] [(.ref a), (.int (3 : Int32))])) rfl rfl (hb hby dq1l_11) _ kq_) ?_
    show Go p e below s _ _ _ (s₁.setTop (mkF m 12 #[.val (.ref a), .val (.ref b), .val (.int (3 : Int32))] [(.int (7 : Int32)), (.int (3 : Int32))]))
    refine Go.st (fun _ kq_ => XS.icmpNo X0.here hx rfl (hb hby dq1l_12) rfl (by decide) kq_) ?_
    show Go p e below s _ _ _ (s₁.setTop (mkF m 15 #[.val (.ref a), .val (.ref b), .val (.int (3 : Int32))] []))
    refine Go.st (fun _ kq_ => XS.aloadN X0.here hx rfl (hb hby dq1l_15) rfl rfl kq_) ?_
    show Go p e below s _ _ _ (s₁.setTop (mkF m 16 #[.val (.ref a), .val (.ref b), .val (.int (3 : Int32))] [(.ref a)]))
    refine Go.st (fun _ kq_ => XS.iloadN X0.here hx rfl (hb hby dq1l_16) rfl kq_) ?_
    show Go p e below s _ _ _ (s₁.setTop (mkF m 17 #[.val (.ref a), .val (.ref b), .val (.int (3 : Int32))] [(.int (3 : Int32)), (.ref a)]))
    refine Go.st (fun _ kq_ => own_baloadB X0 hx hZ e0 V_a (by decide) (by decide) (v := (.int (101 : Int32))) rfl (g := (mkF m 17 #[.val (.ref a), .val (.ref b), .val (.int (3 : Int32))] [(.int (3 : Int32)), (.ref a)])) rfl rfl (hb hby dq1l_17) _ kq_) ?_
    show Go p e below s _ _ _ (s₁.setTop (mkF m 18 #[.val (.ref a), .val (.ref b), .val (.int (3 : Int32))] [(.int (101 : Int32))]))
    refine Go.st (fun _ kq_ => XS.aloadN X0.here hx rfl (hb hby dq1l_18) rfl rfl kq_) ?_
    show Go p e below s _ _ _ (s₁.setTop (mkF m 19 #[.val (.ref a), .val (.ref b), .val (.int (3 : Int32))] [(.ref b), (.int (101 : Int32))]))
    refine Go.st (fun _ kq_ => XS.iloadN X0.here hx rfl (hb hby dq1l_19) rfl kq_) ?_
    show Go p e below s _ _ _ (s₁.setTop (mkF m 20 #[.val (.ref a), .val (.ref b), .val (.int (3 : Int32))] [(.int (3 : Int32)), (.ref b), (.int (101 : Int32))]))
    refine Go.st (fun _ kq_ => own_baloadB X0 hx hZ e0 V_b (by decide) (by decide) (v := (.int (101 : Int32))) rfl (g := (mkF m 20 #[.val (.ref a), .val (.ref b), .val (.int (3 : Int32))] [(.int (3 : Int32)), (.ref b), (.int (101 : Int32))])) rfl rfl (hb hby dq1l_20) _ kq_) ?_
    show Go p e below s _ _ _ (s₁.setTop (mkF m 21 #[.val (.ref a), .val (.ref b), .val (.int (3 : Int32))] [(.int (101 : Int32)), (.int (101 : Int32))]))
    refine Go.st (fun _ kq_ => XS.icmpYes X0.here hx rfl (pc0 := 21) (pc' := 26) rfl (hb hby dq1l_21) rfl (by decide) (by decide) (by decide) kq_) ?_
    show Go p e below s _ _ _ (s₁.setTop (mkF m 26 #[.val (.ref a), .val (.ref b), .val (.int (3 : Int32))] []))
    refine Go.st (fun _ kq_ => XT.iincV X0.here hx rfl (1 : Int32) (hb hby dq1l_26) rfl rfl (l' := #[.val (.ref a), .val (.ref b), .val (.int (4 : Int32))]) rfl kq_) ?_
    show Go p e below s _ _ _ (s₁.setTop (mkF m 29 #[.val (.ref a), .val (.ref b), .val (.int (4 : Int32))] []))
    refine Go.st (fun _ kq_ => XS.goto X0.here hx rfl (pc0 := 29) (pc' := 9) rfl (hb hby dq1l_29) (by decide) (by decide) kq_) ?_
    show Go p e below s _ _ _ (s₁.setTop (mkF m 9 #[.val (.ref a), .val (.ref b), .val (.int (4 : Int32))] []))
    refine Go.st (fun _ kq_ => XS.iloadN X0.here hx rfl (hb hby dq1l_9) rfl kq_) ?_
    show Go p e below s _ _ _ (s₁.setTop (mkF m 10 #[.val (.ref a), .val (.ref b), .val (.int (4 : Int32))] [(.int (4 : Int32))]))
    refine Go.st (fun _ kq_ => XS.aloadN X0.here hx rfl (hb hby dq1l_10) rfl rfl kq_) ?_
    show Go p e below s _ _ _ (s₁.setTop (mkF m 11 #[.val (.ref a), .val (.ref b), .val (.int (4 : Int32))] [(.ref a), (.int (4 : Int32))]))
    refine Go.st (fun _ kq_ => own_len X0 hx hZ e0 V_a (g := (mkF m 11 #[.val (.ref a), .val (.ref b), .val (.int (4 : Int32))] [(.ref a), (.int (4 : Int32))])) rfl rfl (hb hby dq1l_11) _ kq_) ?_
    show Go p e below s _ _ _ (s₁.setTop (mkF m 12 #[.val (.ref a), .val (.ref b), .val (.int (4 : Int32))] [(.int (7 : Int32)), (.int (4 : Int32))]))
    refine Go.st (fun _ kq_ => XS.icmpNo X0.here hx rfl (hb hby dq1l_12) rfl (by decide) kq_) ?_
    show Go p e below s _ _ _ (s₁.setTop (mkF m 15 #[.val (.ref a), .val (.ref b), .val (.int (4 : Int32))] []))
    refine Go.st (fun _ kq_ => XS.aloadN X0.here hx rfl (hb hby dq1l_15) rfl rfl kq_) ?_
    show Go p e below s _ _ _ (s₁.setTop (mkF m 16 #[.val (.ref a), .val (.ref b), .val (.int (4 : Int32))] [(.ref a)]))
    refine Go.st (fun _ kq_ => XS.iloadN X0.here hx rfl (hb hby dq1l_16) rfl kq_) ?_
    show Go p e below s _ _ _ (s₁.setTop (mkF m 17 #[.val (.ref a), .val (.ref b), .val (.int (4 : Int32))] [(.int (4 : Int32)), (.ref a)]))
    refine Go.st (fun _ kq_ => own_baloadB X0 hx hZ e0 V_a (by decide) (by decide) (v := (.int (103 : Int32))) rfl (g := (mkF m 17 #[.val (.ref a), .val (.ref b), .val (.int (4 : Int32))] [(.int (4 : Int32)), (.ref a)])) rfl rfl (hb hby dq1l_17) _ kq_) ?_
    show Go p e below s _ _ _ (s₁.setTop (mkF m 18 #[.val (.ref a), .val (.ref b), .val (.int (4 : Int32))] [(.int (103 : Int32))]))
    refine Go.st (fun _ kq_ => XS.aloadN X0.here hx rfl (hb hby dq1l_18) rfl rfl kq_) ?_
    show Go p e below s _ _ _ (s₁.setTop (mkF m 19 #[.val (.ref a), .val (.ref b), .val (.int (4 : Int32))] [(.ref b), (.int (103 : Int32))]))
    refine Go.st (fun _ kq_ => XS.iloadN X0.here hx rfl (hb hby dq1l_19) rfl kq_) ?_
    show Go p e below s _ _ _ (s₁.setTop (mkF m 20 #[.val (.ref a), .val (.ref b), .val (.int (4 : Int32))] [(.int (4 : Int32)), (.ref b), (.int (103 : Int32))]))
    refine Go.st (fun _ kq_ => own_baloadB X0 hx hZ e0 V_b (by decide) (by decide) (v := (.int (103 : Int32))) rfl (g := (mkF m 20 #[.val (.ref a), .val (.ref b), .val (.int (4 : Int32))] [(.int (4 : Int32)), (.ref b), (.int (103 : Int32))])) rfl rfl (hb hby dq1l_20) _ kq_) ?_
    show Go p e below s _ _ _ (s₁.setTop (mkF m 21 #[.val (.ref a), .val (.ref b), .val (.int (4 : Int32))] [(.int (103 : Int32)), (.int (103 : Int32))]))
    refine Go.st (fun _ kq_ => XS.icmpYes X0.here hx rfl (pc0 := 21) (pc' := 26) rfl (hb hby dq1l_21) rfl (by decide) (by decide) (by decide) kq_) ?_
    show Go p e below s _ _ _ (s₁.setTop (mkF m 26 #[.val (.ref a), .val (.ref b), .val (.int (4 : Int32))] []))
    refine Go.st (fun _ kq_ => XT.iincV X0.here hx rfl (1 : Int32) (hb hby dq1l_26) rfl rfl (l' := #[.val (.ref a), .val (.ref b), .val (.int (5 : Int32))]) rfl kq_) ?_
    show Go p e below s _ _ _ (s₁.setTop (mkF m 29 #[.val (.ref a), .val (.ref b), .val (.int (5 : Int32))] []))
    refine Go.st (fun _ kq_ => XS.goto X0.here hx rfl (pc0 := 29) (pc' := 9) rfl (hb hby dq1l_29) (by decide) (by decide) kq_) ?_
    show Go p e below s _ _ _ (s₁.setTop (mkF m 9 #[.val (.ref a), .val (.ref b), .val (.int (5 : Int32))] []))
    refine Go.st (fun _ kq_ => XS.iloadN X0.here hx rfl (hb hby dq1l_9) rfl kq_) ?_
    show Go p e below s _ _ _ (s₁.setTop (mkF m 10 #[.val (.ref a), .val (.ref b), .val (.int (5 : Int32))] [(.int (5 : Int32))]))
    refine Go.st (fun _ kq_ => XS.aloadN X0.here hx rfl (hb hby dq1l_10) rfl rfl kq_) ?_
    show Go p e below s _ _ _ (s₁.setTop (mkF m 11 #[.val (.ref a), .val (.ref b), .val (.int (5 : Int32))] [(.ref a), (.int (5 : Int32))]))
    refine Go.st (fun _ kq_ => own_len X0 hx hZ e0 V_a (g := (mkF m 11 #[.val (.ref a), .val (.ref b), .val (.int (5 : Int32))] [(.ref a), (.int (5 : Int32))])) rfl rfl (hb hby dq1l_11) _ kq_) ?_
    show Go p e below s _ _ _ (s₁.setTop (mkF m 12 #[.val (.ref a), .val (.ref b), .val (.int (5 : Int32))] [(.int (7 : Int32)), (.int (5 : Int32))]))
    refine Go.st (fun _ kq_ => XS.icmpNo X0.here hx rfl (hb hby dq1l_12) rfl (by decide) kq_) ?_
    show Go p e below s _ _ _ (s₁.setTop (mkF m 15 #[.val (.ref a), .val (.ref b), .val (.int (5 : Int32))] []))
    refine Go.st (fun _ kq_ => XS.aloadN X0.here hx rfl (hb hby dq1l_15) rfl rfl kq_) ?_
    show Go p e below s _ _ _ (s₁.setTop (mkF m 16 #[.val (.ref a), .val (.ref b), .val (.int (5 : Int32))] [(.ref a)]))
    refine Go.st (fun _ kq_ => XS.iloadN X0.here hx rfl (hb hby dq1l_16) rfl kq_) ?_
    show Go p e below s _ _ _ (s₁.setTop (mkF m 17 #[.val (.ref a), .val (.ref b), .val (.int (5 : Int32))] [(.int (5 : Int32)), (.ref a)]))
    refine Go.st (fun _ kq_ => own_baloadB X0 hx hZ e0 V_a (by decide) (by decide) (v := (.int (101 : Int32))) rfl (g := (mkF m 17 #[.val (.ref a), .val (.ref b), .val (.int (5 : Int32))] [(.int (5 : Int32)), (.ref a)])) rfl rfl (hb hby dq1l_17) _ kq_) ?_
    show Go p e below s _ _ _ (s₁.setTop (mkF m 18 #[.val (.ref a), .val (.ref b), .val (.int (5 : Int32))] [(.int (101 : Int32))]))
    refine Go.st (fun _ kq_ => XS.aloadN X0.here hx rfl (hb hby dq1l_18) rfl rfl kq_) ?_
    show Go p e below s _ _ _ (s₁.setTop (mkF m 19 #[.val (.ref a), .val (.ref b), .val (.int (5 : Int32))] [(.ref b), (.int (101 : Int32))]))
    refine Go.st (fun _ kq_ => XS.iloadN X0.here hx rfl (hb hby dq1l_19) rfl kq_) ?_
    show Go p e below s _ _ _ (s₁.setTop (mkF m 20 #[.val (.ref a), .val (.ref b), .val (.int (5 : Int32))] [(.int (5 : Int32)), (.ref b), (.int (101 : Int32))]))
    refine Go.st (fun _ kq_ => own_baloadB X0 hx hZ e0 V_b (by decide) (by decide) (v := (.int (101 : Int32))) rfl (g := (mkF m 20 #[.val (.ref a), .val (.ref b), .val (.int (5 : Int32))] [(.int (5 : Int32)), (.ref b), (.int (101 : Int32))])) rfl rfl (hb hby dq1l_20) _ kq_) ?_
    show Go p e below s _ _ _ (s₁.setTop (mkF m 21 #[.val (.ref a), .val (.ref b), .val (.int (5 : Int32))] [(.int (101 : Int32)), (.int (101 : Int32))]))
    refine Go.st (fun _ kq_ => XS.icmpYes X0.here hx rfl (pc0 := 21) (pc' := 26) rfl (hb hby dq1l_21) rfl (by decide) (by decide) (by decide) kq_) ?_
    show Go p e below s _ _ _ (s₁.setTop (mkF m 26 #[.val (.ref a), .val (.ref b), .val (.int (5 : Int32))] []))
    refine Go.st (fun _ kq_ => XT.iincV X0.here hx rfl (1 : Int32) (hb hby dq1l_26) rfl rfl (l' := #[.val (.ref a), .val (.ref b), .val (.int (6 : Int32))]) rfl kq_) ?_
    show Go p e below s _ _ _ (s₁.setTop (mkF m 29 #[.val (.ref a), .val (.ref b), .val (.int (6 : Int32))] []))
    refine Go.st (fun _ kq_ => XS.goto X0.here hx rfl (pc0 := 29) (pc' := 9) rfl (hb hby dq1l_29) (by decide) (by decide) kq_) ?_
    show Go p e below s _ _ _ (s₁.setTop (mkF m 9 #[.val (.ref a), .val (.ref b), .val (.int (6 : Int32))] []))
    refine Go.st (fun _ kq_ => XS.iloadN X0.here hx rfl (hb hby dq1l_9) rfl kq_) ?_
    show Go p e below s _ _ _ (s₁.setTop (mkF m 10 #[.val (.ref a), .val (.ref b), .val (.int (6 : Int32))] [(.int (6 : Int32))]))
    refine Go.st (fun _ kq_ => XS.aloadN X0.here hx rfl (hb hby dq1l_10) rfl rfl kq_) ?_
    show Go p e below s _ _ _ (s₁.setTop (mkF m 11 #[.val (.ref a), .val (.ref b), .val (.int (6 : Int32))] [(.ref a), (.int (6 : Int32))]))
    refine Go.st (fun _ kq_ => own_len X0 hx hZ e0 V_a (g := (mkF m 11 #[.val (.ref a), .val (.ref b), .val (.int (6 : Int32))] [(.ref a), (.int (6 : Int32))])) rfl rfl (hb hby dq1l_11) _ kq_) ?_
    show Go p e below s _ _ _ (s₁.setTop (mkF m 12 #[.val (.ref a), .val (.ref b), .val (.int (6 : Int32))] [(.int (7 : Int32)), (.int (6 : Int32))]))
    refine Go.st (fun _ kq_ => XS.icmpNo X0.here hx rfl (hb hby dq1l_12) rfl (by decide) kq_) ?_
    show Go p e below s _ _ _ (s₁.setTop (mkF m 15 #[.val (.ref a), .val (.ref b), .val (.int (6 : Int32))] []))
    refine Go.st (fun _ kq_ => XS.aloadN X0.here hx rfl (hb hby dq1l_15) rfl rfl kq_) ?_
    show Go p e below s _ _ _ (s₁.setTop (mkF m 16 #[.val (.ref a), .val (.ref b), .val (.int (6 : Int32))] [(.ref a)]))
    refine Go.st (fun _ kq_ => XS.iloadN X0.here hx rfl (hb hby dq1l_16) rfl kq_) ?_
    show Go p e below s _ _ _ (s₁.setTop (mkF m 17 #[.val (.ref a), .val (.ref b), .val (.int (6 : Int32))] [(.int (6 : Int32)), (.ref a)]))
    refine Go.st (fun _ kq_ => own_baloadB X0 hx hZ e0 V_a (by decide) (by decide) (v := (.int (114 : Int32))) rfl (g := (mkF m 17 #[.val (.ref a), .val (.ref b), .val (.int (6 : Int32))] [(.int (6 : Int32)), (.ref a)])) rfl rfl (hb hby dq1l_17) _ kq_) ?_
    show Go p e below s _ _ _ (s₁.setTop (mkF m 18 #[.val (.ref a), .val (.ref b), .val (.int (6 : Int32))] [(.int (114 : Int32))]))
    refine Go.st (fun _ kq_ => XS.aloadN X0.here hx rfl (hb hby dq1l_18) rfl rfl kq_) ?_
    show Go p e below s _ _ _ (s₁.setTop (mkF m 19 #[.val (.ref a), .val (.ref b), .val (.int (6 : Int32))] [(.ref b), (.int (114 : Int32))]))
    refine Go.st (fun _ kq_ => XS.iloadN X0.here hx rfl (hb hby dq1l_19) rfl kq_) ?_
    show Go p e below s _ _ _ (s₁.setTop (mkF m 20 #[.val (.ref a), .val (.ref b), .val (.int (6 : Int32))] [(.int (6 : Int32)), (.ref b), (.int (114 : Int32))]))
    refine Go.st (fun _ kq_ => own_baloadB X0 hx hZ e0 V_b (by decide) (by decide) (v := (.int (114 : Int32))) rfl (g := (mkF m 20 #[.val (.ref a), .val (.ref b), .val (.int (6 : Int32))] [(.int (6 : Int32)), (.ref b), (.int (114 : Int32))])) rfl rfl (hb hby dq1l_20) _ kq_) ?_
    show Go p e below s _ _ _ (s₁.setTop (mkF m 21 #[.val (.ref a), .val (.ref b), .val (.int (6 : Int32))] [(.int (114 : Int32)), (.int (114 : Int32))]))
    refine Go.st (fun _ kq_ => XS.icmpYes X0.here hx rfl (pc0 := 21) (pc' := 26) rfl (hb hby dq1l_21) rfl (by decide) (by decide) (by decide) kq_) ?_
    show Go p e below s _ _ _ (s₁.setTop (mkF m 26 #[.val (.ref a), .val (.ref b), .val (.int (6 : Int32))] []))
    refine Go.st (fun _ kq_ => XT.iincV X0.here hx rfl (1 : Int32) (hb hby dq1l_26) rfl rfl (l' := #[.val (.ref a), .val (.ref b), .val (.int (7 : Int32))]) rfl kq_) ?_
    show Go p e below s _ _ _ (s₁.setTop (mkF m 29 #[.val (.ref a), .val (.ref b), .val (.int (7 : Int32))] []))
    refine Go.st (fun _ kq_ => XS.goto X0.here hx rfl (pc0 := 29) (pc' := 9) rfl (hb hby dq1l_29) (by decide) (by decide) kq_) ?_
    show Go p e below s _ _ _ (s₁.setTop (mkF m 9 #[.val (.ref a), .val (.ref b), .val (.int (7 : Int32))] []))
    refine Go.st (fun _ kq_ => XS.iloadN X0.here hx rfl (hb hby dq1l_9) rfl kq_) ?_
    show Go p e below s _ _ _ (s₁.setTop (mkF m 10 #[.val (.ref a), .val (.ref b), .val (.int (7 : Int32))] [(.int (7 : Int32))]))
    refine Go.st (fun _ kq_ => XS.aloadN X0.here hx rfl (hb hby dq1l_10) rfl rfl kq_) ?_
    show Go p e below s _ _ _ (s₁.setTop (mkF m 11 #[.val (.ref a), .val (.ref b), .val (.int (7 : Int32))] [(.ref a), (.int (7 : Int32))]))
    refine Go.st (fun _ kq_ => own_len X0 hx hZ e0 V_a (g := (mkF m 11 #[.val (.ref a), .val (.ref b), .val (.int (7 : Int32))] [(.ref a), (.int (7 : Int32))])) rfl rfl (hb hby dq1l_11) _ kq_) ?_
    show Go p e below s _ _ _ (s₁.setTop (mkF m 12 #[.val (.ref a), .val (.ref b), .val (.int (7 : Int32))] [(.int (7 : Int32)), (.int (7 : Int32))]))
    refine Go.st (fun _ kq_ => XS.icmpYes X0.here hx rfl (pc0 := 12) (pc' := 32) rfl (hb hby dq1l_12) rfl (by decide) (by decide) (by decide) kq_) ?_
    show Go p e below s _ _ _ (s₁.setTop (mkF m 32 #[.val (.ref a), .val (.ref b), .val (.int (7 : Int32))] []))
    refine Go.st (fun _ kq_ => XS.iconst X0.here hx rfl (hb hby dq1l_32) kq_) ?_
    show Go p e below s _ _ _ (s₁.setTop (mkF m 33 #[.val (.ref a), .val (.ref b), .val (.int (7 : Int32))] [(.int (1 : Int32))]))
    exact Go.ret X0 hlk (some (.int (nar .boolean (1 : Int32)))) (fun h => by rw [Bd.returns] at h; cases h) (by rw [e0]; exact ⟨rfl, N0, rfl⟩) (by decide) (by decide) (fun fs hr => retN X0 hx (t := .boolean) Bd.returns (by simp) (hb hby dq1l_33) hr)
  obtain ⟨s2, o2, st2, r2⟩ := G
  exact ⟨s2, o2, castTop (efq1l m a b) st2, r2⟩
theorem dq1_0 : decode jdk_42_method_66_code 0 = .ok (.aload_n 0, 1) := by decide +kernel
theorem dq1_1 : decode jdk_42_method_66_code 1 = .ok (.aload_n 1, 1) := by decide +kernel
theorem dq1_2 : decode jdk_42_method_66_code 2 = .ok (.if_acmp .ne 5, 3) := by decide +kernel
theorem dq1_5 : decode jdk_42_method_66_code 5 = .ok (.iconst 1, 1) := by decide +kernel
theorem dq1_6 : decode jdk_42_method_66_code 6 = .ok (.ireturn, 1) := by decide +kernel
theorem dq1_7 : decode jdk_42_method_66_code 7 = .ok (.aload_n 1, 1) := by decide +kernel
theorem dq1_8 : decode jdk_42_method_66_code 8 = .ok (.instanceof 10, 3) := by decide +kernel
theorem dq1_11 : decode jdk_42_method_66_code 11 = .ok (.ifCond .eq 43, 3) := by decide +kernel
theorem dq1_14 : decode jdk_42_method_66_code 14 = .ok (.aload_n 1, 1) := by decide +kernel
theorem dq1_15 : decode jdk_42_method_66_code 15 = .ok (.checkcast 10, 3) := by decide +kernel
theorem dq1_18 : decode jdk_42_method_66_code 18 = .ok (.astore_n 2, 1) := by decide +kernel
theorem dq1_19 : decode jdk_42_method_66_code 19 = .ok (.getstatic 38, 3) := by decide +kernel
theorem dq1_22 : decode jdk_42_method_66_code 22 = .ok (.ifCond .eq 14, 3) := by decide +kernel
theorem dq1_25 : decode jdk_42_method_66_code 25 = .ok (.aload_n 0, 1) := by decide +kernel
theorem dq1_26 : decode jdk_42_method_66_code 26 = .ok (.getfield 15, 3) := by decide +kernel
theorem dq1_29 : decode jdk_42_method_66_code 29 = .ok (.aload_n 2, 1) := by decide +kernel
theorem dq1_30 : decode jdk_42_method_66_code 30 = .ok (.getfield 15, 3) := by decide +kernel
theorem dq1_33 : decode jdk_42_method_66_code 33 = .ok (.if_icmp .ne 21, 3) := by decide +kernel
theorem dq1_36 : decode jdk_42_method_66_code 36 = .ok (.aload_n 0, 1) := by decide +kernel
theorem dq1_37 : decode jdk_42_method_66_code 37 = .ok (.getfield 9, 3) := by decide +kernel
theorem dq1_40 : decode jdk_42_method_66_code 40 = .ok (.aload_n 2, 1) := by decide +kernel
theorem dq1_41 : decode jdk_42_method_66_code 41 = .ok (.getfield 9, 3) := by decide +kernel
theorem dq1_44 : decode jdk_42_method_66_code 44 = .ok (.invokestatic 541, 3) := by decide +kernel
theorem dq1_47 : decode jdk_42_method_66_code 47 = .ok (.ifCond .eq 7, 3) := by decide +kernel
theorem dq1_50 : decode jdk_42_method_66_code 50 = .ok (.iconst 1, 1) := by decide +kernel
theorem dq1_51 : decode jdk_42_method_66_code 51 = .ok (.goto 4, 3) := by decide +kernel
theorem dq1_55 : decode jdk_42_method_66_code 55 = .ok (.ireturn, 1) := by decide +kernel
theorem pdq1_0 : parseMethodDescriptor "([B[B)Z" = some ⟨[(.array .byte), (.array .byte)], some .boolean⟩ := by decide +kernel
theorem pnq1 : plainName "java/lang/String" = true := by first | (simp [plainName, overriddenIn]; done) | decide +kernel
theorem efq1 (m : MethodId) (x0 : Addr) (x1 : Addr) : entryFrame m #[(.ref x0), (.ref x1)] 3 = mkF m 0 #[.val (.ref x0), .val (.ref x1), .unset] [] := by first | (simp [entryFrame, mkF, argsToLocals, Value.category, maxLocals]; done) | rfl
def Qq1 (Z : State) (x : Addr) (a : Addr) (ka : ClassId) (y : Addr) (b : Addr) (kb : ClassId) (zc : Int32) (h0 : Heap) (n0 : Nat) (v : Option Value) (h : Heap) (L : List Loc) : Prop := v = some (.int (1 : Int32)) ∧ Fr n0 L ∧ h = h0
set_option maxRecDepth 65536 in
set_option maxHeartbeats 40000000 in
theorem rmq1 (l : Launch) (Z : State) (a0 : Array Value) (hw : ∀ d ∈ tables_1, d.before a0 Z = true) (ws : List Jvm.Cond) (x : Addr) (a : Addr) (ka : ClassId) (y : Addr) (b : Addr) (kb : ClassId) (zc : Int32) (h0 : Heap) (n0 : Nat) (O0 : Old Z n0 h0) (E_x : Exa Z h0 x "java/lang/String") (F_x_coder : Fld Z h0 x "java/lang/String" "coder" "B" (.int (0 : Int32))) (F_x_value : Fld Z h0 x "java/lang/String" "value" "[B" (.ref a)) (V_a : Arv Z h0 a ka .byte (7 : Int32) [(.int (105 : Int32)), (.int (110 : Int32)), (.int (116 : Int32)), (.int (101 : Int32)), (.int (103 : Int32)), (.int (101 : Int32)), (.int (114 : Int32))] (.int (0 : Int32))) (E_y : Exa Z h0 y "java/lang/String") (F_y_coder : Fld Z h0 y "java/lang/String" "coder" "B" (.int (0 : Int32))) (F_y_value : Fld Z h0 y "java/lang/String" "value" "[B" (.ref b)) (V_b : Arv Z h0 b kb .byte (7 : Int32) [(.int (105 : Int32)), (.int (110 : Int32)), (.int (116 : Int32)), (.int (101 : Int32)), (.int (103 : Int32)), (.int (101 : Int32)), (.int (114 : Int32))] (.int (0 : Int32))) (SC : Sta Z Z.heap "java/lang/String" "COMPACT_STRINGS" "Z" (.int zc)) (hcs : ¬ zc = 0) :
    MetFree l (⟨"java/lang/String", "equals", "(Ljava/lang/Object;)Z"⟩ : MethodName) (head1 (Jvm.Cond.code (⟨"java/lang/String", "equals", "(Ljava/lang/Object;)Z"⟩ : MethodName) jdk_42_method_66_code 3 (some .boolean) :: ws) ({ frames := 1, cells := 0, slots := 0, locals := 14 } : Room)) (fun A_ U_ => A_ = #[(.ref x), (.ref y)] ∧ Z.Warmed39 U_.vm ∧ U_.heap = h0) (fun _ _ _ _ _ => True) (fun _ U o U' => ∃ v L, o = .returned v ∧ Qq1 Z x a ka y b kb zc h0 n0 v U'.heap L ∧ FrameEnd U o U' L ({ frames := 1, cells := 0, slots := 0, locals := 14 } : Room).cells ({ frames := 1, cells := 0, slots := 0, locals := 14 } : Room).slots) := by
  refine MetFree.of_bodySF (plainFor_of_name pnq1) hisR ?_
  intro p e s m args below meth cd s₁ Bd hml0 hP hK
  obtain ⟨rfl, hZ, hh⟩ := hP
  have hx := Bd.exec
  have hby := Bd.bytes
  have hlk : meth.locks = false := BodyLoose.notSynchronized Bd
  have hml : cd.maxLocals = 3 := hml0
  have hown : s.vm.findClass "java/lang/String" = some m.cls := findClass_of_methodNamed Bd.named
  have hnm := (name_of_methodNamed Bd.named Bd.method).1
  have X0 : Stand p l e ({ frames := 1, cells := 0, slots := 0, locals := 14 } : Room) s m #[(.ref x), (.ref y)] below meth cd s₁ [] 0 0 := Stand.of_body Bd
  have e0 : s₁.heap = h0 := by rw [← hh, Bd.state]; rfl
  have N0 := Fr.nil n0
  have G : Go p e below s 0 0 (Qq1 Z x a ka y b kb zc h0 n0) (s₁.setTop (mkF m 0 #[.val (.ref x), .val (.ref y), .unset] [])) := by
    show Go p e below s _ _ _ (s₁.setTop (mkF m 0 #[.val (.ref x), .val (.ref y), .unset] []))
    refine Go.st (fun _ kq_ => XS.aloadN X0.here hx rfl (hb hby dq1_0) rfl rfl kq_) ?_
    show Go p e below s _ _ _ (s₁.setTop (mkF m 1 #[.val (.ref x), .val (.ref y), .unset] [(.ref x)]))
    refine Go.st (fun _ kq_ => XS.aloadN X0.here hx rfl (hb hby dq1_1) rfl rfl kq_) ?_
    show Go p e below s _ _ _ (s₁.setTop (mkF m 2 #[.val (.ref x), .val (.ref y), .unset] [(.ref y), (.ref x)]))
    by_cases c2_1 : ((.ref x) : Value) = (.ref y)
    · refine Go.st (fun _ kq_ => XT.acmpNo X0.here hx rfl (hb hby dq1_2) rfl rfl rfl (XT.aa_ne_f c2_1) kq_) ?_
      show Go p e below s _ _ _ (s₁.setTop (mkF m 5 #[.val (.ref x), .val (.ref y), .unset] []))
      refine Go.st (fun _ kq_ => XS.iconst X0.here hx rfl (hb hby dq1_5) kq_) ?_
      show Go p e below s _ _ _ (s₁.setTop (mkF m 6 #[.val (.ref x), .val (.ref y), .unset] [(.int (1 : Int32))]))
      exact Go.ret X0 hlk (some (.int (nar .boolean (1 : Int32)))) (fun h => by rw [Bd.returns] at h; cases h) (by rw [e0]; exact ⟨rfl, N0, rfl⟩) (by decide) (by decide) (fun fs hr => retN X0 hx (t := .boolean) Bd.returns (by simp) (hb hby dq1_6) hr)
    · refine Go.st (fun _ kq_ => XT.acmpYes X0.here hx rfl (pc0 := 2) (pc' := 7) rfl (hb hby dq1_2) rfl rfl rfl (XT.aa_ne_t c2_1) (by decide) (by decide) kq_) ?_
      show Go p e below s _ _ _ (s₁.setTop (mkF m 7 #[.val (.ref x), .val (.ref y), .unset] []))
      refine Go.st (fun _ kq_ => XS.aloadN X0.here hx rfl (hb hby dq1_7) rfl rfl kq_) ?_
      show Go p e below s _ _ _ (s₁.setTop (mkF m 8 #[.val (.ref x), .val (.ref y), .unset] [(.ref y)]))
      obtain ⟨T2, X2, e2, st2⟩ := instY X0 hx hZ hown (own_w hw 24 rfl) e0 (Ins.self E_y) (g := (mkF m 8 #[.val (.ref x), .val (.ref y), .unset] [(.ref y)])) rfl rfl (hb hby dq1_8)
      refine Go.st st2 ?_
      show Go p e below s _ _ _ (T2.setTop (mkF m 11 #[.val (.ref x), .val (.ref y), .unset] [(.int (1 : Int32))]))
      refine Go.st (fun _ kq_ => XS.ifNo X2.here hx rfl (hb hby dq1_11) rfl (by decide) kq_) ?_
      show Go p e below s _ _ _ (T2.setTop (mkF m 14 #[.val (.ref x), .val (.ref y), .unset] []))
      refine Go.st (fun _ kq_ => XS.aloadN X2.here hx rfl (hb hby dq1_14) rfl rfl kq_) ?_
      show Go p e below s _ _ _ (T2.setTop (mkF m 15 #[.val (.ref x), .val (.ref y), .unset] [(.ref y)]))
      obtain ⟨T3, X3, e3, st3⟩ := castY X2 hx hZ hown (own_w hw 24 rfl) e2 (Ins.self E_y) (g := (mkF m 15 #[.val (.ref x), .val (.ref y), .unset] [(.ref y)])) rfl rfl (hb hby dq1_15)
      refine Go.st st3 ?_
      show Go p e below s _ _ _ (T3.setTop (mkF m 18 #[.val (.ref x), .val (.ref y), .unset] [(.ref y)]))
      refine Go.st (fun _ kq_ => XS.astoreN X3.here hx rfl (hb hby dq1_18) rfl rfl (l' := #[.val (.ref x), .val (.ref y), .val (.ref y)]) rfl kq_) ?_
      show Go p e below s _ _ _ (T3.setTop (mkF m 19 #[.val (.ref x), .val (.ref y), .val (.ref y)] []))
      obtain ⟨T4, X4, e4, st4⟩ := getS X3 hx hZ hown (host := "") (own_w hw 26 rfl) Via.refl e3 (SC.ext O0.2) (g := (mkF m 19 #[.val (.ref x), .val (.ref y), .val (.ref y)] [])) rfl (hb hby dq1_19)
      refine Go.st st4 ?_
      show Go p e below s _ _ _ (T4.setTop (mkF m 22 #[.val (.ref x), .val (.ref y), .val (.ref y)] [(.int zc)]))
      refine Go.st (fun _ kq_ => XS.ifNo X4.here hx rfl (hb hby dq1_22) rfl (XT.i0_eq_f hcs) kq_) ?_
      show Go p e below s _ _ _ (T4.setTop (mkF m 25 #[.val (.ref x), .val (.ref y), .val (.ref y)] []))
      refine Go.st (fun _ kq_ => XS.aloadN X4.here hx rfl (hb hby dq1_25) rfl rfl kq_) ?_
      show Go p e below s _ _ _ (T4.setTop (mkF m 26 #[.val (.ref x), .val (.ref y), .val (.ref y)] [(.ref x)]))
      obtain ⟨T5, X5, e5, st5⟩ := getF X4 hx hZ hown (host := "") (Or.inl (own_w hw 27 rfl)) Via.refl e4 F_x_coder (g := (mkF m 26 #[.val (.ref x), .val (.ref y), .val (.ref y)] [(.ref x)])) rfl rfl (hb hby dq1_26)
      refine Go.st st5 ?_
      show Go p e below s _ _ _ (T5.setTop (mkF m 29 #[.val (.ref x), .val (.ref y), .val (.ref y)] [(.int (0 : Int32))]))
      refine Go.st (fun _ kq_ => XS.aloadN X5.here hx rfl (hb hby dq1_29) rfl rfl kq_) ?_
      show Go p e below s _ _ _ (T5.setTop (mkF m 30 #[.val (.ref x), .val (.ref y), .val (.ref y)] [(.ref y), (.int (0 : Int32))]))
      obtain ⟨T6, X6, e6, st6⟩ := getF X5 hx hZ hown (host := "") (Or.inl (own_w hw 27 rfl)) Via.refl e5 F_y_coder (g := (mkF m 30 #[.val (.ref x), .val (.ref y), .val (.ref y)] [(.ref y), (.int (0 : Int32))])) rfl rfl (hb hby dq1_30)
      refine Go.st st6 ?_
      show Go p e below s _ _ _ (T6.setTop (mkF m 33 #[.val (.ref x), .val (.ref y), .val (.ref y)] [(.int (0 : Int32)), (.int (0 : Int32))]))
      refine Go.st (fun _ kq_ => XS.icmpNo X6.here hx rfl (hb hby dq1_33) rfl (by decide) kq_) ?_
      show Go p e below s _ _ _ (T6.setTop (mkF m 36 #[.val (.ref x), .val (.ref y), .val (.ref y)] []))
      refine Go.st (fun _ kq_ => XS.aloadN X6.here hx rfl (hb hby dq1_36) rfl rfl kq_) ?_
      show Go p e below s _ _ _ (T6.setTop (mkF m 37 #[.val (.ref x), .val (.ref y), .val (.ref y)] [(.ref x)]))
      obtain ⟨T7, X7, e7, st7⟩ := getF X6 hx hZ hown (host := "") (Or.inl (own_w hw 28 rfl)) Via.refl e6 F_x_value (g := (mkF m 37 #[.val (.ref x), .val (.ref y), .val (.ref y)] [(.ref x)])) rfl rfl (hb hby dq1_37)
      refine Go.st st7 ?_
      show Go p e below s _ _ _ (T7.setTop (mkF m 40 #[.val (.ref x), .val (.ref y), .val (.ref y)] [(.ref a)]))
      refine Go.st (fun _ kq_ => XS.aloadN X7.here hx rfl (hb hby dq1_40) rfl rfl kq_) ?_
      show Go p e below s _ _ _ (T7.setTop (mkF m 41 #[.val (.ref x), .val (.ref y), .val (.ref y)] [(.ref y), (.ref a)]))
      obtain ⟨T8, X8, e8, st8⟩ := getF X7 hx hZ hown (host := "") (Or.inl (own_w hw 28 rfl)) Via.refl e7 F_y_value (g := (mkF m 41 #[.val (.ref x), .val (.ref y), .val (.ref y)] [(.ref y), (.ref a)])) rfl rfl (hb hby dq1_41)
      refine Go.st st8 ?_
      show Go p e below s _ _ _ (T8.setTop (mkF m 44 #[.val (.ref x), .val (.ref y), .val (.ref y)] [(.ref b), (.ref a)]))
      obtain ⟨_, _, ⟨T9, L9, k9, n9⟩, -, X9, ⟨Lc9, hQ9, l9, y9, z9⟩, st9⟩ := Jvm.LawKit.callS X8 hx (y := (⟨"java/lang/StringLatin1", "equals", "([B[B)Z"⟩ : MethodName)) hown (mvT hZ (own_w hw 29 rfl)) (mvT hZ (own_w hw 30 rfl)) (mvT hZ (own_w hw 31 rfl)) (mvT hZ (own_w hw 32 rfl)) (by decide) (backOf (W := 0) (rmq1l l Z a0 hw [] a ka b kb h0 n0 O0 V_a V_b) hZ (own_w hw 32 rfl) (own_w hw 31 rfl) (by decide) (by decide)) (g := (mkF m 44 #[.val (.ref x), .val (.ref y), .val (.ref y)] [(.ref b), (.ref a)])) rfl (by rw [hml]; rfl) (argsL := [(.ref a), (.ref b)]) (rest := []) (lenOf pdq1_0 rfl) rfl (by show 2 * 0 + _ ≤ _; exact Nat.le_of_eq rfl) (hb hby dq1_44) (fun _ _ => ⟨rfl, e8, (by decide : 0 + 0 ≤ _), (by decide : 0 + 0 ≤ _)⟩)
      dsimp only [Pt.U, Pt.locs, Pt.cells, Pt.slots] at X9 l9 y9 z9 st9 hQ9
      subst y9 z9
      obtain ⟨rfl, Nc9, e9⟩ := hQ9
      have N9 : Fr n0 L9 := by rw [l9]; exact Fr.app N0 Nc9
      refine Go.st st9 ?_
      show Go p e below s _ _ _ (T9.setTop (mkF m 47 #[.val (.ref x), .val (.ref y), .val (.ref y)] [(.int (1 : Int32))]))
      refine Go.st (fun _ kq_ => XS.ifNo X9.here hx rfl (hb hby dq1_47) rfl (by decide) kq_) ?_
      show Go p e below s _ _ _ (T9.setTop (mkF m 50 #[.val (.ref x), .val (.ref y), .val (.ref y)] []))
      refine Go.st (fun _ kq_ => XS.iconst X9.here hx rfl (hb hby dq1_50) kq_) ?_
      show Go p e below s _ _ _ (T9.setTop (mkF m 51 #[.val (.ref x), .val (.ref y), .val (.ref y)] [(.int (1 : Int32))]))
      refine Go.st (fun _ kq_ => XS.goto X9.here hx rfl (pc0 := 51) (pc' := 55) rfl (hb hby dq1_51) (by decide) (by decide) kq_) ?_
      show Go p e below s _ _ _ (T9.setTop (mkF m 55 #[.val (.ref x), .val (.ref y), .val (.ref y)] [(.int (1 : Int32))]))
      exact Go.ret X9 hlk (some (.int (nar .boolean (1 : Int32)))) (fun h => by rw [Bd.returns] at h; cases h) (by rw [e9]; exact ⟨rfl, N9, rfl⟩) (by decide) (by decide) (fun fs hr => retN X9 hx (t := .boolean) Bd.returns (by simp) (hb hby dq1_55) hr)
  obtain ⟨s2, o2, st2, r2⟩ := G
  exact ⟨s2, o2, castTop (efq1 m x y) st2, r2⟩
theorem dq2l_0 : decode jdk_43_method_13_code 0 = .ok (.aload_n 0, 1) := by decide +kernel
theorem dq2l_1 : decode jdk_43_method_13_code 1 = .ok (.arraylength, 1) := by decide +kernel
theorem dq2l_2 : decode jdk_43_method_13_code 2 = .ok (.aload_n 1, 1) := by decide +kernel
theorem dq2l_3 : decode jdk_43_method_13_code 3 = .ok (.arraylength, 1) := by decide +kernel
theorem dq2l_4 : decode jdk_43_method_13_code 4 = .ok (.if_icmp .ne 30, 3) := by decide +kernel
theorem dq2l_7 : decode jdk_43_method_13_code 7 = .ok (.iconst 0, 1) := by decide +kernel
theorem dq2l_8 : decode jdk_43_method_13_code 8 = .ok (.istore_n 2, 1) := by decide +kernel
theorem dq2l_9 : decode jdk_43_method_13_code 9 = .ok (.iload_n 2, 1) := by decide +kernel
theorem dq2l_10 : decode jdk_43_method_13_code 10 = .ok (.aload_n 0, 1) := by decide +kernel
theorem dq2l_11 : decode jdk_43_method_13_code 11 = .ok (.arraylength, 1) := by decide +kernel
theorem dq2l_12 : decode jdk_43_method_13_code 12 = .ok (.if_icmp .ge 20, 3) := by decide +kernel
theorem dq2l_15 : decode jdk_43_method_13_code 15 = .ok (.aload_n 0, 1) := by decide +kernel
theorem dq2l_16 : decode jdk_43_method_13_code 16 = .ok (.iload_n 2, 1) := by decide +kernel
theorem dq2l_17 : decode jdk_43_method_13_code 17 = .ok (.baload, 1) := by decide +kernel
theorem dq2l_18 : decode jdk_43_method_13_code 18 = .ok (.aload_n 1, 1) := by decide +kernel
theorem dq2l_19 : decode jdk_43_method_13_code 19 = .ok (.iload_n 2, 1) := by decide +kernel
theorem dq2l_20 : decode jdk_43_method_13_code 20 = .ok (.baload, 1) := by decide +kernel
theorem dq2l_21 : decode jdk_43_method_13_code 21 = .ok (.if_icmp .eq 5, 3) := by decide +kernel
theorem dq2l_26 : decode jdk_43_method_13_code 26 = .ok (.iinc 2 1, 3) := by decide +kernel
theorem dq2l_29 : decode jdk_43_method_13_code 29 = .ok (.goto (-20), 3) := by decide +kernel
theorem dq2l_32 : decode jdk_43_method_13_code 32 = .ok (.iconst 1, 1) := by decide +kernel
theorem dq2l_33 : decode jdk_43_method_13_code 33 = .ok (.ireturn, 1) := by decide +kernel
theorem pnq2l : plainName "java/lang/StringLatin1" = true := by first | (simp [plainName, overriddenIn]; done) | decide +kernel
theorem efq2l (m : MethodId) (x0 : Addr) (x1 : Addr) : entryFrame m #[(.ref x0), (.ref x1)] 3 = mkF m 0 #[.val (.ref x0), .val (.ref x1), .unset] [] := by first | (simp [entryFrame, mkF, argsToLocals, Value.category, maxLocals]; done) | rfl
def Qq2l (Z : State) (a : Addr) (ka : ClassId) (b : Addr) (kb : ClassId) (h0 : Heap) (n0 : Nat) (v : Option Value) (h : Heap) (L : List Loc) : Prop := v = some (.int (1 : Int32)) ∧ Fr n0 L ∧ h = h0
set_option maxRecDepth 65536 in
set_option maxHeartbeats 40000000 in
theorem rmq2l (l : Launch) (Z : State) (a0 : Array Value) (hw : ∀ d ∈ tables_1, d.before a0 Z = true) (ws : List Jvm.Cond) (a : Addr) (ka : ClassId) (b : Addr) (kb : ClassId) (h0 : Heap) (n0 : Nat) (O0 : Old Z n0 h0) (V_a : Arv Z h0 a ka .byte (5 : Int32) [(.int (102 : Int32)), (.int (108 : Int32)), (.int (111 : Int32)), (.int (97 : Int32)), (.int (116 : Int32))] (.int (0 : Int32))) (V_b : Arv Z h0 b kb .byte (5 : Int32) [(.int (102 : Int32)), (.int (108 : Int32)), (.int (111 : Int32)), (.int (97 : Int32)), (.int (116 : Int32))] (.int (0 : Int32))) :
    MetFree l (⟨"java/lang/StringLatin1", "equals", "([B[B)Z"⟩ : MethodName) (head1 (Jvm.Cond.code (⟨"java/lang/StringLatin1", "equals", "([B[B)Z"⟩ : MethodName) jdk_43_method_13_code 3 (some .boolean) :: ws) ({ frames := 0, cells := 0, slots := 0, locals := 0 } : Room)) (fun A_ U_ => A_ = #[(.ref a), (.ref b)] ∧ Z.Warmed39 U_.vm ∧ U_.heap = h0) (fun _ _ _ _ _ => True) (fun _ U o U' => ∃ v L, o = .returned v ∧ Qq2l Z a ka b kb h0 n0 v U'.heap L ∧ FrameEnd U o U' L ({ frames := 0, cells := 0, slots := 0, locals := 0 } : Room).cells ({ frames := 0, cells := 0, slots := 0, locals := 0 } : Room).slots) := by
  refine MetFree.of_bodySF (plainFor_of_name pnq2l) hisR ?_
  intro p e s m args below meth cd s₁ Bd hml0 hP hK
  obtain ⟨rfl, hZ, hh⟩ := hP
  have hx := Bd.exec
  have hby := Bd.bytes
  have hlk : meth.locks = false := BodyLoose.notSynchronized Bd
  have hml : cd.maxLocals = 3 := hml0
  have hown : s.vm.findClass "java/lang/StringLatin1" = some m.cls := findClass_of_methodNamed Bd.named
  have hnm := (name_of_methodNamed Bd.named Bd.method).1
  have X0 : Stand p l e ({ frames := 0, cells := 0, slots := 0, locals := 0 } : Room) s m #[(.ref a), (.ref b)] below meth cd s₁ [] 0 0 := Stand.of_body Bd
  have e0 : s₁.heap = h0 := by rw [← hh, Bd.state]; rfl
  have N0 := Fr.nil n0
  have G : Go p e below s 0 0 (Qq2l Z a ka b kb h0 n0) (s₁.setTop (mkF m 0 #[.val (.ref a), .val (.ref b), .unset] [])) := by
    show Go p e below s _ _ _ (s₁.setTop (mkF m 0 #[.val (.ref a), .val (.ref b), .unset] []))
    refine Go.st (fun _ kq_ => XS.aloadN X0.here hx rfl (hb hby dq2l_0) rfl rfl kq_) ?_
    show Go p e below s _ _ _ (s₁.setTop (mkF m 1 #[.val (.ref a), .val (.ref b), .unset] [(.ref a)]))
    refine Go.st (fun _ kq_ => own_len X0 hx hZ e0 V_a (g := (mkF m 1 #[.val (.ref a), .val (.ref b), .unset] [(.ref a)])) rfl rfl (hb hby dq2l_1) _ kq_) ?_
    show Go p e below s _ _ _ (s₁.setTop (mkF m 2 #[.val (.ref a), .val (.ref b), .unset] [(.int (5 : Int32))]))
    refine Go.st (fun _ kq_ => XS.aloadN X0.here hx rfl (hb hby dq2l_2) rfl rfl kq_) ?_
    show Go p e below s _ _ _ (s₁.setTop (mkF m 3 #[.val (.ref a), .val (.ref b), .unset] [(.ref b), (.int (5 : Int32))]))
    refine Go.st (fun _ kq_ => own_len X0 hx hZ e0 V_b (g := (mkF m 3 #[.val (.ref a), .val (.ref b), .unset] [(.ref b), (.int (5 : Int32))])) rfl rfl (hb hby dq2l_3) _ kq_) ?_
    show Go p e below s _ _ _ (s₁.setTop (mkF m 4 #[.val (.ref a), .val (.ref b), .unset] [(.int (5 : Int32)), (.int (5 : Int32))]))
    refine Go.st (fun _ kq_ => XS.icmpNo X0.here hx rfl (hb hby dq2l_4) rfl (by decide) kq_) ?_
    show Go p e below s _ _ _ (s₁.setTop (mkF m 7 #[.val (.ref a), .val (.ref b), .unset] []))
    refine Go.st (fun _ kq_ => XS.iconst X0.here hx rfl (hb hby dq2l_7) kq_) ?_
    show Go p e below s _ _ _ (s₁.setTop (mkF m 8 #[.val (.ref a), .val (.ref b), .unset] [(.int (0 : Int32))]))
    refine Go.st (fun _ kq_ => XS.istoreN X0.here hx rfl (hb hby dq2l_8) rfl (l' := #[.val (.ref a), .val (.ref b), .val (.int (0 : Int32))]) rfl kq_) ?_
    show Go p e below s _ _ _ (s₁.setTop (mkF m 9 #[.val (.ref a), .val (.ref b), .val (.int (0 : Int32))] []))
    refine Go.st (fun _ kq_ => XS.iloadN X0.here hx rfl (hb hby dq2l_9) rfl kq_) ?_
    show Go p e below s _ _ _ (s₁.setTop (mkF m 10 #[.val (.ref a), .val (.ref b), .val (.int (0 : Int32))] [(.int (0 : Int32))]))
    refine Go.st (fun _ kq_ => XS.aloadN X0.here hx rfl (hb hby dq2l_10) rfl rfl kq_) ?_
    show Go p e below s _ _ _ (s₁.setTop (mkF m 11 #[.val (.ref a), .val (.ref b), .val (.int (0 : Int32))] [(.ref a), (.int (0 : Int32))]))
    refine Go.st (fun _ kq_ => own_len X0 hx hZ e0 V_a (g := (mkF m 11 #[.val (.ref a), .val (.ref b), .val (.int (0 : Int32))] [(.ref a), (.int (0 : Int32))])) rfl rfl (hb hby dq2l_11) _ kq_) ?_
    show Go p e below s _ _ _ (s₁.setTop (mkF m 12 #[.val (.ref a), .val (.ref b), .val (.int (0 : Int32))] [(.int (5 : Int32)), (.int (0 : Int32))]))
    refine Go.st (fun _ kq_ => XS.icmpNo X0.here hx rfl (hb hby dq2l_12) rfl (by decide) kq_) ?_
    show Go p e below s _ _ _ (s₁.setTop (mkF m 15 #[.val (.ref a), .val (.ref b), .val (.int (0 : Int32))] []))
    refine Go.st (fun _ kq_ => XS.aloadN X0.here hx rfl (hb hby dq2l_15) rfl rfl kq_) ?_
    show Go p e below s _ _ _ (s₁.setTop (mkF m 16 #[.val (.ref a), .val (.ref b), .val (.int (0 : Int32))] [(.ref a)]))
    refine Go.st (fun _ kq_ => XS.iloadN X0.here hx rfl (hb hby dq2l_16) rfl kq_) ?_
    show Go p e below s _ _ _ (s₁.setTop (mkF m 17 #[.val (.ref a), .val (.ref b), .val (.int (0 : Int32))] [(.int (0 : Int32)), (.ref a)]))
    refine Go.st (fun _ kq_ => own_baloadB X0 hx hZ e0 V_a (by decide) (by decide) (v := (.int (102 : Int32))) rfl (g := (mkF m 17 #[.val (.ref a), .val (.ref b), .val (.int (0 : Int32))] [(.int (0 : Int32)), (.ref a)])) rfl rfl (hb hby dq2l_17) _ kq_) ?_
    show Go p e below s _ _ _ (s₁.setTop (mkF m 18 #[.val (.ref a), .val (.ref b), .val (.int (0 : Int32))] [(.int (102 : Int32))]))
    refine Go.st (fun _ kq_ => XS.aloadN X0.here hx rfl (hb hby dq2l_18) rfl rfl kq_) ?_
    show Go p e below s _ _ _ (s₁.setTop (mkF m 19 #[.val (.ref a), .val (.ref b), .val (.int (0 : Int32))] [(.ref b), (.int (102 : Int32))]))
    refine Go.st (fun _ kq_ => XS.iloadN X0.here hx rfl (hb hby dq2l_19) rfl kq_) ?_
    show Go p e below s _ _ _ (s₁.setTop (mkF m 20 #[.val (.ref a), .val (.ref b), .val (.int (0 : Int32))] [(.int (0 : Int32)), (.ref b), (.int (102 : Int32))]))
    refine Go.st (fun _ kq_ => own_baloadB X0 hx hZ e0 V_b (by decide) (by decide) (v := (.int (102 : Int32))) rfl (g := (mkF m 20 #[.val (.ref a), .val (.ref b), .val (.int (0 : Int32))] [(.int (0 : Int32)), (.ref b), (.int (102 : Int32))])) rfl rfl (hb hby dq2l_20) _ kq_) ?_
    show Go p e below s _ _ _ (s₁.setTop (mkF m 21 #[.val (.ref a), .val (.ref b), .val (.int (0 : Int32))] [(.int (102 : Int32)), (.int (102 : Int32))]))
    refine Go.st (fun _ kq_ => XS.icmpYes X0.here hx rfl (pc0 := 21) (pc' := 26) rfl (hb hby dq2l_21) rfl (by decide) (by decide) (by decide) kq_) ?_
    show Go p e below s _ _ _ (s₁.setTop (mkF m 26 #[.val (.ref a), .val (.ref b), .val (.int (0 : Int32))] []))
    refine Go.st (fun _ kq_ => XT.iincV X0.here hx rfl (1 : Int32) (hb hby dq2l_26) rfl rfl (l' := #[.val (.ref a), .val (.ref b), .val (.int (1 : Int32))]) rfl kq_) ?_
    show Go p e below s _ _ _ (s₁.setTop (mkF m 29 #[.val (.ref a), .val (.ref b), .val (.int (1 : Int32))] []))
    refine Go.st (fun _ kq_ => XS.goto X0.here hx rfl (pc0 := 29) (pc' := 9) rfl (hb hby dq2l_29) (by decide) (by decide) kq_) ?_
    show Go p e below s _ _ _ (s₁.setTop (mkF m 9 #[.val (.ref a), .val (.ref b), .val (.int (1 : Int32))] []))
    refine Go.st (fun _ kq_ => XS.iloadN X0.here hx rfl (hb hby dq2l_9) rfl kq_) ?_
    show Go p e below s _ _ _ (s₁.setTop (mkF m 10 #[.val (.ref a), .val (.ref b), .val (.int (1 : Int32))] [(.int (1 : Int32))]))
    refine Go.st (fun _ kq_ => XS.aloadN X0.here hx rfl (hb hby dq2l_10) rfl rfl kq_) ?_
    show Go p e below s _ _ _ (s₁.setTop (mkF m 11 #[.val (.ref a), .val (.ref b), .val (.int (1 : Int32))] [(.ref a), (.int (1 : Int32))]))
    refine Go.st (fun _ kq_ => own_len X0 hx hZ e0 V_a (g := (mkF m 11 #[.val (.ref a), .val (.ref b), .val (.int (1 : Int32))] [(.ref a), (.int (1 : Int32))])) rfl rfl (hb hby dq2l_11) _ kq_) ?_
    show Go p e below s _ _ _ (s₁.setTop (mkF m 12 #[.val (.ref a), .val (.ref b), .val (.int (1 : Int32))] [(.int (5 : Int32)), (.int (1 : Int32))]))
    refine Go.st (fun _ kq_ => XS.icmpNo X0.here hx rfl (hb hby dq2l_12) rfl (by decide) kq_) ?_
    show Go p e below s _ _ _ (s₁.setTop (mkF m 15 #[.val (.ref a), .val (.ref b), .val (.int (1 : Int32))] []))
    refine Go.st (fun _ kq_ => XS.aloadN X0.here hx rfl (hb hby dq2l_15) rfl rfl kq_) ?_
    show Go p e below s _ _ _ (s₁.setTop (mkF m 16 #[.val (.ref a), .val (.ref b), .val (.int (1 : Int32))] [(.ref a)]))
    refine Go.st (fun _ kq_ => XS.iloadN X0.here hx rfl (hb hby dq2l_16) rfl kq_) ?_
    show Go p e below s _ _ _ (s₁.setTop (mkF m 17 #[.val (.ref a), .val (.ref b), .val (.int (1 : Int32))] [(.int (1 : Int32)), (.ref a)]))
    refine Go.st (fun _ kq_ => own_baloadB X0 hx hZ e0 V_a (by decide) (by decide) (v := (.int (108 : Int32))) rfl (g := (mkF m 17 #[.val (.ref a), .val (.ref b), .val (.int (1 : Int32))] [(.int (1 : Int32)), (.ref a)])) rfl rfl (hb hby dq2l_17) _ kq_) ?_
    show Go p e below s _ _ _ (s₁.setTop (mkF m 18 #[.val (.ref a), .val (.ref b), .val (.int (1 : Int32))] [(.int (108 : Int32))]))
    refine Go.st (fun _ kq_ => XS.aloadN X0.here hx rfl (hb hby dq2l_18) rfl rfl kq_) ?_
    show Go p e below s _ _ _ (s₁.setTop (mkF m 19 #[.val (.ref a), .val (.ref b), .val (.int (1 : Int32))] [(.ref b), (.int (108 : Int32))]))
    refine Go.st (fun _ kq_ => XS.iloadN X0.here hx rfl (hb hby dq2l_19) rfl kq_) ?_
    show Go p e below s _ _ _ (s₁.setTop (mkF m 20 #[.val (.ref a), .val (.ref b), .val (.int (1 : Int32))] [(.int (1 : Int32)), (.ref b), (.int (108 : Int32))]))
    refine Go.st (fun _ kq_ => own_baloadB X0 hx hZ e0 V_b (by decide) (by decide) (v := (.int (108 : Int32))) rfl (g := (mkF m 20 #[.val (.ref a), .val (.ref b), .val (.int (1 : Int32))] [(.int (1 : Int32)), (.ref b), (.int (108 : Int32))])) rfl rfl (hb hby dq2l_20) _ kq_) ?_
    show Go p e below s _ _ _ (s₁.setTop (mkF m 21 #[.val (.ref a), .val (.ref b), .val (.int (1 : Int32))] [(.int (108 : Int32)), (.int (108 : Int32))]))
    refine Go.st (fun _ kq_ => XS.icmpYes X0.here hx rfl (pc0 := 21) (pc' := 26) rfl (hb hby dq2l_21) rfl (by decide) (by decide) (by decide) kq_) ?_
    show Go p e below s _ _ _ (s₁.setTop (mkF m 26 #[.val (.ref a), .val (.ref b), .val (.int (1 : Int32))] []))
    refine Go.st (fun _ kq_ => XT.iincV X0.here hx rfl (1 : Int32) (hb hby dq2l_26) rfl rfl (l' := #[.val (.ref a), .val (.ref b), .val (.int (2 : Int32))]) rfl kq_) ?_
    show Go p e below s _ _ _ (s₁.setTop (mkF m 29 #[.val (.ref a), .val (.ref b), .val (.int (2 : Int32))] []))
    refine Go.st (fun _ kq_ => XS.goto X0.here hx rfl (pc0 := 29) (pc' := 9) rfl (hb hby dq2l_29) (by decide) (by decide) kq_) ?_
    show Go p e below s _ _ _ (s₁.setTop (mkF m 9 #[.val (.ref a), .val (.ref b), .val (.int (2 : Int32))] []))
    refine Go.st (fun _ kq_ => XS.iloadN X0.here hx rfl (hb hby dq2l_9) rfl kq_) ?_
    show Go p e below s _ _ _ (s₁.setTop (mkF m 10 #[.val (.ref a), .val (.ref b), .val (.int (2 : Int32))] [(.int (2 : Int32))]))
    refine Go.st (fun _ kq_ => XS.aloadN X0.here hx rfl (hb hby dq2l_10) rfl rfl kq_) ?_
    show Go p e below s _ _ _ (s₁.setTop (mkF m 11 #[.val (.ref a), .val (.ref b), .val (.int (2 : Int32))] [(.ref a), (.int (2 : Int32))]))
    refine Go.st (fun _ kq_ => own_len X0 hx hZ e0 V_a (g := (mkF m 11 #[.val (.ref a), .val (.ref b), .val (.int (2 : Int32))] [(.ref a), (.int (2 : Int32))])) rfl rfl (hb hby dq2l_11) _ kq_) ?_
    show Go p e below s _ _ _ (s₁.setTop (mkF m 12 #[.val (.ref a), .val (.ref b), .val (.int (2 : Int32))] [(.int (5 : Int32)), (.int (2 : Int32))]))
    refine Go.st (fun _ kq_ => XS.icmpNo X0.here hx rfl (hb hby dq2l_12) rfl (by decide) kq_) ?_
    show Go p e below s _ _ _ (s₁.setTop (mkF m 15 #[.val (.ref a), .val (.ref b), .val (.int (2 : Int32))] []))
    refine Go.st (fun _ kq_ => XS.aloadN X0.here hx rfl (hb hby dq2l_15) rfl rfl kq_) ?_
    show Go p e below s _ _ _ (s₁.setTop (mkF m 16 #[.val (.ref a), .val (.ref b), .val (.int (2 : Int32))] [(.ref a)]))
    refine Go.st (fun _ kq_ => XS.iloadN X0.here hx rfl (hb hby dq2l_16) rfl kq_) ?_
    show Go p e below s _ _ _ (s₁.setTop (mkF m 17 #[.val (.ref a), .val (.ref b), .val (.int (2 : Int32))] [(.int (2 : Int32)), (.ref a)]))
    refine Go.st (fun _ kq_ => own_baloadB X0 hx hZ e0 V_a (by decide) (by decide) (v := (.int (111 : Int32))) rfl (g := (mkF m 17 #[.val (.ref a), .val (.ref b), .val (.int (2 : Int32))] [(.int (2 : Int32)), (.ref a)])) rfl rfl (hb hby dq2l_17) _ kq_) ?_
    show Go p e below s _ _ _ (s₁.setTop (mkF m 18 #[.val (.ref a), .val (.ref b), .val (.int (2 : Int32))] [(.int (111 : Int32))]))
    refine Go.st (fun _ kq_ => XS.aloadN X0.here hx rfl (hb hby dq2l_18) rfl rfl kq_) ?_
    show Go p e below s _ _ _ (s₁.setTop (mkF m 19 #[.val (.ref a), .val (.ref b), .val (.int (2 : Int32))] [(.ref b), (.int (111 : Int32))]))
    refine Go.st (fun _ kq_ => XS.iloadN X0.here hx rfl (hb hby dq2l_19) rfl kq_) ?_
    show Go p e below s _ _ _ (s₁.setTop (mkF m 20 #[.val (.ref a), .val (.ref b), .val (.int (2 : Int32))] [(.int (2 : Int32)), (.ref b), (.int (111 : Int32))]))
    refine Go.st (fun _ kq_ => own_baloadB X0 hx hZ e0 V_b (by decide) (by decide) (v := (.int (111 : Int32))) rfl (g := (mkF m 20 #[.val (.ref a), .val (.ref b), .val (.int (2 : Int32))] [(.int (2 : Int32)), (.ref b), (.int (111 : Int32))])) rfl rfl (hb hby dq2l_20) _ kq_) ?_
    show Go p e below s _ _ _ (s₁.setTop (mkF m 21 #[.val (.ref a), .val (.ref b), .val (.int (2 : Int32))] [(.int (111 : Int32)), (.int (111 : Int32))]))
    refine Go.st (fun _ kq_ => XS.icmpYes X0.here hx rfl (pc0 := 21) (pc' := 26) rfl (hb hby dq2l_21) rfl (by decide) (by decide) (by decide) kq_) ?_
    show Go p e below s _ _ _ (s₁.setTop (mkF m 26 #[.val (.ref a), .val (.ref b), .val (.int (2 : Int32))] []))
    refine Go.st (fun _ kq_ => XT.iincV X0.here hx rfl (1 : Int32) (hb hby dq2l_26) rfl rfl (l' := #[.val (.ref a), .val (.ref b), .val (.int (3 : Int32))]) rfl kq_) ?_
    show Go p e below s _ _ _ (s₁.setTop (mkF m 29 #[.val (.ref a), .val (.ref b), .val (.int (3 : Int32))] []))
    refine Go.st (fun _ kq_ => XS.goto X0.here hx rfl (pc0 := 29) (pc' := 9) rfl (hb hby dq2l_29) (by decide) (by decide) kq_) ?_
    show Go p e below s _ _ _ (s₁.setTop (mkF m 9 #[.val (.ref a), .val (.ref b), .val (.int (3 : Int32))] []))
    refine Go.st (fun _ kq_ => XS.iloadN X0.here hx rfl (hb hby dq2l_9) rfl kq_) ?_
    show Go p e below s _ _ _ (s₁.setTop (mkF m 10 #[.val (.ref a), .val (.ref b), .val (.int (3 : Int32))] [(.int (3 : Int32))]))
    refine Go.st (fun _ kq_ => XS.aloadN X0.here hx rfl (hb hby dq2l_10) rfl rfl kq_) ?_
    show Go p e below s _ _ _ (s₁.setTop (mkF m 11 #[.val (.ref a), .val (.ref b), .val (.int (3 : Int32))] [(.ref a), (.int (3 : Int32))]))
    refine Go.st (fun _ kq_ => own_len X0 hx hZ e0 V_a (g := (mkF m 11 #[.val (.ref a), .val (.ref b), .val (.int (3 : Int32))] [(.ref a), (.int (3 : Int32))])) rfl rfl (hb hby dq2l_11) _ kq_) ?_
    show Go p e below s _ _ _ (s₁.setTop (mkF m 12 #[.val (.ref a), .val (.ref b), .val (.int (3 : Int32))] [(.int (5 : Int32)), (.int (3 : Int32))]))
    refine Go.st (fun _ kq_ => XS.icmpNo X0.here hx rfl (hb hby dq2l_12) rfl (by decide) kq_) ?_
    show Go p e below s _ _ _ (s₁.setTop (mkF m 15 #[.val (.ref a), .val (.ref b), .val (.int (3 : Int32))] []))
    refine Go.st (fun _ kq_ => XS.aloadN X0.here hx rfl (hb hby dq2l_15) rfl rfl kq_) ?_
    show Go p e below s _ _ _ (s₁.setTop (mkF m 16 #[.val (.ref a), .val (.ref b), .val (.int (3 : Int32))] [(.ref a)]))
    refine Go.st (fun _ kq_ => XS.iloadN X0.here hx rfl (hb hby dq2l_16) rfl kq_) ?_
    show Go p e below s _ _ _ (s₁.setTop (mkF m 17 #[.val (.ref a), .val (.ref b), .val (.int (3 : Int32))] [(.int (3 : Int32)), (.ref a)]))
    refine Go.st (fun _ kq_ => own_baloadB X0 hx hZ e0 V_a (by decide) (by decide) (v := (.int (97 : Int32))) rfl (g := (mkF m 17 #[.val (.ref a), .val (.ref b), .val (.int (3 : Int32))] [(.int (3 : Int32)), (.ref a)])) rfl rfl (hb hby dq2l_17) _ kq_) ?_
    show Go p e below s _ _ _ (s₁.setTop (mkF m 18 #[.val (.ref a), .val (.ref b), .val (.int (3 : Int32))] [(.int (97 : Int32))]))
    refine Go.st (fun _ kq_ => XS.aloadN X0.here hx rfl (hb hby dq2l_18) rfl rfl kq_) ?_
    show Go p e below s _ _ _ (s₁.setTop (mkF m 19 #[.val (.ref a), .val (.ref b), .val (.int (3 : Int32))] [(.ref b), (.int (97 : Int32))]))
    refine Go.st (fun _ kq_ => XS.iloadN X0.here hx rfl (hb hby dq2l_19) rfl kq_) ?_
    show Go p e below s _ _ _ (s₁.setTop (mkF m 20 #[.val (.ref a), .val (.ref b), .val (.int (3 : Int32))] [(.int (3 : Int32)), (.ref b), (.int (97 : Int32))]))
    refine Go.st (fun _ kq_ => own_baloadB X0 hx hZ e0 V_b (by decide) (by decide) (v := (.int (97 : Int32))) rfl (g := (mkF m 20 #[.val (.ref a), .val (.ref b), .val (.int (3 : Int32))] [(.int (3 : Int32)), (.ref b), (.int (97 : Int32))])) rfl rfl (hb hby dq2l_20) _ kq_) ?_
    show Go p e below s _ _ _ (s₁.setTop (mkF m 21 #[.val (.ref a), .val (.ref b), .val (.int (3 : Int32))] [(.int (97 : Int32)), (.int (97 : Int32))]))
    refine Go.st (fun _ kq_ => XS.icmpYes X0.here hx rfl (pc0 := 21) (pc' := 26) rfl (hb hby dq2l_21) rfl (by decide) (by decide) (by decide) kq_) ?_
    show Go p e below s _ _ _ (s₁.setTop (mkF m 26 #[.val (.ref a), .val (.ref b), .val (.int (3 : Int32))] []))
    refine Go.st (fun _ kq_ => XT.iincV X0.here hx rfl (1 : Int32) (hb hby dq2l_26) rfl rfl (l' := #[.val (.ref a), .val (.ref b), .val (.int (4 : Int32))]) rfl kq_) ?_
    show Go p e below s _ _ _ (s₁.setTop (mkF m 29 #[.val (.ref a), .val (.ref b), .val (.int (4 : Int32))] []))
    refine Go.st (fun _ kq_ => XS.goto X0.here hx rfl (pc0 := 29) (pc' := 9) rfl (hb hby dq2l_29) (by decide) (by decide) kq_) ?_
    show Go p e below s _ _ _ (s₁.setTop (mkF m 9 #[.val (.ref a), .val (.ref b), .val (.int (4 : Int32))] []))
    refine Go.st (fun _ kq_ => XS.iloadN X0.here hx rfl (hb hby dq2l_9) rfl kq_) ?_
    show Go p e below s _ _ _ (s₁.setTop (mkF m 10 #[.val (.ref a), .val (.ref b), .val (.int (4 : Int32))] [(.int (4 : Int32))]))
    refine Go.st (fun _ kq_ => XS.aloadN X0.here hx rfl (hb hby dq2l_10) rfl rfl kq_) ?_
    show Go p e below s _ _ _ (s₁.setTop (mkF m 11 #[.val (.ref a), .val (.ref b), .val (.int (4 : Int32))] [(.ref a), (.int (4 : Int32))]))
    refine Go.st (fun _ kq_ => own_len X0 hx hZ e0 V_a (g := (mkF m 11 #[.val (.ref a), .val (.ref b), .val (.int (4 : Int32))] [(.ref a), (.int (4 : Int32))])) rfl rfl (hb hby dq2l_11) _ kq_) ?_
    show Go p e below s _ _ _ (s₁.setTop (mkF m 12 #[.val (.ref a), .val (.ref b), .val (.int (4 : Int32))] [(.int (5 : Int32)), (.int (4 : Int32))]))
    refine Go.st (fun _ kq_ => XS.icmpNo X0.here hx rfl (hb hby dq2l_12) rfl (by decide) kq_) ?_
    show Go p e below s _ _ _ (s₁.setTop (mkF m 15 #[.val (.ref a), .val (.ref b), .val (.int (4 : Int32))] []))
    refine Go.st (fun _ kq_ => XS.aloadN X0.here hx rfl (hb hby dq2l_15) rfl rfl kq_) ?_
    show Go p e below s _ _ _ (s₁.setTop (mkF m 16 #[.val (.ref a), .val (.ref b), .val (.int (4 : Int32))] [(.ref a)]))
    refine Go.st (fun _ kq_ => XS.iloadN X0.here hx rfl (hb hby dq2l_16) rfl kq_) ?_
    show Go p e below s _ _ _ (s₁.setTop (mkF m 17 #[.val (.ref a), .val (.ref b), .val (.int (4 : Int32))] [(.int (4 : Int32)), (.ref a)]))
    refine Go.st (fun _ kq_ => own_baloadB X0 hx hZ e0 V_a (by decide) (by decide) (v := (.int (116 : Int32))) rfl (g := (mkF m 17 #[.val (.ref a), .val (.ref b), .val (.int (4 : Int32))] [(.int (4 : Int32)), (.ref a)])) rfl rfl (hb hby dq2l_17) _ kq_) ?_
    show Go p e below s _ _ _ (s₁.setTop (mkF m 18 #[.val (.ref a), .val (.ref b), .val (.int (4 : Int32))] [(.int (116 : Int32))]))
    refine Go.st (fun _ kq_ => XS.aloadN X0.here hx rfl (hb hby dq2l_18) rfl rfl kq_) ?_
    show Go p e below s _ _ _ (s₁.setTop (mkF m 19 #[.val (.ref a), .val (.ref b), .val (.int (4 : Int32))] [(.ref b), (.int (116 : Int32))]))
    refine Go.st (fun _ kq_ => XS.iloadN X0.here hx rfl (hb hby dq2l_19) rfl kq_) ?_
    show Go p e below s _ _ _ (s₁.setTop (mkF m 20 #[.val (.ref a), .val (.ref b), .val (.int (4 : Int32))] [(.int (4 : Int32)), (.ref b), (.int (116 : Int32))]))
    refine Go.st (fun _ kq_ => own_baloadB X0 hx hZ e0 V_b (by decide) (by decide) (v := (.int (116 : Int32))) rfl (g := (mkF m 20 #[.val (.ref a), .val (.ref b), .val (.int (4 : Int32))] [(.int (4 : Int32)), (.ref b), (.int (116 : Int32))])) rfl rfl (hb hby dq2l_20) _ kq_) ?_
    show Go p e below s _ _ _ (s₁.setTop (mkF m 21 #[.val (.ref a), .val (.ref b), .val (.int (4 : Int32))] [(.int (116 : Int32)), (.int (116 : Int32))]))
    refine Go.st (fun _ kq_ => XS.icmpYes X0.here hx rfl (pc0 := 21) (pc' := 26) rfl (hb hby dq2l_21) rfl (by decide) (by decide) (by decide) kq_) ?_
    show Go p e below s _ _ _ (s₁.setTop (mkF m 26 #[.val (.ref a), .val (.ref b), .val (.int (4 : Int32))] []))
    refine Go.st (fun _ kq_ => XT.iincV X0.here hx rfl (1 : Int32) (hb hby dq2l_26) rfl rfl (l' := #[.val (.ref a), .val (.ref b), .val (.int (5 : Int32))]) rfl kq_) ?_
    show Go p e below s _ _ _ (s₁.setTop (mkF m 29 #[.val (.ref a), .val (.ref b), .val (.int (5 : Int32))] []))
    refine Go.st (fun _ kq_ => XS.goto X0.here hx rfl (pc0 := 29) (pc' := 9) rfl (hb hby dq2l_29) (by decide) (by decide) kq_) ?_
    show Go p e below s _ _ _ (s₁.setTop (mkF m 9 #[.val (.ref a), .val (.ref b), .val (.int (5 : Int32))] []))
    refine Go.st (fun _ kq_ => XS.iloadN X0.here hx rfl (hb hby dq2l_9) rfl kq_) ?_
    show Go p e below s _ _ _ (s₁.setTop (mkF m 10 #[.val (.ref a), .val (.ref b), .val (.int (5 : Int32))] [(.int (5 : Int32))]))
    refine Go.st (fun _ kq_ => XS.aloadN X0.here hx rfl (hb hby dq2l_10) rfl rfl kq_) ?_
    show Go p e below s _ _ _ (s₁.setTop (mkF m 11 #[.val (.ref a), .val (.ref b), .val (.int (5 : Int32))] [(.ref a), (.int (5 : Int32))]))
    refine Go.st (fun _ kq_ => own_len X0 hx hZ e0 V_a (g := (mkF m 11 #[.val (.ref a), .val (.ref b), .val (.int (5 : Int32))] [(.ref a), (.int (5 : Int32))])) rfl rfl (hb hby dq2l_11) _ kq_) ?_
    show Go p e below s _ _ _ (s₁.setTop (mkF m 12 #[.val (.ref a), .val (.ref b), .val (.int (5 : Int32))] [(.int (5 : Int32)), (.int (5 : Int32))]))
    refine Go.st (fun _ kq_ => XS.icmpYes X0.here hx rfl (pc0 := 12) (pc' := 32) rfl (hb hby dq2l_12) rfl (by decide) (by decide) (by decide) kq_) ?_
    show Go p e below s _ _ _ (s₁.setTop (mkF m 32 #[.val (.ref a), .val (.ref b), .val (.int (5 : Int32))] []))
    refine Go.st (fun _ kq_ => XS.iconst X0.here hx rfl (hb hby dq2l_32) kq_) ?_
    show Go p e below s _ _ _ (s₁.setTop (mkF m 33 #[.val (.ref a), .val (.ref b), .val (.int (5 : Int32))] [(.int (1 : Int32))]))
    exact Go.ret X0 hlk (some (.int (nar .boolean (1 : Int32)))) (fun h => by rw [Bd.returns] at h; cases h) (by rw [e0]; exact ⟨rfl, N0, rfl⟩) (by decide) (by decide) (fun fs hr => retN X0 hx (t := .boolean) Bd.returns (by simp) (hb hby dq2l_33) hr)
  obtain ⟨s2, o2, st2, r2⟩ := G
  exact ⟨s2, o2, castTop (efq2l m a b) st2, r2⟩
theorem dq2_0 : decode jdk_42_method_66_code 0 = .ok (.aload_n 0, 1) := by decide +kernel
theorem dq2_1 : decode jdk_42_method_66_code 1 = .ok (.aload_n 1, 1) := by decide +kernel
theorem dq2_2 : decode jdk_42_method_66_code 2 = .ok (.if_acmp .ne 5, 3) := by decide +kernel
theorem dq2_5 : decode jdk_42_method_66_code 5 = .ok (.iconst 1, 1) := by decide +kernel
theorem dq2_6 : decode jdk_42_method_66_code 6 = .ok (.ireturn, 1) := by decide +kernel
theorem dq2_7 : decode jdk_42_method_66_code 7 = .ok (.aload_n 1, 1) := by decide +kernel
theorem dq2_8 : decode jdk_42_method_66_code 8 = .ok (.instanceof 10, 3) := by decide +kernel
theorem dq2_11 : decode jdk_42_method_66_code 11 = .ok (.ifCond .eq 43, 3) := by decide +kernel
theorem dq2_14 : decode jdk_42_method_66_code 14 = .ok (.aload_n 1, 1) := by decide +kernel
theorem dq2_15 : decode jdk_42_method_66_code 15 = .ok (.checkcast 10, 3) := by decide +kernel
theorem dq2_18 : decode jdk_42_method_66_code 18 = .ok (.astore_n 2, 1) := by decide +kernel
theorem dq2_19 : decode jdk_42_method_66_code 19 = .ok (.getstatic 38, 3) := by decide +kernel
theorem dq2_22 : decode jdk_42_method_66_code 22 = .ok (.ifCond .eq 14, 3) := by decide +kernel
theorem dq2_25 : decode jdk_42_method_66_code 25 = .ok (.aload_n 0, 1) := by decide +kernel
theorem dq2_26 : decode jdk_42_method_66_code 26 = .ok (.getfield 15, 3) := by decide +kernel
theorem dq2_29 : decode jdk_42_method_66_code 29 = .ok (.aload_n 2, 1) := by decide +kernel
theorem dq2_30 : decode jdk_42_method_66_code 30 = .ok (.getfield 15, 3) := by decide +kernel
theorem dq2_33 : decode jdk_42_method_66_code 33 = .ok (.if_icmp .ne 21, 3) := by decide +kernel
theorem dq2_36 : decode jdk_42_method_66_code 36 = .ok (.aload_n 0, 1) := by decide +kernel
theorem dq2_37 : decode jdk_42_method_66_code 37 = .ok (.getfield 9, 3) := by decide +kernel
theorem dq2_40 : decode jdk_42_method_66_code 40 = .ok (.aload_n 2, 1) := by decide +kernel
theorem dq2_41 : decode jdk_42_method_66_code 41 = .ok (.getfield 9, 3) := by decide +kernel
theorem dq2_44 : decode jdk_42_method_66_code 44 = .ok (.invokestatic 541, 3) := by decide +kernel
theorem dq2_47 : decode jdk_42_method_66_code 47 = .ok (.ifCond .eq 7, 3) := by decide +kernel
theorem dq2_50 : decode jdk_42_method_66_code 50 = .ok (.iconst 1, 1) := by decide +kernel
theorem dq2_51 : decode jdk_42_method_66_code 51 = .ok (.goto 4, 3) := by decide +kernel
theorem dq2_55 : decode jdk_42_method_66_code 55 = .ok (.ireturn, 1) := by decide +kernel
theorem pdq2_0 : parseMethodDescriptor "([B[B)Z" = some ⟨[(.array .byte), (.array .byte)], some .boolean⟩ := by decide +kernel
theorem pnq2 : plainName "java/lang/String" = true := by first | (simp [plainName, overriddenIn]; done) | decide +kernel
theorem efq2 (m : MethodId) (x0 : Addr) (x1 : Addr) : entryFrame m #[(.ref x0), (.ref x1)] 3 = mkF m 0 #[.val (.ref x0), .val (.ref x1), .unset] [] := by first | (simp [entryFrame, mkF, argsToLocals, Value.category, maxLocals]; done) | rfl
def Qq2 (Z : State) (x : Addr) (a : Addr) (ka : ClassId) (y : Addr) (b : Addr) (kb : ClassId) (zc : Int32) (h0 : Heap) (n0 : Nat) (v : Option Value) (h : Heap) (L : List Loc) : Prop := v = some (.int (1 : Int32)) ∧ Fr n0 L ∧ h = h0
set_option maxRecDepth 65536 in
set_option maxHeartbeats 40000000 in
theorem rmq2 (l : Launch) (Z : State) (a0 : Array Value) (hw : ∀ d ∈ tables_1, d.before a0 Z = true) (ws : List Jvm.Cond) (x : Addr) (a : Addr) (ka : ClassId) (y : Addr) (b : Addr) (kb : ClassId) (zc : Int32) (h0 : Heap) (n0 : Nat) (O0 : Old Z n0 h0) (E_x : Exa Z h0 x "java/lang/String") (F_x_coder : Fld Z h0 x "java/lang/String" "coder" "B" (.int (0 : Int32))) (F_x_value : Fld Z h0 x "java/lang/String" "value" "[B" (.ref a)) (V_a : Arv Z h0 a ka .byte (5 : Int32) [(.int (102 : Int32)), (.int (108 : Int32)), (.int (111 : Int32)), (.int (97 : Int32)), (.int (116 : Int32))] (.int (0 : Int32))) (E_y : Exa Z h0 y "java/lang/String") (F_y_coder : Fld Z h0 y "java/lang/String" "coder" "B" (.int (0 : Int32))) (F_y_value : Fld Z h0 y "java/lang/String" "value" "[B" (.ref b)) (V_b : Arv Z h0 b kb .byte (5 : Int32) [(.int (102 : Int32)), (.int (108 : Int32)), (.int (111 : Int32)), (.int (97 : Int32)), (.int (116 : Int32))] (.int (0 : Int32))) (SC : Sta Z Z.heap "java/lang/String" "COMPACT_STRINGS" "Z" (.int zc)) (hcs : ¬ zc = 0) :
    MetFree l (⟨"java/lang/String", "equals", "(Ljava/lang/Object;)Z"⟩ : MethodName) (head1 (Jvm.Cond.code (⟨"java/lang/String", "equals", "(Ljava/lang/Object;)Z"⟩ : MethodName) jdk_42_method_66_code 3 (some .boolean) :: ws) ({ frames := 1, cells := 0, slots := 0, locals := 14 } : Room)) (fun A_ U_ => A_ = #[(.ref x), (.ref y)] ∧ Z.Warmed39 U_.vm ∧ U_.heap = h0) (fun _ _ _ _ _ => True) (fun _ U o U' => ∃ v L, o = .returned v ∧ Qq2 Z x a ka y b kb zc h0 n0 v U'.heap L ∧ FrameEnd U o U' L ({ frames := 1, cells := 0, slots := 0, locals := 14 } : Room).cells ({ frames := 1, cells := 0, slots := 0, locals := 14 } : Room).slots) := by
  refine MetFree.of_bodySF (plainFor_of_name pnq2) hisR ?_
  intro p e s m args below meth cd s₁ Bd hml0 hP hK
  obtain ⟨rfl, hZ, hh⟩ := hP
  have hx := Bd.exec
  have hby := Bd.bytes
  have hlk : meth.locks = false := BodyLoose.notSynchronized Bd
  have hml : cd.maxLocals = 3 := hml0
  have hown : s.vm.findClass "java/lang/String" = some m.cls := findClass_of_methodNamed Bd.named
  have hnm := (name_of_methodNamed Bd.named Bd.method).1
  have X0 : Stand p l e ({ frames := 1, cells := 0, slots := 0, locals := 14 } : Room) s m #[(.ref x), (.ref y)] below meth cd s₁ [] 0 0 := Stand.of_body Bd
  have e0 : s₁.heap = h0 := by rw [← hh, Bd.state]; rfl
  have N0 := Fr.nil n0
  have G : Go p e below s 0 0 (Qq2 Z x a ka y b kb zc h0 n0) (s₁.setTop (mkF m 0 #[.val (.ref x), .val (.ref y), .unset] [])) := by
    show Go p e below s _ _ _ (s₁.setTop (mkF m 0 #[.val (.ref x), .val (.ref y), .unset] []))
    refine Go.st (fun _ kq_ => XS.aloadN X0.here hx rfl (hb hby dq2_0) rfl rfl kq_) ?_
    show Go p e below s _ _ _ (s₁.setTop (mkF m 1 #[.val (.ref x), .val (.ref y), .unset] [(.ref x)]))
    refine Go.st (fun _ kq_ => XS.aloadN X0.here hx rfl (hb hby dq2_1) rfl rfl kq_) ?_
    show Go p e below s _ _ _ (s₁.setTop (mkF m 2 #[.val (.ref x), .val (.ref y), .unset] [(.ref y), (.ref x)]))
    by_cases c2_1 : ((.ref x) : Value) = (.ref y)
    · refine Go.st (fun _ kq_ => XT.acmpNo X0.here hx rfl (hb hby dq2_2) rfl rfl rfl (XT.aa_ne_f c2_1) kq_) ?_
      show Go p e below s _ _ _ (s₁.setTop (mkF m 5 #[.val (.ref x), .val (.ref y), .unset] []))
      refine Go.st (fun _ kq_ => XS.iconst X0.here hx rfl (hb hby dq2_5) kq_) ?_
      show Go p e below s _ _ _ (s₁.setTop (mkF m 6 #[.val (.ref x), .val (.ref y), .unset] [(.int (1 : Int32))]))
      exact Go.ret X0 hlk (some (.int (nar .boolean (1 : Int32)))) (fun h => by rw [Bd.returns] at h; cases h) (by rw [e0]; exact ⟨rfl, N0, rfl⟩) (by decide) (by decide) (fun fs hr => retN X0 hx (t := .boolean) Bd.returns (by simp) (hb hby dq2_6) hr)
    · refine Go.st (fun _ kq_ => XT.acmpYes X0.here hx rfl (pc0 := 2) (pc' := 7) rfl (hb hby dq2_2) rfl rfl rfl (XT.aa_ne_t c2_1) (by decide) (by decide) kq_) ?_
      show Go p e below s _ _ _ (s₁.setTop (mkF m 7 #[.val (.ref x), .val (.ref y), .unset] []))
      refine Go.st (fun _ kq_ => XS.aloadN X0.here hx rfl (hb hby dq2_7) rfl rfl kq_) ?_
      show Go p e below s _ _ _ (s₁.setTop (mkF m 8 #[.val (.ref x), .val (.ref y), .unset] [(.ref y)]))
      obtain ⟨T2, X2, e2, st2⟩ := instY X0 hx hZ hown (own_w hw 24 rfl) e0 (Ins.self E_y) (g := (mkF m 8 #[.val (.ref x), .val (.ref y), .unset] [(.ref y)])) rfl rfl (hb hby dq2_8)
      refine Go.st st2 ?_
      show Go p e below s _ _ _ (T2.setTop (mkF m 11 #[.val (.ref x), .val (.ref y), .unset] [(.int (1 : Int32))]))
      refine Go.st (fun _ kq_ => XS.ifNo X2.here hx rfl (hb hby dq2_11) rfl (by decide) kq_) ?_
      show Go p e below s _ _ _ (T2.setTop (mkF m 14 #[.val (.ref x), .val (.ref y), .unset] []))
      refine Go.st (fun _ kq_ => XS.aloadN X2.here hx rfl (hb hby dq2_14) rfl rfl kq_) ?_
      show Go p e below s _ _ _ (T2.setTop (mkF m 15 #[.val (.ref x), .val (.ref y), .unset] [(.ref y)]))
      obtain ⟨T3, X3, e3, st3⟩ := castY X2 hx hZ hown (own_w hw 24 rfl) e2 (Ins.self E_y) (g := (mkF m 15 #[.val (.ref x), .val (.ref y), .unset] [(.ref y)])) rfl rfl (hb hby dq2_15)
      refine Go.st st3 ?_
      show Go p e below s _ _ _ (T3.setTop (mkF m 18 #[.val (.ref x), .val (.ref y), .unset] [(.ref y)]))
      refine Go.st (fun _ kq_ => XS.astoreN X3.here hx rfl (hb hby dq2_18) rfl rfl (l' := #[.val (.ref x), .val (.ref y), .val (.ref y)]) rfl kq_) ?_
      show Go p e below s _ _ _ (T3.setTop (mkF m 19 #[.val (.ref x), .val (.ref y), .val (.ref y)] []))
      obtain ⟨T4, X4, e4, st4⟩ := getS X3 hx hZ hown (host := "") (own_w hw 26 rfl) Via.refl e3 (SC.ext O0.2) (g := (mkF m 19 #[.val (.ref x), .val (.ref y), .val (.ref y)] [])) rfl (hb hby dq2_19)
      refine Go.st st4 ?_
      show Go p e below s _ _ _ (T4.setTop (mkF m 22 #[.val (.ref x), .val (.ref y), .val (.ref y)] [(.int zc)]))
      refine Go.st (fun _ kq_ => XS.ifNo X4.here hx rfl (hb hby dq2_22) rfl (XT.i0_eq_f hcs) kq_) ?_
      show Go p e below s _ _ _ (T4.setTop (mkF m 25 #[.val (.ref x), .val (.ref y), .val (.ref y)] []))
      refine Go.st (fun _ kq_ => XS.aloadN X4.here hx rfl (hb hby dq2_25) rfl rfl kq_) ?_
      show Go p e below s _ _ _ (T4.setTop (mkF m 26 #[.val (.ref x), .val (.ref y), .val (.ref y)] [(.ref x)]))
      obtain ⟨T5, X5, e5, st5⟩ := getF X4 hx hZ hown (host := "") (Or.inl (own_w hw 27 rfl)) Via.refl e4 F_x_coder (g := (mkF m 26 #[.val (.ref x), .val (.ref y), .val (.ref y)] [(.ref x)])) rfl rfl (hb hby dq2_26)
      refine Go.st st5 ?_
      show Go p e below s _ _ _ (T5.setTop (mkF m 29 #[.val (.ref x), .val (.ref y), .val (.ref y)] [(.int (0 : Int32))]))
      refine Go.st (fun _ kq_ => XS.aloadN X5.here hx rfl (hb hby dq2_29) rfl rfl kq_) ?_
      show Go p e below s _ _ _ (T5.setTop (mkF m 30 #[.val (.ref x), .val (.ref y), .val (.ref y)] [(.ref y), (.int (0 : Int32))]))
      obtain ⟨T6, X6, e6, st6⟩ := getF X5 hx hZ hown (host := "") (Or.inl (own_w hw 27 rfl)) Via.refl e5 F_y_coder (g := (mkF m 30 #[.val (.ref x), .val (.ref y), .val (.ref y)] [(.ref y), (.int (0 : Int32))])) rfl rfl (hb hby dq2_30)
      refine Go.st st6 ?_
      show Go p e below s _ _ _ (T6.setTop (mkF m 33 #[.val (.ref x), .val (.ref y), .val (.ref y)] [(.int (0 : Int32)), (.int (0 : Int32))]))
      refine Go.st (fun _ kq_ => XS.icmpNo X6.here hx rfl (hb hby dq2_33) rfl (by decide) kq_) ?_
      show Go p e below s _ _ _ (T6.setTop (mkF m 36 #[.val (.ref x), .val (.ref y), .val (.ref y)] []))
      refine Go.st (fun _ kq_ => XS.aloadN X6.here hx rfl (hb hby dq2_36) rfl rfl kq_) ?_
      show Go p e below s _ _ _ (T6.setTop (mkF m 37 #[.val (.ref x), .val (.ref y), .val (.ref y)] [(.ref x)]))
      obtain ⟨T7, X7, e7, st7⟩ := getF X6 hx hZ hown (host := "") (Or.inl (own_w hw 28 rfl)) Via.refl e6 F_x_value (g := (mkF m 37 #[.val (.ref x), .val (.ref y), .val (.ref y)] [(.ref x)])) rfl rfl (hb hby dq2_37)
      refine Go.st st7 ?_
      show Go p e below s _ _ _ (T7.setTop (mkF m 40 #[.val (.ref x), .val (.ref y), .val (.ref y)] [(.ref a)]))
      refine Go.st (fun _ kq_ => XS.aloadN X7.here hx rfl (hb hby dq2_40) rfl rfl kq_) ?_
      show Go p e below s _ _ _ (T7.setTop (mkF m 41 #[.val (.ref x), .val (.ref y), .val (.ref y)] [(.ref y), (.ref a)]))
      obtain ⟨T8, X8, e8, st8⟩ := getF X7 hx hZ hown (host := "") (Or.inl (own_w hw 28 rfl)) Via.refl e7 F_y_value (g := (mkF m 41 #[.val (.ref x), .val (.ref y), .val (.ref y)] [(.ref y), (.ref a)])) rfl rfl (hb hby dq2_41)
      refine Go.st st8 ?_
      show Go p e below s _ _ _ (T8.setTop (mkF m 44 #[.val (.ref x), .val (.ref y), .val (.ref y)] [(.ref b), (.ref a)]))
      obtain ⟨_, _, ⟨T9, L9, k9, n9⟩, -, X9, ⟨Lc9, hQ9, l9, y9, z9⟩, st9⟩ := Jvm.LawKit.callS X8 hx (y := (⟨"java/lang/StringLatin1", "equals", "([B[B)Z"⟩ : MethodName)) hown (mvT hZ (own_w hw 29 rfl)) (mvT hZ (own_w hw 30 rfl)) (mvT hZ (own_w hw 31 rfl)) (mvT hZ (own_w hw 32 rfl)) (by decide) (backOf (W := 0) (rmq2l l Z a0 hw [] a ka b kb h0 n0 O0 V_a V_b) hZ (own_w hw 32 rfl) (own_w hw 31 rfl) (by decide) (by decide)) (g := (mkF m 44 #[.val (.ref x), .val (.ref y), .val (.ref y)] [(.ref b), (.ref a)])) rfl (by rw [hml]; rfl) (argsL := [(.ref a), (.ref b)]) (rest := []) (lenOf pdq2_0 rfl) rfl (by show 2 * 0 + _ ≤ _; exact Nat.le_of_eq rfl) (hb hby dq2_44) (fun _ _ => ⟨rfl, e8, (by decide : 0 + 0 ≤ _), (by decide : 0 + 0 ≤ _)⟩)
      dsimp only [Pt.U, Pt.locs, Pt.cells, Pt.slots] at X9 l9 y9 z9 st9 hQ9
      subst y9 z9
      obtain ⟨rfl, Nc9, e9⟩ := hQ9
      have N9 : Fr n0 L9 := by rw [l9]; exact Fr.app N0 Nc9
      refine Go.st st9 ?_
      show Go p e below s _ _ _ (T9.setTop (mkF m 47 #[.val (.ref x), .val (.ref y), .val (.ref y)] [(.int (1 : Int32))]))
      refine Go.st (fun _ kq_ => XS.ifNo X9.here hx rfl (hb hby dq2_47) rfl (by decide) kq_) ?_
      show Go p e below s _ _ _ (T9.setTop (mkF m 50 #[.val (.ref x), .val (.ref y), .val (.ref y)] []))
      refine Go.st (fun _ kq_ => XS.iconst X9.here hx rfl (hb hby dq2_50) kq_) ?_
      show Go p e below s _ _ _ (T9.setTop (mkF m 51 #[.val (.ref x), .val (.ref y), .val (.ref y)] [(.int (1 : Int32))]))
      refine Go.st (fun _ kq_ => XS.goto X9.here hx rfl (pc0 := 51) (pc' := 55) rfl (hb hby dq2_51) (by decide) (by decide) kq_) ?_
      show Go p e below s _ _ _ (T9.setTop (mkF m 55 #[.val (.ref x), .val (.ref y), .val (.ref y)] [(.int (1 : Int32))]))
      exact Go.ret X9 hlk (some (.int (nar .boolean (1 : Int32)))) (fun h => by rw [Bd.returns] at h; cases h) (by rw [e9]; exact ⟨rfl, N9, rfl⟩) (by decide) (by decide) (fun fs hr => retN X9 hx (t := .boolean) Bd.returns (by simp) (hb hby dq2_55) hr)
  obtain ⟨s2, o2, st2, r2⟩ := G
  exact ⟨s2, o2, castTop (efq2 m x y) st2, r2⟩
theorem dq3l_0 : decode jdk_43_method_13_code 0 = .ok (.aload_n 0, 1) := by decide +kernel
theorem dq3l_1 : decode jdk_43_method_13_code 1 = .ok (.arraylength, 1) := by decide +kernel
theorem dq3l_2 : decode jdk_43_method_13_code 2 = .ok (.aload_n 1, 1) := by decide +kernel
theorem dq3l_3 : decode jdk_43_method_13_code 3 = .ok (.arraylength, 1) := by decide +kernel
theorem dq3l_4 : decode jdk_43_method_13_code 4 = .ok (.if_icmp .ne 30, 3) := by decide +kernel
theorem dq3l_7 : decode jdk_43_method_13_code 7 = .ok (.iconst 0, 1) := by decide +kernel
theorem dq3l_8 : decode jdk_43_method_13_code 8 = .ok (.istore_n 2, 1) := by decide +kernel
theorem dq3l_9 : decode jdk_43_method_13_code 9 = .ok (.iload_n 2, 1) := by decide +kernel
theorem dq3l_10 : decode jdk_43_method_13_code 10 = .ok (.aload_n 0, 1) := by decide +kernel
theorem dq3l_11 : decode jdk_43_method_13_code 11 = .ok (.arraylength, 1) := by decide +kernel
theorem dq3l_12 : decode jdk_43_method_13_code 12 = .ok (.if_icmp .ge 20, 3) := by decide +kernel
theorem dq3l_15 : decode jdk_43_method_13_code 15 = .ok (.aload_n 0, 1) := by decide +kernel
theorem dq3l_16 : decode jdk_43_method_13_code 16 = .ok (.iload_n 2, 1) := by decide +kernel
theorem dq3l_17 : decode jdk_43_method_13_code 17 = .ok (.baload, 1) := by decide +kernel
theorem dq3l_18 : decode jdk_43_method_13_code 18 = .ok (.aload_n 1, 1) := by decide +kernel
theorem dq3l_19 : decode jdk_43_method_13_code 19 = .ok (.iload_n 2, 1) := by decide +kernel
theorem dq3l_20 : decode jdk_43_method_13_code 20 = .ok (.baload, 1) := by decide +kernel
theorem dq3l_21 : decode jdk_43_method_13_code 21 = .ok (.if_icmp .eq 5, 3) := by decide +kernel
theorem dq3l_26 : decode jdk_43_method_13_code 26 = .ok (.iinc 2 1, 3) := by decide +kernel
theorem dq3l_29 : decode jdk_43_method_13_code 29 = .ok (.goto (-20), 3) := by decide +kernel
theorem dq3l_32 : decode jdk_43_method_13_code 32 = .ok (.iconst 1, 1) := by decide +kernel
theorem dq3l_33 : decode jdk_43_method_13_code 33 = .ok (.ireturn, 1) := by decide +kernel
theorem pnq3l : plainName "java/lang/StringLatin1" = true := by first | (simp [plainName, overriddenIn]; done) | decide +kernel
theorem efq3l (m : MethodId) (x0 : Addr) (x1 : Addr) : entryFrame m #[(.ref x0), (.ref x1)] 3 = mkF m 0 #[.val (.ref x0), .val (.ref x1), .unset] [] := by first | (simp [entryFrame, mkF, argsToLocals, Value.category, maxLocals]; done) | rfl
def Qq3l (Z : State) (a : Addr) (ka : ClassId) (b : Addr) (kb : ClassId) (h0 : Heap) (n0 : Nat) (v : Option Value) (h : Heap) (L : List Loc) : Prop := v = some (.int (1 : Int32)) ∧ Fr n0 L ∧ h = h0
set_option maxRecDepth 65536 in
set_option maxHeartbeats 40000000 in
theorem rmq3l (l : Launch) (Z : State) (a0 : Array Value) (hw : ∀ d ∈ tables_1, d.before a0 Z = true) (ws : List Jvm.Cond) (a : Addr) (ka : ClassId) (b : Addr) (kb : ClassId) (h0 : Heap) (n0 : Nat) (O0 : Old Z n0 h0) (V_a : Arv Z h0 a ka .byte (6 : Int32) [(.int (100 : Int32)), (.int (111 : Int32)), (.int (117 : Int32)), (.int (98 : Int32)), (.int (108 : Int32)), (.int (101 : Int32))] (.int (0 : Int32))) (V_b : Arv Z h0 b kb .byte (6 : Int32) [(.int (100 : Int32)), (.int (111 : Int32)), (.int (117 : Int32)), (.int (98 : Int32)), (.int (108 : Int32)), (.int (101 : Int32))] (.int (0 : Int32))) :
    MetFree l (⟨"java/lang/StringLatin1", "equals", "([B[B)Z"⟩ : MethodName) (head1 (Jvm.Cond.code (⟨"java/lang/StringLatin1", "equals", "([B[B)Z"⟩ : MethodName) jdk_43_method_13_code 3 (some .boolean) :: ws) ({ frames := 0, cells := 0, slots := 0, locals := 0 } : Room)) (fun A_ U_ => A_ = #[(.ref a), (.ref b)] ∧ Z.Warmed39 U_.vm ∧ U_.heap = h0) (fun _ _ _ _ _ => True) (fun _ U o U' => ∃ v L, o = .returned v ∧ Qq3l Z a ka b kb h0 n0 v U'.heap L ∧ FrameEnd U o U' L ({ frames := 0, cells := 0, slots := 0, locals := 0 } : Room).cells ({ frames := 0, cells := 0, slots := 0, locals := 0 } : Room).slots) := by
  refine MetFree.of_bodySF (plainFor_of_name pnq3l) hisR ?_
  intro p e s m args below meth cd s₁ Bd hml0 hP hK
  obtain ⟨rfl, hZ, hh⟩ := hP
  have hx := Bd.exec
  have hby := Bd.bytes
  have hlk : meth.locks = false := BodyLoose.notSynchronized Bd
  have hml : cd.maxLocals = 3 := hml0
  have hown : s.vm.findClass "java/lang/StringLatin1" = some m.cls := findClass_of_methodNamed Bd.named
  have hnm := (name_of_methodNamed Bd.named Bd.method).1
  have X0 : Stand p l e ({ frames := 0, cells := 0, slots := 0, locals := 0 } : Room) s m #[(.ref a), (.ref b)] below meth cd s₁ [] 0 0 := Stand.of_body Bd
  have e0 : s₁.heap = h0 := by rw [← hh, Bd.state]; rfl
  have N0 := Fr.nil n0
  have G : Go p e below s 0 0 (Qq3l Z a ka b kb h0 n0) (s₁.setTop (mkF m 0 #[.val (.ref a), .val (.ref b), .unset] [])) := by
    show Go p e below s _ _ _ (s₁.setTop (mkF m 0 #[.val (.ref a), .val (.ref b), .unset] []))
    refine Go.st (fun _ kq_ => XS.aloadN X0.here hx rfl (hb hby dq3l_0) rfl rfl kq_) ?_
    show Go p e below s _ _ _ (s₁.setTop (mkF m 1 #[.val (.ref a), .val (.ref b), .unset] [(.ref a)]))
    refine Go.st (fun _ kq_ => own_len X0 hx hZ e0 V_a (g := (mkF m 1 #[.val (.ref a), .val (.ref b), .unset] [(.ref a)])) rfl rfl (hb hby dq3l_1) _ kq_) ?_
    show Go p e below s _ _ _ (s₁.setTop (mkF m 2 #[.val (.ref a), .val (.ref b), .unset] [(.int (6 : Int32))]))
    refine Go.st (fun _ kq_ => XS.aloadN X0.here hx rfl (hb hby dq3l_2) rfl rfl kq_) ?_
    show Go p e below s _ _ _ (s₁.setTop (mkF m 3 #[.val (.ref a), .val (.ref b), .unset] [(.ref b), (.int (6 : Int32))]))
    refine Go.st (fun _ kq_ => own_len X0 hx hZ e0 V_b (g := (mkF m 3 #[.val (.ref a), .val (.ref b), .unset] [(.ref b), (.int (6 : Int32))])) rfl rfl (hb hby dq3l_3) _ kq_) ?_
    show Go p e below s _ _ _ (s₁.setTop (mkF m 4 #[.val (.ref a), .val (.ref b), .unset] [(.int (6 : Int32)), (.int (6 : Int32))]))
    refine Go.st (fun _ kq_ => XS.icmpNo X0.here hx rfl (hb hby dq3l_4) rfl (by decide) kq_) ?_
    show Go p e below s _ _ _ (s₁.setTop (mkF m 7 #[.val (.ref a), .val (.ref b), .unset] []))
    refine Go.st (fun _ kq_ => XS.iconst X0.here hx rfl (hb hby dq3l_7) kq_) ?_
    show Go p e below s _ _ _ (s₁.setTop (mkF m 8 #[.val (.ref a), .val (.ref b), .unset] [(.int (0 : Int32))]))
    refine Go.st (fun _ kq_ => XS.istoreN X0.here hx rfl (hb hby dq3l_8) rfl (l' := #[.val (.ref a), .val (.ref b), .val (.int (0 : Int32))]) rfl kq_) ?_
    show Go p e below s _ _ _ (s₁.setTop (mkF m 9 #[.val (.ref a), .val (.ref b), .val (.int (0 : Int32))] []))
    refine Go.st (fun _ kq_ => XS.iloadN X0.here hx rfl (hb hby dq3l_9) rfl kq_) ?_
    show Go p e below s _ _ _ (s₁.setTop (mkF m 10 #[.val (.ref a), .val (.ref b), .val (.int (0 : Int32))] [(.int (0 : Int32))]))
    refine Go.st (fun _ kq_ => XS.aloadN X0.here hx rfl (hb hby dq3l_10) rfl rfl kq_) ?_
    show Go p e below s _ _ _ (s₁.setTop (mkF m 11 #[.val (.ref a), .val (.ref b), .val (.int (0 : Int32))] [(.ref a), (.int (0 : Int32))]))
    refine Go.st (fun _ kq_ => own_len X0 hx hZ e0 V_a (g := (mkF m 11 #[.val (.ref a), .val (.ref b), .val (.int (0 : Int32))] [(.ref a), (.int (0 : Int32))])) rfl rfl (hb hby dq3l_11) _ kq_) ?_
    show Go p e below s _ _ _ (s₁.setTop (mkF m 12 #[.val (.ref a), .val (.ref b), .val (.int (0 : Int32))] [(.int (6 : Int32)), (.int (0 : Int32))]))
    refine Go.st (fun _ kq_ => XS.icmpNo X0.here hx rfl (hb hby dq3l_12) rfl (by decide) kq_) ?_
    show Go p e below s _ _ _ (s₁.setTop (mkF m 15 #[.val (.ref a), .val (.ref b), .val (.int (0 : Int32))] []))
    refine Go.st (fun _ kq_ => XS.aloadN X0.here hx rfl (hb hby dq3l_15) rfl rfl kq_) ?_
    show Go p e below s _ _ _ (s₁.setTop (mkF m 16 #[.val (.ref a), .val (.ref b), .val (.int (0 : Int32))] [(.ref a)]))
    refine Go.st (fun _ kq_ => XS.iloadN X0.here hx rfl (hb hby dq3l_16) rfl kq_) ?_
    show Go p e below s _ _ _ (s₁.setTop (mkF m 17 #[.val (.ref a), .val (.ref b), .val (.int (0 : Int32))] [(.int (0 : Int32)), (.ref a)]))
    refine Go.st (fun _ kq_ => own_baloadB X0 hx hZ e0 V_a (by decide) (by decide) (v := (.int (100 : Int32))) rfl (g := (mkF m 17 #[.val (.ref a), .val (.ref b), .val (.int (0 : Int32))] [(.int (0 : Int32)), (.ref a)])) rfl rfl (hb hby dq3l_17) _ kq_) ?_
    show Go p e below s _ _ _ (s₁.setTop (mkF m 18 #[.val (.ref a), .val (.ref b), .val (.int (0 : Int32))] [(.int (100 : Int32))]))
    refine Go.st (fun _ kq_ => XS.aloadN X0.here hx rfl (hb hby dq3l_18) rfl rfl kq_) ?_
    show Go p e below s _ _ _ (s₁.setTop (mkF m 19 #[.val (.ref a), .val (.ref b), .val (.int (0 : Int32))] [(.ref b), (.int (100 : Int32))]))
    refine Go.st (fun _ kq_ => XS.iloadN X0.here hx rfl (hb hby dq3l_19) rfl kq_) ?_
    show Go p e below s _ _ _ (s₁.setTop (mkF m 20 #[.val (.ref a), .val (.ref b), .val (.int (0 : Int32))] [(.int (0 : Int32)), (.ref b), (.int (100 : Int32))]))
    refine Go.st (fun _ kq_ => own_baloadB X0 hx hZ e0 V_b (by decide) (by decide) (v := (.int (100 : Int32))) rfl (g := (mkF m 20 #[.val (.ref a), .val (.ref b), .val (.int (0 : Int32))] [(.int (0 : Int32)), (.ref b), (.int (100 : Int32))])) rfl rfl (hb hby dq3l_20) _ kq_) ?_
    show Go p e below s _ _ _ (s₁.setTop (mkF m 21 #[.val (.ref a), .val (.ref b), .val (.int (0 : Int32))] [(.int (100 : Int32)), (.int (100 : Int32))]))
    refine Go.st (fun _ kq_ => XS.icmpYes X0.here hx rfl (pc0 := 21) (pc' := 26) rfl (hb hby dq3l_21) rfl (by decide) (by decide) (by decide) kq_) ?_
    show Go p e below s _ _ _ (s₁.setTop (mkF m 26 #[.val (.ref a), .val (.ref b), .val (.int (0 : Int32))] []))
    refine Go.st (fun _ kq_ => XT.iincV X0.here hx rfl (1 : Int32) (hb hby dq3l_26) rfl rfl (l' := #[.val (.ref a), .val (.ref b), .val (.int (1 : Int32))]) rfl kq_) ?_
    show Go p e below s _ _ _ (s₁.setTop (mkF m 29 #[.val (.ref a), .val (.ref b), .val (.int (1 : Int32))] []))
    refine Go.st (fun _ kq_ => XS.goto X0.here hx rfl (pc0 := 29) (pc' := 9) rfl (hb hby dq3l_29) (by decide) (by decide) kq_) ?_
    show Go p e below s _ _ _ (s₁.setTop (mkF m 9 #[.val (.ref a), .val (.ref b), .val (.int (1 : Int32))] []))
    refine Go.st (fun _ kq_ => XS.iloadN X0.here hx rfl (hb hby dq3l_9) rfl kq_) ?_
    show Go p e below s _ _ _ (s₁.setTop (mkF m 10 #[.val (.ref a), .val (.ref b), .val (.int (1 : Int32))] [(.int (1 : Int32))]))
    refine Go.st (fun _ kq_ => XS.aloadN X0.here hx rfl (hb hby dq3l_10) rfl rfl kq_) ?_
    show Go p e below s _ _ _ (s₁.setTop (mkF m 11 #[.val (.ref a), .val (.ref b), .val (.int (1 : Int32))] [(.ref a), (.int (1 : Int32))]))
    refine Go.st (fun _ kq_ => own_len X0 hx hZ e0 V_a (g := (mkF m 11 #[.val (.ref a), .val (.ref b), .val (.int (1 : Int32))] [(.ref a), (.int (1 : Int32))])) rfl rfl (hb hby dq3l_11) _ kq_) ?_
    show Go p e below s _ _ _ (s₁.setTop (mkF m 12 #[.val (.ref a), .val (.ref b), .val (.int (1 : Int32))] [(.int (6 : Int32)), (.int (1 : Int32))]))
    refine Go.st (fun _ kq_ => XS.icmpNo X0.here hx rfl (hb hby dq3l_12) rfl (by decide) kq_) ?_
    show Go p e below s _ _ _ (s₁.setTop (mkF m 15 #[.val (.ref a), .val (.ref b), .val (.int (1 : Int32))] []))
    refine Go.st (fun _ kq_ => XS.aloadN X0.here hx rfl (hb hby dq3l_15) rfl rfl kq_) ?_
    show Go p e below s _ _ _ (s₁.setTop (mkF m 16 #[.val (.ref a), .val (.ref b), .val (.int (1 : Int32))] [(.ref a)]))
    refine Go.st (fun _ kq_ => XS.iloadN X0.here hx rfl (hb hby dq3l_16) rfl kq_) ?_
    show Go p e below s _ _ _ (s₁.setTop (mkF m 17 #[.val (.ref a), .val (.ref b), .val (.int (1 : Int32))] [(.int (1 : Int32)), (.ref a)]))
    refine Go.st (fun _ kq_ => own_baloadB X0 hx hZ e0 V_a (by decide) (by decide) (v := (.int (111 : Int32))) rfl (g := (mkF m 17 #[.val (.ref a), .val (.ref b), .val (.int (1 : Int32))] [(.int (1 : Int32)), (.ref a)])) rfl rfl (hb hby dq3l_17) _ kq_) ?_
    show Go p e below s _ _ _ (s₁.setTop (mkF m 18 #[.val (.ref a), .val (.ref b), .val (.int (1 : Int32))] [(.int (111 : Int32))]))
    refine Go.st (fun _ kq_ => XS.aloadN X0.here hx rfl (hb hby dq3l_18) rfl rfl kq_) ?_
    show Go p e below s _ _ _ (s₁.setTop (mkF m 19 #[.val (.ref a), .val (.ref b), .val (.int (1 : Int32))] [(.ref b), (.int (111 : Int32))]))
    refine Go.st (fun _ kq_ => XS.iloadN X0.here hx rfl (hb hby dq3l_19) rfl kq_) ?_
    show Go p e below s _ _ _ (s₁.setTop (mkF m 20 #[.val (.ref a), .val (.ref b), .val (.int (1 : Int32))] [(.int (1 : Int32)), (.ref b), (.int (111 : Int32))]))
    refine Go.st (fun _ kq_ => own_baloadB X0 hx hZ e0 V_b (by decide) (by decide) (v := (.int (111 : Int32))) rfl (g := (mkF m 20 #[.val (.ref a), .val (.ref b), .val (.int (1 : Int32))] [(.int (1 : Int32)), (.ref b), (.int (111 : Int32))])) rfl rfl (hb hby dq3l_20) _ kq_) ?_
    show Go p e below s _ _ _ (s₁.setTop (mkF m 21 #[.val (.ref a), .val (.ref b), .val (.int (1 : Int32))] [(.int (111 : Int32)), (.int (111 : Int32))]))
    refine Go.st (fun _ kq_ => XS.icmpYes X0.here hx rfl (pc0 := 21) (pc' := 26) rfl (hb hby dq3l_21) rfl (by decide) (by decide) (by decide) kq_) ?_
    show Go p e below s _ _ _ (s₁.setTop (mkF m 26 #[.val (.ref a), .val (.ref b), .val (.int (1 : Int32))] []))
    refine Go.st (fun _ kq_ => XT.iincV X0.here hx rfl (1 : Int32) (hb hby dq3l_26) rfl rfl (l' := #[.val (.ref a), .val (.ref b), .val (.int (2 : Int32))]) rfl kq_) ?_
    show Go p e below s _ _ _ (s₁.setTop (mkF m 29 #[.val (.ref a), .val (.ref b), .val (.int (2 : Int32))] []))
    refine Go.st (fun _ kq_ => XS.goto X0.here hx rfl (pc0 := 29) (pc' := 9) rfl (hb hby dq3l_29) (by decide) (by decide) kq_) ?_
    show Go p e below s _ _ _ (s₁.setTop (mkF m 9 #[.val (.ref a), .val (.ref b), .val (.int (2 : Int32))] []))
    refine Go.st (fun _ kq_ => XS.iloadN X0.here hx rfl (hb hby dq3l_9) rfl kq_) ?_
    show Go p e below s _ _ _ (s₁.setTop (mkF m 10 #[.val (.ref a), .val (.ref b), .val (.int (2 : Int32))] [(.int (2 : Int32))]))
    refine Go.st (fun _ kq_ => XS.aloadN X0.here hx rfl (hb hby dq3l_10) rfl rfl kq_) ?_
    show Go p e below s _ _ _ (s₁.setTop (mkF m 11 #[.val (.ref a), .val (.ref b), .val (.int (2 : Int32))] [(.ref a), (.int (2 : Int32))]))
    refine Go.st (fun _ kq_ => own_len X0 hx hZ e0 V_a (g := (mkF m 11 #[.val (.ref a), .val (.ref b), .val (.int (2 : Int32))] [(.ref a), (.int (2 : Int32))])) rfl rfl (hb hby dq3l_11) _ kq_) ?_
    show Go p e below s _ _ _ (s₁.setTop (mkF m 12 #[.val (.ref a), .val (.ref b), .val (.int (2 : Int32))] [(.int (6 : Int32)), (.int (2 : Int32))]))
    refine Go.st (fun _ kq_ => XS.icmpNo X0.here hx rfl (hb hby dq3l_12) rfl (by decide) kq_) ?_
    show Go p e below s _ _ _ (s₁.setTop (mkF m 15 #[.val (.ref a), .val (.ref b), .val (.int (2 : Int32))] []))
    refine Go.st (fun _ kq_ => XS.aloadN X0.here hx rfl (hb hby dq3l_15) rfl rfl kq_) ?_
    show Go p e below s _ _ _ (s₁.setTop (mkF m 16 #[.val (.ref a), .val (.ref b), .val (.int (2 : Int32))] [(.ref a)]))
    refine Go.st (fun _ kq_ => XS.iloadN X0.here hx rfl (hb hby dq3l_16) rfl kq_) ?_
    show Go p e below s _ _ _ (s₁.setTop (mkF m 17 #[.val (.ref a), .val (.ref b), .val (.int (2 : Int32))] [(.int (2 : Int32)), (.ref a)]))
    refine Go.st (fun _ kq_ => own_baloadB X0 hx hZ e0 V_a (by decide) (by decide) (v := (.int (117 : Int32))) rfl (g := (mkF m 17 #[.val (.ref a), .val (.ref b), .val (.int (2 : Int32))] [(.int (2 : Int32)), (.ref a)])) rfl rfl (hb hby dq3l_17) _ kq_) ?_
    show Go p e below s _ _ _ (s₁.setTop (mkF m 18 #[.val (.ref a), .val (.ref b), .val (.int (2 : Int32))] [(.int (117 : Int32))]))
    refine Go.st (fun _ kq_ => XS.aloadN X0.here hx rfl (hb hby dq3l_18) rfl rfl kq_) ?_
    show Go p e below s _ _ _ (s₁.setTop (mkF m 19 #[.val (.ref a), .val (.ref b), .val (.int (2 : Int32))] [(.ref b), (.int (117 : Int32))]))
    refine Go.st (fun _ kq_ => XS.iloadN X0.here hx rfl (hb hby dq3l_19) rfl kq_) ?_
    show Go p e below s _ _ _ (s₁.setTop (mkF m 20 #[.val (.ref a), .val (.ref b), .val (.int (2 : Int32))] [(.int (2 : Int32)), (.ref b), (.int (117 : Int32))]))
    refine Go.st (fun _ kq_ => own_baloadB X0 hx hZ e0 V_b (by decide) (by decide) (v := (.int (117 : Int32))) rfl (g := (mkF m 20 #[.val (.ref a), .val (.ref b), .val (.int (2 : Int32))] [(.int (2 : Int32)), (.ref b), (.int (117 : Int32))])) rfl rfl (hb hby dq3l_20) _ kq_) ?_
    show Go p e below s _ _ _ (s₁.setTop (mkF m 21 #[.val (.ref a), .val (.ref b), .val (.int (2 : Int32))] [(.int (117 : Int32)), (.int (117 : Int32))]))
    refine Go.st (fun _ kq_ => XS.icmpYes X0.here hx rfl (pc0 := 21) (pc' := 26) rfl (hb hby dq3l_21) rfl (by decide) (by decide) (by decide) kq_) ?_
    show Go p e below s _ _ _ (s₁.setTop (mkF m 26 #[.val (.ref a), .val (.ref b), .val (.int (2 : Int32))] []))
    refine Go.st (fun _ kq_ => XT.iincV X0.here hx rfl (1 : Int32) (hb hby dq3l_26) rfl rfl (l' := #[.val (.ref a), .val (.ref b), .val (.int (3 : Int32))]) rfl kq_) ?_
    show Go p e below s _ _ _ (s₁.setTop (mkF m 29 #[.val (.ref a), .val (.ref b), .val (.int (3 : Int32))] []))
    refine Go.st (fun _ kq_ => XS.goto X0.here hx rfl (pc0 := 29) (pc' := 9) rfl (hb hby dq3l_29) (by decide) (by decide) kq_) ?_
    show Go p e below s _ _ _ (s₁.setTop (mkF m 9 #[.val (.ref a), .val (.ref b), .val (.int (3 : Int32))] []))
    refine Go.st (fun _ kq_ => XS.iloadN X0.here hx rfl (hb hby dq3l_9) rfl kq_) ?_
    show Go p e below s _ _ _ (s₁.setTop (mkF m 10 #[.val (.ref a), .val (.ref b), .val (.int (3 : Int32))] [(.int (3 : Int32))]))
    refine Go.st (fun _ kq_ => XS.aloadN X0.here hx rfl (hb hby dq3l_10) rfl rfl kq_) ?_
    show Go p e below s _ _ _ (s₁.setTop (mkF m 11 #[.val (.ref a), .val (.ref b), .val (.int (3 : Int32))] [(.ref a), (.int (3 : Int32))]))
    refine Go.st (fun _ kq_ => own_len X0 hx hZ e0 V_a (g := (mkF m 11 #[.val (.ref a), .val (.ref b), .val (.int (3 : Int32))] [(.ref a), (.int (3 : Int32))])) rfl rfl (hb hby dq3l_11) _ kq_) ?_
    show Go p e below s _ _ _ (s₁.setTop (mkF m 12 #[.val (.ref a), .val (.ref b), .val (.int (3 : Int32))] [(.int (6 : Int32)), (.int (3 : Int32))]))
    refine Go.st (fun _ kq_ => XS.icmpNo X0.here hx rfl (hb hby dq3l_12) rfl (by decide) kq_) ?_
    show Go p e below s _ _ _ (s₁.setTop (mkF m 15 #[.val (.ref a), .val (.ref b), .val (.int (3 : Int32))] []))
    refine Go.st (fun _ kq_ => XS.aloadN X0.here hx rfl (hb hby dq3l_15) rfl rfl kq_) ?_
    show Go p e below s _ _ _ (s₁.setTop (mkF m 16 #[.val (.ref a), .val (.ref b), .val (.int (3 : Int32))] [(.ref a)]))
    refine Go.st (fun _ kq_ => XS.iloadN X0.here hx rfl (hb hby dq3l_16) rfl kq_) ?_
    show Go p e below s _ _ _ (s₁.setTop (mkF m 17 #[.val (.ref a), .val (.ref b), .val (.int (3 : Int32))] [(.int (3 : Int32)), (.ref a)]))
    refine Go.st (fun _ kq_ => own_baloadB X0 hx hZ e0 V_a (by decide) (by decide) (v := (.int (98 : Int32))) rfl (g := (mkF m 17 #[.val (.ref a), .val (.ref b), .val (.int (3 : Int32))] [(.int (3 : Int32)), (.ref a)])) rfl rfl (hb hby dq3l_17) _ kq_) ?_
    show Go p e below s _ _ _ (s₁.setTop (mkF m 18 #[.val (.ref a), .val (.ref b), .val (.int (3 : Int32))] [(.int (98 : Int32))]))
    refine Go.st (fun _ kq_ => XS.aloadN X0.here hx rfl (hb hby dq3l_18) rfl rfl kq_) ?_
    show Go p e below s _ _ _ (s₁.setTop (mkF m 19 #[.val (.ref a), .val (.ref b), .val (.int (3 : Int32))] [(.ref b), (.int (98 : Int32))]))
    refine Go.st (fun _ kq_ => XS.iloadN X0.here hx rfl (hb hby dq3l_19) rfl kq_) ?_
    show Go p e below s _ _ _ (s₁.setTop (mkF m 20 #[.val (.ref a), .val (.ref b), .val (.int (3 : Int32))] [(.int (3 : Int32)), (.ref b), (.int (98 : Int32))]))
    refine Go.st (fun _ kq_ => own_baloadB X0 hx hZ e0 V_b (by decide) (by decide) (v := (.int (98 : Int32))) rfl (g := (mkF m 20 #[.val (.ref a), .val (.ref b), .val (.int (3 : Int32))] [(.int (3 : Int32)), (.ref b), (.int (98 : Int32))])) rfl rfl (hb hby dq3l_20) _ kq_) ?_
    show Go p e below s _ _ _ (s₁.setTop (mkF m 21 #[.val (.ref a), .val (.ref b), .val (.int (3 : Int32))] [(.int (98 : Int32)), (.int (98 : Int32))]))
    refine Go.st (fun _ kq_ => XS.icmpYes X0.here hx rfl (pc0 := 21) (pc' := 26) rfl (hb hby dq3l_21) rfl (by decide) (by decide) (by decide) kq_) ?_
    show Go p e below s _ _ _ (s₁.setTop (mkF m 26 #[.val (.ref a), .val (.ref b), .val (.int (3 : Int32))] []))
    refine Go.st (fun _ kq_ => XT.iincV X0.here hx rfl (1 : Int32) (hb hby dq3l_26) rfl rfl (l' := #[.val (.ref a), .val (.ref b), .val (.int (4 : Int32))]) rfl kq_) ?_
    show Go p e below s _ _ _ (s₁.setTop (mkF m 29 #[.val (.ref a), .val (.ref b), .val (.int (4 : Int32))] []))
    refine Go.st (fun _ kq_ => XS.goto X0.here hx rfl (pc0 := 29) (pc' := 9) rfl (hb hby dq3l_29) (by decide) (by decide) kq_) ?_
    show Go p e below s _ _ _ (s₁.setTop (mkF m 9 #[.val (.ref a), .val (.ref b), .val (.int (4 : Int32))] []))
    refine Go.st (fun _ kq_ => XS.iloadN X0.here hx rfl (hb hby dq3l_9) rfl kq_) ?_
    show Go p e below s _ _ _ (s₁.setTop (mkF m 10 #[.val (.ref a), .val (.ref b), .val (.int (4 : Int32))] [(.int (4 : Int32))]))
    refine Go.st (fun _ kq_ => XS.aloadN X0.here hx rfl (hb hby dq3l_10) rfl rfl kq_) ?_
    show Go p e below s _ _ _ (s₁.setTop (mkF m 11 #[.val (.ref a), .val (.ref b), .val (.int (4 : Int32))] [(.ref a), (.int (4 : Int32))]))
    refine Go.st (fun _ kq_ => own_len X0 hx hZ e0 V_a (g := (mkF m 11 #[.val (.ref a), .val (.ref b), .val (.int (4 : Int32))] [(.ref a), (.int (4 : Int32))])) rfl rfl (hb hby dq3l_11) _ kq_) ?_
    show Go p e below s _ _ _ (s₁.setTop (mkF m 12 #[.val (.ref a), .val (.ref b), .val (.int (4 : Int32))] [(.int (6 : Int32)), (.int (4 : Int32))]))
    refine Go.st (fun _ kq_ => XS.icmpNo X0.here hx rfl (hb hby dq3l_12) rfl (by decide) kq_) ?_
    show Go p e below s _ _ _ (s₁.setTop (mkF m 15 #[.val (.ref a), .val (.ref b), .val (.int (4 : Int32))] []))
    refine Go.st (fun _ kq_ => XS.aloadN X0.here hx rfl (hb hby dq3l_15) rfl rfl kq_) ?_
    show Go p e below s _ _ _ (s₁.setTop (mkF m 16 #[.val (.ref a), .val (.ref b), .val (.int (4 : Int32))] [(.ref a)]))
    refine Go.st (fun _ kq_ => XS.iloadN X0.here hx rfl (hb hby dq3l_16) rfl kq_) ?_
    show Go p e below s _ _ _ (s₁.setTop (mkF m 17 #[.val (.ref a), .val (.ref b), .val (.int (4 : Int32))] [(.int (4 : Int32)), (.ref a)]))
    refine Go.st (fun _ kq_ => own_baloadB X0 hx hZ e0 V_a (by decide) (by decide) (v := (.int (108 : Int32))) rfl (g := (mkF m 17 #[.val (.ref a), .val (.ref b), .val (.int (4 : Int32))] [(.int (4 : Int32)), (.ref a)])) rfl rfl (hb hby dq3l_17) _ kq_) ?_
    show Go p e below s _ _ _ (s₁.setTop (mkF m 18 #[.val (.ref a), .val (.ref b), .val (.int (4 : Int32))] [(.int (108 : Int32))]))
    refine Go.st (fun _ kq_ => XS.aloadN X0.here hx rfl (hb hby dq3l_18) rfl rfl kq_) ?_
    show Go p e below s _ _ _ (s₁.setTop (mkF m 19 #[.val (.ref a), .val (.ref b), .val (.int (4 : Int32))] [(.ref b), (.int (108 : Int32))]))
    refine Go.st (fun _ kq_ => XS.iloadN X0.here hx rfl (hb hby dq3l_19) rfl kq_) ?_
    show Go p e below s _ _ _ (s₁.setTop (mkF m 20 #[.val (.ref a), .val (.ref b), .val (.int (4 : Int32))] [(.int (4 : Int32)), (.ref b), (.int (108 : Int32))]))
    refine Go.st (fun _ kq_ => own_baloadB X0 hx hZ e0 V_b (by decide) (by decide) (v := (.int (108 : Int32))) rfl (g := (mkF m 20 #[.val (.ref a), .val (.ref b), .val (.int (4 : Int32))] [(.int (4 : Int32)), (.ref b), (.int (108 : Int32))])) rfl rfl (hb hby dq3l_20) _ kq_) ?_
    show Go p e below s _ _ _ (s₁.setTop (mkF m 21 #[.val (.ref a), .val (.ref b), .val (.int (4 : Int32))] [(.int (108 : Int32)), (.int (108 : Int32))]))
    refine Go.st (fun _ kq_ => XS.icmpYes X0.here hx rfl (pc0 := 21) (pc' := 26) rfl (hb hby dq3l_21) rfl (by decide) (by decide) (by decide) kq_) ?_
    show Go p e below s _ _ _ (s₁.setTop (mkF m 26 #[.val (.ref a), .val (.ref b), .val (.int (4 : Int32))] []))
    refine Go.st (fun _ kq_ => XT.iincV X0.here hx rfl (1 : Int32) (hb hby dq3l_26) rfl rfl (l' := #[.val (.ref a), .val (.ref b), .val (.int (5 : Int32))]) rfl kq_) ?_
    show Go p e below s _ _ _ (s₁.setTop (mkF m 29 #[.val (.ref a), .val (.ref b), .val (.int (5 : Int32))] []))
    refine Go.st (fun _ kq_ => XS.goto X0.here hx rfl (pc0 := 29) (pc' := 9) rfl (hb hby dq3l_29) (by decide) (by decide) kq_) ?_
    show Go p e below s _ _ _ (s₁.setTop (mkF m 9 #[.val (.ref a), .val (.ref b), .val (.int (5 : Int32))] []))
    refine Go.st (fun _ kq_ => XS.iloadN X0.here hx rfl (hb hby dq3l_9) rfl kq_) ?_
    show Go p e below s _ _ _ (s₁.setTop (mkF m 10 #[.val (.ref a), .val (.ref b), .val (.int (5 : Int32))] [(.int (5 : Int32))]))
    refine Go.st (fun _ kq_ => XS.aloadN X0.here hx rfl (hb hby dq3l_10) rfl rfl kq_) ?_
    show Go p e below s _ _ _ (s₁.setTop (mkF m 11 #[.val (.ref a), .val (.ref b), .val (.int (5 : Int32))] [(.ref a), (.int (5 : Int32))]))
    refine Go.st (fun _ kq_ => own_len X0 hx hZ e0 V_a (g := (mkF m 11 #[.val (.ref a), .val (.ref b), .val (.int (5 : Int32))] [(.ref a), (.int (5 : Int32))])) rfl rfl (hb hby dq3l_11) _ kq_) ?_
    show Go p e below s _ _ _ (s₁.setTop (mkF m 12 #[.val (.ref a), .val (.ref b), .val (.int (5 : Int32))] [(.int (6 : Int32)), (.int (5 : Int32))]))
    refine Go.st (fun _ kq_ => XS.icmpNo X0.here hx rfl (hb hby dq3l_12) rfl (by decide) kq_) ?_
    show Go p e below s _ _ _ (s₁.setTop (mkF m 15 #[.val (.ref a), .val (.ref b), .val (.int (5 : Int32))] []))
    refine Go.st (fun _ kq_ => XS.aloadN X0.here hx rfl (hb hby dq3l_15) rfl rfl kq_) ?_
    show Go p e below s _ _ _ (s₁.setTop (mkF m 16 #[.val (.ref a), .val (.ref b), .val (.int (5 : Int32))] [(.ref a)]))
    refine Go.st (fun _ kq_ => XS.iloadN X0.here hx rfl (hb hby dq3l_16) rfl kq_) ?_
    show Go p e below s _ _ _ (s₁.setTop (mkF m 17 #[.val (.ref a), .val (.ref b), .val (.int (5 : Int32))] [(.int (5 : Int32)), (.ref a)]))
    refine Go.st (fun _ kq_ => own_baloadB X0 hx hZ e0 V_a (by decide) (by decide) (v := (.int (101 : Int32))) rfl (g := (mkF m 17 #[.val (.ref a), .val (.ref b), .val (.int (5 : Int32))] [(.int (5 : Int32)), (.ref a)])) rfl rfl (hb hby dq3l_17) _ kq_) ?_
    show Go p e below s _ _ _ (s₁.setTop (mkF m 18 #[.val (.ref a), .val (.ref b), .val (.int (5 : Int32))] [(.int (101 : Int32))]))
    refine Go.st (fun _ kq_ => XS.aloadN X0.here hx rfl (hb hby dq3l_18) rfl rfl kq_) ?_
    show Go p e below s _ _ _ (s₁.setTop (mkF m 19 #[.val (.ref a), .val (.ref b), .val (.int (5 : Int32))] [(.ref b), (.int (101 : Int32))]))
    refine Go.st (fun _ kq_ => XS.iloadN X0.here hx rfl (hb hby dq3l_19) rfl kq_) ?_
    show Go p e below s _ _ _ (s₁.setTop (mkF m 20 #[.val (.ref a), .val (.ref b), .val (.int (5 : Int32))] [(.int (5 : Int32)), (.ref b), (.int (101 : Int32))]))
    refine Go.st (fun _ kq_ => own_baloadB X0 hx hZ e0 V_b (by decide) (by decide) (v := (.int (101 : Int32))) rfl (g := (mkF m 20 #[.val (.ref a), .val (.ref b), .val (.int (5 : Int32))] [(.int (5 : Int32)), (.ref b), (.int (101 : Int32))])) rfl rfl (hb hby dq3l_20) _ kq_) ?_
    show Go p e below s _ _ _ (s₁.setTop (mkF m 21 #[.val (.ref a), .val (.ref b), .val (.int (5 : Int32))] [(.int (101 : Int32)), (.int (101 : Int32))]))
    refine Go.st (fun _ kq_ => XS.icmpYes X0.here hx rfl (pc0 := 21) (pc' := 26) rfl (hb hby dq3l_21) rfl (by decide) (by decide) (by decide) kq_) ?_
    show Go p e below s _ _ _ (s₁.setTop (mkF m 26 #[.val (.ref a), .val (.ref b), .val (.int (5 : Int32))] []))
    refine Go.st (fun _ kq_ => XT.iincV X0.here hx rfl (1 : Int32) (hb hby dq3l_26) rfl rfl (l' := #[.val (.ref a), .val (.ref b), .val (.int (6 : Int32))]) rfl kq_) ?_
    show Go p e below s _ _ _ (s₁.setTop (mkF m 29 #[.val (.ref a), .val (.ref b), .val (.int (6 : Int32))] []))
    refine Go.st (fun _ kq_ => XS.goto X0.here hx rfl (pc0 := 29) (pc' := 9) rfl (hb hby dq3l_29) (by decide) (by decide) kq_) ?_
    show Go p e below s _ _ _ (s₁.setTop (mkF m 9 #[.val (.ref a), .val (.ref b), .val (.int (6 : Int32))] []))
    refine Go.st (fun _ kq_ => XS.iloadN X0.here hx rfl (hb hby dq3l_9) rfl kq_) ?_
    show Go p e below s _ _ _ (s₁.setTop (mkF m 10 #[.val (.ref a), .val (.ref b), .val (.int (6 : Int32))] [(.int (6 : Int32))]))
    refine Go.st (fun _ kq_ => XS.aloadN X0.here hx rfl (hb hby dq3l_10) rfl rfl kq_) ?_
    show Go p e below s _ _ _ (s₁.setTop (mkF m 11 #[.val (.ref a), .val (.ref b), .val (.int (6 : Int32))] [(.ref a), (.int (6 : Int32))]))
    refine Go.st (fun _ kq_ => own_len X0 hx hZ e0 V_a (g := (mkF m 11 #[.val (.ref a), .val (.ref b), .val (.int (6 : Int32))] [(.ref a), (.int (6 : Int32))])) rfl rfl (hb hby dq3l_11) _ kq_) ?_
    show Go p e below s _ _ _ (s₁.setTop (mkF m 12 #[.val (.ref a), .val (.ref b), .val (.int (6 : Int32))] [(.int (6 : Int32)), (.int (6 : Int32))]))
    refine Go.st (fun _ kq_ => XS.icmpYes X0.here hx rfl (pc0 := 12) (pc' := 32) rfl (hb hby dq3l_12) rfl (by decide) (by decide) (by decide) kq_) ?_
    show Go p e below s _ _ _ (s₁.setTop (mkF m 32 #[.val (.ref a), .val (.ref b), .val (.int (6 : Int32))] []))
    refine Go.st (fun _ kq_ => XS.iconst X0.here hx rfl (hb hby dq3l_32) kq_) ?_
    show Go p e below s _ _ _ (s₁.setTop (mkF m 33 #[.val (.ref a), .val (.ref b), .val (.int (6 : Int32))] [(.int (1 : Int32))]))
    exact Go.ret X0 hlk (some (.int (nar .boolean (1 : Int32)))) (fun h => by rw [Bd.returns] at h; cases h) (by rw [e0]; exact ⟨rfl, N0, rfl⟩) (by decide) (by decide) (fun fs hr => retN X0 hx (t := .boolean) Bd.returns (by simp) (hb hby dq3l_33) hr)
  obtain ⟨s2, o2, st2, r2⟩ := G
  exact ⟨s2, o2, castTop (efq3l m a b) st2, r2⟩
theorem dq3_0 : decode jdk_42_method_66_code 0 = .ok (.aload_n 0, 1) := by decide +kernel
theorem dq3_1 : decode jdk_42_method_66_code 1 = .ok (.aload_n 1, 1) := by decide +kernel
theorem dq3_2 : decode jdk_42_method_66_code 2 = .ok (.if_acmp .ne 5, 3) := by decide +kernel
theorem dq3_5 : decode jdk_42_method_66_code 5 = .ok (.iconst 1, 1) := by decide +kernel
theorem dq3_6 : decode jdk_42_method_66_code 6 = .ok (.ireturn, 1) := by decide +kernel
theorem dq3_7 : decode jdk_42_method_66_code 7 = .ok (.aload_n 1, 1) := by decide +kernel
theorem dq3_8 : decode jdk_42_method_66_code 8 = .ok (.instanceof 10, 3) := by decide +kernel
theorem dq3_11 : decode jdk_42_method_66_code 11 = .ok (.ifCond .eq 43, 3) := by decide +kernel
theorem dq3_14 : decode jdk_42_method_66_code 14 = .ok (.aload_n 1, 1) := by decide +kernel
theorem dq3_15 : decode jdk_42_method_66_code 15 = .ok (.checkcast 10, 3) := by decide +kernel
theorem dq3_18 : decode jdk_42_method_66_code 18 = .ok (.astore_n 2, 1) := by decide +kernel
theorem dq3_19 : decode jdk_42_method_66_code 19 = .ok (.getstatic 38, 3) := by decide +kernel
theorem dq3_22 : decode jdk_42_method_66_code 22 = .ok (.ifCond .eq 14, 3) := by decide +kernel
theorem dq3_25 : decode jdk_42_method_66_code 25 = .ok (.aload_n 0, 1) := by decide +kernel
theorem dq3_26 : decode jdk_42_method_66_code 26 = .ok (.getfield 15, 3) := by decide +kernel
theorem dq3_29 : decode jdk_42_method_66_code 29 = .ok (.aload_n 2, 1) := by decide +kernel
theorem dq3_30 : decode jdk_42_method_66_code 30 = .ok (.getfield 15, 3) := by decide +kernel
theorem dq3_33 : decode jdk_42_method_66_code 33 = .ok (.if_icmp .ne 21, 3) := by decide +kernel
theorem dq3_36 : decode jdk_42_method_66_code 36 = .ok (.aload_n 0, 1) := by decide +kernel
theorem dq3_37 : decode jdk_42_method_66_code 37 = .ok (.getfield 9, 3) := by decide +kernel
theorem dq3_40 : decode jdk_42_method_66_code 40 = .ok (.aload_n 2, 1) := by decide +kernel
theorem dq3_41 : decode jdk_42_method_66_code 41 = .ok (.getfield 9, 3) := by decide +kernel
theorem dq3_44 : decode jdk_42_method_66_code 44 = .ok (.invokestatic 541, 3) := by decide +kernel
theorem dq3_47 : decode jdk_42_method_66_code 47 = .ok (.ifCond .eq 7, 3) := by decide +kernel
theorem dq3_50 : decode jdk_42_method_66_code 50 = .ok (.iconst 1, 1) := by decide +kernel
theorem dq3_51 : decode jdk_42_method_66_code 51 = .ok (.goto 4, 3) := by decide +kernel
theorem dq3_55 : decode jdk_42_method_66_code 55 = .ok (.ireturn, 1) := by decide +kernel
theorem pdq3_0 : parseMethodDescriptor "([B[B)Z" = some ⟨[(.array .byte), (.array .byte)], some .boolean⟩ := by decide +kernel
theorem pnq3 : plainName "java/lang/String" = true := by first | (simp [plainName, overriddenIn]; done) | decide +kernel
theorem efq3 (m : MethodId) (x0 : Addr) (x1 : Addr) : entryFrame m #[(.ref x0), (.ref x1)] 3 = mkF m 0 #[.val (.ref x0), .val (.ref x1), .unset] [] := by first | (simp [entryFrame, mkF, argsToLocals, Value.category, maxLocals]; done) | rfl
def Qq3 (Z : State) (x : Addr) (a : Addr) (ka : ClassId) (y : Addr) (b : Addr) (kb : ClassId) (zc : Int32) (h0 : Heap) (n0 : Nat) (v : Option Value) (h : Heap) (L : List Loc) : Prop := v = some (.int (1 : Int32)) ∧ Fr n0 L ∧ h = h0
set_option maxRecDepth 65536 in
set_option maxHeartbeats 40000000 in
theorem rmq3 (l : Launch) (Z : State) (a0 : Array Value) (hw : ∀ d ∈ tables_1, d.before a0 Z = true) (ws : List Jvm.Cond) (x : Addr) (a : Addr) (ka : ClassId) (y : Addr) (b : Addr) (kb : ClassId) (zc : Int32) (h0 : Heap) (n0 : Nat) (O0 : Old Z n0 h0) (E_x : Exa Z h0 x "java/lang/String") (F_x_coder : Fld Z h0 x "java/lang/String" "coder" "B" (.int (0 : Int32))) (F_x_value : Fld Z h0 x "java/lang/String" "value" "[B" (.ref a)) (V_a : Arv Z h0 a ka .byte (6 : Int32) [(.int (100 : Int32)), (.int (111 : Int32)), (.int (117 : Int32)), (.int (98 : Int32)), (.int (108 : Int32)), (.int (101 : Int32))] (.int (0 : Int32))) (E_y : Exa Z h0 y "java/lang/String") (F_y_coder : Fld Z h0 y "java/lang/String" "coder" "B" (.int (0 : Int32))) (F_y_value : Fld Z h0 y "java/lang/String" "value" "[B" (.ref b)) (V_b : Arv Z h0 b kb .byte (6 : Int32) [(.int (100 : Int32)), (.int (111 : Int32)), (.int (117 : Int32)), (.int (98 : Int32)), (.int (108 : Int32)), (.int (101 : Int32))] (.int (0 : Int32))) (SC : Sta Z Z.heap "java/lang/String" "COMPACT_STRINGS" "Z" (.int zc)) (hcs : ¬ zc = 0) :
    MetFree l (⟨"java/lang/String", "equals", "(Ljava/lang/Object;)Z"⟩ : MethodName) (head1 (Jvm.Cond.code (⟨"java/lang/String", "equals", "(Ljava/lang/Object;)Z"⟩ : MethodName) jdk_42_method_66_code 3 (some .boolean) :: ws) ({ frames := 1, cells := 0, slots := 0, locals := 14 } : Room)) (fun A_ U_ => A_ = #[(.ref x), (.ref y)] ∧ Z.Warmed39 U_.vm ∧ U_.heap = h0) (fun _ _ _ _ _ => True) (fun _ U o U' => ∃ v L, o = .returned v ∧ Qq3 Z x a ka y b kb zc h0 n0 v U'.heap L ∧ FrameEnd U o U' L ({ frames := 1, cells := 0, slots := 0, locals := 14 } : Room).cells ({ frames := 1, cells := 0, slots := 0, locals := 14 } : Room).slots) := by
  refine MetFree.of_bodySF (plainFor_of_name pnq3) hisR ?_
  intro p e s m args below meth cd s₁ Bd hml0 hP hK
  obtain ⟨rfl, hZ, hh⟩ := hP
  have hx := Bd.exec
  have hby := Bd.bytes
  have hlk : meth.locks = false := BodyLoose.notSynchronized Bd
  have hml : cd.maxLocals = 3 := hml0
  have hown : s.vm.findClass "java/lang/String" = some m.cls := findClass_of_methodNamed Bd.named
  have hnm := (name_of_methodNamed Bd.named Bd.method).1
  have X0 : Stand p l e ({ frames := 1, cells := 0, slots := 0, locals := 14 } : Room) s m #[(.ref x), (.ref y)] below meth cd s₁ [] 0 0 := Stand.of_body Bd
  have e0 : s₁.heap = h0 := by rw [← hh, Bd.state]; rfl
  have N0 := Fr.nil n0
  have G : Go p e below s 0 0 (Qq3 Z x a ka y b kb zc h0 n0) (s₁.setTop (mkF m 0 #[.val (.ref x), .val (.ref y), .unset] [])) := by
    show Go p e below s _ _ _ (s₁.setTop (mkF m 0 #[.val (.ref x), .val (.ref y), .unset] []))
    refine Go.st (fun _ kq_ => XS.aloadN X0.here hx rfl (hb hby dq3_0) rfl rfl kq_) ?_
    show Go p e below s _ _ _ (s₁.setTop (mkF m 1 #[.val (.ref x), .val (.ref y), .unset] [(.ref x)]))
    refine Go.st (fun _ kq_ => XS.aloadN X0.here hx rfl (hb hby dq3_1) rfl rfl kq_) ?_
    show Go p e below s _ _ _ (s₁.setTop (mkF m 2 #[.val (.ref x), .val (.ref y), .unset] [(.ref y), (.ref x)]))
    by_cases c2_1 : ((.ref x) : Value) = (.ref y)
    · refine Go.st (fun _ kq_ => XT.acmpNo X0.here hx rfl (hb hby dq3_2) rfl rfl rfl (XT.aa_ne_f c2_1) kq_) ?_
      show Go p e below s _ _ _ (s₁.setTop (mkF m 5 #[.val (.ref x), .val (.ref y), .unset] []))
      refine Go.st (fun _ kq_ => XS.iconst X0.here hx rfl (hb hby dq3_5) kq_) ?_
      show Go p e below s _ _ _ (s₁.setTop (mkF m 6 #[.val (.ref x), .val (.ref y), .unset] [(.int (1 : Int32))]))
      exact Go.ret X0 hlk (some (.int (nar .boolean (1 : Int32)))) (fun h => by rw [Bd.returns] at h; cases h) (by rw [e0]; exact ⟨rfl, N0, rfl⟩) (by decide) (by decide) (fun fs hr => retN X0 hx (t := .boolean) Bd.returns (by simp) (hb hby dq3_6) hr)
    · refine Go.st (fun _ kq_ => XT.acmpYes X0.here hx rfl (pc0 := 2) (pc' := 7) rfl (hb hby dq3_2) rfl rfl rfl (XT.aa_ne_t c2_1) (by decide) (by decide) kq_) ?_
      show Go p e below s _ _ _ (s₁.setTop (mkF m 7 #[.val (.ref x), .val (.ref y), .unset] []))
      refine Go.st (fun _ kq_ => XS.aloadN X0.here hx rfl (hb hby dq3_7) rfl rfl kq_) ?_
      show Go p e below s _ _ _ (s₁.setTop (mkF m 8 #[.val (.ref x), .val (.ref y), .unset] [(.ref y)]))
      obtain ⟨T2, X2, e2, st2⟩ := instY X0 hx hZ hown (own_w hw 24 rfl) e0 (Ins.self E_y) (g := (mkF m 8 #[.val (.ref x), .val (.ref y), .unset] [(.ref y)])) rfl rfl (hb hby dq3_8)
      refine Go.st st2 ?_
      show Go p e below s _ _ _ (T2.setTop (mkF m 11 #[.val (.ref x), .val (.ref y), .unset] [(.int (1 : Int32))]))
      refine Go.st (fun _ kq_ => XS.ifNo X2.here hx rfl (hb hby dq3_11) rfl (by decide) kq_) ?_
      show Go p e below s _ _ _ (T2.setTop (mkF m 14 #[.val (.ref x), .val (.ref y), .unset] []))
      refine Go.st (fun _ kq_ => XS.aloadN X2.here hx rfl (hb hby dq3_14) rfl rfl kq_) ?_
      show Go p e below s _ _ _ (T2.setTop (mkF m 15 #[.val (.ref x), .val (.ref y), .unset] [(.ref y)]))
      obtain ⟨T3, X3, e3, st3⟩ := castY X2 hx hZ hown (own_w hw 24 rfl) e2 (Ins.self E_y) (g := (mkF m 15 #[.val (.ref x), .val (.ref y), .unset] [(.ref y)])) rfl rfl (hb hby dq3_15)
      refine Go.st st3 ?_
      show Go p e below s _ _ _ (T3.setTop (mkF m 18 #[.val (.ref x), .val (.ref y), .unset] [(.ref y)]))
      refine Go.st (fun _ kq_ => XS.astoreN X3.here hx rfl (hb hby dq3_18) rfl rfl (l' := #[.val (.ref x), .val (.ref y), .val (.ref y)]) rfl kq_) ?_
      show Go p e below s _ _ _ (T3.setTop (mkF m 19 #[.val (.ref x), .val (.ref y), .val (.ref y)] []))
      obtain ⟨T4, X4, e4, st4⟩ := getS X3 hx hZ hown (host := "") (own_w hw 26 rfl) Via.refl e3 (SC.ext O0.2) (g := (mkF m 19 #[.val (.ref x), .val (.ref y), .val (.ref y)] [])) rfl (hb hby dq3_19)
      refine Go.st st4 ?_
      show Go p e below s _ _ _ (T4.setTop (mkF m 22 #[.val (.ref x), .val (.ref y), .val (.ref y)] [(.int zc)]))
      refine Go.st (fun _ kq_ => XS.ifNo X4.here hx rfl (hb hby dq3_22) rfl (XT.i0_eq_f hcs) kq_) ?_
      show Go p e below s _ _ _ (T4.setTop (mkF m 25 #[.val (.ref x), .val (.ref y), .val (.ref y)] []))
      refine Go.st (fun _ kq_ => XS.aloadN X4.here hx rfl (hb hby dq3_25) rfl rfl kq_) ?_
      show Go p e below s _ _ _ (T4.setTop (mkF m 26 #[.val (.ref x), .val (.ref y), .val (.ref y)] [(.ref x)]))
      obtain ⟨T5, X5, e5, st5⟩ := getF X4 hx hZ hown (host := "") (Or.inl (own_w hw 27 rfl)) Via.refl e4 F_x_coder (g := (mkF m 26 #[.val (.ref x), .val (.ref y), .val (.ref y)] [(.ref x)])) rfl rfl (hb hby dq3_26)
      refine Go.st st5 ?_
      show Go p e below s _ _ _ (T5.setTop (mkF m 29 #[.val (.ref x), .val (.ref y), .val (.ref y)] [(.int (0 : Int32))]))
      refine Go.st (fun _ kq_ => XS.aloadN X5.here hx rfl (hb hby dq3_29) rfl rfl kq_) ?_
      show Go p e below s _ _ _ (T5.setTop (mkF m 30 #[.val (.ref x), .val (.ref y), .val (.ref y)] [(.ref y), (.int (0 : Int32))]))
      obtain ⟨T6, X6, e6, st6⟩ := getF X5 hx hZ hown (host := "") (Or.inl (own_w hw 27 rfl)) Via.refl e5 F_y_coder (g := (mkF m 30 #[.val (.ref x), .val (.ref y), .val (.ref y)] [(.ref y), (.int (0 : Int32))])) rfl rfl (hb hby dq3_30)
      refine Go.st st6 ?_
      show Go p e below s _ _ _ (T6.setTop (mkF m 33 #[.val (.ref x), .val (.ref y), .val (.ref y)] [(.int (0 : Int32)), (.int (0 : Int32))]))
      refine Go.st (fun _ kq_ => XS.icmpNo X6.here hx rfl (hb hby dq3_33) rfl (by decide) kq_) ?_
      show Go p e below s _ _ _ (T6.setTop (mkF m 36 #[.val (.ref x), .val (.ref y), .val (.ref y)] []))
      refine Go.st (fun _ kq_ => XS.aloadN X6.here hx rfl (hb hby dq3_36) rfl rfl kq_) ?_
      show Go p e below s _ _ _ (T6.setTop (mkF m 37 #[.val (.ref x), .val (.ref y), .val (.ref y)] [(.ref x)]))
      obtain ⟨T7, X7, e7, st7⟩ := getF X6 hx hZ hown (host := "") (Or.inl (own_w hw 28 rfl)) Via.refl e6 F_x_value (g := (mkF m 37 #[.val (.ref x), .val (.ref y), .val (.ref y)] [(.ref x)])) rfl rfl (hb hby dq3_37)
      refine Go.st st7 ?_
      show Go p e below s _ _ _ (T7.setTop (mkF m 40 #[.val (.ref x), .val (.ref y), .val (.ref y)] [(.ref a)]))
      refine Go.st (fun _ kq_ => XS.aloadN X7.here hx rfl (hb hby dq3_40) rfl rfl kq_) ?_
      show Go p e below s _ _ _ (T7.setTop (mkF m 41 #[.val (.ref x), .val (.ref y), .val (.ref y)] [(.ref y), (.ref a)]))
      obtain ⟨T8, X8, e8, st8⟩ := getF X7 hx hZ hown (host := "") (Or.inl (own_w hw 28 rfl)) Via.refl e7 F_y_value (g := (mkF m 41 #[.val (.ref x), .val (.ref y), .val (.ref y)] [(.ref y), (.ref a)])) rfl rfl (hb hby dq3_41)
      refine Go.st st8 ?_
      show Go p e below s _ _ _ (T8.setTop (mkF m 44 #[.val (.ref x), .val (.ref y), .val (.ref y)] [(.ref b), (.ref a)]))
      obtain ⟨_, _, ⟨T9, L9, k9, n9⟩, -, X9, ⟨Lc9, hQ9, l9, y9, z9⟩, st9⟩ := Jvm.LawKit.callS X8 hx (y := (⟨"java/lang/StringLatin1", "equals", "([B[B)Z"⟩ : MethodName)) hown (mvT hZ (own_w hw 29 rfl)) (mvT hZ (own_w hw 30 rfl)) (mvT hZ (own_w hw 31 rfl)) (mvT hZ (own_w hw 32 rfl)) (by decide) (backOf (W := 0) (rmq3l l Z a0 hw [] a ka b kb h0 n0 O0 V_a V_b) hZ (own_w hw 32 rfl) (own_w hw 31 rfl) (by decide) (by decide)) (g := (mkF m 44 #[.val (.ref x), .val (.ref y), .val (.ref y)] [(.ref b), (.ref a)])) rfl (by rw [hml]; rfl) (argsL := [(.ref a), (.ref b)]) (rest := []) (lenOf pdq3_0 rfl) rfl (by show 2 * 0 + _ ≤ _; exact Nat.le_of_eq rfl) (hb hby dq3_44) (fun _ _ => ⟨rfl, e8, (by decide : 0 + 0 ≤ _), (by decide : 0 + 0 ≤ _)⟩)
      dsimp only [Pt.U, Pt.locs, Pt.cells, Pt.slots] at X9 l9 y9 z9 st9 hQ9
      subst y9 z9
      obtain ⟨rfl, Nc9, e9⟩ := hQ9
      have N9 : Fr n0 L9 := by rw [l9]; exact Fr.app N0 Nc9
      refine Go.st st9 ?_
      show Go p e below s _ _ _ (T9.setTop (mkF m 47 #[.val (.ref x), .val (.ref y), .val (.ref y)] [(.int (1 : Int32))]))
      refine Go.st (fun _ kq_ => XS.ifNo X9.here hx rfl (hb hby dq3_47) rfl (by decide) kq_) ?_
      show Go p e below s _ _ _ (T9.setTop (mkF m 50 #[.val (.ref x), .val (.ref y), .val (.ref y)] []))
      refine Go.st (fun _ kq_ => XS.iconst X9.here hx rfl (hb hby dq3_50) kq_) ?_
      show Go p e below s _ _ _ (T9.setTop (mkF m 51 #[.val (.ref x), .val (.ref y), .val (.ref y)] [(.int (1 : Int32))]))
      refine Go.st (fun _ kq_ => XS.goto X9.here hx rfl (pc0 := 51) (pc' := 55) rfl (hb hby dq3_51) (by decide) (by decide) kq_) ?_
      show Go p e below s _ _ _ (T9.setTop (mkF m 55 #[.val (.ref x), .val (.ref y), .val (.ref y)] [(.int (1 : Int32))]))
      exact Go.ret X9 hlk (some (.int (nar .boolean (1 : Int32)))) (fun h => by rw [Bd.returns] at h; cases h) (by rw [e9]; exact ⟨rfl, N9, rfl⟩) (by decide) (by decide) (fun fs hr => retN X9 hx (t := .boolean) Bd.returns (by simp) (hb hby dq3_55) hr)
  obtain ⟨s2, o2, st2, r2⟩ := G
  exact ⟨s2, o2, castTop (efq3 m x y) st2, r2⟩
theorem dq4l_0 : decode jdk_43_method_13_code 0 = .ok (.aload_n 0, 1) := by decide +kernel
theorem dq4l_1 : decode jdk_43_method_13_code 1 = .ok (.arraylength, 1) := by decide +kernel
theorem dq4l_2 : decode jdk_43_method_13_code 2 = .ok (.aload_n 1, 1) := by decide +kernel
theorem dq4l_3 : decode jdk_43_method_13_code 3 = .ok (.arraylength, 1) := by decide +kernel
theorem dq4l_4 : decode jdk_43_method_13_code 4 = .ok (.if_icmp .ne 30, 3) := by decide +kernel
theorem dq4l_7 : decode jdk_43_method_13_code 7 = .ok (.iconst 0, 1) := by decide +kernel
theorem dq4l_8 : decode jdk_43_method_13_code 8 = .ok (.istore_n 2, 1) := by decide +kernel
theorem dq4l_9 : decode jdk_43_method_13_code 9 = .ok (.iload_n 2, 1) := by decide +kernel
theorem dq4l_10 : decode jdk_43_method_13_code 10 = .ok (.aload_n 0, 1) := by decide +kernel
theorem dq4l_11 : decode jdk_43_method_13_code 11 = .ok (.arraylength, 1) := by decide +kernel
theorem dq4l_12 : decode jdk_43_method_13_code 12 = .ok (.if_icmp .ge 20, 3) := by decide +kernel
theorem dq4l_15 : decode jdk_43_method_13_code 15 = .ok (.aload_n 0, 1) := by decide +kernel
theorem dq4l_16 : decode jdk_43_method_13_code 16 = .ok (.iload_n 2, 1) := by decide +kernel
theorem dq4l_17 : decode jdk_43_method_13_code 17 = .ok (.baload, 1) := by decide +kernel
theorem dq4l_18 : decode jdk_43_method_13_code 18 = .ok (.aload_n 1, 1) := by decide +kernel
theorem dq4l_19 : decode jdk_43_method_13_code 19 = .ok (.iload_n 2, 1) := by decide +kernel
theorem dq4l_20 : decode jdk_43_method_13_code 20 = .ok (.baload, 1) := by decide +kernel
theorem dq4l_21 : decode jdk_43_method_13_code 21 = .ok (.if_icmp .eq 5, 3) := by decide +kernel
theorem dq4l_26 : decode jdk_43_method_13_code 26 = .ok (.iinc 2 1, 3) := by decide +kernel
theorem dq4l_29 : decode jdk_43_method_13_code 29 = .ok (.goto (-20), 3) := by decide +kernel
theorem dq4l_32 : decode jdk_43_method_13_code 32 = .ok (.iconst 1, 1) := by decide +kernel
theorem dq4l_33 : decode jdk_43_method_13_code 33 = .ok (.ireturn, 1) := by decide +kernel
theorem pnq4l : plainName "java/lang/StringLatin1" = true := by first | (simp [plainName, overriddenIn]; done) | decide +kernel
theorem efq4l (m : MethodId) (x0 : Addr) (x1 : Addr) : entryFrame m #[(.ref x0), (.ref x1)] 3 = mkF m 0 #[.val (.ref x0), .val (.ref x1), .unset] [] := by first | (simp [entryFrame, mkF, argsToLocals, Value.category, maxLocals]; done) | rfl
def Qq4l (Z : State) (a : Addr) (ka : ClassId) (b : Addr) (kb : ClassId) (h0 : Heap) (n0 : Nat) (v : Option Value) (h : Heap) (L : List Loc) : Prop := v = some (.int (1 : Int32)) ∧ Fr n0 L ∧ h = h0
set_option maxRecDepth 65536 in
set_option maxHeartbeats 40000000 in
theorem rmq4l (l : Launch) (Z : State) (a0 : Array Value) (hw : ∀ d ∈ tables_1, d.before a0 Z = true) (ws : List Jvm.Cond) (a : Addr) (ka : ClassId) (b : Addr) (kb : ClassId) (h0 : Heap) (n0 : Nat) (O0 : Old Z n0 h0) (V_a : Arv Z h0 a ka .byte (7 : Int32) [(.int (98 : Int32)), (.int (111 : Int32)), (.int (111 : Int32)), (.int (108 : Int32)), (.int (101 : Int32)), (.int (97 : Int32)), (.int (110 : Int32))] (.int (0 : Int32))) (V_b : Arv Z h0 b kb .byte (7 : Int32) [(.int (98 : Int32)), (.int (111 : Int32)), (.int (111 : Int32)), (.int (108 : Int32)), (.int (101 : Int32)), (.int (97 : Int32)), (.int (110 : Int32))] (.int (0 : Int32))) :
    MetFree l (⟨"java/lang/StringLatin1", "equals", "([B[B)Z"⟩ : MethodName) (head1 (Jvm.Cond.code (⟨"java/lang/StringLatin1", "equals", "([B[B)Z"⟩ : MethodName) jdk_43_method_13_code 3 (some .boolean) :: ws) ({ frames := 0, cells := 0, slots := 0, locals := 0 } : Room)) (fun A_ U_ => A_ = #[(.ref a), (.ref b)] ∧ Z.Warmed39 U_.vm ∧ U_.heap = h0) (fun _ _ _ _ _ => True) (fun _ U o U' => ∃ v L, o = .returned v ∧ Qq4l Z a ka b kb h0 n0 v U'.heap L ∧ FrameEnd U o U' L ({ frames := 0, cells := 0, slots := 0, locals := 0 } : Room).cells ({ frames := 0, cells := 0, slots := 0, locals := 0 } : Room).slots) := by
  refine MetFree.of_bodySF (plainFor_of_name pnq4l) hisR ?_
  intro p e s m args below meth cd s₁ Bd hml0 hP hK
  obtain ⟨rfl, hZ, hh⟩ := hP
  have hx := Bd.exec
  have hby := Bd.bytes
  have hlk : meth.locks = false := BodyLoose.notSynchronized Bd
  have hml : cd.maxLocals = 3 := hml0
  have hown : s.vm.findClass "java/lang/StringLatin1" = some m.cls := findClass_of_methodNamed Bd.named
  have hnm := (name_of_methodNamed Bd.named Bd.method).1
  have X0 : Stand p l e ({ frames := 0, cells := 0, slots := 0, locals := 0 } : Room) s m #[(.ref a), (.ref b)] below meth cd s₁ [] 0 0 := Stand.of_body Bd
  have e0 : s₁.heap = h0 := by rw [← hh, Bd.state]; rfl
  have N0 := Fr.nil n0
  have G : Go p e below s 0 0 (Qq4l Z a ka b kb h0 n0) (s₁.setTop (mkF m 0 #[.val (.ref a), .val (.ref b), .unset] [])) := by
    show Go p e below s _ _ _ (s₁.setTop (mkF m 0 #[.val (.ref a), .val (.ref b), .unset] []))
    refine Go.st (fun _ kq_ => XS.aloadN X0.here hx rfl (hb hby dq4l_0) rfl rfl kq_) ?_
    show Go p e below s _ _ _ (s₁.setTop (mkF m 1 #[.val (.ref a), .val (.ref b), .unset] [(.ref a)]))
    refine Go.st (fun _ kq_ => own_len X0 hx hZ e0 V_a (g := (mkF m 1 #[.val (.ref a), .val (.ref b), .unset] [(.ref a)])) rfl rfl (hb hby dq4l_1) _ kq_) ?_
    show Go p e below s _ _ _ (s₁.setTop (mkF m 2 #[.val (.ref a), .val (.ref b), .unset] [(.int (7 : Int32))]))
    refine Go.st (fun _ kq_ => XS.aloadN X0.here hx rfl (hb hby dq4l_2) rfl rfl kq_) ?_
    show Go p e below s _ _ _ (s₁.setTop (mkF m 3 #[.val (.ref a), .val (.ref b), .unset] [(.ref b), (.int (7 : Int32))]))
    refine Go.st (fun _ kq_ => own_len X0 hx hZ e0 V_b (g := (mkF m 3 #[.val (.ref a), .val (.ref b), .unset] [(.ref b), (.int (7 : Int32))])) rfl rfl (hb hby dq4l_3) _ kq_) ?_
    show Go p e below s _ _ _ (s₁.setTop (mkF m 4 #[.val (.ref a), .val (.ref b), .unset] [(.int (7 : Int32)), (.int (7 : Int32))]))
    refine Go.st (fun _ kq_ => XS.icmpNo X0.here hx rfl (hb hby dq4l_4) rfl (by decide) kq_) ?_
    show Go p e below s _ _ _ (s₁.setTop (mkF m 7 #[.val (.ref a), .val (.ref b), .unset] []))
    refine Go.st (fun _ kq_ => XS.iconst X0.here hx rfl (hb hby dq4l_7) kq_) ?_
    show Go p e below s _ _ _ (s₁.setTop (mkF m 8 #[.val (.ref a), .val (.ref b), .unset] [(.int (0 : Int32))]))
    refine Go.st (fun _ kq_ => XS.istoreN X0.here hx rfl (hb hby dq4l_8) rfl (l' := #[.val (.ref a), .val (.ref b), .val (.int (0 : Int32))]) rfl kq_) ?_
    show Go p e below s _ _ _ (s₁.setTop (mkF m 9 #[.val (.ref a), .val (.ref b), .val (.int (0 : Int32))] []))
    refine Go.st (fun _ kq_ => XS.iloadN X0.here hx rfl (hb hby dq4l_9) rfl kq_) ?_
    show Go p e below s _ _ _ (s₁.setTop (mkF m 10 #[.val (.ref a), .val (.ref b), .val (.int (0 : Int32))] [(.int (0 : Int32))]))
    refine Go.st (fun _ kq_ => XS.aloadN X0.here hx rfl (hb hby dq4l_10) rfl rfl kq_) ?_
    show Go p e below s _ _ _ (s₁.setTop (mkF m 11 #[.val (.ref a), .val (.ref b), .val (.int (0 : Int32))] [(.ref a), (.int (0 : Int32))]))
    refine Go.st (fun _ kq_ => own_len X0 hx hZ e0 V_a (g := (mkF m 11 #[.val (.ref a), .val (.ref b), .val (.int (0 : Int32))] [(.ref a), (.int (0 : Int32))])) rfl rfl (hb hby dq4l_11) _ kq_) ?_
    show Go p e below s _ _ _ (s₁.setTop (mkF m 12 #[.val (.ref a), .val (.ref b), .val (.int (0 : Int32))] [(.int (7 : Int32)), (.int (0 : Int32))]))
    refine Go.st (fun _ kq_ => XS.icmpNo X0.here hx rfl (hb hby dq4l_12) rfl (by decide) kq_) ?_
    show Go p e below s _ _ _ (s₁.setTop (mkF m 15 #[.val (.ref a), .val (.ref b), .val (.int (0 : Int32))] []))
    refine Go.st (fun _ kq_ => XS.aloadN X0.here hx rfl (hb hby dq4l_15) rfl rfl kq_) ?_
    show Go p e below s _ _ _ (s₁.setTop (mkF m 16 #[.val (.ref a), .val (.ref b), .val (.int (0 : Int32))] [(.ref a)]))
    refine Go.st (fun _ kq_ => XS.iloadN X0.here hx rfl (hb hby dq4l_16) rfl kq_) ?_
    show Go p e below s _ _ _ (s₁.setTop (mkF m 17 #[.val (.ref a), .val (.ref b), .val (.int (0 : Int32))] [(.int (0 : Int32)), (.ref a)]))
    refine Go.st (fun _ kq_ => own_baloadB X0 hx hZ e0 V_a (by decide) (by decide) (v := (.int (98 : Int32))) rfl (g := (mkF m 17 #[.val (.ref a), .val (.ref b), .val (.int (0 : Int32))] [(.int (0 : Int32)), (.ref a)])) rfl rfl (hb hby dq4l_17) _ kq_) ?_
    show Go p e below s _ _ _ (s₁.setTop (mkF m 18 #[.val (.ref a), .val (.ref b), .val (.int (0 : Int32))] [(.int (98 : Int32))]))
    refine Go.st (fun _ kq_ => XS.aloadN X0.here hx rfl (hb hby dq4l_18) rfl rfl kq_) ?_
    show Go p e below s _ _ _ (s₁.setTop (mkF m 19 #[.val (.ref a), .val (.ref b), .val (.int (0 : Int32))] [(.ref b), (.int (98 : Int32))]))
    refine Go.st (fun _ kq_ => XS.iloadN X0.here hx rfl (hb hby dq4l_19) rfl kq_) ?_
    show Go p e below s _ _ _ (s₁.setTop (mkF m 20 #[.val (.ref a), .val (.ref b), .val (.int (0 : Int32))] [(.int (0 : Int32)), (.ref b), (.int (98 : Int32))]))
    refine Go.st (fun _ kq_ => own_baloadB X0 hx hZ e0 V_b (by decide) (by decide) (v := (.int (98 : Int32))) rfl (g := (mkF m 20 #[.val (.ref a), .val (.ref b), .val (.int (0 : Int32))] [(.int (0 : Int32)), (.ref b), (.int (98 : Int32))])) rfl rfl (hb hby dq4l_20) _ kq_) ?_
    show Go p e below s _ _ _ (s₁.setTop (mkF m 21 #[.val (.ref a), .val (.ref b), .val (.int (0 : Int32))] [(.int (98 : Int32)), (.int (98 : Int32))]))
    refine Go.st (fun _ kq_ => XS.icmpYes X0.here hx rfl (pc0 := 21) (pc' := 26) rfl (hb hby dq4l_21) rfl (by decide) (by decide) (by decide) kq_) ?_
    show Go p e below s _ _ _ (s₁.setTop (mkF m 26 #[.val (.ref a), .val (.ref b), .val (.int (0 : Int32))] []))
    refine Go.st (fun _ kq_ => XT.iincV X0.here hx rfl (1 : Int32) (hb hby dq4l_26) rfl rfl (l' := #[.val (.ref a), .val (.ref b), .val (.int (1 : Int32))]) rfl kq_) ?_
    show Go p e below s _ _ _ (s₁.setTop (mkF m 29 #[.val (.ref a), .val (.ref b), .val (.int (1 : Int32))] []))
    refine Go.st (fun _ kq_ => XS.goto X0.here hx rfl (pc0 := 29) (pc' := 9) rfl (hb hby dq4l_29) (by decide) (by decide) kq_) ?_
    show Go p e below s _ _ _ (s₁.setTop (mkF m 9 #[.val (.ref a), .val (.ref b), .val (.int (1 : Int32))] []))
    refine Go.st (fun _ kq_ => XS.iloadN X0.here hx rfl (hb hby dq4l_9) rfl kq_) ?_
    show Go p e below s _ _ _ (s₁.setTop (mkF m 10 #[.val (.ref a), .val (.ref b), .val (.int (1 : Int32))] [(.int (1 : Int32))]))
    refine Go.st (fun _ kq_ => XS.aloadN X0.here hx rfl (hb hby dq4l_10) rfl rfl kq_) ?_
    show Go p e below s _ _ _ (s₁.setTop (mkF m 11 #[.val (.ref a), .val (.ref b), .val (.int (1 : Int32))] [(.ref a), (.int (1 : Int32))]))
    refine Go.st (fun _ kq_ => own_len X0 hx hZ e0 V_a (g := (mkF m 11 #[.val (.ref a), .val (.ref b), .val (.int (1 : Int32))] [(.ref a), (.int (1 : Int32))])) rfl rfl (hb hby dq4l_11) _ kq_) ?_
    show Go p e below s _ _ _ (s₁.setTop (mkF m 12 #[.val (.ref a), .val (.ref b), .val (.int (1 : Int32))] [(.int (7 : Int32)), (.int (1 : Int32))]))
    refine Go.st (fun _ kq_ => XS.icmpNo X0.here hx rfl (hb hby dq4l_12) rfl (by decide) kq_) ?_
    show Go p e below s _ _ _ (s₁.setTop (mkF m 15 #[.val (.ref a), .val (.ref b), .val (.int (1 : Int32))] []))
    refine Go.st (fun _ kq_ => XS.aloadN X0.here hx rfl (hb hby dq4l_15) rfl rfl kq_) ?_
    show Go p e below s _ _ _ (s₁.setTop (mkF m 16 #[.val (.ref a), .val (.ref b), .val (.int (1 : Int32))] [(.ref a)]))
    refine Go.st (fun _ kq_ => XS.iloadN X0.here hx rfl (hb hby dq4l_16) rfl kq_) ?_
    show Go p e below s _ _ _ (s₁.setTop (mkF m 17 #[.val (.ref a), .val (.ref b), .val (.int (1 : Int32))] [(.int (1 : Int32)), (.ref a)]))
    refine Go.st (fun _ kq_ => own_baloadB X0 hx hZ e0 V_a (by decide) (by decide) (v := (.int (111 : Int32))) rfl (g := (mkF m 17 #[.val (.ref a), .val (.ref b), .val (.int (1 : Int32))] [(.int (1 : Int32)), (.ref a)])) rfl rfl (hb hby dq4l_17) _ kq_) ?_
    show Go p e below s _ _ _ (s₁.setTop (mkF m 18 #[.val (.ref a), .val (.ref b), .val (.int (1 : Int32))] [(.int (111 : Int32))]))
    refine Go.st (fun _ kq_ => XS.aloadN X0.here hx rfl (hb hby dq4l_18) rfl rfl kq_) ?_
    show Go p e below s _ _ _ (s₁.setTop (mkF m 19 #[.val (.ref a), .val (.ref b), .val (.int (1 : Int32))] [(.ref b), (.int (111 : Int32))]))
    refine Go.st (fun _ kq_ => XS.iloadN X0.here hx rfl (hb hby dq4l_19) rfl kq_) ?_
    show Go p e below s _ _ _ (s₁.setTop (mkF m 20 #[.val (.ref a), .val (.ref b), .val (.int (1 : Int32))] [(.int (1 : Int32)), (.ref b), (.int (111 : Int32))]))
    refine Go.st (fun _ kq_ => own_baloadB X0 hx hZ e0 V_b (by decide) (by decide) (v := (.int (111 : Int32))) rfl (g := (mkF m 20 #[.val (.ref a), .val (.ref b), .val (.int (1 : Int32))] [(.int (1 : Int32)), (.ref b), (.int (111 : Int32))])) rfl rfl (hb hby dq4l_20) _ kq_) ?_
    show Go p e below s _ _ _ (s₁.setTop (mkF m 21 #[.val (.ref a), .val (.ref b), .val (.int (1 : Int32))] [(.int (111 : Int32)), (.int (111 : Int32))]))
    refine Go.st (fun _ kq_ => XS.icmpYes X0.here hx rfl (pc0 := 21) (pc' := 26) rfl (hb hby dq4l_21) rfl (by decide) (by decide) (by decide) kq_) ?_
    show Go p e below s _ _ _ (s₁.setTop (mkF m 26 #[.val (.ref a), .val (.ref b), .val (.int (1 : Int32))] []))
    refine Go.st (fun _ kq_ => XT.iincV X0.here hx rfl (1 : Int32) (hb hby dq4l_26) rfl rfl (l' := #[.val (.ref a), .val (.ref b), .val (.int (2 : Int32))]) rfl kq_) ?_
    show Go p e below s _ _ _ (s₁.setTop (mkF m 29 #[.val (.ref a), .val (.ref b), .val (.int (2 : Int32))] []))
    refine Go.st (fun _ kq_ => XS.goto X0.here hx rfl (pc0 := 29) (pc' := 9) rfl (hb hby dq4l_29) (by decide) (by decide) kq_) ?_
    show Go p e below s _ _ _ (s₁.setTop (mkF m 9 #[.val (.ref a), .val (.ref b), .val (.int (2 : Int32))] []))
    refine Go.st (fun _ kq_ => XS.iloadN X0.here hx rfl (hb hby dq4l_9) rfl kq_) ?_
    show Go p e below s _ _ _ (s₁.setTop (mkF m 10 #[.val (.ref a), .val (.ref b), .val (.int (2 : Int32))] [(.int (2 : Int32))]))
    refine Go.st (fun _ kq_ => XS.aloadN X0.here hx rfl (hb hby dq4l_10) rfl rfl kq_) ?_
    show Go p e below s _ _ _ (s₁.setTop (mkF m 11 #[.val (.ref a), .val (.ref b), .val (.int (2 : Int32))] [(.ref a), (.int (2 : Int32))]))
    refine Go.st (fun _ kq_ => own_len X0 hx hZ e0 V_a (g := (mkF m 11 #[.val (.ref a), .val (.ref b), .val (.int (2 : Int32))] [(.ref a), (.int (2 : Int32))])) rfl rfl (hb hby dq4l_11) _ kq_) ?_
    show Go p e below s _ _ _ (s₁.setTop (mkF m 12 #[.val (.ref a), .val (.ref b), .val (.int (2 : Int32))] [(.int (7 : Int32)), (.int (2 : Int32))]))
    refine Go.st (fun _ kq_ => XS.icmpNo X0.here hx rfl (hb hby dq4l_12) rfl (by decide) kq_) ?_
    show Go p e below s _ _ _ (s₁.setTop (mkF m 15 #[.val (.ref a), .val (.ref b), .val (.int (2 : Int32))] []))
    refine Go.st (fun _ kq_ => XS.aloadN X0.here hx rfl (hb hby dq4l_15) rfl rfl kq_) ?_
    show Go p e below s _ _ _ (s₁.setTop (mkF m 16 #[.val (.ref a), .val (.ref b), .val (.int (2 : Int32))] [(.ref a)]))
    refine Go.st (fun _ kq_ => XS.iloadN X0.here hx rfl (hb hby dq4l_16) rfl kq_) ?_
    show Go p e below s _ _ _ (s₁.setTop (mkF m 17 #[.val (.ref a), .val (.ref b), .val (.int (2 : Int32))] [(.int (2 : Int32)), (.ref a)]))
    refine Go.st (fun _ kq_ => own_baloadB X0 hx hZ e0 V_a (by decide) (by decide) (v := (.int (111 : Int32))) rfl (g := (mkF m 17 #[.val (.ref a), .val (.ref b), .val (.int (2 : Int32))] [(.int (2 : Int32)), (.ref a)])) rfl rfl (hb hby dq4l_17) _ kq_) ?_
    show Go p e below s _ _ _ (s₁.setTop (mkF m 18 #[.val (.ref a), .val (.ref b), .val (.int (2 : Int32))] [(.int (111 : Int32))]))
    refine Go.st (fun _ kq_ => XS.aloadN X0.here hx rfl (hb hby dq4l_18) rfl rfl kq_) ?_
    show Go p e below s _ _ _ (s₁.setTop (mkF m 19 #[.val (.ref a), .val (.ref b), .val (.int (2 : Int32))] [(.ref b), (.int (111 : Int32))]))
    refine Go.st (fun _ kq_ => XS.iloadN X0.here hx rfl (hb hby dq4l_19) rfl kq_) ?_
    show Go p e below s _ _ _ (s₁.setTop (mkF m 20 #[.val (.ref a), .val (.ref b), .val (.int (2 : Int32))] [(.int (2 : Int32)), (.ref b), (.int (111 : Int32))]))
    refine Go.st (fun _ kq_ => own_baloadB X0 hx hZ e0 V_b (by decide) (by decide) (v := (.int (111 : Int32))) rfl (g := (mkF m 20 #[.val (.ref a), .val (.ref b), .val (.int (2 : Int32))] [(.int (2 : Int32)), (.ref b), (.int (111 : Int32))])) rfl rfl (hb hby dq4l_20) _ kq_) ?_
    show Go p e below s _ _ _ (s₁.setTop (mkF m 21 #[.val (.ref a), .val (.ref b), .val (.int (2 : Int32))] [(.int (111 : Int32)), (.int (111 : Int32))]))
    refine Go.st (fun _ kq_ => XS.icmpYes X0.here hx rfl (pc0 := 21) (pc' := 26) rfl (hb hby dq4l_21) rfl (by decide) (by decide) (by decide) kq_) ?_
    show Go p e below s _ _ _ (s₁.setTop (mkF m 26 #[.val (.ref a), .val (.ref b), .val (.int (2 : Int32))] []))
    refine Go.st (fun _ kq_ => XT.iincV X0.here hx rfl (1 : Int32) (hb hby dq4l_26) rfl rfl (l' := #[.val (.ref a), .val (.ref b), .val (.int (3 : Int32))]) rfl kq_) ?_
    show Go p e below s _ _ _ (s₁.setTop (mkF m 29 #[.val (.ref a), .val (.ref b), .val (.int (3 : Int32))] []))
    refine Go.st (fun _ kq_ => XS.goto X0.here hx rfl (pc0 := 29) (pc' := 9) rfl (hb hby dq4l_29) (by decide) (by decide) kq_) ?_
    show Go p e below s _ _ _ (s₁.setTop (mkF m 9 #[.val (.ref a), .val (.ref b), .val (.int (3 : Int32))] []))
    refine Go.st (fun _ kq_ => XS.iloadN X0.here hx rfl (hb hby dq4l_9) rfl kq_) ?_
    show Go p e below s _ _ _ (s₁.setTop (mkF m 10 #[.val (.ref a), .val (.ref b), .val (.int (3 : Int32))] [(.int (3 : Int32))]))
    refine Go.st (fun _ kq_ => XS.aloadN X0.here hx rfl (hb hby dq4l_10) rfl rfl kq_) ?_
    show Go p e below s _ _ _ (s₁.setTop (mkF m 11 #[.val (.ref a), .val (.ref b), .val (.int (3 : Int32))] [(.ref a), (.int (3 : Int32))]))
    refine Go.st (fun _ kq_ => own_len X0 hx hZ e0 V_a (g := (mkF m 11 #[.val (.ref a), .val (.ref b), .val (.int (3 : Int32))] [(.ref a), (.int (3 : Int32))])) rfl rfl (hb hby dq4l_11) _ kq_) ?_
    show Go p e below s _ _ _ (s₁.setTop (mkF m 12 #[.val (.ref a), .val (.ref b), .val (.int (3 : Int32))] [(.int (7 : Int32)), (.int (3 : Int32))]))
    refine Go.st (fun _ kq_ => XS.icmpNo X0.here hx rfl (hb hby dq4l_12) rfl (by decide) kq_) ?_
    show Go p e below s _ _ _ (s₁.setTop (mkF m 15 #[.val (.ref a), .val (.ref b), .val (.int (3 : Int32))] []))
    refine Go.st (fun _ kq_ => XS.aloadN X0.here hx rfl (hb hby dq4l_15) rfl rfl kq_) ?_
    show Go p e below s _ _ _ (s₁.setTop (mkF m 16 #[.val (.ref a), .val (.ref b), .val (.int (3 : Int32))] [(.ref a)]))
    refine Go.st (fun _ kq_ => XS.iloadN X0.here hx rfl (hb hby dq4l_16) rfl kq_) ?_
    show Go p e below s _ _ _ (s₁.setTop (mkF m 17 #[.val (.ref a), .val (.ref b), .val (.int (3 : Int32))] [(.int (3 : Int32)), (.ref a)]))
    refine Go.st (fun _ kq_ => own_baloadB X0 hx hZ e0 V_a (by decide) (by decide) (v := (.int (108 : Int32))) rfl (g := (mkF m 17 #[.val (.ref a), .val (.ref b), .val (.int (3 : Int32))] [(.int (3 : Int32)), (.ref a)])) rfl rfl (hb hby dq4l_17) _ kq_) ?_
    show Go p e below s _ _ _ (s₁.setTop (mkF m 18 #[.val (.ref a), .val (.ref b), .val (.int (3 : Int32))] [(.int (108 : Int32))]))
    refine Go.st (fun _ kq_ => XS.aloadN X0.here hx rfl (hb hby dq4l_18) rfl rfl kq_) ?_
    show Go p e below s _ _ _ (s₁.setTop (mkF m 19 #[.val (.ref a), .val (.ref b), .val (.int (3 : Int32))] [(.ref b), (.int (108 : Int32))]))
    refine Go.st (fun _ kq_ => XS.iloadN X0.here hx rfl (hb hby dq4l_19) rfl kq_) ?_
    show Go p e below s _ _ _ (s₁.setTop (mkF m 20 #[.val (.ref a), .val (.ref b), .val (.int (3 : Int32))] [(.int (3 : Int32)), (.ref b), (.int (108 : Int32))]))
    refine Go.st (fun _ kq_ => own_baloadB X0 hx hZ e0 V_b (by decide) (by decide) (v := (.int (108 : Int32))) rfl (g := (mkF m 20 #[.val (.ref a), .val (.ref b), .val (.int (3 : Int32))] [(.int (3 : Int32)), (.ref b), (.int (108 : Int32))])) rfl rfl (hb hby dq4l_20) _ kq_) ?_
    show Go p e below s _ _ _ (s₁.setTop (mkF m 21 #[.val (.ref a), .val (.ref b), .val (.int (3 : Int32))] [(.int (108 : Int32)), (.int (108 : Int32))]))
    refine Go.st (fun _ kq_ => XS.icmpYes X0.here hx rfl (pc0 := 21) (pc' := 26) rfl (hb hby dq4l_21) rfl (by decide) (by decide) (by decide) kq_) ?_
    show Go p e below s _ _ _ (s₁.setTop (mkF m 26 #[.val (.ref a), .val (.ref b), .val (.int (3 : Int32))] []))
    refine Go.st (fun _ kq_ => XT.iincV X0.here hx rfl (1 : Int32) (hb hby dq4l_26) rfl rfl (l' := #[.val (.ref a), .val (.ref b), .val (.int (4 : Int32))]) rfl kq_) ?_
    show Go p e below s _ _ _ (s₁.setTop (mkF m 29 #[.val (.ref a), .val (.ref b), .val (.int (4 : Int32))] []))
    refine Go.st (fun _ kq_ => XS.goto X0.here hx rfl (pc0 := 29) (pc' := 9) rfl (hb hby dq4l_29) (by decide) (by decide) kq_) ?_
    show Go p e below s _ _ _ (s₁.setTop (mkF m 9 #[.val (.ref a), .val (.ref b), .val (.int (4 : Int32))] []))
    refine Go.st (fun _ kq_ => XS.iloadN X0.here hx rfl (hb hby dq4l_9) rfl kq_) ?_
    show Go p e below s _ _ _ (s₁.setTop (mkF m 10 #[.val (.ref a), .val (.ref b), .val (.int (4 : Int32))] [(.int (4 : Int32))]))
    refine Go.st (fun _ kq_ => XS.aloadN X0.here hx rfl (hb hby dq4l_10) rfl rfl kq_) ?_
    show Go p e below s _ _ _ (s₁.setTop (mkF m 11 #[.val (.ref a), .val (.ref b), .val (.int (4 : Int32))] [(.ref a), (.int (4 : Int32))]))
    refine Go.st (fun _ kq_ => own_len X0 hx hZ e0 V_a (g := (mkF m 11 #[.val (.ref a), .val (.ref b), .val (.int (4 : Int32))] [(.ref a), (.int (4 : Int32))])) rfl rfl (hb hby dq4l_11) _ kq_) ?_
    show Go p e below s _ _ _ (s₁.setTop (mkF m 12 #[.val (.ref a), .val (.ref b), .val (.int (4 : Int32))] [(.int (7 : Int32)), (.int (4 : Int32))]))
    refine Go.st (fun _ kq_ => XS.icmpNo X0.here hx rfl (hb hby dq4l_12) rfl (by decide) kq_) ?_
    show Go p e below s _ _ _ (s₁.setTop (mkF m 15 #[.val (.ref a), .val (.ref b), .val (.int (4 : Int32))] []))
    refine Go.st (fun _ kq_ => XS.aloadN X0.here hx rfl (hb hby dq4l_15) rfl rfl kq_) ?_
    show Go p e below s _ _ _ (s₁.setTop (mkF m 16 #[.val (.ref a), .val (.ref b), .val (.int (4 : Int32))] [(.ref a)]))
    refine Go.st (fun _ kq_ => XS.iloadN X0.here hx rfl (hb hby dq4l_16) rfl kq_) ?_
    show Go p e below s _ _ _ (s₁.setTop (mkF m 17 #[.val (.ref a), .val (.ref b), .val (.int (4 : Int32))] [(.int (4 : Int32)), (.ref a)]))
    refine Go.st (fun _ kq_ => own_baloadB X0 hx hZ e0 V_a (by decide) (by decide) (v := (.int (101 : Int32))) rfl (g := (mkF m 17 #[.val (.ref a), .val (.ref b), .val (.int (4 : Int32))] [(.int (4 : Int32)), (.ref a)])) rfl rfl (hb hby dq4l_17) _ kq_) ?_
    show Go p e below s _ _ _ (s₁.setTop (mkF m 18 #[.val (.ref a), .val (.ref b), .val (.int (4 : Int32))] [(.int (101 : Int32))]))
    refine Go.st (fun _ kq_ => XS.aloadN X0.here hx rfl (hb hby dq4l_18) rfl rfl kq_) ?_
    show Go p e below s _ _ _ (s₁.setTop (mkF m 19 #[.val (.ref a), .val (.ref b), .val (.int (4 : Int32))] [(.ref b), (.int (101 : Int32))]))
    refine Go.st (fun _ kq_ => XS.iloadN X0.here hx rfl (hb hby dq4l_19) rfl kq_) ?_
    show Go p e below s _ _ _ (s₁.setTop (mkF m 20 #[.val (.ref a), .val (.ref b), .val (.int (4 : Int32))] [(.int (4 : Int32)), (.ref b), (.int (101 : Int32))]))
    refine Go.st (fun _ kq_ => own_baloadB X0 hx hZ e0 V_b (by decide) (by decide) (v := (.int (101 : Int32))) rfl (g := (mkF m 20 #[.val (.ref a), .val (.ref b), .val (.int (4 : Int32))] [(.int (4 : Int32)), (.ref b), (.int (101 : Int32))])) rfl rfl (hb hby dq4l_20) _ kq_) ?_
    show Go p e below s _ _ _ (s₁.setTop (mkF m 21 #[.val (.ref a), .val (.ref b), .val (.int (4 : Int32))] [(.int (101 : Int32)), (.int (101 : Int32))]))
    refine Go.st (fun _ kq_ => XS.icmpYes X0.here hx rfl (pc0 := 21) (pc' := 26) rfl (hb hby dq4l_21) rfl (by decide) (by decide) (by decide) kq_) ?_
    show Go p e below s _ _ _ (s₁.setTop (mkF m 26 #[.val (.ref a), .val (.ref b), .val (.int (4 : Int32))] []))
    refine Go.st (fun _ kq_ => XT.iincV X0.here hx rfl (1 : Int32) (hb hby dq4l_26) rfl rfl (l' := #[.val (.ref a), .val (.ref b), .val (.int (5 : Int32))]) rfl kq_) ?_
    show Go p e below s _ _ _ (s₁.setTop (mkF m 29 #[.val (.ref a), .val (.ref b), .val (.int (5 : Int32))] []))
    refine Go.st (fun _ kq_ => XS.goto X0.here hx rfl (pc0 := 29) (pc' := 9) rfl (hb hby dq4l_29) (by decide) (by decide) kq_) ?_
    show Go p e below s _ _ _ (s₁.setTop (mkF m 9 #[.val (.ref a), .val (.ref b), .val (.int (5 : Int32))] []))
    refine Go.st (fun _ kq_ => XS.iloadN X0.here hx rfl (hb hby dq4l_9) rfl kq_) ?_
    show Go p e below s _ _ _ (s₁.setTop (mkF m 10 #[.val (.ref a), .val (.ref b), .val (.int (5 : Int32))] [(.int (5 : Int32))]))
    refine Go.st (fun _ kq_ => XS.aloadN X0.here hx rfl (hb hby dq4l_10) rfl rfl kq_) ?_
    show Go p e below s _ _ _ (s₁.setTop (mkF m 11 #[.val (.ref a), .val (.ref b), .val (.int (5 : Int32))] [(.ref a), (.int (5 : Int32))]))
    refine Go.st (fun _ kq_ => own_len X0 hx hZ e0 V_a (g := (mkF m 11 #[.val (.ref a), .val (.ref b), .val (.int (5 : Int32))] [(.ref a), (.int (5 : Int32))])) rfl rfl (hb hby dq4l_11) _ kq_) ?_
    show Go p e below s _ _ _ (s₁.setTop (mkF m 12 #[.val (.ref a), .val (.ref b), .val (.int (5 : Int32))] [(.int (7 : Int32)), (.int (5 : Int32))]))
    refine Go.st (fun _ kq_ => XS.icmpNo X0.here hx rfl (hb hby dq4l_12) rfl (by decide) kq_) ?_
    show Go p e below s _ _ _ (s₁.setTop (mkF m 15 #[.val (.ref a), .val (.ref b), .val (.int (5 : Int32))] []))
    refine Go.st (fun _ kq_ => XS.aloadN X0.here hx rfl (hb hby dq4l_15) rfl rfl kq_) ?_
    show Go p e below s _ _ _ (s₁.setTop (mkF m 16 #[.val (.ref a), .val (.ref b), .val (.int (5 : Int32))] [(.ref a)]))
    refine Go.st (fun _ kq_ => XS.iloadN X0.here hx rfl (hb hby dq4l_16) rfl kq_) ?_
    show Go p e below s _ _ _ (s₁.setTop (mkF m 17 #[.val (.ref a), .val (.ref b), .val (.int (5 : Int32))] [(.int (5 : Int32)), (.ref a)]))
    refine Go.st (fun _ kq_ => own_baloadB X0 hx hZ e0 V_a (by decide) (by decide) (v := (.int (97 : Int32))) rfl (g := (mkF m 17 #[.val (.ref a), .val (.ref b), .val (.int (5 : Int32))] [(.int (5 : Int32)), (.ref a)])) rfl rfl (hb hby dq4l_17) _ kq_) ?_
    show Go p e below s _ _ _ (s₁.setTop (mkF m 18 #[.val (.ref a), .val (.ref b), .val (.int (5 : Int32))] [(.int (97 : Int32))]))
    refine Go.st (fun _ kq_ => XS.aloadN X0.here hx rfl (hb hby dq4l_18) rfl rfl kq_) ?_
    show Go p e below s _ _ _ (s₁.setTop (mkF m 19 #[.val (.ref a), .val (.ref b), .val (.int (5 : Int32))] [(.ref b), (.int (97 : Int32))]))
    refine Go.st (fun _ kq_ => XS.iloadN X0.here hx rfl (hb hby dq4l_19) rfl kq_) ?_
    show Go p e below s _ _ _ (s₁.setTop (mkF m 20 #[.val (.ref a), .val (.ref b), .val (.int (5 : Int32))] [(.int (5 : Int32)), (.ref b), (.int (97 : Int32))]))
    refine Go.st (fun _ kq_ => own_baloadB X0 hx hZ e0 V_b (by decide) (by decide) (v := (.int (97 : Int32))) rfl (g := (mkF m 20 #[.val (.ref a), .val (.ref b), .val (.int (5 : Int32))] [(.int (5 : Int32)), (.ref b), (.int (97 : Int32))])) rfl rfl (hb hby dq4l_20) _ kq_) ?_
    show Go p e below s _ _ _ (s₁.setTop (mkF m 21 #[.val (.ref a), .val (.ref b), .val (.int (5 : Int32))] [(.int (97 : Int32)), (.int (97 : Int32))]))
    refine Go.st (fun _ kq_ => XS.icmpYes X0.here hx rfl (pc0 := 21) (pc' := 26) rfl (hb hby dq4l_21) rfl (by decide) (by decide) (by decide) kq_) ?_
    show Go p e below s _ _ _ (s₁.setTop (mkF m 26 #[.val (.ref a), .val (.ref b), .val (.int (5 : Int32))] []))
    refine Go.st (fun _ kq_ => XT.iincV X0.here hx rfl (1 : Int32) (hb hby dq4l_26) rfl rfl (l' := #[.val (.ref a), .val (.ref b), .val (.int (6 : Int32))]) rfl kq_) ?_
    show Go p e below s _ _ _ (s₁.setTop (mkF m 29 #[.val (.ref a), .val (.ref b), .val (.int (6 : Int32))] []))
    refine Go.st (fun _ kq_ => XS.goto X0.here hx rfl (pc0 := 29) (pc' := 9) rfl (hb hby dq4l_29) (by decide) (by decide) kq_) ?_
    show Go p e below s _ _ _ (s₁.setTop (mkF m 9 #[.val (.ref a), .val (.ref b), .val (.int (6 : Int32))] []))
    refine Go.st (fun _ kq_ => XS.iloadN X0.here hx rfl (hb hby dq4l_9) rfl kq_) ?_
    show Go p e below s _ _ _ (s₁.setTop (mkF m 10 #[.val (.ref a), .val (.ref b), .val (.int (6 : Int32))] [(.int (6 : Int32))]))
    refine Go.st (fun _ kq_ => XS.aloadN X0.here hx rfl (hb hby dq4l_10) rfl rfl kq_) ?_
    show Go p e below s _ _ _ (s₁.setTop (mkF m 11 #[.val (.ref a), .val (.ref b), .val (.int (6 : Int32))] [(.ref a), (.int (6 : Int32))]))
    refine Go.st (fun _ kq_ => own_len X0 hx hZ e0 V_a (g := (mkF m 11 #[.val (.ref a), .val (.ref b), .val (.int (6 : Int32))] [(.ref a), (.int (6 : Int32))])) rfl rfl (hb hby dq4l_11) _ kq_) ?_
    show Go p e below s _ _ _ (s₁.setTop (mkF m 12 #[.val (.ref a), .val (.ref b), .val (.int (6 : Int32))] [(.int (7 : Int32)), (.int (6 : Int32))]))
    refine Go.st (fun _ kq_ => XS.icmpNo X0.here hx rfl (hb hby dq4l_12) rfl (by decide) kq_) ?_
    show Go p e below s _ _ _ (s₁.setTop (mkF m 15 #[.val (.ref a), .val (.ref b), .val (.int (6 : Int32))] []))
    refine Go.st (fun _ kq_ => XS.aloadN X0.here hx rfl (hb hby dq4l_15) rfl rfl kq_) ?_
    show Go p e below s _ _ _ (s₁.setTop (mkF m 16 #[.val (.ref a), .val (.ref b), .val (.int (6 : Int32))] [(.ref a)]))
    refine Go.st (fun _ kq_ => XS.iloadN X0.here hx rfl (hb hby dq4l_16) rfl kq_) ?_
    show Go p e below s _ _ _ (s₁.setTop (mkF m 17 #[.val (.ref a), .val (.ref b), .val (.int (6 : Int32))] [(.int (6 : Int32)), (.ref a)]))
    refine Go.st (fun _ kq_ => own_baloadB X0 hx hZ e0 V_a (by decide) (by decide) (v := (.int (110 : Int32))) rfl (g := (mkF m 17 #[.val (.ref a), .val (.ref b), .val (.int (6 : Int32))] [(.int (6 : Int32)), (.ref a)])) rfl rfl (hb hby dq4l_17) _ kq_) ?_
    show Go p e below s _ _ _ (s₁.setTop (mkF m 18 #[.val (.ref a), .val (.ref b), .val (.int (6 : Int32))] [(.int (110 : Int32))]))
    refine Go.st (fun _ kq_ => XS.aloadN X0.here hx rfl (hb hby dq4l_18) rfl rfl kq_) ?_
    show Go p e below s _ _ _ (s₁.setTop (mkF m 19 #[.val (.ref a), .val (.ref b), .val (.int (6 : Int32))] [(.ref b), (.int (110 : Int32))]))
    refine Go.st (fun _ kq_ => XS.iloadN X0.here hx rfl (hb hby dq4l_19) rfl kq_) ?_
    show Go p e below s _ _ _ (s₁.setTop (mkF m 20 #[.val (.ref a), .val (.ref b), .val (.int (6 : Int32))] [(.int (6 : Int32)), (.ref b), (.int (110 : Int32))]))
    refine Go.st (fun _ kq_ => own_baloadB X0 hx hZ e0 V_b (by decide) (by decide) (v := (.int (110 : Int32))) rfl (g := (mkF m 20 #[.val (.ref a), .val (.ref b), .val (.int (6 : Int32))] [(.int (6 : Int32)), (.ref b), (.int (110 : Int32))])) rfl rfl (hb hby dq4l_20) _ kq_) ?_
    show Go p e below s _ _ _ (s₁.setTop (mkF m 21 #[.val (.ref a), .val (.ref b), .val (.int (6 : Int32))] [(.int (110 : Int32)), (.int (110 : Int32))]))
    refine Go.st (fun _ kq_ => XS.icmpYes X0.here hx rfl (pc0 := 21) (pc' := 26) rfl (hb hby dq4l_21) rfl (by decide) (by decide) (by decide) kq_) ?_
    show Go p e below s _ _ _ (s₁.setTop (mkF m 26 #[.val (.ref a), .val (.ref b), .val (.int (6 : Int32))] []))
    refine Go.st (fun _ kq_ => XT.iincV X0.here hx rfl (1 : Int32) (hb hby dq4l_26) rfl rfl (l' := #[.val (.ref a), .val (.ref b), .val (.int (7 : Int32))]) rfl kq_) ?_
    show Go p e below s _ _ _ (s₁.setTop (mkF m 29 #[.val (.ref a), .val (.ref b), .val (.int (7 : Int32))] []))
    refine Go.st (fun _ kq_ => XS.goto X0.here hx rfl (pc0 := 29) (pc' := 9) rfl (hb hby dq4l_29) (by decide) (by decide) kq_) ?_
    show Go p e below s _ _ _ (s₁.setTop (mkF m 9 #[.val (.ref a), .val (.ref b), .val (.int (7 : Int32))] []))
    refine Go.st (fun _ kq_ => XS.iloadN X0.here hx rfl (hb hby dq4l_9) rfl kq_) ?_
    show Go p e below s _ _ _ (s₁.setTop (mkF m 10 #[.val (.ref a), .val (.ref b), .val (.int (7 : Int32))] [(.int (7 : Int32))]))
    refine Go.st (fun _ kq_ => XS.aloadN X0.here hx rfl (hb hby dq4l_10) rfl rfl kq_) ?_
    show Go p e below s _ _ _ (s₁.setTop (mkF m 11 #[.val (.ref a), .val (.ref b), .val (.int (7 : Int32))] [(.ref a), (.int (7 : Int32))]))
    refine Go.st (fun _ kq_ => own_len X0 hx hZ e0 V_a (g := (mkF m 11 #[.val (.ref a), .val (.ref b), .val (.int (7 : Int32))] [(.ref a), (.int (7 : Int32))])) rfl rfl (hb hby dq4l_11) _ kq_) ?_
    show Go p e below s _ _ _ (s₁.setTop (mkF m 12 #[.val (.ref a), .val (.ref b), .val (.int (7 : Int32))] [(.int (7 : Int32)), (.int (7 : Int32))]))
    refine Go.st (fun _ kq_ => XS.icmpYes X0.here hx rfl (pc0 := 12) (pc' := 32) rfl (hb hby dq4l_12) rfl (by decide) (by decide) (by decide) kq_) ?_
    show Go p e below s _ _ _ (s₁.setTop (mkF m 32 #[.val (.ref a), .val (.ref b), .val (.int (7 : Int32))] []))
    refine Go.st (fun _ kq_ => XS.iconst X0.here hx rfl (hb hby dq4l_32) kq_) ?_
    show Go p e below s _ _ _ (s₁.setTop (mkF m 33 #[.val (.ref a), .val (.ref b), .val (.int (7 : Int32))] [(.int (1 : Int32))]))
    exact Go.ret X0 hlk (some (.int (nar .boolean (1 : Int32)))) (fun h => by rw [Bd.returns] at h; cases h) (by rw [e0]; exact ⟨rfl, N0, rfl⟩) (by decide) (by decide) (fun fs hr => retN X0 hx (t := .boolean) Bd.returns (by simp) (hb hby dq4l_33) hr)
  obtain ⟨s2, o2, st2, r2⟩ := G
  exact ⟨s2, o2, castTop (efq4l m a b) st2, r2⟩
theorem dq4_0 : decode jdk_42_method_66_code 0 = .ok (.aload_n 0, 1) := by decide +kernel
theorem dq4_1 : decode jdk_42_method_66_code 1 = .ok (.aload_n 1, 1) := by decide +kernel
theorem dq4_2 : decode jdk_42_method_66_code 2 = .ok (.if_acmp .ne 5, 3) := by decide +kernel
theorem dq4_5 : decode jdk_42_method_66_code 5 = .ok (.iconst 1, 1) := by decide +kernel
theorem dq4_6 : decode jdk_42_method_66_code 6 = .ok (.ireturn, 1) := by decide +kernel
theorem dq4_7 : decode jdk_42_method_66_code 7 = .ok (.aload_n 1, 1) := by decide +kernel
theorem dq4_8 : decode jdk_42_method_66_code 8 = .ok (.instanceof 10, 3) := by decide +kernel
theorem dq4_11 : decode jdk_42_method_66_code 11 = .ok (.ifCond .eq 43, 3) := by decide +kernel
theorem dq4_14 : decode jdk_42_method_66_code 14 = .ok (.aload_n 1, 1) := by decide +kernel
theorem dq4_15 : decode jdk_42_method_66_code 15 = .ok (.checkcast 10, 3) := by decide +kernel
theorem dq4_18 : decode jdk_42_method_66_code 18 = .ok (.astore_n 2, 1) := by decide +kernel
theorem dq4_19 : decode jdk_42_method_66_code 19 = .ok (.getstatic 38, 3) := by decide +kernel
theorem dq4_22 : decode jdk_42_method_66_code 22 = .ok (.ifCond .eq 14, 3) := by decide +kernel
theorem dq4_25 : decode jdk_42_method_66_code 25 = .ok (.aload_n 0, 1) := by decide +kernel
theorem dq4_26 : decode jdk_42_method_66_code 26 = .ok (.getfield 15, 3) := by decide +kernel
theorem dq4_29 : decode jdk_42_method_66_code 29 = .ok (.aload_n 2, 1) := by decide +kernel
theorem dq4_30 : decode jdk_42_method_66_code 30 = .ok (.getfield 15, 3) := by decide +kernel
theorem dq4_33 : decode jdk_42_method_66_code 33 = .ok (.if_icmp .ne 21, 3) := by decide +kernel
theorem dq4_36 : decode jdk_42_method_66_code 36 = .ok (.aload_n 0, 1) := by decide +kernel
theorem dq4_37 : decode jdk_42_method_66_code 37 = .ok (.getfield 9, 3) := by decide +kernel
theorem dq4_40 : decode jdk_42_method_66_code 40 = .ok (.aload_n 2, 1) := by decide +kernel
theorem dq4_41 : decode jdk_42_method_66_code 41 = .ok (.getfield 9, 3) := by decide +kernel
theorem dq4_44 : decode jdk_42_method_66_code 44 = .ok (.invokestatic 541, 3) := by decide +kernel
theorem dq4_47 : decode jdk_42_method_66_code 47 = .ok (.ifCond .eq 7, 3) := by decide +kernel
theorem dq4_50 : decode jdk_42_method_66_code 50 = .ok (.iconst 1, 1) := by decide +kernel
theorem dq4_51 : decode jdk_42_method_66_code 51 = .ok (.goto 4, 3) := by decide +kernel
theorem dq4_55 : decode jdk_42_method_66_code 55 = .ok (.ireturn, 1) := by decide +kernel
theorem pdq4_0 : parseMethodDescriptor "([B[B)Z" = some ⟨[(.array .byte), (.array .byte)], some .boolean⟩ := by decide +kernel
theorem pnq4 : plainName "java/lang/String" = true := by first | (simp [plainName, overriddenIn]; done) | decide +kernel
theorem efq4 (m : MethodId) (x0 : Addr) (x1 : Addr) : entryFrame m #[(.ref x0), (.ref x1)] 3 = mkF m 0 #[.val (.ref x0), .val (.ref x1), .unset] [] := by first | (simp [entryFrame, mkF, argsToLocals, Value.category, maxLocals]; done) | rfl
def Qq4 (Z : State) (x : Addr) (a : Addr) (ka : ClassId) (y : Addr) (b : Addr) (kb : ClassId) (zc : Int32) (h0 : Heap) (n0 : Nat) (v : Option Value) (h : Heap) (L : List Loc) : Prop := v = some (.int (1 : Int32)) ∧ Fr n0 L ∧ h = h0
set_option maxRecDepth 65536 in
set_option maxHeartbeats 40000000 in
theorem rmq4 (l : Launch) (Z : State) (a0 : Array Value) (hw : ∀ d ∈ tables_1, d.before a0 Z = true) (ws : List Jvm.Cond) (x : Addr) (a : Addr) (ka : ClassId) (y : Addr) (b : Addr) (kb : ClassId) (zc : Int32) (h0 : Heap) (n0 : Nat) (O0 : Old Z n0 h0) (E_x : Exa Z h0 x "java/lang/String") (F_x_coder : Fld Z h0 x "java/lang/String" "coder" "B" (.int (0 : Int32))) (F_x_value : Fld Z h0 x "java/lang/String" "value" "[B" (.ref a)) (V_a : Arv Z h0 a ka .byte (7 : Int32) [(.int (98 : Int32)), (.int (111 : Int32)), (.int (111 : Int32)), (.int (108 : Int32)), (.int (101 : Int32)), (.int (97 : Int32)), (.int (110 : Int32))] (.int (0 : Int32))) (E_y : Exa Z h0 y "java/lang/String") (F_y_coder : Fld Z h0 y "java/lang/String" "coder" "B" (.int (0 : Int32))) (F_y_value : Fld Z h0 y "java/lang/String" "value" "[B" (.ref b)) (V_b : Arv Z h0 b kb .byte (7 : Int32) [(.int (98 : Int32)), (.int (111 : Int32)), (.int (111 : Int32)), (.int (108 : Int32)), (.int (101 : Int32)), (.int (97 : Int32)), (.int (110 : Int32))] (.int (0 : Int32))) (SC : Sta Z Z.heap "java/lang/String" "COMPACT_STRINGS" "Z" (.int zc)) (hcs : ¬ zc = 0) :
    MetFree l (⟨"java/lang/String", "equals", "(Ljava/lang/Object;)Z"⟩ : MethodName) (head1 (Jvm.Cond.code (⟨"java/lang/String", "equals", "(Ljava/lang/Object;)Z"⟩ : MethodName) jdk_42_method_66_code 3 (some .boolean) :: ws) ({ frames := 1, cells := 0, slots := 0, locals := 14 } : Room)) (fun A_ U_ => A_ = #[(.ref x), (.ref y)] ∧ Z.Warmed39 U_.vm ∧ U_.heap = h0) (fun _ _ _ _ _ => True) (fun _ U o U' => ∃ v L, o = .returned v ∧ Qq4 Z x a ka y b kb zc h0 n0 v U'.heap L ∧ FrameEnd U o U' L ({ frames := 1, cells := 0, slots := 0, locals := 14 } : Room).cells ({ frames := 1, cells := 0, slots := 0, locals := 14 } : Room).slots) := by
  refine MetFree.of_bodySF (plainFor_of_name pnq4) hisR ?_
  intro p e s m args below meth cd s₁ Bd hml0 hP hK
  obtain ⟨rfl, hZ, hh⟩ := hP
  have hx := Bd.exec
  have hby := Bd.bytes
  have hlk : meth.locks = false := BodyLoose.notSynchronized Bd
  have hml : cd.maxLocals = 3 := hml0
  have hown : s.vm.findClass "java/lang/String" = some m.cls := findClass_of_methodNamed Bd.named
  have hnm := (name_of_methodNamed Bd.named Bd.method).1
  have X0 : Stand p l e ({ frames := 1, cells := 0, slots := 0, locals := 14 } : Room) s m #[(.ref x), (.ref y)] below meth cd s₁ [] 0 0 := Stand.of_body Bd
  have e0 : s₁.heap = h0 := by rw [← hh, Bd.state]; rfl
  have N0 := Fr.nil n0
  have G : Go p e below s 0 0 (Qq4 Z x a ka y b kb zc h0 n0) (s₁.setTop (mkF m 0 #[.val (.ref x), .val (.ref y), .unset] [])) := by
    show Go p e below s _ _ _ (s₁.setTop (mkF m 0 #[.val (.ref x), .val (.ref y), .unset] []))
    refine Go.st (fun _ kq_ => XS.aloadN X0.here hx rfl (hb hby dq4_0) rfl rfl kq_) ?_
    show Go p e below s _ _ _ (s₁.setTop (mkF m 1 #[.val (.ref x), .val (.ref y), .unset] [(.ref x)]))
    refine Go.st (fun _ kq_ => XS.aloadN X0.here hx rfl (hb hby dq4_1) rfl rfl kq_) ?_
    show Go p e below s _ _ _ (s₁.setTop (mkF m 2 #[.val (.ref x), .val (.ref y), .unset] [(.ref y), (.ref x)]))
    by_cases c2_1 : ((.ref x) : Value) = (.ref y)
    · refine Go.st (fun _ kq_ => XT.acmpNo X0.here hx rfl (hb hby dq4_2) rfl rfl rfl (XT.aa_ne_f c2_1) kq_) ?_
      show Go p e below s _ _ _ (s₁.setTop (mkF m 5 #[.val (.ref x), .val (.ref y), .unset] []))
      refine Go.st (fun _ kq_ => XS.iconst X0.here hx rfl (hb hby dq4_5) kq_) ?_
      show Go p e below s _ _ _ (s₁.setTop (mkF m 6 #[.val (.ref x), .val (.ref y), .unset] [(.int (1 : Int32))]))
      exact Go.ret X0 hlk (some (.int (nar .boolean (1 : Int32)))) (fun h => by rw [Bd.returns] at h; cases h) (by rw [e0]; exact ⟨rfl, N0, rfl⟩) (by decide) (by decide) (fun fs hr => retN X0 hx (t := .boolean) Bd.returns (by simp) (hb hby dq4_6) hr)
    · refine Go.st (fun _ kq_ => XT.acmpYes X0.here hx rfl (pc0 := 2) (pc' := 7) rfl (hb hby dq4_2) rfl rfl rfl (XT.aa_ne_t c2_1) (by decide) (by decide) kq_) ?_
      show Go p e below s _ _ _ (s₁.setTop (mkF m 7 #[.val (.ref x), .val (.ref y), .unset] []))
      refine Go.st (fun _ kq_ => XS.aloadN X0.here hx rfl (hb hby dq4_7) rfl rfl kq_) ?_
      show Go p e below s _ _ _ (s₁.setTop (mkF m 8 #[.val (.ref x), .val (.ref y), .unset] [(.ref y)]))
      obtain ⟨T2, X2, e2, st2⟩ := instY X0 hx hZ hown (own_w hw 24 rfl) e0 (Ins.self E_y) (g := (mkF m 8 #[.val (.ref x), .val (.ref y), .unset] [(.ref y)])) rfl rfl (hb hby dq4_8)
      refine Go.st st2 ?_
      show Go p e below s _ _ _ (T2.setTop (mkF m 11 #[.val (.ref x), .val (.ref y), .unset] [(.int (1 : Int32))]))
      refine Go.st (fun _ kq_ => XS.ifNo X2.here hx rfl (hb hby dq4_11) rfl (by decide) kq_) ?_
      show Go p e below s _ _ _ (T2.setTop (mkF m 14 #[.val (.ref x), .val (.ref y), .unset] []))
      refine Go.st (fun _ kq_ => XS.aloadN X2.here hx rfl (hb hby dq4_14) rfl rfl kq_) ?_
      show Go p e below s _ _ _ (T2.setTop (mkF m 15 #[.val (.ref x), .val (.ref y), .unset] [(.ref y)]))
      obtain ⟨T3, X3, e3, st3⟩ := castY X2 hx hZ hown (own_w hw 24 rfl) e2 (Ins.self E_y) (g := (mkF m 15 #[.val (.ref x), .val (.ref y), .unset] [(.ref y)])) rfl rfl (hb hby dq4_15)
      refine Go.st st3 ?_
      show Go p e below s _ _ _ (T3.setTop (mkF m 18 #[.val (.ref x), .val (.ref y), .unset] [(.ref y)]))
      refine Go.st (fun _ kq_ => XS.astoreN X3.here hx rfl (hb hby dq4_18) rfl rfl (l' := #[.val (.ref x), .val (.ref y), .val (.ref y)]) rfl kq_) ?_
      show Go p e below s _ _ _ (T3.setTop (mkF m 19 #[.val (.ref x), .val (.ref y), .val (.ref y)] []))
      obtain ⟨T4, X4, e4, st4⟩ := getS X3 hx hZ hown (host := "") (own_w hw 26 rfl) Via.refl e3 (SC.ext O0.2) (g := (mkF m 19 #[.val (.ref x), .val (.ref y), .val (.ref y)] [])) rfl (hb hby dq4_19)
      refine Go.st st4 ?_
      show Go p e below s _ _ _ (T4.setTop (mkF m 22 #[.val (.ref x), .val (.ref y), .val (.ref y)] [(.int zc)]))
      refine Go.st (fun _ kq_ => XS.ifNo X4.here hx rfl (hb hby dq4_22) rfl (XT.i0_eq_f hcs) kq_) ?_
      show Go p e below s _ _ _ (T4.setTop (mkF m 25 #[.val (.ref x), .val (.ref y), .val (.ref y)] []))
      refine Go.st (fun _ kq_ => XS.aloadN X4.here hx rfl (hb hby dq4_25) rfl rfl kq_) ?_
      show Go p e below s _ _ _ (T4.setTop (mkF m 26 #[.val (.ref x), .val (.ref y), .val (.ref y)] [(.ref x)]))
      obtain ⟨T5, X5, e5, st5⟩ := getF X4 hx hZ hown (host := "") (Or.inl (own_w hw 27 rfl)) Via.refl e4 F_x_coder (g := (mkF m 26 #[.val (.ref x), .val (.ref y), .val (.ref y)] [(.ref x)])) rfl rfl (hb hby dq4_26)
      refine Go.st st5 ?_
      show Go p e below s _ _ _ (T5.setTop (mkF m 29 #[.val (.ref x), .val (.ref y), .val (.ref y)] [(.int (0 : Int32))]))
      refine Go.st (fun _ kq_ => XS.aloadN X5.here hx rfl (hb hby dq4_29) rfl rfl kq_) ?_
      show Go p e below s _ _ _ (T5.setTop (mkF m 30 #[.val (.ref x), .val (.ref y), .val (.ref y)] [(.ref y), (.int (0 : Int32))]))
      obtain ⟨T6, X6, e6, st6⟩ := getF X5 hx hZ hown (host := "") (Or.inl (own_w hw 27 rfl)) Via.refl e5 F_y_coder (g := (mkF m 30 #[.val (.ref x), .val (.ref y), .val (.ref y)] [(.ref y), (.int (0 : Int32))])) rfl rfl (hb hby dq4_30)
      refine Go.st st6 ?_
      show Go p e below s _ _ _ (T6.setTop (mkF m 33 #[.val (.ref x), .val (.ref y), .val (.ref y)] [(.int (0 : Int32)), (.int (0 : Int32))]))
      refine Go.st (fun _ kq_ => XS.icmpNo X6.here hx rfl (hb hby dq4_33) rfl (by decide) kq_) ?_
      show Go p e below s _ _ _ (T6.setTop (mkF m 36 #[.val (.ref x), .val (.ref y), .val (.ref y)] []))
      refine Go.st (fun _ kq_ => XS.aloadN X6.here hx rfl (hb hby dq4_36) rfl rfl kq_) ?_
      show Go p e below s _ _ _ (T6.setTop (mkF m 37 #[.val (.ref x), .val (.ref y), .val (.ref y)] [(.ref x)]))
      obtain ⟨T7, X7, e7, st7⟩ := getF X6 hx hZ hown (host := "") (Or.inl (own_w hw 28 rfl)) Via.refl e6 F_x_value (g := (mkF m 37 #[.val (.ref x), .val (.ref y), .val (.ref y)] [(.ref x)])) rfl rfl (hb hby dq4_37)
      refine Go.st st7 ?_
      show Go p e below s _ _ _ (T7.setTop (mkF m 40 #[.val (.ref x), .val (.ref y), .val (.ref y)] [(.ref a)]))
      refine Go.st (fun _ kq_ => XS.aloadN X7.here hx rfl (hb hby dq4_40) rfl rfl kq_) ?_
      show Go p e below s _ _ _ (T7.setTop (mkF m 41 #[.val (.ref x), .val (.ref y), .val (.ref y)] [(.ref y), (.ref a)]))
      obtain ⟨T8, X8, e8, st8⟩ := getF X7 hx hZ hown (host := "") (Or.inl (own_w hw 28 rfl)) Via.refl e7 F_y_value (g := (mkF m 41 #[.val (.ref x), .val (.ref y), .val (.ref y)] [(.ref y), (.ref a)])) rfl rfl (hb hby dq4_41)
      refine Go.st st8 ?_
      show Go p e below s _ _ _ (T8.setTop (mkF m 44 #[.val (.ref x), .val (.ref y), .val (.ref y)] [(.ref b), (.ref a)]))
      obtain ⟨_, _, ⟨T9, L9, k9, n9⟩, -, X9, ⟨Lc9, hQ9, l9, y9, z9⟩, st9⟩ := Jvm.LawKit.callS X8 hx (y := (⟨"java/lang/StringLatin1", "equals", "([B[B)Z"⟩ : MethodName)) hown (mvT hZ (own_w hw 29 rfl)) (mvT hZ (own_w hw 30 rfl)) (mvT hZ (own_w hw 31 rfl)) (mvT hZ (own_w hw 32 rfl)) (by decide) (backOf (W := 0) (rmq4l l Z a0 hw [] a ka b kb h0 n0 O0 V_a V_b) hZ (own_w hw 32 rfl) (own_w hw 31 rfl) (by decide) (by decide)) (g := (mkF m 44 #[.val (.ref x), .val (.ref y), .val (.ref y)] [(.ref b), (.ref a)])) rfl (by rw [hml]; rfl) (argsL := [(.ref a), (.ref b)]) (rest := []) (lenOf pdq4_0 rfl) rfl (by show 2 * 0 + _ ≤ _; exact Nat.le_of_eq rfl) (hb hby dq4_44) (fun _ _ => ⟨rfl, e8, (by decide : 0 + 0 ≤ _), (by decide : 0 + 0 ≤ _)⟩)
      dsimp only [Pt.U, Pt.locs, Pt.cells, Pt.slots] at X9 l9 y9 z9 st9 hQ9
      subst y9 z9
      obtain ⟨rfl, Nc9, e9⟩ := hQ9
      have N9 : Fr n0 L9 := by rw [l9]; exact Fr.app N0 Nc9
      refine Go.st st9 ?_
      show Go p e below s _ _ _ (T9.setTop (mkF m 47 #[.val (.ref x), .val (.ref y), .val (.ref y)] [(.int (1 : Int32))]))
      refine Go.st (fun _ kq_ => XS.ifNo X9.here hx rfl (hb hby dq4_47) rfl (by decide) kq_) ?_
      show Go p e below s _ _ _ (T9.setTop (mkF m 50 #[.val (.ref x), .val (.ref y), .val (.ref y)] []))
      refine Go.st (fun _ kq_ => XS.iconst X9.here hx rfl (hb hby dq4_50) kq_) ?_
      show Go p e below s _ _ _ (T9.setTop (mkF m 51 #[.val (.ref x), .val (.ref y), .val (.ref y)] [(.int (1 : Int32))]))
      refine Go.st (fun _ kq_ => XS.goto X9.here hx rfl (pc0 := 51) (pc' := 55) rfl (hb hby dq4_51) (by decide) (by decide) kq_) ?_
      show Go p e below s _ _ _ (T9.setTop (mkF m 55 #[.val (.ref x), .val (.ref y), .val (.ref y)] [(.int (1 : Int32))]))
      exact Go.ret X9 hlk (some (.int (nar .boolean (1 : Int32)))) (fun h => by rw [Bd.returns] at h; cases h) (by rw [e9]; exact ⟨rfl, N9, rfl⟩) (by decide) (by decide) (fun fs hr => retN X9 hx (t := .boolean) Bd.returns (by simp) (hb hby dq4_55) hr)
  obtain ⟨s2, o2, st2, r2⟩ := G
  exact ⟨s2, o2, castTop (efq4 m x y) st2, r2⟩
theorem pd0_0 : parseMethodDescriptor "()Ljava/lang/String;" = some ⟨[], some (.object "java/lang/String")⟩ := by decide +kernel
theorem pd0_1 : parseMethodDescriptor "(Ljava/lang/Object;)Z" = some ⟨[(.object "java/lang/Object")], some .boolean⟩ := by decide +kernel
theorem pd0_2 : parseMethodDescriptor "()Z" = some ⟨[], some .boolean⟩ := by decide +kernel
theorem pn0 : plainName "com/example/pemmican/pemmican/DataTypeIsNumberPinLaw" = true := by first | (simp [plainName, overriddenIn]; done) | decide +kernel
theorem ef0 (m : MethodId) (x0 : Int32) : entryFrame m #[(.int x0)] maxLocals = mkF m 0 #[.val (.int x0), .unset, .unset, .unset, .unset] [] := by first | (simp [entryFrame, mkF, argsToLocals, Value.category, maxLocals]; done) | rfl
def Q0 (Z : State) (p0 : Int32) (c : Nat → Addr) (sa : Nat → Addr) (va : Nat → Addr) (kv : Nat → ClassId) (zc : Int32) (h0 : Heap) (n0 : Nat) (v : Option Value) (h : Heap) (L : List Loc) : Prop := v = some (.int 1) ∧ Fr n0 L
set_option maxRecDepth 65536 in
set_option maxHeartbeats 40000000 in
theorem rm0 (l : Launch) (Z : State) (a0 : Array Value) (hw : ∀ d ∈ tables_1, d.before a0 Z = true) (ws : List Jvm.Cond) (p0 : Int32) (c : Nat → Addr) (sa : Nat → Addr) (va : Nat → Addr) (kv : Nat → ClassId) (zc : Int32) (h0 : Heap) (n0 : Nat) (O0 : Old Z n0 h0) (hz0 : Z.heap = h0) (HS : OwnSt Z c) (HT : OwnT Z c sa va kv) (SC : Sta Z Z.heap "java/lang/String" "COMPACT_STRINGS" "Z" (.int zc)) (hcs : ¬ zc = 0) (hcw : Jvm.Lit.compactW.before a0 Z = true) (hcon : Jvm.Lit.constsHeld consts_1 Z) :
    MetFree l x (head1 (Jvm.Cond.code x code maxLocals ret :: ws) room_1) (fun A_ U_ => A_ = #[(.int p0)] ∧ U_ = Z) (fun _ _ _ _ _ => True) (fun _ U o U' => ∃ v L, o = .returned v ∧ Q0 Z p0 c sa va kv zc h0 n0 v U'.heap L ∧ ReturnedEndW U o U' L room_1.cells room_1.slots) := by
  refine MetFree.of_bodySF (plainFor_of_name pn0) hisR ?_
  intro p e s m args below meth cd s₁ Bd hml0 hP hK
  obtain ⟨rfl, hU⟩ := hP
  have hZ : Z.Warmed39 s.vm := by rw [hU]; exact State.Warmed39.refl Z
  have hh : s.heap = h0 := by rw [hU]; exact hz0
  have I0 : IB Z s.vm [] := by rw [hU]; exact IB.start
  have hkp : ∀ (b : Addr) (cl : Cell), Z.heap[b]? = some cl → s.heap[b]? = some cl := by rw [hU]; exact fun _ _ q => q
  have hs0 : s.heap.size = n0 := by rw [hU]; exact O0.1
  have hS0 : s.Since s.vm h0.size := State.WarmedH.since (State.WarmedH.refl s) _
  have hk0 : h0.size ≤ h0.size := Nat.le_refl _
  have hx := Bd.exec
  have hby := Bd.bytes
  have hlk : meth.locks = false := BodyLoose.notSynchronized Bd
  have hml : cd.maxLocals = 5 := hml0
  have hown : s.vm.findClass "com/example/pemmican/pemmican/DataTypeIsNumberPinLaw" = some m.cls := findClass_of_methodNamed Bd.named
  have hnm := (name_of_methodNamed Bd.named Bd.method).1
  have X0 : Stand p l e room_1 s m #[(.int p0)] below meth cd s₁ [] 0 0 := Stand.of_body Bd
  have e0 : s₁.heap = h0 := by rw [← hh, Bd.state]; rfl
  have N0 := Fr.nil n0
  have wS : ∀ a ∈ Bundle.stringAtoms, a.before a0 Z = true := fun d hd => hw d ((by decide +kernel : ∀ d ∈ Bundle.stringAtoms, d ∈ tables_1) d hd)
  have G : GoW p e below s room_1.cells room_1.slots (Q0 Z p0 c sa va kv zc h0 n0) (s₁.setTop (mkF m 0 #[.val (.int p0), .unset, .unset, .unset, .unset] [])) := by
    show GoW p e below s _ _ _ (s₁.setTop (mkF m 0 #[.val (.int p0), .unset, .unset, .unset, .unset] []))
    refine GoW.st (fun _ kq_ => XS.iloadN X0.here hx rfl (hb hby at_0) rfl kq_) ?_
    show GoW p e below s _ _ _ (s₁.setTop (mkF m 1 #[.val (.int p0), .unset, .unset, .unset, .unset] [(.int p0)]))
    refine GoW.st (fun _ kq_ => X0.ldcI hx hown (mvT hZ (own_w hw 0 rfl)) rfl (hb hby at_1) kq_) ?_
    show GoW p e below s _ _ _ (s₁.setTop (mkF m 3 #[.val (.int p0), .unset, .unset, .unset, .unset] [(.int (2147483647 : Int32)), (.int p0)]))
    refine GoW.st (fun _ kq_ => XS.iand X0.here hx rfl (hb hby at_3) rfl kq_) ?_
    show GoW p e below s _ _ _ (s₁.setTop (mkF m 4 #[.val (.int p0), .unset, .unset, .unset, .unset] [(.int (p0 &&& (2147483647 : Int32)))]))
    refine GoW.st (fun _ kq_ => XS.iconst X0.here hx rfl (hb hby at_4) kq_) ?_
    show GoW p e below s _ _ _ (s₁.setTop (mkF m 5 #[.val (.int p0), .unset, .unset, .unset, .unset] [(.int (5 : Int32)), (.int (p0 &&& (2147483647 : Int32)))]))
    refine GoW.st (fun _ kq_ => iremM X0 hx rfl (hb hby at_5) rfl (by decide) kq_) ?_
    show GoW p e below s _ _ _ (s₁.setTop (mkF m 6 #[.val (.int p0), .unset, .unset, .unset, .unset] [(.int ((p0 &&& (2147483647 : Int32)) % (5 : Int32)))]))
    obtain ⟨k, hk⟩ : ∃ z, ((p0 &&& (2147483647 : Int32)) % (5 : Int32)) = z := ⟨_, rfl⟩
    have hr : ¬ k < 0 ∧ k < 5 := hk ▸ own_rem p0 5 (by decide)
    rw [hk]
    rcases own_5 hr with rfl | rfl | rfl | rfl | rfl
    · show GoW p e below s _ _ _ (s₁.setTop (mkF m 6 #[.val (.int p0), .unset, .unset, .unset, .unset] [(.int (0 : Int32))]))
      refine GoW.st (fun _ kq_ => XS.istoreN X0.here hx rfl (hb hby at_6) rfl (l' := #[.val (.int p0), .val (.int (0 : Int32)), .unset, .unset, .unset]) rfl kq_) ?_
      show GoW p e below s _ _ _ (s₁.setTop (mkF m 7 #[.val (.int p0), .val (.int (0 : Int32)), .unset, .unset, .unset] []))
      refine GoW.st (fun _ kq_ => XS.iloadN X0.here hx rfl (hb hby at_7) rfl kq_) ?_
      show GoW p e below s _ _ _ (s₁.setTop (mkF m 8 #[.val (.int p0), .val (.int (0 : Int32)), .unset, .unset, .unset] [(.int (0 : Int32))]))
      refine GoW.st (fun _ kq_ => XS.ifNo X0.here hx rfl (hb hby at_8) rfl (by decide) kq_) ?_
      show GoW p e below s _ _ _ (s₁.setTop (mkF m 11 #[.val (.int p0), .val (.int (0 : Int32)), .unset, .unset, .unset] []))
      obtain ⟨T1, X1, e1, st1⟩ := getS X0 hx hZ hown (host := "") (own_w hw 1 rfl) Via.refl e0 (HS.1.ext O0.2) (g := (mkF m 11 #[.val (.int p0), .val (.int (0 : Int32)), .unset, .unset, .unset] [])) rfl (hb hby at_11)
      refine GoW.st st1 ?_
      show GoW p e below s _ _ _ (T1.setTop (mkF m 14 #[.val (.int p0), .val (.int (0 : Int32)), .unset, .unset, .unset] [(.ref (c 0))]))
      refine GoW.st (fun _ kq_ => XS.astoreN X1.here hx rfl (hb hby at_14) rfl rfl (l' := #[.val (.int p0), .val (.int (0 : Int32)), .val (.ref (c 0)), .unset, .unset]) rfl kq_) ?_
      show GoW p e below s _ _ _ (T1.setTop (mkF m 15 #[.val (.int p0), .val (.int (0 : Int32)), .val (.ref (c 0)), .unset, .unset] []))
      obtain ⟨u2, T2, h2, kk2, ub2, kb2, X2, e2, E2, hS2, hk2, hZ2, hown2, NE, NC, NV, NB, lta2, ltb2, I2, st2⟩ := ldcSV (vm0 := s.vm) X1 hx hZ hown (own_w hw 4 rfl) wS e1 hS0 hk0 (by rw [hs0]; exact N0) hkp I0 (by decide) (hcon ("com/example/pemmican/pemmican/DataTypeIsNumberPinLaw", 14) (by decide)) hcw (vs := [(.int (115 : Int32)), (.int (116 : Int32)), (.int (114 : Int32)), (.int (105 : Int32)), (.int (110 : Int32)), (.int (103 : Int32))]) (z := (6 : Int32)) (by decide) (by decide) rfl (g := (mkF m 15 #[.val (.int p0), .val (.int (0 : Int32)), .val (.ref (c 0)), .unset, .unset] [])) rfl (hb hby at_15) (n := 24) (by decide) (by decide) (by decide) (by decide)
      have O2 := O0.ext E2
      have E_u2 : Exa Z h2 u2 "java/lang/String" := NE
      have F_u2_coder : Fld Z h2 u2 "java/lang/String" "coder" "B" (.int (0 : Int32)) := NC
      have F_u2_value : Fld Z h2 u2 "java/lang/String" "value" "[B" (.ref ub2) := NV
      have V_ub2 : Arv Z h2 ub2 kb2 .byte (6 : Int32) [(.int (115 : Int32)), (.int (116 : Int32)), (.int (114 : Int32)), (.int (105 : Int32)), (.int (110 : Int32)), (.int (103 : Int32))] (.int (0 : Int32)) := NB
      refine GoW.st st2 ?_
      show GoW p e below s _ _ _ (T2.setTop (mkF m 17 #[.val (.int p0), .val (.int (0 : Int32)), .val (.ref (c 0)), .unset, .unset] [(.ref u2)]))
      refine GoW.st (fun _ kq_ => XS.astoreN X2.here hx rfl (hb hby at_17) rfl rfl (l' := #[.val (.int p0), .val (.int (0 : Int32)), .val (.ref (c 0)), .val (.ref u2), .unset]) rfl kq_) ?_
      show GoW p e below s _ _ _ (T2.setTop (mkF m 18 #[.val (.int p0), .val (.int (0 : Int32)), .val (.ref (c 0)), .val (.ref u2), .unset] []))
      refine GoW.st (fun _ kq_ => XS.iconst X2.here hx rfl (hb hby at_18) kq_) ?_
      show GoW p e below s _ _ _ (T2.setTop (mkF m 19 #[.val (.int p0), .val (.int (0 : Int32)), .val (.ref (c 0)), .val (.ref u2), .unset] [(.int (0 : Int32))]))
      refine GoW.st (fun _ kq_ => XS.istore X2.here hx rfl (hb hby at_19) rfl (l' := #[.val (.int p0), .val (.int (0 : Int32)), .val (.ref (c 0)), .val (.ref u2), .val (.int (0 : Int32))]) rfl kq_) ?_
      show GoW p e below s _ _ _ (T2.setTop (mkF m 21 #[.val (.int p0), .val (.int (0 : Int32)), .val (.ref (c 0)), .val (.ref u2), .val (.int (0 : Int32))] []))
      refine GoW.st (fun _ kq_ => XS.goto X2.here hx rfl (pc0 := 21) (pc' := 88) rfl (hb hby at_21) (by decide) (by decide) kq_) ?_
      show GoW p e below s _ _ _ (T2.setTop (mkF m 88 #[.val (.int p0), .val (.int (0 : Int32)), .val (.ref (c 0)), .val (.ref u2), .val (.int (0 : Int32))] []))
      refine GoW.st (fun _ kq_ => XS.aloadN X2.here hx rfl (hb hby at_88) rfl rfl kq_) ?_
      show GoW p e below s _ _ _ (T2.setTop (mkF m 89 #[.val (.int p0), .val (.int (0 : Int32)), .val (.ref (c 0)), .val (.ref u2), .val (.int (0 : Int32))] [(.ref u2)]))
      refine GoW.st (fun _ kq_ => XS.aloadN X2.here hx rfl (hb hby at_89) rfl rfl kq_) ?_
      show GoW p e below s _ _ _ (T2.setTop (mkF m 90 #[.val (.int p0), .val (.int (0 : Int32)), .val (.ref (c 0)), .val (.ref u2), .val (.int (0 : Int32))] [(.ref (c 0)), (.ref u2)]))
      obtain ⟨cq3, kq3, qa3, qb3, qc3⟩ := isOf hZ2 e2 ((HS.2.2.2.2.2.1 0 (by decide)).ext O2.2)
      obtain ⟨_, _, ⟨T3, L3, k3, n3⟩, -, X3, ⟨Lc3, hQ3, l3, y3, z3⟩, st3⟩ := X2.virtualBack hx (y := (⟨"com/example/pemmican/pemmican/DataType", "pmmlName", "()Ljava/lang/String;"⟩ : MethodName)) (z := (⟨"com/example/pemmican/pemmican/DataType", "pmmlName", "()Ljava/lang/String;"⟩ : MethodName)) hown2 (mvT hZ2 (own_w hw 12 rfl)) (mvT hZ2 (own_w hw 13 rfl)) (notFace_of_selects (args := #[]) (mvT hZ2 (own_w hw 15 rfl))) (mvT hZ2 (own_w hw 15 rfl)) (mvT hZ2 (own_w hw 14 rfl)) (by decide) (backOf (W := 1) (rm1 l Z a0 hw [] (c 0) (sa 0) h2 n0 O2 ((HT.1).1.ext O2.2)) hZ2 (own_w hw 16 rfl) (own_w hw 2 rfl) (by decide) (by decide)) qa3 qc3 (g := (mkF m 90 #[.val (.int p0), .val (.int (0 : Int32)), .val (.ref (c 0)), .val (.ref u2), .val (.int (0 : Int32))] [(.ref (c 0)), (.ref u2)])) rfl (by rw [hml]; rfl) (Steps.refl _) (argsL := []) (rest := [(.ref u2)]) (lenOf pd0_0 rfl) rfl (by show 2 * 0 + _ ≤ _; exact Nat.le_of_eq rfl) (hb hby at_90) (fun _ _ => ⟨rfl, e2, (by decide : 2 + 0 ≤ _), (by decide : 28 + 0 ≤ _)⟩)
      dsimp only [Pt.U, Pt.locs, Pt.cells, Pt.slots] at X3 l3 y3 z3 st3 hQ3
      subst y3 z3
      obtain ⟨rfl, Nc3, e3⟩ := hQ3
      have N3 : Fr n0 L3 := by rw [l3]; exact Fr.app N0 Nc3
      refine GoW.tr st3 ?_
      show GoW p e below s _ _ _ (T3.setTop (mkF m 93 #[.val (.int p0), .val (.int (0 : Int32)), .val (.ref (c 0)), .val (.ref u2), .val (.int (0 : Int32))] [(.ref (sa 0)), (.ref u2)]))
      obtain ⟨cq4, kq4, qa4, qb4, qc4⟩ := isOf hZ2 e3 E_u2
      obtain ⟨_, _, ⟨T4, L4, k4, n4⟩, -, X4, ⟨Lc4, hQ4, l4, y4, z4⟩, st4⟩ := X3.virtualBack hx (y := (⟨"java/lang/String", "equals", "(Ljava/lang/Object;)Z"⟩ : MethodName)) (z := (⟨"java/lang/String", "equals", "(Ljava/lang/Object;)Z"⟩ : MethodName)) hown2 (mvT hZ2 (own_w hw 19 rfl)) (mvT hZ2 (own_w hw 20 rfl)) (notFace_of_selects (args := #[]) (mvT hZ2 (own_w hw 22 rfl))) (mvT hZ2 (own_w hw 22 rfl)) (mvT hZ2 (own_w hw 21 rfl)) (by decide) (backOf (W := 0) (rmq0 l Z a0 hw [] u2 ub2 kb2 (sa 0) (va 0) (kv 0) zc h2 n0 O2 E_u2 F_u2_coder F_u2_value V_ub2 (HT.1.2.1.ext O2.2) (HT.1.2.2.1.ext O2.2) (HT.1.2.2.2.1.ext O2.2) (HT.1.2.2.2.2.ext O2.2) SC hcs) hZ2 (own_w hw 23 rfl) (own_w hw 5 rfl) (by decide) (by decide)) qa4 qc4 (g := (mkF m 93 #[.val (.int p0), .val (.int (0 : Int32)), .val (.ref (c 0)), .val (.ref u2), .val (.int (0 : Int32))] [(.ref (sa 0)), (.ref u2)])) rfl (by rw [hml]; rfl) (Steps.refl _) (argsL := [(.ref (sa 0))]) (rest := []) (lenOf pd0_1 rfl) rfl (by show 2 * 0 + _ ≤ _; exact Nat.le_of_eq rfl) (hb hby at_93) (fun _ _ => ⟨rfl, e3, (by decide : 2 + 0 ≤ _), (by decide : 28 + 0 ≤ _)⟩)
      dsimp only [Pt.U, Pt.locs, Pt.cells, Pt.slots] at X4 l4 y4 z4 st4 hQ4
      subst y4 z4
      obtain ⟨rfl, Nc4, e4⟩ := hQ4
      have N4 : Fr n0 L4 := by rw [l4]; exact Fr.app N3 Nc4
      refine GoW.tr st4 ?_
      show GoW p e below s _ _ _ (T4.setTop (mkF m 96 #[.val (.int p0), .val (.int (0 : Int32)), .val (.ref (c 0)), .val (.ref u2), .val (.int (0 : Int32))] [(.int (1 : Int32))]))
      refine GoW.st (fun _ kq_ => XS.ifNo X4.here hx rfl (hb hby at_96) rfl (by decide) kq_) ?_
      show GoW p e below s _ _ _ (T4.setTop (mkF m 99 #[.val (.int p0), .val (.int (0 : Int32)), .val (.ref (c 0)), .val (.ref u2), .val (.int (0 : Int32))] []))
      refine GoW.st (fun _ kq_ => XS.aloadN X4.here hx rfl (hb hby at_99) rfl rfl kq_) ?_
      show GoW p e below s _ _ _ (T4.setTop (mkF m 100 #[.val (.int p0), .val (.int (0 : Int32)), .val (.ref (c 0)), .val (.ref u2), .val (.int (0 : Int32))] [(.ref (c 0))]))
      obtain ⟨cq5, kq5, qa5, qb5, qc5⟩ := isOf hZ2 e4 ((HS.2.2.2.2.2.1 0 (by decide)).ext O2.2)
      obtain ⟨_, _, ⟨T5, L5, k5, n5⟩, -, X5, ⟨Lc5, hQ5, l5, y5, z5⟩, st5⟩ := X4.virtualBack hx (y := (⟨"com/example/pemmican/pemmican/DataType", "isNumber", "()Z"⟩ : MethodName)) (z := (⟨"com/example/pemmican/pemmican/DataType", "isNumber", "()Z"⟩ : MethodName)) hown2 (mvT hZ2 (own_w hw 33 rfl)) (mvT hZ2 (own_w hw 34 rfl)) (notFace_of_selects (args := #[]) (mvT hZ2 (own_w hw 36 rfl))) (mvT hZ2 (own_w hw 36 rfl)) (mvT hZ2 (own_w hw 35 rfl)) (by decide) (backOf (W := 0) (rm2 l Z a0 hw [] c 0 h2 n0 O2 HS) hZ2 (own_w hw 37 rfl) (own_w hw 2 rfl) (by decide) (by decide)) qa5 qc5 (g := (mkF m 100 #[.val (.int p0), .val (.int (0 : Int32)), .val (.ref (c 0)), .val (.ref u2), .val (.int (0 : Int32))] [(.ref (c 0))])) rfl (by rw [hml]; rfl) (Steps.refl _) (argsL := []) (rest := []) (lenOf pd0_2 rfl) rfl (by show 2 * 0 + _ ≤ _; exact Nat.le_of_eq rfl) (hb hby at_100) (fun _ _ => ⟨rfl, e4, (by decide : 2 + 0 ≤ _), (by decide : 28 + 0 ≤ _)⟩)
      dsimp only [Pt.U, Pt.locs, Pt.cells, Pt.slots] at X5 l5 y5 z5 st5 hQ5
      subst y5 z5
      obtain ⟨rfl, Nc5, e5⟩ := hQ5
      have N5 : Fr n0 L5 := by rw [l5]; exact Fr.app N4 Nc5
      rw [fNu_0 c HS.2.2.2.2.2.2] at st5
      refine GoW.tr st5 ?_
      show GoW p e below s _ _ _ (T5.setTop (mkF m 103 #[.val (.int p0), .val (.int (0 : Int32)), .val (.ref (c 0)), .val (.ref u2), .val (.int (0 : Int32))] [(.int (0 : Int32))]))
      refine GoW.st (fun _ kq_ => XS.iload X5.here hx rfl (hb hby at_103) rfl kq_) ?_
      show GoW p e below s _ _ _ (T5.setTop (mkF m 105 #[.val (.int p0), .val (.int (0 : Int32)), .val (.ref (c 0)), .val (.ref u2), .val (.int (0 : Int32))] [(.int (0 : Int32)), (.int (0 : Int32))]))
      refine GoW.st (fun _ kq_ => XS.icmpNo X5.here hx rfl (hb hby at_105) rfl (by decide) kq_) ?_
      show GoW p e below s _ _ _ (T5.setTop (mkF m 108 #[.val (.int p0), .val (.int (0 : Int32)), .val (.ref (c 0)), .val (.ref u2), .val (.int (0 : Int32))] []))
      refine GoW.st (fun _ kq_ => XS.iconst X5.here hx rfl (hb hby at_108) kq_) ?_
      show GoW p e below s _ _ _ (T5.setTop (mkF m 109 #[.val (.int p0), .val (.int (0 : Int32)), .val (.ref (c 0)), .val (.ref u2), .val (.int (0 : Int32))] [(.int (1 : Int32))]))
      refine GoW.st (fun _ kq_ => XS.goto X5.here hx rfl (pc0 := 109) (pc' := 113) rfl (hb hby at_109) (by decide) (by decide) kq_) ?_
      show GoW p e below s _ _ _ (T5.setTop (mkF m 113 #[.val (.int p0), .val (.int (0 : Int32)), .val (.ref (c 0)), .val (.ref u2), .val (.int (0 : Int32))] [(.int (1 : Int32))]))
      exact GoW.ret (vm1 := T2.vm) X5 hlk hS2 (by rw [e5]; exact hk2) (some (.int (nar .boolean (1 : Int32)))) (fun h => by rw [Bd.returns] at h; cases h) (by rw [e5]; exact ⟨rfl, N5⟩) (by decide) (by decide) (fun fs hr => retN X5 hx (t := .boolean) Bd.returns (by simp) (hb hby at_113) hr)
    · show GoW p e below s _ _ _ (s₁.setTop (mkF m 6 #[.val (.int p0), .unset, .unset, .unset, .unset] [(.int (1 : Int32))]))
      refine GoW.st (fun _ kq_ => XS.istoreN X0.here hx rfl (hb hby at_6) rfl (l' := #[.val (.int p0), .val (.int (1 : Int32)), .unset, .unset, .unset]) rfl kq_) ?_
      show GoW p e below s _ _ _ (s₁.setTop (mkF m 7 #[.val (.int p0), .val (.int (1 : Int32)), .unset, .unset, .unset] []))
      refine GoW.st (fun _ kq_ => XS.iloadN X0.here hx rfl (hb hby at_7) rfl kq_) ?_
      show GoW p e below s _ _ _ (s₁.setTop (mkF m 8 #[.val (.int p0), .val (.int (1 : Int32)), .unset, .unset, .unset] [(.int (1 : Int32))]))
      refine GoW.st (fun _ kq_ => XS.ifYes X0.here hx rfl (pc0 := 8) (pc' := 24) rfl (hb hby at_8) rfl (by decide) (by decide) (by decide) kq_) ?_
      show GoW p e below s _ _ _ (s₁.setTop (mkF m 24 #[.val (.int p0), .val (.int (1 : Int32)), .unset, .unset, .unset] []))
      refine GoW.st (fun _ kq_ => XS.iloadN X0.here hx rfl (hb hby at_24) rfl kq_) ?_
      show GoW p e below s _ _ _ (s₁.setTop (mkF m 25 #[.val (.int p0), .val (.int (1 : Int32)), .unset, .unset, .unset] [(.int (1 : Int32))]))
      refine GoW.st (fun _ kq_ => XS.iconst X0.here hx rfl (hb hby at_25) kq_) ?_
      show GoW p e below s _ _ _ (s₁.setTop (mkF m 26 #[.val (.int p0), .val (.int (1 : Int32)), .unset, .unset, .unset] [(.int (1 : Int32)), (.int (1 : Int32))]))
      refine GoW.st (fun _ kq_ => XS.icmpNo X0.here hx rfl (hb hby at_26) rfl (by decide) kq_) ?_
      show GoW p e below s _ _ _ (s₁.setTop (mkF m 29 #[.val (.int p0), .val (.int (1 : Int32)), .unset, .unset, .unset] []))
      obtain ⟨T6, X6, e6, st6⟩ := getS X0 hx hZ hown (host := "") (own_w hw 46 rfl) Via.refl e0 (HS.2.1.ext O0.2) (g := (mkF m 29 #[.val (.int p0), .val (.int (1 : Int32)), .unset, .unset, .unset] [])) rfl (hb hby at_29)
      refine GoW.st st6 ?_
      show GoW p e below s _ _ _ (T6.setTop (mkF m 32 #[.val (.int p0), .val (.int (1 : Int32)), .unset, .unset, .unset] [(.ref (c 1))]))
      refine GoW.st (fun _ kq_ => XS.astoreN X6.here hx rfl (hb hby at_32) rfl rfl (l' := #[.val (.int p0), .val (.int (1 : Int32)), .val (.ref (c 1)), .unset, .unset]) rfl kq_) ?_
      show GoW p e below s _ _ _ (T6.setTop (mkF m 33 #[.val (.int p0), .val (.int (1 : Int32)), .val (.ref (c 1)), .unset, .unset] []))
      obtain ⟨u7, T7, h7, kk7, ub7, kb7, X7, e7, E7, hS7, hk7, hZ7, hown7, NE, NC, NV, NB, lta7, ltb7, I7, st7⟩ := ldcSV (vm0 := s.vm) X6 hx hZ hown (own_w hw 47 rfl) wS e6 hS0 hk0 (by rw [hs0]; exact N0) hkp I0 (by decide) (hcon ("com/example/pemmican/pemmican/DataTypeIsNumberPinLaw", 19) (by decide)) hcw (vs := [(.int (105 : Int32)), (.int (110 : Int32)), (.int (116 : Int32)), (.int (101 : Int32)), (.int (103 : Int32)), (.int (101 : Int32)), (.int (114 : Int32))]) (z := (7 : Int32)) (by decide) (by decide) rfl (g := (mkF m 33 #[.val (.int p0), .val (.int (1 : Int32)), .val (.ref (c 1)), .unset, .unset] [])) rfl (hb hby at_33) (n := 28) (by decide) (by decide) (by decide) (by decide)
      have O7 := O0.ext E7
      have E_u7 : Exa Z h7 u7 "java/lang/String" := NE
      have F_u7_coder : Fld Z h7 u7 "java/lang/String" "coder" "B" (.int (0 : Int32)) := NC
      have F_u7_value : Fld Z h7 u7 "java/lang/String" "value" "[B" (.ref ub7) := NV
      have V_ub7 : Arv Z h7 ub7 kb7 .byte (7 : Int32) [(.int (105 : Int32)), (.int (110 : Int32)), (.int (116 : Int32)), (.int (101 : Int32)), (.int (103 : Int32)), (.int (101 : Int32)), (.int (114 : Int32))] (.int (0 : Int32)) := NB
      refine GoW.st st7 ?_
      show GoW p e below s _ _ _ (T7.setTop (mkF m 35 #[.val (.int p0), .val (.int (1 : Int32)), .val (.ref (c 1)), .unset, .unset] [(.ref u7)]))
      refine GoW.st (fun _ kq_ => XS.astoreN X7.here hx rfl (hb hby at_35) rfl rfl (l' := #[.val (.int p0), .val (.int (1 : Int32)), .val (.ref (c 1)), .val (.ref u7), .unset]) rfl kq_) ?_
      show GoW p e below s _ _ _ (T7.setTop (mkF m 36 #[.val (.int p0), .val (.int (1 : Int32)), .val (.ref (c 1)), .val (.ref u7), .unset] []))
      refine GoW.st (fun _ kq_ => XS.iconst X7.here hx rfl (hb hby at_36) kq_) ?_
      show GoW p e below s _ _ _ (T7.setTop (mkF m 37 #[.val (.int p0), .val (.int (1 : Int32)), .val (.ref (c 1)), .val (.ref u7), .unset] [(.int (1 : Int32))]))
      refine GoW.st (fun _ kq_ => XS.istore X7.here hx rfl (hb hby at_37) rfl (l' := #[.val (.int p0), .val (.int (1 : Int32)), .val (.ref (c 1)), .val (.ref u7), .val (.int (1 : Int32))]) rfl kq_) ?_
      show GoW p e below s _ _ _ (T7.setTop (mkF m 39 #[.val (.int p0), .val (.int (1 : Int32)), .val (.ref (c 1)), .val (.ref u7), .val (.int (1 : Int32))] []))
      refine GoW.st (fun _ kq_ => XS.goto X7.here hx rfl (pc0 := 39) (pc' := 88) rfl (hb hby at_39) (by decide) (by decide) kq_) ?_
      show GoW p e below s _ _ _ (T7.setTop (mkF m 88 #[.val (.int p0), .val (.int (1 : Int32)), .val (.ref (c 1)), .val (.ref u7), .val (.int (1 : Int32))] []))
      refine GoW.st (fun _ kq_ => XS.aloadN X7.here hx rfl (hb hby at_88) rfl rfl kq_) ?_
      show GoW p e below s _ _ _ (T7.setTop (mkF m 89 #[.val (.int p0), .val (.int (1 : Int32)), .val (.ref (c 1)), .val (.ref u7), .val (.int (1 : Int32))] [(.ref u7)]))
      refine GoW.st (fun _ kq_ => XS.aloadN X7.here hx rfl (hb hby at_89) rfl rfl kq_) ?_
      show GoW p e below s _ _ _ (T7.setTop (mkF m 90 #[.val (.int p0), .val (.int (1 : Int32)), .val (.ref (c 1)), .val (.ref u7), .val (.int (1 : Int32))] [(.ref (c 1)), (.ref u7)]))
      obtain ⟨cq8, kq8, qa8, qb8, qc8⟩ := isOf hZ7 e7 ((HS.2.2.2.2.2.1 1 (by decide)).ext O7.2)
      obtain ⟨_, _, ⟨T8, L8, k8, n8⟩, -, X8, ⟨Lc8, hQ8, l8, y8, z8⟩, st8⟩ := X7.virtualBack hx (y := (⟨"com/example/pemmican/pemmican/DataType", "pmmlName", "()Ljava/lang/String;"⟩ : MethodName)) (z := (⟨"com/example/pemmican/pemmican/DataType", "pmmlName", "()Ljava/lang/String;"⟩ : MethodName)) hown7 (mvT hZ7 (own_w hw 12 rfl)) (mvT hZ7 (own_w hw 13 rfl)) (notFace_of_selects (args := #[]) (mvT hZ7 (own_w hw 15 rfl))) (mvT hZ7 (own_w hw 15 rfl)) (mvT hZ7 (own_w hw 14 rfl)) (by decide) (backOf (W := 1) (rm1 l Z a0 hw [] (c 1) (sa 1) h7 n0 O7 ((HT.2.1).1.ext O7.2)) hZ7 (own_w hw 16 rfl) (own_w hw 2 rfl) (by decide) (by decide)) qa8 qc8 (g := (mkF m 90 #[.val (.int p0), .val (.int (1 : Int32)), .val (.ref (c 1)), .val (.ref u7), .val (.int (1 : Int32))] [(.ref (c 1)), (.ref u7)])) rfl (by rw [hml]; rfl) (Steps.refl _) (argsL := []) (rest := [(.ref u7)]) (lenOf pd0_0 rfl) rfl (by show 2 * 0 + _ ≤ _; exact Nat.le_of_eq rfl) (hb hby at_90) (fun _ _ => ⟨rfl, e7, (by decide : 2 + 0 ≤ _), (by decide : 32 + 0 ≤ _)⟩)
      dsimp only [Pt.U, Pt.locs, Pt.cells, Pt.slots] at X8 l8 y8 z8 st8 hQ8
      subst y8 z8
      obtain ⟨rfl, Nc8, e8⟩ := hQ8
      have N8 : Fr n0 L8 := by rw [l8]; exact Fr.app N0 Nc8
      refine GoW.tr st8 ?_
      show GoW p e below s _ _ _ (T8.setTop (mkF m 93 #[.val (.int p0), .val (.int (1 : Int32)), .val (.ref (c 1)), .val (.ref u7), .val (.int (1 : Int32))] [(.ref (sa 1)), (.ref u7)]))
      obtain ⟨cq9, kq9, qa9, qb9, qc9⟩ := isOf hZ7 e8 E_u7
      obtain ⟨_, _, ⟨T9, L9, k9, n9⟩, -, X9, ⟨Lc9, hQ9, l9, y9, z9⟩, st9⟩ := X8.virtualBack hx (y := (⟨"java/lang/String", "equals", "(Ljava/lang/Object;)Z"⟩ : MethodName)) (z := (⟨"java/lang/String", "equals", "(Ljava/lang/Object;)Z"⟩ : MethodName)) hown7 (mvT hZ7 (own_w hw 19 rfl)) (mvT hZ7 (own_w hw 20 rfl)) (notFace_of_selects (args := #[]) (mvT hZ7 (own_w hw 22 rfl))) (mvT hZ7 (own_w hw 22 rfl)) (mvT hZ7 (own_w hw 21 rfl)) (by decide) (backOf (W := 0) (rmq1 l Z a0 hw [] u7 ub7 kb7 (sa 1) (va 1) (kv 1) zc h7 n0 O7 E_u7 F_u7_coder F_u7_value V_ub7 (HT.2.1.2.1.ext O7.2) (HT.2.1.2.2.1.ext O7.2) (HT.2.1.2.2.2.1.ext O7.2) (HT.2.1.2.2.2.2.ext O7.2) SC hcs) hZ7 (own_w hw 23 rfl) (own_w hw 5 rfl) (by decide) (by decide)) qa9 qc9 (g := (mkF m 93 #[.val (.int p0), .val (.int (1 : Int32)), .val (.ref (c 1)), .val (.ref u7), .val (.int (1 : Int32))] [(.ref (sa 1)), (.ref u7)])) rfl (by rw [hml]; rfl) (Steps.refl _) (argsL := [(.ref (sa 1))]) (rest := []) (lenOf pd0_1 rfl) rfl (by show 2 * 0 + _ ≤ _; exact Nat.le_of_eq rfl) (hb hby at_93) (fun _ _ => ⟨rfl, e8, (by decide : 2 + 0 ≤ _), (by decide : 32 + 0 ≤ _)⟩)
      dsimp only [Pt.U, Pt.locs, Pt.cells, Pt.slots] at X9 l9 y9 z9 st9 hQ9
      subst y9 z9
      obtain ⟨rfl, Nc9, e9⟩ := hQ9
      have N9 : Fr n0 L9 := by rw [l9]; exact Fr.app N8 Nc9
      refine GoW.tr st9 ?_
      show GoW p e below s _ _ _ (T9.setTop (mkF m 96 #[.val (.int p0), .val (.int (1 : Int32)), .val (.ref (c 1)), .val (.ref u7), .val (.int (1 : Int32))] [(.int (1 : Int32))]))
      refine GoW.st (fun _ kq_ => XS.ifNo X9.here hx rfl (hb hby at_96) rfl (by decide) kq_) ?_
      show GoW p e below s _ _ _ (T9.setTop (mkF m 99 #[.val (.int p0), .val (.int (1 : Int32)), .val (.ref (c 1)), .val (.ref u7), .val (.int (1 : Int32))] []))
      refine GoW.st (fun _ kq_ => XS.aloadN X9.here hx rfl (hb hby at_99) rfl rfl kq_) ?_
      show GoW p e below s _ _ _ (T9.setTop (mkF m 100 #[.val (.int p0), .val (.int (1 : Int32)), .val (.ref (c 1)), .val (.ref u7), .val (.int (1 : Int32))] [(.ref (c 1))]))
      obtain ⟨cq10, kq10, qa10, qb10, qc10⟩ := isOf hZ7 e9 ((HS.2.2.2.2.2.1 1 (by decide)).ext O7.2)
      obtain ⟨_, _, ⟨T10, L10, k10, n10⟩, -, X10, ⟨Lc10, hQ10, l10, y10, z10⟩, st10⟩ := X9.virtualBack hx (y := (⟨"com/example/pemmican/pemmican/DataType", "isNumber", "()Z"⟩ : MethodName)) (z := (⟨"com/example/pemmican/pemmican/DataType", "isNumber", "()Z"⟩ : MethodName)) hown7 (mvT hZ7 (own_w hw 33 rfl)) (mvT hZ7 (own_w hw 34 rfl)) (notFace_of_selects (args := #[]) (mvT hZ7 (own_w hw 36 rfl))) (mvT hZ7 (own_w hw 36 rfl)) (mvT hZ7 (own_w hw 35 rfl)) (by decide) (backOf (W := 0) (rm2 l Z a0 hw [] c 1 h7 n0 O7 HS) hZ7 (own_w hw 37 rfl) (own_w hw 2 rfl) (by decide) (by decide)) qa10 qc10 (g := (mkF m 100 #[.val (.int p0), .val (.int (1 : Int32)), .val (.ref (c 1)), .val (.ref u7), .val (.int (1 : Int32))] [(.ref (c 1))])) rfl (by rw [hml]; rfl) (Steps.refl _) (argsL := []) (rest := []) (lenOf pd0_2 rfl) rfl (by show 2 * 0 + _ ≤ _; exact Nat.le_of_eq rfl) (hb hby at_100) (fun _ _ => ⟨rfl, e9, (by decide : 2 + 0 ≤ _), (by decide : 32 + 0 ≤ _)⟩)
      dsimp only [Pt.U, Pt.locs, Pt.cells, Pt.slots] at X10 l10 y10 z10 st10 hQ10
      subst y10 z10
      obtain ⟨rfl, Nc10, e10⟩ := hQ10
      have N10 : Fr n0 L10 := by rw [l10]; exact Fr.app N9 Nc10
      rw [fNu_1 c HS.2.2.2.2.2.2] at st10
      refine GoW.tr st10 ?_
      show GoW p e below s _ _ _ (T10.setTop (mkF m 103 #[.val (.int p0), .val (.int (1 : Int32)), .val (.ref (c 1)), .val (.ref u7), .val (.int (1 : Int32))] [(.int (1 : Int32))]))
      refine GoW.st (fun _ kq_ => XS.iload X10.here hx rfl (hb hby at_103) rfl kq_) ?_
      show GoW p e below s _ _ _ (T10.setTop (mkF m 105 #[.val (.int p0), .val (.int (1 : Int32)), .val (.ref (c 1)), .val (.ref u7), .val (.int (1 : Int32))] [(.int (1 : Int32)), (.int (1 : Int32))]))
      refine GoW.st (fun _ kq_ => XS.icmpNo X10.here hx rfl (hb hby at_105) rfl (by decide) kq_) ?_
      show GoW p e below s _ _ _ (T10.setTop (mkF m 108 #[.val (.int p0), .val (.int (1 : Int32)), .val (.ref (c 1)), .val (.ref u7), .val (.int (1 : Int32))] []))
      refine GoW.st (fun _ kq_ => XS.iconst X10.here hx rfl (hb hby at_108) kq_) ?_
      show GoW p e below s _ _ _ (T10.setTop (mkF m 109 #[.val (.int p0), .val (.int (1 : Int32)), .val (.ref (c 1)), .val (.ref u7), .val (.int (1 : Int32))] [(.int (1 : Int32))]))
      refine GoW.st (fun _ kq_ => XS.goto X10.here hx rfl (pc0 := 109) (pc' := 113) rfl (hb hby at_109) (by decide) (by decide) kq_) ?_
      show GoW p e below s _ _ _ (T10.setTop (mkF m 113 #[.val (.int p0), .val (.int (1 : Int32)), .val (.ref (c 1)), .val (.ref u7), .val (.int (1 : Int32))] [(.int (1 : Int32))]))
      exact GoW.ret (vm1 := T7.vm) X10 hlk hS7 (by rw [e10]; exact hk7) (some (.int (nar .boolean (1 : Int32)))) (fun h => by rw [Bd.returns] at h; cases h) (by rw [e10]; exact ⟨rfl, N10⟩) (by decide) (by decide) (fun fs hr => retN X10 hx (t := .boolean) Bd.returns (by simp) (hb hby at_113) hr)
    · show GoW p e below s _ _ _ (s₁.setTop (mkF m 6 #[.val (.int p0), .unset, .unset, .unset, .unset] [(.int (2 : Int32))]))
      refine GoW.st (fun _ kq_ => XS.istoreN X0.here hx rfl (hb hby at_6) rfl (l' := #[.val (.int p0), .val (.int (2 : Int32)), .unset, .unset, .unset]) rfl kq_) ?_
      show GoW p e below s _ _ _ (s₁.setTop (mkF m 7 #[.val (.int p0), .val (.int (2 : Int32)), .unset, .unset, .unset] []))
      refine GoW.st (fun _ kq_ => XS.iloadN X0.here hx rfl (hb hby at_7) rfl kq_) ?_
      show GoW p e below s _ _ _ (s₁.setTop (mkF m 8 #[.val (.int p0), .val (.int (2 : Int32)), .unset, .unset, .unset] [(.int (2 : Int32))]))
      refine GoW.st (fun _ kq_ => XS.ifYes X0.here hx rfl (pc0 := 8) (pc' := 24) rfl (hb hby at_8) rfl (by decide) (by decide) (by decide) kq_) ?_
      show GoW p e below s _ _ _ (s₁.setTop (mkF m 24 #[.val (.int p0), .val (.int (2 : Int32)), .unset, .unset, .unset] []))
      refine GoW.st (fun _ kq_ => XS.iloadN X0.here hx rfl (hb hby at_24) rfl kq_) ?_
      show GoW p e below s _ _ _ (s₁.setTop (mkF m 25 #[.val (.int p0), .val (.int (2 : Int32)), .unset, .unset, .unset] [(.int (2 : Int32))]))
      refine GoW.st (fun _ kq_ => XS.iconst X0.here hx rfl (hb hby at_25) kq_) ?_
      show GoW p e below s _ _ _ (s₁.setTop (mkF m 26 #[.val (.int p0), .val (.int (2 : Int32)), .unset, .unset, .unset] [(.int (1 : Int32)), (.int (2 : Int32))]))
      refine GoW.st (fun _ kq_ => XS.icmpYes X0.here hx rfl (pc0 := 26) (pc' := 42) rfl (hb hby at_26) rfl (by decide) (by decide) (by decide) kq_) ?_
      show GoW p e below s _ _ _ (s₁.setTop (mkF m 42 #[.val (.int p0), .val (.int (2 : Int32)), .unset, .unset, .unset] []))
      refine GoW.st (fun _ kq_ => XS.iloadN X0.here hx rfl (hb hby at_42) rfl kq_) ?_
      show GoW p e below s _ _ _ (s₁.setTop (mkF m 43 #[.val (.int p0), .val (.int (2 : Int32)), .unset, .unset, .unset] [(.int (2 : Int32))]))
      refine GoW.st (fun _ kq_ => XS.iconst X0.here hx rfl (hb hby at_43) kq_) ?_
      show GoW p e below s _ _ _ (s₁.setTop (mkF m 44 #[.val (.int p0), .val (.int (2 : Int32)), .unset, .unset, .unset] [(.int (2 : Int32)), (.int (2 : Int32))]))
      refine GoW.st (fun _ kq_ => XS.icmpNo X0.here hx rfl (hb hby at_44) rfl (by decide) kq_) ?_
      show GoW p e below s _ _ _ (s₁.setTop (mkF m 47 #[.val (.int p0), .val (.int (2 : Int32)), .unset, .unset, .unset] []))
      obtain ⟨T11, X11, e11, st11⟩ := getS X0 hx hZ hown (host := "") (own_w hw 51 rfl) Via.refl e0 (HS.2.2.1.ext O0.2) (g := (mkF m 47 #[.val (.int p0), .val (.int (2 : Int32)), .unset, .unset, .unset] [])) rfl (hb hby at_47)
      refine GoW.st st11 ?_
      show GoW p e below s _ _ _ (T11.setTop (mkF m 50 #[.val (.int p0), .val (.int (2 : Int32)), .unset, .unset, .unset] [(.ref (c 2))]))
      refine GoW.st (fun _ kq_ => XS.astoreN X11.here hx rfl (hb hby at_50) rfl rfl (l' := #[.val (.int p0), .val (.int (2 : Int32)), .val (.ref (c 2)), .unset, .unset]) rfl kq_) ?_
      show GoW p e below s _ _ _ (T11.setTop (mkF m 51 #[.val (.int p0), .val (.int (2 : Int32)), .val (.ref (c 2)), .unset, .unset] []))
      obtain ⟨u12, T12, h12, kk12, ub12, kb12, X12, e12, E12, hS12, hk12, hZ12, hown12, NE, NC, NV, NB, lta12, ltb12, I12, st12⟩ := ldcSV (vm0 := s.vm) X11 hx hZ hown (own_w hw 52 rfl) wS e11 hS0 hk0 (by rw [hs0]; exact N0) hkp I0 (by decide) (hcon ("com/example/pemmican/pemmican/DataTypeIsNumberPinLaw", 24) (by decide)) hcw (vs := [(.int (102 : Int32)), (.int (108 : Int32)), (.int (111 : Int32)), (.int (97 : Int32)), (.int (116 : Int32))]) (z := (5 : Int32)) (by decide) (by decide) rfl (g := (mkF m 51 #[.val (.int p0), .val (.int (2 : Int32)), .val (.ref (c 2)), .unset, .unset] [])) rfl (hb hby at_51) (n := 20) (by decide) (by decide) (by decide) (by decide)
      have O12 := O0.ext E12
      have E_u12 : Exa Z h12 u12 "java/lang/String" := NE
      have F_u12_coder : Fld Z h12 u12 "java/lang/String" "coder" "B" (.int (0 : Int32)) := NC
      have F_u12_value : Fld Z h12 u12 "java/lang/String" "value" "[B" (.ref ub12) := NV
      have V_ub12 : Arv Z h12 ub12 kb12 .byte (5 : Int32) [(.int (102 : Int32)), (.int (108 : Int32)), (.int (111 : Int32)), (.int (97 : Int32)), (.int (116 : Int32))] (.int (0 : Int32)) := NB
      refine GoW.st st12 ?_
      show GoW p e below s _ _ _ (T12.setTop (mkF m 53 #[.val (.int p0), .val (.int (2 : Int32)), .val (.ref (c 2)), .unset, .unset] [(.ref u12)]))
      refine GoW.st (fun _ kq_ => XS.astoreN X12.here hx rfl (hb hby at_53) rfl rfl (l' := #[.val (.int p0), .val (.int (2 : Int32)), .val (.ref (c 2)), .val (.ref u12), .unset]) rfl kq_) ?_
      show GoW p e below s _ _ _ (T12.setTop (mkF m 54 #[.val (.int p0), .val (.int (2 : Int32)), .val (.ref (c 2)), .val (.ref u12), .unset] []))
      refine GoW.st (fun _ kq_ => XS.iconst X12.here hx rfl (hb hby at_54) kq_) ?_
      show GoW p e below s _ _ _ (T12.setTop (mkF m 55 #[.val (.int p0), .val (.int (2 : Int32)), .val (.ref (c 2)), .val (.ref u12), .unset] [(.int (1 : Int32))]))
      refine GoW.st (fun _ kq_ => XS.istore X12.here hx rfl (hb hby at_55) rfl (l' := #[.val (.int p0), .val (.int (2 : Int32)), .val (.ref (c 2)), .val (.ref u12), .val (.int (1 : Int32))]) rfl kq_) ?_
      show GoW p e below s _ _ _ (T12.setTop (mkF m 57 #[.val (.int p0), .val (.int (2 : Int32)), .val (.ref (c 2)), .val (.ref u12), .val (.int (1 : Int32))] []))
      refine GoW.st (fun _ kq_ => XS.goto X12.here hx rfl (pc0 := 57) (pc' := 88) rfl (hb hby at_57) (by decide) (by decide) kq_) ?_
      show GoW p e below s _ _ _ (T12.setTop (mkF m 88 #[.val (.int p0), .val (.int (2 : Int32)), .val (.ref (c 2)), .val (.ref u12), .val (.int (1 : Int32))] []))
      refine GoW.st (fun _ kq_ => XS.aloadN X12.here hx rfl (hb hby at_88) rfl rfl kq_) ?_
      show GoW p e below s _ _ _ (T12.setTop (mkF m 89 #[.val (.int p0), .val (.int (2 : Int32)), .val (.ref (c 2)), .val (.ref u12), .val (.int (1 : Int32))] [(.ref u12)]))
      refine GoW.st (fun _ kq_ => XS.aloadN X12.here hx rfl (hb hby at_89) rfl rfl kq_) ?_
      show GoW p e below s _ _ _ (T12.setTop (mkF m 90 #[.val (.int p0), .val (.int (2 : Int32)), .val (.ref (c 2)), .val (.ref u12), .val (.int (1 : Int32))] [(.ref (c 2)), (.ref u12)]))
      obtain ⟨cq13, kq13, qa13, qb13, qc13⟩ := isOf hZ12 e12 ((HS.2.2.2.2.2.1 2 (by decide)).ext O12.2)
      obtain ⟨_, _, ⟨T13, L13, k13, n13⟩, -, X13, ⟨Lc13, hQ13, l13, y13, z13⟩, st13⟩ := X12.virtualBack hx (y := (⟨"com/example/pemmican/pemmican/DataType", "pmmlName", "()Ljava/lang/String;"⟩ : MethodName)) (z := (⟨"com/example/pemmican/pemmican/DataType", "pmmlName", "()Ljava/lang/String;"⟩ : MethodName)) hown12 (mvT hZ12 (own_w hw 12 rfl)) (mvT hZ12 (own_w hw 13 rfl)) (notFace_of_selects (args := #[]) (mvT hZ12 (own_w hw 15 rfl))) (mvT hZ12 (own_w hw 15 rfl)) (mvT hZ12 (own_w hw 14 rfl)) (by decide) (backOf (W := 1) (rm1 l Z a0 hw [] (c 2) (sa 2) h12 n0 O12 ((HT.2.2.1).1.ext O12.2)) hZ12 (own_w hw 16 rfl) (own_w hw 2 rfl) (by decide) (by decide)) qa13 qc13 (g := (mkF m 90 #[.val (.int p0), .val (.int (2 : Int32)), .val (.ref (c 2)), .val (.ref u12), .val (.int (1 : Int32))] [(.ref (c 2)), (.ref u12)])) rfl (by rw [hml]; rfl) (Steps.refl _) (argsL := []) (rest := [(.ref u12)]) (lenOf pd0_0 rfl) rfl (by show 2 * 0 + _ ≤ _; exact Nat.le_of_eq rfl) (hb hby at_90) (fun _ _ => ⟨rfl, e12, (by decide : 2 + 0 ≤ _), (by decide : 24 + 0 ≤ _)⟩)
      dsimp only [Pt.U, Pt.locs, Pt.cells, Pt.slots] at X13 l13 y13 z13 st13 hQ13
      subst y13 z13
      obtain ⟨rfl, Nc13, e13⟩ := hQ13
      have N13 : Fr n0 L13 := by rw [l13]; exact Fr.app N0 Nc13
      refine GoW.tr st13 ?_
      show GoW p e below s _ _ _ (T13.setTop (mkF m 93 #[.val (.int p0), .val (.int (2 : Int32)), .val (.ref (c 2)), .val (.ref u12), .val (.int (1 : Int32))] [(.ref (sa 2)), (.ref u12)]))
      obtain ⟨cq14, kq14, qa14, qb14, qc14⟩ := isOf hZ12 e13 E_u12
      obtain ⟨_, _, ⟨T14, L14, k14, n14⟩, -, X14, ⟨Lc14, hQ14, l14, y14, z14⟩, st14⟩ := X13.virtualBack hx (y := (⟨"java/lang/String", "equals", "(Ljava/lang/Object;)Z"⟩ : MethodName)) (z := (⟨"java/lang/String", "equals", "(Ljava/lang/Object;)Z"⟩ : MethodName)) hown12 (mvT hZ12 (own_w hw 19 rfl)) (mvT hZ12 (own_w hw 20 rfl)) (notFace_of_selects (args := #[]) (mvT hZ12 (own_w hw 22 rfl))) (mvT hZ12 (own_w hw 22 rfl)) (mvT hZ12 (own_w hw 21 rfl)) (by decide) (backOf (W := 0) (rmq2 l Z a0 hw [] u12 ub12 kb12 (sa 2) (va 2) (kv 2) zc h12 n0 O12 E_u12 F_u12_coder F_u12_value V_ub12 (HT.2.2.1.2.1.ext O12.2) (HT.2.2.1.2.2.1.ext O12.2) (HT.2.2.1.2.2.2.1.ext O12.2) (HT.2.2.1.2.2.2.2.ext O12.2) SC hcs) hZ12 (own_w hw 23 rfl) (own_w hw 5 rfl) (by decide) (by decide)) qa14 qc14 (g := (mkF m 93 #[.val (.int p0), .val (.int (2 : Int32)), .val (.ref (c 2)), .val (.ref u12), .val (.int (1 : Int32))] [(.ref (sa 2)), (.ref u12)])) rfl (by rw [hml]; rfl) (Steps.refl _) (argsL := [(.ref (sa 2))]) (rest := []) (lenOf pd0_1 rfl) rfl (by show 2 * 0 + _ ≤ _; exact Nat.le_of_eq rfl) (hb hby at_93) (fun _ _ => ⟨rfl, e13, (by decide : 2 + 0 ≤ _), (by decide : 24 + 0 ≤ _)⟩)
      dsimp only [Pt.U, Pt.locs, Pt.cells, Pt.slots] at X14 l14 y14 z14 st14 hQ14
      subst y14 z14
      obtain ⟨rfl, Nc14, e14⟩ := hQ14
      have N14 : Fr n0 L14 := by rw [l14]; exact Fr.app N13 Nc14
      refine GoW.tr st14 ?_
      show GoW p e below s _ _ _ (T14.setTop (mkF m 96 #[.val (.int p0), .val (.int (2 : Int32)), .val (.ref (c 2)), .val (.ref u12), .val (.int (1 : Int32))] [(.int (1 : Int32))]))
      refine GoW.st (fun _ kq_ => XS.ifNo X14.here hx rfl (hb hby at_96) rfl (by decide) kq_) ?_
      show GoW p e below s _ _ _ (T14.setTop (mkF m 99 #[.val (.int p0), .val (.int (2 : Int32)), .val (.ref (c 2)), .val (.ref u12), .val (.int (1 : Int32))] []))
      refine GoW.st (fun _ kq_ => XS.aloadN X14.here hx rfl (hb hby at_99) rfl rfl kq_) ?_
      show GoW p e below s _ _ _ (T14.setTop (mkF m 100 #[.val (.int p0), .val (.int (2 : Int32)), .val (.ref (c 2)), .val (.ref u12), .val (.int (1 : Int32))] [(.ref (c 2))]))
      obtain ⟨cq15, kq15, qa15, qb15, qc15⟩ := isOf hZ12 e14 ((HS.2.2.2.2.2.1 2 (by decide)).ext O12.2)
      obtain ⟨_, _, ⟨T15, L15, k15, n15⟩, -, X15, ⟨Lc15, hQ15, l15, y15, z15⟩, st15⟩ := X14.virtualBack hx (y := (⟨"com/example/pemmican/pemmican/DataType", "isNumber", "()Z"⟩ : MethodName)) (z := (⟨"com/example/pemmican/pemmican/DataType", "isNumber", "()Z"⟩ : MethodName)) hown12 (mvT hZ12 (own_w hw 33 rfl)) (mvT hZ12 (own_w hw 34 rfl)) (notFace_of_selects (args := #[]) (mvT hZ12 (own_w hw 36 rfl))) (mvT hZ12 (own_w hw 36 rfl)) (mvT hZ12 (own_w hw 35 rfl)) (by decide) (backOf (W := 0) (rm2 l Z a0 hw [] c 2 h12 n0 O12 HS) hZ12 (own_w hw 37 rfl) (own_w hw 2 rfl) (by decide) (by decide)) qa15 qc15 (g := (mkF m 100 #[.val (.int p0), .val (.int (2 : Int32)), .val (.ref (c 2)), .val (.ref u12), .val (.int (1 : Int32))] [(.ref (c 2))])) rfl (by rw [hml]; rfl) (Steps.refl _) (argsL := []) (rest := []) (lenOf pd0_2 rfl) rfl (by show 2 * 0 + _ ≤ _; exact Nat.le_of_eq rfl) (hb hby at_100) (fun _ _ => ⟨rfl, e14, (by decide : 2 + 0 ≤ _), (by decide : 24 + 0 ≤ _)⟩)
      dsimp only [Pt.U, Pt.locs, Pt.cells, Pt.slots] at X15 l15 y15 z15 st15 hQ15
      subst y15 z15
      obtain ⟨rfl, Nc15, e15⟩ := hQ15
      have N15 : Fr n0 L15 := by rw [l15]; exact Fr.app N14 Nc15
      rw [fNu_2 c HS.2.2.2.2.2.2] at st15
      refine GoW.tr st15 ?_
      show GoW p e below s _ _ _ (T15.setTop (mkF m 103 #[.val (.int p0), .val (.int (2 : Int32)), .val (.ref (c 2)), .val (.ref u12), .val (.int (1 : Int32))] [(.int (1 : Int32))]))
      refine GoW.st (fun _ kq_ => XS.iload X15.here hx rfl (hb hby at_103) rfl kq_) ?_
      show GoW p e below s _ _ _ (T15.setTop (mkF m 105 #[.val (.int p0), .val (.int (2 : Int32)), .val (.ref (c 2)), .val (.ref u12), .val (.int (1 : Int32))] [(.int (1 : Int32)), (.int (1 : Int32))]))
      refine GoW.st (fun _ kq_ => XS.icmpNo X15.here hx rfl (hb hby at_105) rfl (by decide) kq_) ?_
      show GoW p e below s _ _ _ (T15.setTop (mkF m 108 #[.val (.int p0), .val (.int (2 : Int32)), .val (.ref (c 2)), .val (.ref u12), .val (.int (1 : Int32))] []))
      refine GoW.st (fun _ kq_ => XS.iconst X15.here hx rfl (hb hby at_108) kq_) ?_
      show GoW p e below s _ _ _ (T15.setTop (mkF m 109 #[.val (.int p0), .val (.int (2 : Int32)), .val (.ref (c 2)), .val (.ref u12), .val (.int (1 : Int32))] [(.int (1 : Int32))]))
      refine GoW.st (fun _ kq_ => XS.goto X15.here hx rfl (pc0 := 109) (pc' := 113) rfl (hb hby at_109) (by decide) (by decide) kq_) ?_
      show GoW p e below s _ _ _ (T15.setTop (mkF m 113 #[.val (.int p0), .val (.int (2 : Int32)), .val (.ref (c 2)), .val (.ref u12), .val (.int (1 : Int32))] [(.int (1 : Int32))]))
      exact GoW.ret (vm1 := T12.vm) X15 hlk hS12 (by rw [e15]; exact hk12) (some (.int (nar .boolean (1 : Int32)))) (fun h => by rw [Bd.returns] at h; cases h) (by rw [e15]; exact ⟨rfl, N15⟩) (by decide) (by decide) (fun fs hr => retN X15 hx (t := .boolean) Bd.returns (by simp) (hb hby at_113) hr)
    · show GoW p e below s _ _ _ (s₁.setTop (mkF m 6 #[.val (.int p0), .unset, .unset, .unset, .unset] [(.int (3 : Int32))]))
      refine GoW.st (fun _ kq_ => XS.istoreN X0.here hx rfl (hb hby at_6) rfl (l' := #[.val (.int p0), .val (.int (3 : Int32)), .unset, .unset, .unset]) rfl kq_) ?_
      show GoW p e below s _ _ _ (s₁.setTop (mkF m 7 #[.val (.int p0), .val (.int (3 : Int32)), .unset, .unset, .unset] []))
      refine GoW.st (fun _ kq_ => XS.iloadN X0.here hx rfl (hb hby at_7) rfl kq_) ?_
      show GoW p e below s _ _ _ (s₁.setTop (mkF m 8 #[.val (.int p0), .val (.int (3 : Int32)), .unset, .unset, .unset] [(.int (3 : Int32))]))
      refine GoW.st (fun _ kq_ => XS.ifYes X0.here hx rfl (pc0 := 8) (pc' := 24) rfl (hb hby at_8) rfl (by decide) (by decide) (by decide) kq_) ?_
      show GoW p e below s _ _ _ (s₁.setTop (mkF m 24 #[.val (.int p0), .val (.int (3 : Int32)), .unset, .unset, .unset] []))
      refine GoW.st (fun _ kq_ => XS.iloadN X0.here hx rfl (hb hby at_24) rfl kq_) ?_
      show GoW p e below s _ _ _ (s₁.setTop (mkF m 25 #[.val (.int p0), .val (.int (3 : Int32)), .unset, .unset, .unset] [(.int (3 : Int32))]))
      refine GoW.st (fun _ kq_ => XS.iconst X0.here hx rfl (hb hby at_25) kq_) ?_
      show GoW p e below s _ _ _ (s₁.setTop (mkF m 26 #[.val (.int p0), .val (.int (3 : Int32)), .unset, .unset, .unset] [(.int (1 : Int32)), (.int (3 : Int32))]))
      refine GoW.st (fun _ kq_ => XS.icmpYes X0.here hx rfl (pc0 := 26) (pc' := 42) rfl (hb hby at_26) rfl (by decide) (by decide) (by decide) kq_) ?_
      show GoW p e below s _ _ _ (s₁.setTop (mkF m 42 #[.val (.int p0), .val (.int (3 : Int32)), .unset, .unset, .unset] []))
      refine GoW.st (fun _ kq_ => XS.iloadN X0.here hx rfl (hb hby at_42) rfl kq_) ?_
      show GoW p e below s _ _ _ (s₁.setTop (mkF m 43 #[.val (.int p0), .val (.int (3 : Int32)), .unset, .unset, .unset] [(.int (3 : Int32))]))
      refine GoW.st (fun _ kq_ => XS.iconst X0.here hx rfl (hb hby at_43) kq_) ?_
      show GoW p e below s _ _ _ (s₁.setTop (mkF m 44 #[.val (.int p0), .val (.int (3 : Int32)), .unset, .unset, .unset] [(.int (2 : Int32)), (.int (3 : Int32))]))
      refine GoW.st (fun _ kq_ => XS.icmpYes X0.here hx rfl (pc0 := 44) (pc' := 60) rfl (hb hby at_44) rfl (by decide) (by decide) (by decide) kq_) ?_
      show GoW p e below s _ _ _ (s₁.setTop (mkF m 60 #[.val (.int p0), .val (.int (3 : Int32)), .unset, .unset, .unset] []))
      refine GoW.st (fun _ kq_ => XS.iloadN X0.here hx rfl (hb hby at_60) rfl kq_) ?_
      show GoW p e below s _ _ _ (s₁.setTop (mkF m 61 #[.val (.int p0), .val (.int (3 : Int32)), .unset, .unset, .unset] [(.int (3 : Int32))]))
      refine GoW.st (fun _ kq_ => XS.iconst X0.here hx rfl (hb hby at_61) kq_) ?_
      show GoW p e below s _ _ _ (s₁.setTop (mkF m 62 #[.val (.int p0), .val (.int (3 : Int32)), .unset, .unset, .unset] [(.int (3 : Int32)), (.int (3 : Int32))]))
      refine GoW.st (fun _ kq_ => XS.icmpNo X0.here hx rfl (hb hby at_62) rfl (by decide) kq_) ?_
      show GoW p e below s _ _ _ (s₁.setTop (mkF m 65 #[.val (.int p0), .val (.int (3 : Int32)), .unset, .unset, .unset] []))
      obtain ⟨T16, X16, e16, st16⟩ := getS X0 hx hZ hown (host := "") (own_w hw 44 rfl) Via.refl e0 (HS.2.2.2.1.ext O0.2) (g := (mkF m 65 #[.val (.int p0), .val (.int (3 : Int32)), .unset, .unset, .unset] [])) rfl (hb hby at_65)
      refine GoW.st st16 ?_
      show GoW p e below s _ _ _ (T16.setTop (mkF m 68 #[.val (.int p0), .val (.int (3 : Int32)), .unset, .unset, .unset] [(.ref (c 3))]))
      refine GoW.st (fun _ kq_ => XS.astoreN X16.here hx rfl (hb hby at_68) rfl rfl (l' := #[.val (.int p0), .val (.int (3 : Int32)), .val (.ref (c 3)), .unset, .unset]) rfl kq_) ?_
      show GoW p e below s _ _ _ (T16.setTop (mkF m 69 #[.val (.int p0), .val (.int (3 : Int32)), .val (.ref (c 3)), .unset, .unset] []))
      obtain ⟨u17, T17, h17, kk17, ub17, kb17, X17, e17, E17, hS17, hk17, hZ17, hown17, NE, NC, NV, NB, lta17, ltb17, I17, st17⟩ := ldcSV (vm0 := s.vm) X16 hx hZ hown (own_w hw 45 rfl) wS e16 hS0 hk0 (by rw [hs0]; exact N0) hkp I0 (by decide) (hcon ("com/example/pemmican/pemmican/DataTypeIsNumberPinLaw", 29) (by decide)) hcw (vs := [(.int (100 : Int32)), (.int (111 : Int32)), (.int (117 : Int32)), (.int (98 : Int32)), (.int (108 : Int32)), (.int (101 : Int32))]) (z := (6 : Int32)) (by decide) (by decide) rfl (g := (mkF m 69 #[.val (.int p0), .val (.int (3 : Int32)), .val (.ref (c 3)), .unset, .unset] [])) rfl (hb hby at_69) (n := 24) (by decide) (by decide) (by decide) (by decide)
      have O17 := O0.ext E17
      have E_u17 : Exa Z h17 u17 "java/lang/String" := NE
      have F_u17_coder : Fld Z h17 u17 "java/lang/String" "coder" "B" (.int (0 : Int32)) := NC
      have F_u17_value : Fld Z h17 u17 "java/lang/String" "value" "[B" (.ref ub17) := NV
      have V_ub17 : Arv Z h17 ub17 kb17 .byte (6 : Int32) [(.int (100 : Int32)), (.int (111 : Int32)), (.int (117 : Int32)), (.int (98 : Int32)), (.int (108 : Int32)), (.int (101 : Int32))] (.int (0 : Int32)) := NB
      refine GoW.st st17 ?_
      show GoW p e below s _ _ _ (T17.setTop (mkF m 71 #[.val (.int p0), .val (.int (3 : Int32)), .val (.ref (c 3)), .unset, .unset] [(.ref u17)]))
      refine GoW.st (fun _ kq_ => XS.astoreN X17.here hx rfl (hb hby at_71) rfl rfl (l' := #[.val (.int p0), .val (.int (3 : Int32)), .val (.ref (c 3)), .val (.ref u17), .unset]) rfl kq_) ?_
      show GoW p e below s _ _ _ (T17.setTop (mkF m 72 #[.val (.int p0), .val (.int (3 : Int32)), .val (.ref (c 3)), .val (.ref u17), .unset] []))
      refine GoW.st (fun _ kq_ => XS.iconst X17.here hx rfl (hb hby at_72) kq_) ?_
      show GoW p e below s _ _ _ (T17.setTop (mkF m 73 #[.val (.int p0), .val (.int (3 : Int32)), .val (.ref (c 3)), .val (.ref u17), .unset] [(.int (1 : Int32))]))
      refine GoW.st (fun _ kq_ => XS.istore X17.here hx rfl (hb hby at_73) rfl (l' := #[.val (.int p0), .val (.int (3 : Int32)), .val (.ref (c 3)), .val (.ref u17), .val (.int (1 : Int32))]) rfl kq_) ?_
      show GoW p e below s _ _ _ (T17.setTop (mkF m 75 #[.val (.int p0), .val (.int (3 : Int32)), .val (.ref (c 3)), .val (.ref u17), .val (.int (1 : Int32))] []))
      refine GoW.st (fun _ kq_ => XS.goto X17.here hx rfl (pc0 := 75) (pc' := 88) rfl (hb hby at_75) (by decide) (by decide) kq_) ?_
      show GoW p e below s _ _ _ (T17.setTop (mkF m 88 #[.val (.int p0), .val (.int (3 : Int32)), .val (.ref (c 3)), .val (.ref u17), .val (.int (1 : Int32))] []))
      refine GoW.st (fun _ kq_ => XS.aloadN X17.here hx rfl (hb hby at_88) rfl rfl kq_) ?_
      show GoW p e below s _ _ _ (T17.setTop (mkF m 89 #[.val (.int p0), .val (.int (3 : Int32)), .val (.ref (c 3)), .val (.ref u17), .val (.int (1 : Int32))] [(.ref u17)]))
      refine GoW.st (fun _ kq_ => XS.aloadN X17.here hx rfl (hb hby at_89) rfl rfl kq_) ?_
      show GoW p e below s _ _ _ (T17.setTop (mkF m 90 #[.val (.int p0), .val (.int (3 : Int32)), .val (.ref (c 3)), .val (.ref u17), .val (.int (1 : Int32))] [(.ref (c 3)), (.ref u17)]))
      obtain ⟨cq18, kq18, qa18, qb18, qc18⟩ := isOf hZ17 e17 ((HS.2.2.2.2.2.1 3 (by decide)).ext O17.2)
      obtain ⟨_, _, ⟨T18, L18, k18, n18⟩, -, X18, ⟨Lc18, hQ18, l18, y18, z18⟩, st18⟩ := X17.virtualBack hx (y := (⟨"com/example/pemmican/pemmican/DataType", "pmmlName", "()Ljava/lang/String;"⟩ : MethodName)) (z := (⟨"com/example/pemmican/pemmican/DataType", "pmmlName", "()Ljava/lang/String;"⟩ : MethodName)) hown17 (mvT hZ17 (own_w hw 12 rfl)) (mvT hZ17 (own_w hw 13 rfl)) (notFace_of_selects (args := #[]) (mvT hZ17 (own_w hw 15 rfl))) (mvT hZ17 (own_w hw 15 rfl)) (mvT hZ17 (own_w hw 14 rfl)) (by decide) (backOf (W := 1) (rm1 l Z a0 hw [] (c 3) (sa 3) h17 n0 O17 ((HT.2.2.2.1).1.ext O17.2)) hZ17 (own_w hw 16 rfl) (own_w hw 2 rfl) (by decide) (by decide)) qa18 qc18 (g := (mkF m 90 #[.val (.int p0), .val (.int (3 : Int32)), .val (.ref (c 3)), .val (.ref u17), .val (.int (1 : Int32))] [(.ref (c 3)), (.ref u17)])) rfl (by rw [hml]; rfl) (Steps.refl _) (argsL := []) (rest := [(.ref u17)]) (lenOf pd0_0 rfl) rfl (by show 2 * 0 + _ ≤ _; exact Nat.le_of_eq rfl) (hb hby at_90) (fun _ _ => ⟨rfl, e17, (by decide : 2 + 0 ≤ _), (by decide : 28 + 0 ≤ _)⟩)
      dsimp only [Pt.U, Pt.locs, Pt.cells, Pt.slots] at X18 l18 y18 z18 st18 hQ18
      subst y18 z18
      obtain ⟨rfl, Nc18, e18⟩ := hQ18
      have N18 : Fr n0 L18 := by rw [l18]; exact Fr.app N0 Nc18
      refine GoW.tr st18 ?_
      show GoW p e below s _ _ _ (T18.setTop (mkF m 93 #[.val (.int p0), .val (.int (3 : Int32)), .val (.ref (c 3)), .val (.ref u17), .val (.int (1 : Int32))] [(.ref (sa 3)), (.ref u17)]))
      obtain ⟨cq19, kq19, qa19, qb19, qc19⟩ := isOf hZ17 e18 E_u17
      obtain ⟨_, _, ⟨T19, L19, k19, n19⟩, -, X19, ⟨Lc19, hQ19, l19, y19, z19⟩, st19⟩ := X18.virtualBack hx (y := (⟨"java/lang/String", "equals", "(Ljava/lang/Object;)Z"⟩ : MethodName)) (z := (⟨"java/lang/String", "equals", "(Ljava/lang/Object;)Z"⟩ : MethodName)) hown17 (mvT hZ17 (own_w hw 19 rfl)) (mvT hZ17 (own_w hw 20 rfl)) (notFace_of_selects (args := #[]) (mvT hZ17 (own_w hw 22 rfl))) (mvT hZ17 (own_w hw 22 rfl)) (mvT hZ17 (own_w hw 21 rfl)) (by decide) (backOf (W := 0) (rmq3 l Z a0 hw [] u17 ub17 kb17 (sa 3) (va 3) (kv 3) zc h17 n0 O17 E_u17 F_u17_coder F_u17_value V_ub17 (HT.2.2.2.1.2.1.ext O17.2) (HT.2.2.2.1.2.2.1.ext O17.2) (HT.2.2.2.1.2.2.2.1.ext O17.2) (HT.2.2.2.1.2.2.2.2.ext O17.2) SC hcs) hZ17 (own_w hw 23 rfl) (own_w hw 5 rfl) (by decide) (by decide)) qa19 qc19 (g := (mkF m 93 #[.val (.int p0), .val (.int (3 : Int32)), .val (.ref (c 3)), .val (.ref u17), .val (.int (1 : Int32))] [(.ref (sa 3)), (.ref u17)])) rfl (by rw [hml]; rfl) (Steps.refl _) (argsL := [(.ref (sa 3))]) (rest := []) (lenOf pd0_1 rfl) rfl (by show 2 * 0 + _ ≤ _; exact Nat.le_of_eq rfl) (hb hby at_93) (fun _ _ => ⟨rfl, e18, (by decide : 2 + 0 ≤ _), (by decide : 28 + 0 ≤ _)⟩)
      dsimp only [Pt.U, Pt.locs, Pt.cells, Pt.slots] at X19 l19 y19 z19 st19 hQ19
      subst y19 z19
      obtain ⟨rfl, Nc19, e19⟩ := hQ19
      have N19 : Fr n0 L19 := by rw [l19]; exact Fr.app N18 Nc19
      refine GoW.tr st19 ?_
      show GoW p e below s _ _ _ (T19.setTop (mkF m 96 #[.val (.int p0), .val (.int (3 : Int32)), .val (.ref (c 3)), .val (.ref u17), .val (.int (1 : Int32))] [(.int (1 : Int32))]))
      refine GoW.st (fun _ kq_ => XS.ifNo X19.here hx rfl (hb hby at_96) rfl (by decide) kq_) ?_
      show GoW p e below s _ _ _ (T19.setTop (mkF m 99 #[.val (.int p0), .val (.int (3 : Int32)), .val (.ref (c 3)), .val (.ref u17), .val (.int (1 : Int32))] []))
      refine GoW.st (fun _ kq_ => XS.aloadN X19.here hx rfl (hb hby at_99) rfl rfl kq_) ?_
      show GoW p e below s _ _ _ (T19.setTop (mkF m 100 #[.val (.int p0), .val (.int (3 : Int32)), .val (.ref (c 3)), .val (.ref u17), .val (.int (1 : Int32))] [(.ref (c 3))]))
      obtain ⟨cq20, kq20, qa20, qb20, qc20⟩ := isOf hZ17 e19 ((HS.2.2.2.2.2.1 3 (by decide)).ext O17.2)
      obtain ⟨_, _, ⟨T20, L20, k20, n20⟩, -, X20, ⟨Lc20, hQ20, l20, y20, z20⟩, st20⟩ := X19.virtualBack hx (y := (⟨"com/example/pemmican/pemmican/DataType", "isNumber", "()Z"⟩ : MethodName)) (z := (⟨"com/example/pemmican/pemmican/DataType", "isNumber", "()Z"⟩ : MethodName)) hown17 (mvT hZ17 (own_w hw 33 rfl)) (mvT hZ17 (own_w hw 34 rfl)) (notFace_of_selects (args := #[]) (mvT hZ17 (own_w hw 36 rfl))) (mvT hZ17 (own_w hw 36 rfl)) (mvT hZ17 (own_w hw 35 rfl)) (by decide) (backOf (W := 0) (rm2 l Z a0 hw [] c 3 h17 n0 O17 HS) hZ17 (own_w hw 37 rfl) (own_w hw 2 rfl) (by decide) (by decide)) qa20 qc20 (g := (mkF m 100 #[.val (.int p0), .val (.int (3 : Int32)), .val (.ref (c 3)), .val (.ref u17), .val (.int (1 : Int32))] [(.ref (c 3))])) rfl (by rw [hml]; rfl) (Steps.refl _) (argsL := []) (rest := []) (lenOf pd0_2 rfl) rfl (by show 2 * 0 + _ ≤ _; exact Nat.le_of_eq rfl) (hb hby at_100) (fun _ _ => ⟨rfl, e19, (by decide : 2 + 0 ≤ _), (by decide : 28 + 0 ≤ _)⟩)
      dsimp only [Pt.U, Pt.locs, Pt.cells, Pt.slots] at X20 l20 y20 z20 st20 hQ20
      subst y20 z20
      obtain ⟨rfl, Nc20, e20⟩ := hQ20
      have N20 : Fr n0 L20 := by rw [l20]; exact Fr.app N19 Nc20
      rw [fNu_3 c HS.2.2.2.2.2.2] at st20
      refine GoW.tr st20 ?_
      show GoW p e below s _ _ _ (T20.setTop (mkF m 103 #[.val (.int p0), .val (.int (3 : Int32)), .val (.ref (c 3)), .val (.ref u17), .val (.int (1 : Int32))] [(.int (1 : Int32))]))
      refine GoW.st (fun _ kq_ => XS.iload X20.here hx rfl (hb hby at_103) rfl kq_) ?_
      show GoW p e below s _ _ _ (T20.setTop (mkF m 105 #[.val (.int p0), .val (.int (3 : Int32)), .val (.ref (c 3)), .val (.ref u17), .val (.int (1 : Int32))] [(.int (1 : Int32)), (.int (1 : Int32))]))
      refine GoW.st (fun _ kq_ => XS.icmpNo X20.here hx rfl (hb hby at_105) rfl (by decide) kq_) ?_
      show GoW p e below s _ _ _ (T20.setTop (mkF m 108 #[.val (.int p0), .val (.int (3 : Int32)), .val (.ref (c 3)), .val (.ref u17), .val (.int (1 : Int32))] []))
      refine GoW.st (fun _ kq_ => XS.iconst X20.here hx rfl (hb hby at_108) kq_) ?_
      show GoW p e below s _ _ _ (T20.setTop (mkF m 109 #[.val (.int p0), .val (.int (3 : Int32)), .val (.ref (c 3)), .val (.ref u17), .val (.int (1 : Int32))] [(.int (1 : Int32))]))
      refine GoW.st (fun _ kq_ => XS.goto X20.here hx rfl (pc0 := 109) (pc' := 113) rfl (hb hby at_109) (by decide) (by decide) kq_) ?_
      show GoW p e below s _ _ _ (T20.setTop (mkF m 113 #[.val (.int p0), .val (.int (3 : Int32)), .val (.ref (c 3)), .val (.ref u17), .val (.int (1 : Int32))] [(.int (1 : Int32))]))
      exact GoW.ret (vm1 := T17.vm) X20 hlk hS17 (by rw [e20]; exact hk17) (some (.int (nar .boolean (1 : Int32)))) (fun h => by rw [Bd.returns] at h; cases h) (by rw [e20]; exact ⟨rfl, N20⟩) (by decide) (by decide) (fun fs hr => retN X20 hx (t := .boolean) Bd.returns (by simp) (hb hby at_113) hr)
    · show GoW p e below s _ _ _ (s₁.setTop (mkF m 6 #[.val (.int p0), .unset, .unset, .unset, .unset] [(.int (4 : Int32))]))
      refine GoW.st (fun _ kq_ => XS.istoreN X0.here hx rfl (hb hby at_6) rfl (l' := #[.val (.int p0), .val (.int (4 : Int32)), .unset, .unset, .unset]) rfl kq_) ?_
      show GoW p e below s _ _ _ (s₁.setTop (mkF m 7 #[.val (.int p0), .val (.int (4 : Int32)), .unset, .unset, .unset] []))
      refine GoW.st (fun _ kq_ => XS.iloadN X0.here hx rfl (hb hby at_7) rfl kq_) ?_
      show GoW p e below s _ _ _ (s₁.setTop (mkF m 8 #[.val (.int p0), .val (.int (4 : Int32)), .unset, .unset, .unset] [(.int (4 : Int32))]))
      refine GoW.st (fun _ kq_ => XS.ifYes X0.here hx rfl (pc0 := 8) (pc' := 24) rfl (hb hby at_8) rfl (by decide) (by decide) (by decide) kq_) ?_
      show GoW p e below s _ _ _ (s₁.setTop (mkF m 24 #[.val (.int p0), .val (.int (4 : Int32)), .unset, .unset, .unset] []))
      refine GoW.st (fun _ kq_ => XS.iloadN X0.here hx rfl (hb hby at_24) rfl kq_) ?_
      show GoW p e below s _ _ _ (s₁.setTop (mkF m 25 #[.val (.int p0), .val (.int (4 : Int32)), .unset, .unset, .unset] [(.int (4 : Int32))]))
      refine GoW.st (fun _ kq_ => XS.iconst X0.here hx rfl (hb hby at_25) kq_) ?_
      show GoW p e below s _ _ _ (s₁.setTop (mkF m 26 #[.val (.int p0), .val (.int (4 : Int32)), .unset, .unset, .unset] [(.int (1 : Int32)), (.int (4 : Int32))]))
      refine GoW.st (fun _ kq_ => XS.icmpYes X0.here hx rfl (pc0 := 26) (pc' := 42) rfl (hb hby at_26) rfl (by decide) (by decide) (by decide) kq_) ?_
      show GoW p e below s _ _ _ (s₁.setTop (mkF m 42 #[.val (.int p0), .val (.int (4 : Int32)), .unset, .unset, .unset] []))
      refine GoW.st (fun _ kq_ => XS.iloadN X0.here hx rfl (hb hby at_42) rfl kq_) ?_
      show GoW p e below s _ _ _ (s₁.setTop (mkF m 43 #[.val (.int p0), .val (.int (4 : Int32)), .unset, .unset, .unset] [(.int (4 : Int32))]))
      refine GoW.st (fun _ kq_ => XS.iconst X0.here hx rfl (hb hby at_43) kq_) ?_
      show GoW p e below s _ _ _ (s₁.setTop (mkF m 44 #[.val (.int p0), .val (.int (4 : Int32)), .unset, .unset, .unset] [(.int (2 : Int32)), (.int (4 : Int32))]))
      refine GoW.st (fun _ kq_ => XS.icmpYes X0.here hx rfl (pc0 := 44) (pc' := 60) rfl (hb hby at_44) rfl (by decide) (by decide) (by decide) kq_) ?_
      show GoW p e below s _ _ _ (s₁.setTop (mkF m 60 #[.val (.int p0), .val (.int (4 : Int32)), .unset, .unset, .unset] []))
      refine GoW.st (fun _ kq_ => XS.iloadN X0.here hx rfl (hb hby at_60) rfl kq_) ?_
      show GoW p e below s _ _ _ (s₁.setTop (mkF m 61 #[.val (.int p0), .val (.int (4 : Int32)), .unset, .unset, .unset] [(.int (4 : Int32))]))
      refine GoW.st (fun _ kq_ => XS.iconst X0.here hx rfl (hb hby at_61) kq_) ?_
      show GoW p e below s _ _ _ (s₁.setTop (mkF m 62 #[.val (.int p0), .val (.int (4 : Int32)), .unset, .unset, .unset] [(.int (3 : Int32)), (.int (4 : Int32))]))
      refine GoW.st (fun _ kq_ => XS.icmpYes X0.here hx rfl (pc0 := 62) (pc' := 78) rfl (hb hby at_62) rfl (by decide) (by decide) (by decide) kq_) ?_
      show GoW p e below s _ _ _ (s₁.setTop (mkF m 78 #[.val (.int p0), .val (.int (4 : Int32)), .unset, .unset, .unset] []))
      obtain ⟨T21, X21, e21, st21⟩ := getS X0 hx hZ hown (host := "") (own_w hw 48 rfl) Via.refl e0 (HS.2.2.2.2.1.ext O0.2) (g := (mkF m 78 #[.val (.int p0), .val (.int (4 : Int32)), .unset, .unset, .unset] [])) rfl (hb hby at_78)
      refine GoW.st st21 ?_
      show GoW p e below s _ _ _ (T21.setTop (mkF m 81 #[.val (.int p0), .val (.int (4 : Int32)), .unset, .unset, .unset] [(.ref (c 4))]))
      refine GoW.st (fun _ kq_ => XS.astoreN X21.here hx rfl (hb hby at_81) rfl rfl (l' := #[.val (.int p0), .val (.int (4 : Int32)), .val (.ref (c 4)), .unset, .unset]) rfl kq_) ?_
      show GoW p e below s _ _ _ (T21.setTop (mkF m 82 #[.val (.int p0), .val (.int (4 : Int32)), .val (.ref (c 4)), .unset, .unset] []))
      obtain ⟨u22, T22, h22, kk22, ub22, kb22, X22, e22, E22, hS22, hk22, hZ22, hown22, NE, NC, NV, NB, lta22, ltb22, I22, st22⟩ := ldcSV (vm0 := s.vm) X21 hx hZ hown (own_w hw 50 rfl) wS e21 hS0 hk0 (by rw [hs0]; exact N0) hkp I0 (by decide) (hcon ("com/example/pemmican/pemmican/DataTypeIsNumberPinLaw", 34) (by decide)) hcw (vs := [(.int (98 : Int32)), (.int (111 : Int32)), (.int (111 : Int32)), (.int (108 : Int32)), (.int (101 : Int32)), (.int (97 : Int32)), (.int (110 : Int32))]) (z := (7 : Int32)) (by decide) (by decide) rfl (g := (mkF m 82 #[.val (.int p0), .val (.int (4 : Int32)), .val (.ref (c 4)), .unset, .unset] [])) rfl (hb hby at_82) (n := 28) (by decide) (by decide) (by decide) (by decide)
      have O22 := O0.ext E22
      have E_u22 : Exa Z h22 u22 "java/lang/String" := NE
      have F_u22_coder : Fld Z h22 u22 "java/lang/String" "coder" "B" (.int (0 : Int32)) := NC
      have F_u22_value : Fld Z h22 u22 "java/lang/String" "value" "[B" (.ref ub22) := NV
      have V_ub22 : Arv Z h22 ub22 kb22 .byte (7 : Int32) [(.int (98 : Int32)), (.int (111 : Int32)), (.int (111 : Int32)), (.int (108 : Int32)), (.int (101 : Int32)), (.int (97 : Int32)), (.int (110 : Int32))] (.int (0 : Int32)) := NB
      refine GoW.st st22 ?_
      show GoW p e below s _ _ _ (T22.setTop (mkF m 84 #[.val (.int p0), .val (.int (4 : Int32)), .val (.ref (c 4)), .unset, .unset] [(.ref u22)]))
      refine GoW.st (fun _ kq_ => XS.astoreN X22.here hx rfl (hb hby at_84) rfl rfl (l' := #[.val (.int p0), .val (.int (4 : Int32)), .val (.ref (c 4)), .val (.ref u22), .unset]) rfl kq_) ?_
      show GoW p e below s _ _ _ (T22.setTop (mkF m 85 #[.val (.int p0), .val (.int (4 : Int32)), .val (.ref (c 4)), .val (.ref u22), .unset] []))
      refine GoW.st (fun _ kq_ => XS.iconst X22.here hx rfl (hb hby at_85) kq_) ?_
      show GoW p e below s _ _ _ (T22.setTop (mkF m 86 #[.val (.int p0), .val (.int (4 : Int32)), .val (.ref (c 4)), .val (.ref u22), .unset] [(.int (0 : Int32))]))
      refine GoW.st (fun _ kq_ => XS.istore X22.here hx rfl (hb hby at_86) rfl (l' := #[.val (.int p0), .val (.int (4 : Int32)), .val (.ref (c 4)), .val (.ref u22), .val (.int (0 : Int32))]) rfl kq_) ?_
      show GoW p e below s _ _ _ (T22.setTop (mkF m 88 #[.val (.int p0), .val (.int (4 : Int32)), .val (.ref (c 4)), .val (.ref u22), .val (.int (0 : Int32))] []))
      refine GoW.st (fun _ kq_ => XS.aloadN X22.here hx rfl (hb hby at_88) rfl rfl kq_) ?_
      show GoW p e below s _ _ _ (T22.setTop (mkF m 89 #[.val (.int p0), .val (.int (4 : Int32)), .val (.ref (c 4)), .val (.ref u22), .val (.int (0 : Int32))] [(.ref u22)]))
      refine GoW.st (fun _ kq_ => XS.aloadN X22.here hx rfl (hb hby at_89) rfl rfl kq_) ?_
      show GoW p e below s _ _ _ (T22.setTop (mkF m 90 #[.val (.int p0), .val (.int (4 : Int32)), .val (.ref (c 4)), .val (.ref u22), .val (.int (0 : Int32))] [(.ref (c 4)), (.ref u22)]))
      obtain ⟨cq23, kq23, qa23, qb23, qc23⟩ := isOf hZ22 e22 ((HS.2.2.2.2.2.1 4 (by decide)).ext O22.2)
      obtain ⟨_, _, ⟨T23, L23, k23, n23⟩, -, X23, ⟨Lc23, hQ23, l23, y23, z23⟩, st23⟩ := X22.virtualBack hx (y := (⟨"com/example/pemmican/pemmican/DataType", "pmmlName", "()Ljava/lang/String;"⟩ : MethodName)) (z := (⟨"com/example/pemmican/pemmican/DataType", "pmmlName", "()Ljava/lang/String;"⟩ : MethodName)) hown22 (mvT hZ22 (own_w hw 12 rfl)) (mvT hZ22 (own_w hw 13 rfl)) (notFace_of_selects (args := #[]) (mvT hZ22 (own_w hw 15 rfl))) (mvT hZ22 (own_w hw 15 rfl)) (mvT hZ22 (own_w hw 14 rfl)) (by decide) (backOf (W := 1) (rm1 l Z a0 hw [] (c 4) (sa 4) h22 n0 O22 ((HT.2.2.2.2).1.ext O22.2)) hZ22 (own_w hw 16 rfl) (own_w hw 2 rfl) (by decide) (by decide)) qa23 qc23 (g := (mkF m 90 #[.val (.int p0), .val (.int (4 : Int32)), .val (.ref (c 4)), .val (.ref u22), .val (.int (0 : Int32))] [(.ref (c 4)), (.ref u22)])) rfl (by rw [hml]; rfl) (Steps.refl _) (argsL := []) (rest := [(.ref u22)]) (lenOf pd0_0 rfl) rfl (by show 2 * 0 + _ ≤ _; exact Nat.le_of_eq rfl) (hb hby at_90) (fun _ _ => ⟨rfl, e22, (by decide : 2 + 0 ≤ _), (by decide : 32 + 0 ≤ _)⟩)
      dsimp only [Pt.U, Pt.locs, Pt.cells, Pt.slots] at X23 l23 y23 z23 st23 hQ23
      subst y23 z23
      obtain ⟨rfl, Nc23, e23⟩ := hQ23
      have N23 : Fr n0 L23 := by rw [l23]; exact Fr.app N0 Nc23
      refine GoW.tr st23 ?_
      show GoW p e below s _ _ _ (T23.setTop (mkF m 93 #[.val (.int p0), .val (.int (4 : Int32)), .val (.ref (c 4)), .val (.ref u22), .val (.int (0 : Int32))] [(.ref (sa 4)), (.ref u22)]))
      obtain ⟨cq24, kq24, qa24, qb24, qc24⟩ := isOf hZ22 e23 E_u22
      obtain ⟨_, _, ⟨T24, L24, k24, n24⟩, -, X24, ⟨Lc24, hQ24, l24, y24, z24⟩, st24⟩ := X23.virtualBack hx (y := (⟨"java/lang/String", "equals", "(Ljava/lang/Object;)Z"⟩ : MethodName)) (z := (⟨"java/lang/String", "equals", "(Ljava/lang/Object;)Z"⟩ : MethodName)) hown22 (mvT hZ22 (own_w hw 19 rfl)) (mvT hZ22 (own_w hw 20 rfl)) (notFace_of_selects (args := #[]) (mvT hZ22 (own_w hw 22 rfl))) (mvT hZ22 (own_w hw 22 rfl)) (mvT hZ22 (own_w hw 21 rfl)) (by decide) (backOf (W := 0) (rmq4 l Z a0 hw [] u22 ub22 kb22 (sa 4) (va 4) (kv 4) zc h22 n0 O22 E_u22 F_u22_coder F_u22_value V_ub22 (HT.2.2.2.2.2.1.ext O22.2) (HT.2.2.2.2.2.2.1.ext O22.2) (HT.2.2.2.2.2.2.2.1.ext O22.2) (HT.2.2.2.2.2.2.2.2.ext O22.2) SC hcs) hZ22 (own_w hw 23 rfl) (own_w hw 5 rfl) (by decide) (by decide)) qa24 qc24 (g := (mkF m 93 #[.val (.int p0), .val (.int (4 : Int32)), .val (.ref (c 4)), .val (.ref u22), .val (.int (0 : Int32))] [(.ref (sa 4)), (.ref u22)])) rfl (by rw [hml]; rfl) (Steps.refl _) (argsL := [(.ref (sa 4))]) (rest := []) (lenOf pd0_1 rfl) rfl (by show 2 * 0 + _ ≤ _; exact Nat.le_of_eq rfl) (hb hby at_93) (fun _ _ => ⟨rfl, e23, (by decide : 2 + 0 ≤ _), (by decide : 32 + 0 ≤ _)⟩)
      dsimp only [Pt.U, Pt.locs, Pt.cells, Pt.slots] at X24 l24 y24 z24 st24 hQ24
      subst y24 z24
      obtain ⟨rfl, Nc24, e24⟩ := hQ24
      have N24 : Fr n0 L24 := by rw [l24]; exact Fr.app N23 Nc24
      refine GoW.tr st24 ?_
      show GoW p e below s _ _ _ (T24.setTop (mkF m 96 #[.val (.int p0), .val (.int (4 : Int32)), .val (.ref (c 4)), .val (.ref u22), .val (.int (0 : Int32))] [(.int (1 : Int32))]))
      refine GoW.st (fun _ kq_ => XS.ifNo X24.here hx rfl (hb hby at_96) rfl (by decide) kq_) ?_
      show GoW p e below s _ _ _ (T24.setTop (mkF m 99 #[.val (.int p0), .val (.int (4 : Int32)), .val (.ref (c 4)), .val (.ref u22), .val (.int (0 : Int32))] []))
      refine GoW.st (fun _ kq_ => XS.aloadN X24.here hx rfl (hb hby at_99) rfl rfl kq_) ?_
      show GoW p e below s _ _ _ (T24.setTop (mkF m 100 #[.val (.int p0), .val (.int (4 : Int32)), .val (.ref (c 4)), .val (.ref u22), .val (.int (0 : Int32))] [(.ref (c 4))]))
      obtain ⟨cq25, kq25, qa25, qb25, qc25⟩ := isOf hZ22 e24 ((HS.2.2.2.2.2.1 4 (by decide)).ext O22.2)
      obtain ⟨_, _, ⟨T25, L25, k25, n25⟩, -, X25, ⟨Lc25, hQ25, l25, y25, z25⟩, st25⟩ := X24.virtualBack hx (y := (⟨"com/example/pemmican/pemmican/DataType", "isNumber", "()Z"⟩ : MethodName)) (z := (⟨"com/example/pemmican/pemmican/DataType", "isNumber", "()Z"⟩ : MethodName)) hown22 (mvT hZ22 (own_w hw 33 rfl)) (mvT hZ22 (own_w hw 34 rfl)) (notFace_of_selects (args := #[]) (mvT hZ22 (own_w hw 36 rfl))) (mvT hZ22 (own_w hw 36 rfl)) (mvT hZ22 (own_w hw 35 rfl)) (by decide) (backOf (W := 0) (rm2 l Z a0 hw [] c 4 h22 n0 O22 HS) hZ22 (own_w hw 37 rfl) (own_w hw 2 rfl) (by decide) (by decide)) qa25 qc25 (g := (mkF m 100 #[.val (.int p0), .val (.int (4 : Int32)), .val (.ref (c 4)), .val (.ref u22), .val (.int (0 : Int32))] [(.ref (c 4))])) rfl (by rw [hml]; rfl) (Steps.refl _) (argsL := []) (rest := []) (lenOf pd0_2 rfl) rfl (by show 2 * 0 + _ ≤ _; exact Nat.le_of_eq rfl) (hb hby at_100) (fun _ _ => ⟨rfl, e24, (by decide : 2 + 0 ≤ _), (by decide : 32 + 0 ≤ _)⟩)
      dsimp only [Pt.U, Pt.locs, Pt.cells, Pt.slots] at X25 l25 y25 z25 st25 hQ25
      subst y25 z25
      obtain ⟨rfl, Nc25, e25⟩ := hQ25
      have N25 : Fr n0 L25 := by rw [l25]; exact Fr.app N24 Nc25
      rw [fNu_4 c HS.2.2.2.2.2.2] at st25
      refine GoW.tr st25 ?_
      show GoW p e below s _ _ _ (T25.setTop (mkF m 103 #[.val (.int p0), .val (.int (4 : Int32)), .val (.ref (c 4)), .val (.ref u22), .val (.int (0 : Int32))] [(.int (0 : Int32))]))
      refine GoW.st (fun _ kq_ => XS.iload X25.here hx rfl (hb hby at_103) rfl kq_) ?_
      show GoW p e below s _ _ _ (T25.setTop (mkF m 105 #[.val (.int p0), .val (.int (4 : Int32)), .val (.ref (c 4)), .val (.ref u22), .val (.int (0 : Int32))] [(.int (0 : Int32)), (.int (0 : Int32))]))
      refine GoW.st (fun _ kq_ => XS.icmpNo X25.here hx rfl (hb hby at_105) rfl (by decide) kq_) ?_
      show GoW p e below s _ _ _ (T25.setTop (mkF m 108 #[.val (.int p0), .val (.int (4 : Int32)), .val (.ref (c 4)), .val (.ref u22), .val (.int (0 : Int32))] []))
      refine GoW.st (fun _ kq_ => XS.iconst X25.here hx rfl (hb hby at_108) kq_) ?_
      show GoW p e below s _ _ _ (T25.setTop (mkF m 109 #[.val (.int p0), .val (.int (4 : Int32)), .val (.ref (c 4)), .val (.ref u22), .val (.int (0 : Int32))] [(.int (1 : Int32))]))
      refine GoW.st (fun _ kq_ => XS.goto X25.here hx rfl (pc0 := 109) (pc' := 113) rfl (hb hby at_109) (by decide) (by decide) kq_) ?_
      show GoW p e below s _ _ _ (T25.setTop (mkF m 113 #[.val (.int p0), .val (.int (4 : Int32)), .val (.ref (c 4)), .val (.ref u22), .val (.int (0 : Int32))] [(.int (1 : Int32))]))
      exact GoW.ret (vm1 := T22.vm) X25 hlk hS22 (by rw [e25]; exact hk22) (some (.int (nar .boolean (1 : Int32)))) (fun h => by rw [Bd.returns] at h; cases h) (by rw [e25]; exact ⟨rfl, N25⟩) (by decide) (by decide) (fun fs hr => retN X25 hx (t := .boolean) Bd.returns (by simp) (hb hby at_113) hr)
  obtain ⟨s2, o2, st2, r2⟩ := G
  exact ⟨s2, o2, castTop (ef0 m p0) st2, r2⟩
set_option maxRecDepth 65536 in
set_option maxHeartbeats 40000000 in
theorem comes_1 {Post : Tables → Env → Array Value → State → Outcome → State → Prop} (hpost : ∀ tb e args s v u, (limb_1_1.after args s (.returned v) u = true ∧ limb_1_2.after args s (.returned v) u = true ∧ True) → ReturnedEndW s (.returned v) u (Jvm.fieldLocs frame_1_writes args s ++ Jvm.arrayLocs frame_1_arrays args s ++ Jvm.staticLocs frame_1_statics s) 16 5184 → Post tb e args s (.returned v) u) :
    ArmFor flags0 classFile x code maxLocals ret World_1 tables_1 room_1 Calls_1 rest_1 Pre_1 Post := by
  intro l hfl _ _ p e ha hc hk s m args below hf hA hF happ hP
  obtain ⟨hcalls, hrest, hpre⟩ := hP
  obtain ⟨-, -, -, hnamed, -, -, -, hat⟩ := (Spec.applies_iff hf).mp happ
  obtain ⟨hg, hn⟩ := and_e (Cond.before_iff.mp (show (Jvm.Cond.and given_1 narrow_1).before args s = true from hpre))
  obtain ⟨h1, r1⟩ := and_e hg
  obtain ⟨w0, rfl⟩ : ∃ w0 : Value, args = #[w0] := by
    have hs : args.size = 1 := by simpa [Cond.value, given_1] using h1
    obtain ⟨L⟩ := args
    match L, hs with
    | [w0], _ => exact ⟨w0, rfl⟩
  have hw := fun d (hd : d ∈ tables_1) => atoms_spec (ws := Jvm.Cond.code x code maxLocals ret :: tables_1) hat d (List.mem_cons_of_mem _ hd)
  obtain ⟨hsets, hown0⟩ := atoms_of _ (rest_1_c_eq ▸ (show rest_1_c.before _ s = true from hrest))
  have hfit : Fit s := fun {y c} hc i hi => by
    obtain ⟨ha, rfl⟩ := Array.getElem?_eq_some_iff.mp hc
    have q := List.all_eq_true.mp ((Array.all_eq_true_iff_forall_mem.mp hF) _ (Array.getElem_mem ha)) i (List.mem_range.mpr hi)
    simpa [Array.getElem?_eq_getElem hi] using q
  obtain ⟨i0, ei0⟩ := is_v r1
  obtain rfl : w0 = (.int i0) := Option.some.inj ei0
  obtain ⟨q0, hn0⟩ := and_e hn
  obtain ⟨q1, hn1⟩ := and_e hn0
  obtain ⟨q2, hn2⟩ := and_e hn1
  obtain ⟨q3, hn3⟩ := and_e hn2
  obtain ⟨q4, hn4⟩ := and_e hn3
  obtain ⟨q5, hn5⟩ := and_e hn4
  obtain ⟨q6, hn6⟩ := and_e hn5
  obtain ⟨q7, hn7⟩ := and_e hn6
  obtain ⟨q8, hn8⟩ := and_e hn7
  obtain ⟨q9, hn9⟩ := and_e hn8
  obtain ⟨q10, hn10⟩ := and_e hn9
  obtain ⟨q11, hn11⟩ := and_e hn10
  obtain ⟨q12, hn12⟩ := and_e hn11
  obtain ⟨q13, hn13⟩ := and_e hn12
  obtain ⟨q14, hn14⟩ := and_e hn13
  obtain ⟨q15, hn15⟩ := and_e hn14
  obtain ⟨q16, hn16⟩ := and_e hn15
  obtain ⟨q17, hn17⟩ := and_e hn16
  obtain ⟨q18, hn18⟩ := and_e hn17
  obtain ⟨q19, hn19⟩ := and_e hn18
  obtain ⟨q20, hn20⟩ := and_e hn19
  obtain ⟨q21, hn21⟩ := and_e hn20
  obtain ⟨q22, hn22⟩ := and_e hn21
  obtain ⟨q23, hn23⟩ := and_e hn22
  obtain ⟨q24, hn24⟩ := and_e hn23
  obtain ⟨q25, hn25⟩ := and_e hn24
  obtain ⟨q26, hn26⟩ := and_e hn25
  obtain ⟨q27, hn27⟩ := and_e hn26
  obtain ⟨q28, hn28⟩ := and_e hn27
  obtain ⟨q29, hn29⟩ := and_e hn28
  obtain ⟨q30, hn30⟩ := and_e hn29
  obtain ⟨q31, hn31⟩ := and_e hn30
  obtain ⟨q32, hn32⟩ := and_e hn31
  obtain ⟨q33, hn33⟩ := and_e hn32
  obtain ⟨q34, hn34⟩ := and_e hn33
  obtain ⟨q35, hn35⟩ := and_e hn34
  obtain ⟨q36, hn36⟩ := and_e hn35
  obtain ⟨q37, hn37⟩ := and_e hn36
  obtain ⟨q38, hn38⟩ := and_e hn37
  obtain ⟨q39, hn39⟩ := and_e hn38
  obtain ⟨q40, hn40⟩ := and_e hn39
  obtain ⟨q41, hn41⟩ := and_e hn40
  obtain ⟨q42, hn42⟩ := and_e hn41
  obtain ⟨q43, hn43⟩ := and_e hn42
  obtain ⟨q44, hn44⟩ := and_e hn43
  obtain ⟨q45, hn45⟩ := and_e hn44
  obtain ⟨q46, hn46⟩ := and_e hn45
  obtain ⟨q47, hn47⟩ := and_e hn46
  obtain ⟨q48, hn48⟩ := and_e hn47
  obtain ⟨q49, hn49⟩ := and_e hn48
  obtain ⟨q50, hn50⟩ := and_e hn49
  obtain ⟨q51, hn51⟩ := and_e hn50
  obtain ⟨q52, hn52⟩ := and_e hn51
  obtain ⟨q53, hn53⟩ := and_e hn52
  obtain ⟨q54, hn54⟩ := and_e hn53
  obtain ⟨q55, hn55⟩ := and_e hn54
  obtain ⟨q56, hn56⟩ := and_e hn55
  obtain ⟨q57, hn57⟩ := and_e hn56
  obtain ⟨q58, hn58⟩ := and_e hn57
  obtain ⟨q59, hn59⟩ := and_e hn58
  have q60 := hn59
  obtain ⟨a_STRING, v_STRING⟩ := exa_v q0
  have S_STRING : Sta s s.heap "com/example/pemmican/pemmican/DataType" "STRING" "Lcom/example/pemmican/pemmican/DataType;" (.ref a_STRING) := Sta.start v_STRING (Or.inr ⟨own_w hw 2 rfl, own_w hw 3 rfl⟩)
  have E_STRING : Exa s s.heap a_STRING "com/example/pemmican/pemmican/DataType" := Exa.start v_STRING q0
  obtain ⟨a_INTEGER, v_INTEGER⟩ := exa_v q5
  have S_INTEGER : Sta s s.heap "com/example/pemmican/pemmican/DataType" "INTEGER" "Lcom/example/pemmican/pemmican/DataType;" (.ref a_INTEGER) := Sta.start v_INTEGER (Or.inr ⟨own_w hw 2 rfl, own_w hw 39 rfl⟩)
  have E_INTEGER : Exa s s.heap a_INTEGER "com/example/pemmican/pemmican/DataType" := Exa.start v_INTEGER q5
  obtain ⟨a_FLOAT, v_FLOAT⟩ := exa_v q8
  have S_FLOAT : Sta s s.heap "com/example/pemmican/pemmican/DataType" "FLOAT" "Lcom/example/pemmican/pemmican/DataType;" (.ref a_FLOAT) := Sta.start v_FLOAT (Or.inr ⟨own_w hw 2 rfl, own_w hw 41 rfl⟩)
  have E_FLOAT : Exa s s.heap a_FLOAT "com/example/pemmican/pemmican/DataType" := Exa.start v_FLOAT q8
  obtain ⟨a_DOUBLE, v_DOUBLE⟩ := exa_v q10
  have S_DOUBLE : Sta s s.heap "com/example/pemmican/pemmican/DataType" "DOUBLE" "Lcom/example/pemmican/pemmican/DataType;" (.ref a_DOUBLE) := Sta.start v_DOUBLE (Or.inr ⟨own_w hw 2 rfl, own_w hw 43 rfl⟩)
  have E_DOUBLE : Exa s s.heap a_DOUBLE "com/example/pemmican/pemmican/DataType" := Exa.start v_DOUBLE q10
  obtain ⟨a_BOOLEAN, v_BOOLEAN⟩ := exa_v q20
  have S_BOOLEAN : Sta s s.heap "com/example/pemmican/pemmican/DataType" "BOOLEAN" "Lcom/example/pemmican/pemmican/DataType;" (.ref a_BOOLEAN) := Sta.start v_BOOLEAN (Or.inr ⟨own_w hw 2 rfl, own_w hw 49 rfl⟩)
  have E_BOOLEAN : Exa s s.heap a_BOOLEAN "com/example/pemmican/pemmican/DataType" := Exa.start v_BOOLEAN q20
  have F_STRING_ordinal : Fld s s.heap a_STRING "java/lang/Enum" "ordinal" "I" (.int 0) := own_fld v_STRING q6
  have F_INTEGER_ordinal : Fld s s.heap a_INTEGER "java/lang/Enum" "ordinal" "I" (.int 1) := own_fld v_INTEGER q7
  have F_FLOAT_ordinal : Fld s s.heap a_FLOAT "java/lang/Enum" "ordinal" "I" (.int 2) := own_fld v_FLOAT q9
  have F_DOUBLE_ordinal : Fld s s.heap a_DOUBLE "java/lang/Enum" "ordinal" "I" (.int 3) := own_fld v_DOUBLE q11
  have F_BOOLEAN_ordinal : Fld s s.heap a_BOOLEAN "java/lang/Enum" "ordinal" "I" (.int 4) := own_fld v_BOOLEAN q25
  let c : Nat → Addr := fun i => if i = 0 then a_STRING else if i = 1 then a_INTEGER else if i = 2 then a_FLOAT else if i = 3 then a_DOUBLE else a_BOOLEAN
  have hF : ∀ i, i < 5 → Fld s s.heap (c i) "java/lang/Enum" "ordinal" "I" (.int (Int32.ofNat i)) := by
    intro i hi
    match i, hi with
    | 0, _ => exact F_STRING_ordinal
    | 1, _ => exact F_INTEGER_ordinal
    | 2, _ => exact F_FLOAT_ordinal
    | 3, _ => exact F_DOUBLE_ordinal
    | 4, _ => exact F_BOOLEAN_ordinal
  have hE : ∀ i, i < 5 → Exa s s.heap (c i) "com/example/pemmican/pemmican/DataType" := by
    intro i hi
    match i, hi with
    | 0, _ => exact E_STRING
    | 1, _ => exact E_INTEGER
    | 2, _ => exact E_FLOAT
    | 3, _ => exact E_DOUBLE
    | 4, _ => exact E_BOOLEAN
  have hinj : ∀ i j, i < 5 → j < 5 → c i = c j → i = j := by
    intro i j hi hj hc
    by_cases hq : i = j
    · exact hq
    · exact absurd hc ((hF i hi).ne (hF j hj) (own_neI (fun z => hq (own_ofNat (by omega) (by omega) z))))
  have HS : OwnSt s c := ⟨S_STRING, S_INTEGER, S_FLOAT, S_DOUBLE, S_BOOLEAN, hE, hinj⟩
  obtain ⟨t_STRING, et_STRING⟩ := exa_v q1
  have FS_STRING : Fld s s.heap a_STRING "com/example/pemmican/pemmican/DataType" "pmmlName" "Ljava/lang/String;" (.ref t_STRING) := own_fldR v_STRING et_STRING
  have ES_STRING : Exa s s.heap t_STRING "java/lang/String" := Exa.start et_STRING q1
  have FC_STRING : Fld s s.heap t_STRING "java/lang/String" "coder" "B" (.int 0) := own_fld et_STRING q2
  obtain ⟨y_STRING, ey_STRING⟩ := arr_v q3
  have FV_STRING : Fld s s.heap t_STRING "java/lang/String" "value" "[B" (.ref y_STRING) := own_fldR et_STRING ey_STRING
  obtain ⟨c_STRING, A_STRING⟩ := Arr.start ey_STRING q3
  have ln_STRING := own_lenv ey_STRING A_STRING q4
  have VS_STRING : Arv s s.heap y_STRING c_STRING.cls .byte 6 [.int 115, .int 116, .int 114, .int 105, .int 110, .int 103] (.int 0) := Arv.start hfit A_STRING ln_STRING.1 ln_STRING.2 (by decide) rfl ⟨own_elemv ey_STRING A_STRING q30, own_elemv ey_STRING A_STRING q31, own_elemv ey_STRING A_STRING q32, own_elemv ey_STRING A_STRING q33, own_elemv ey_STRING A_STRING q34, own_elemv ey_STRING A_STRING q35, trivial⟩
  obtain ⟨t_INTEGER, et_INTEGER⟩ := exa_v q16
  have FS_INTEGER : Fld s s.heap a_INTEGER "com/example/pemmican/pemmican/DataType" "pmmlName" "Ljava/lang/String;" (.ref t_INTEGER) := own_fldR v_INTEGER et_INTEGER
  have ES_INTEGER : Exa s s.heap t_INTEGER "java/lang/String" := Exa.start et_INTEGER q16
  have FC_INTEGER : Fld s s.heap t_INTEGER "java/lang/String" "coder" "B" (.int 0) := own_fld et_INTEGER q17
  obtain ⟨y_INTEGER, ey_INTEGER⟩ := arr_v q18
  have FV_INTEGER : Fld s s.heap t_INTEGER "java/lang/String" "value" "[B" (.ref y_INTEGER) := own_fldR et_INTEGER ey_INTEGER
  obtain ⟨c_INTEGER, A_INTEGER⟩ := Arr.start ey_INTEGER q18
  have ln_INTEGER := own_lenv ey_INTEGER A_INTEGER q19
  have VS_INTEGER : Arv s s.heap y_INTEGER c_INTEGER.cls .byte 7 [.int 105, .int 110, .int 116, .int 101, .int 103, .int 101, .int 114] (.int 0) := Arv.start hfit A_INTEGER ln_INTEGER.1 ln_INTEGER.2 (by decide) rfl ⟨own_elemv ey_INTEGER A_INTEGER q42, own_elemv ey_INTEGER A_INTEGER q43, own_elemv ey_INTEGER A_INTEGER q44, own_elemv ey_INTEGER A_INTEGER q45, own_elemv ey_INTEGER A_INTEGER q46, own_elemv ey_INTEGER A_INTEGER q47, own_elemv ey_INTEGER A_INTEGER q48, trivial⟩
  obtain ⟨t_FLOAT, et_FLOAT⟩ := exa_v q26
  have FS_FLOAT : Fld s s.heap a_FLOAT "com/example/pemmican/pemmican/DataType" "pmmlName" "Ljava/lang/String;" (.ref t_FLOAT) := own_fldR v_FLOAT et_FLOAT
  have ES_FLOAT : Exa s s.heap t_FLOAT "java/lang/String" := Exa.start et_FLOAT q26
  have FC_FLOAT : Fld s s.heap t_FLOAT "java/lang/String" "coder" "B" (.int 0) := own_fld et_FLOAT q27
  obtain ⟨y_FLOAT, ey_FLOAT⟩ := arr_v q28
  have FV_FLOAT : Fld s s.heap t_FLOAT "java/lang/String" "value" "[B" (.ref y_FLOAT) := own_fldR et_FLOAT ey_FLOAT
  obtain ⟨c_FLOAT, A_FLOAT⟩ := Arr.start ey_FLOAT q28
  have ln_FLOAT := own_lenv ey_FLOAT A_FLOAT q29
  have VS_FLOAT : Arv s s.heap y_FLOAT c_FLOAT.cls .byte 5 [.int 102, .int 108, .int 111, .int 97, .int 116] (.int 0) := Arv.start hfit A_FLOAT ln_FLOAT.1 ln_FLOAT.2 (by decide) rfl ⟨own_elemv ey_FLOAT A_FLOAT q56, own_elemv ey_FLOAT A_FLOAT q57, own_elemv ey_FLOAT A_FLOAT q58, own_elemv ey_FLOAT A_FLOAT q59, own_elemv ey_FLOAT A_FLOAT q60, trivial⟩
  obtain ⟨t_DOUBLE, et_DOUBLE⟩ := exa_v q12
  have FS_DOUBLE : Fld s s.heap a_DOUBLE "com/example/pemmican/pemmican/DataType" "pmmlName" "Ljava/lang/String;" (.ref t_DOUBLE) := own_fldR v_DOUBLE et_DOUBLE
  have ES_DOUBLE : Exa s s.heap t_DOUBLE "java/lang/String" := Exa.start et_DOUBLE q12
  have FC_DOUBLE : Fld s s.heap t_DOUBLE "java/lang/String" "coder" "B" (.int 0) := own_fld et_DOUBLE q13
  obtain ⟨y_DOUBLE, ey_DOUBLE⟩ := arr_v q14
  have FV_DOUBLE : Fld s s.heap t_DOUBLE "java/lang/String" "value" "[B" (.ref y_DOUBLE) := own_fldR et_DOUBLE ey_DOUBLE
  obtain ⟨c_DOUBLE, A_DOUBLE⟩ := Arr.start ey_DOUBLE q14
  have ln_DOUBLE := own_lenv ey_DOUBLE A_DOUBLE q15
  have VS_DOUBLE : Arv s s.heap y_DOUBLE c_DOUBLE.cls .byte 6 [.int 100, .int 111, .int 117, .int 98, .int 108, .int 101] (.int 0) := Arv.start hfit A_DOUBLE ln_DOUBLE.1 ln_DOUBLE.2 (by decide) rfl ⟨own_elemv ey_DOUBLE A_DOUBLE q36, own_elemv ey_DOUBLE A_DOUBLE q37, own_elemv ey_DOUBLE A_DOUBLE q38, own_elemv ey_DOUBLE A_DOUBLE q39, own_elemv ey_DOUBLE A_DOUBLE q40, own_elemv ey_DOUBLE A_DOUBLE q41, trivial⟩
  obtain ⟨t_BOOLEAN, et_BOOLEAN⟩ := exa_v q21
  have FS_BOOLEAN : Fld s s.heap a_BOOLEAN "com/example/pemmican/pemmican/DataType" "pmmlName" "Ljava/lang/String;" (.ref t_BOOLEAN) := own_fldR v_BOOLEAN et_BOOLEAN
  have ES_BOOLEAN : Exa s s.heap t_BOOLEAN "java/lang/String" := Exa.start et_BOOLEAN q21
  have FC_BOOLEAN : Fld s s.heap t_BOOLEAN "java/lang/String" "coder" "B" (.int 0) := own_fld et_BOOLEAN q22
  obtain ⟨y_BOOLEAN, ey_BOOLEAN⟩ := arr_v q23
  have FV_BOOLEAN : Fld s s.heap t_BOOLEAN "java/lang/String" "value" "[B" (.ref y_BOOLEAN) := own_fldR et_BOOLEAN ey_BOOLEAN
  obtain ⟨c_BOOLEAN, A_BOOLEAN⟩ := Arr.start ey_BOOLEAN q23
  have ln_BOOLEAN := own_lenv ey_BOOLEAN A_BOOLEAN q24
  have VS_BOOLEAN : Arv s s.heap y_BOOLEAN c_BOOLEAN.cls .byte 7 [.int 98, .int 111, .int 111, .int 108, .int 101, .int 97, .int 110] (.int 0) := Arv.start hfit A_BOOLEAN ln_BOOLEAN.1 ln_BOOLEAN.2 (by decide) rfl ⟨own_elemv ey_BOOLEAN A_BOOLEAN q49, own_elemv ey_BOOLEAN A_BOOLEAN q50, own_elemv ey_BOOLEAN A_BOOLEAN q51, own_elemv ey_BOOLEAN A_BOOLEAN q52, own_elemv ey_BOOLEAN A_BOOLEAN q53, own_elemv ey_BOOLEAN A_BOOLEAN q54, own_elemv ey_BOOLEAN A_BOOLEAN q55, trivial⟩
  let sa := fun (i : Nat) => if i = 0 then t_STRING else if i = 1 then t_INTEGER else if i = 2 then t_FLOAT else if i = 3 then t_DOUBLE else t_BOOLEAN
  let va := fun (i : Nat) => if i = 0 then y_STRING else if i = 1 then y_INTEGER else if i = 2 then y_FLOAT else if i = 3 then y_DOUBLE else y_BOOLEAN
  let kv := fun (i : Nat) => if i = 0 then c_STRING.cls else if i = 1 then c_INTEGER.cls else if i = 2 then c_FLOAT.cls else if i = 3 then c_DOUBLE.cls else c_BOOLEAN.cls
  have HT : OwnT s c sa va kv := ⟨⟨FS_STRING, ES_STRING, FC_STRING, FV_STRING, VS_STRING⟩, ⟨FS_INTEGER, ES_INTEGER, FC_INTEGER, FV_INTEGER, VS_INTEGER⟩, ⟨FS_FLOAT, ES_FLOAT, FC_FLOAT, FV_FLOAT, VS_FLOAT⟩, ⟨FS_DOUBLE, ES_DOUBLE, FC_DOUBLE, FV_DOUBLE, VS_DOUBLE⟩, ⟨FS_BOOLEAN, ES_BOOLEAN, FC_BOOLEAN, FV_BOOLEAN, VS_BOOLEAN⟩⟩
  have hcw := hsets _ (List.mem_of_getElem? (i := 2) rfl)
  have n5 := not_v (Cond.before_iff.mp hcw)
  obtain ⟨zc, e10⟩ := is_v (Cond.before_iff.mp (hsets _ (List.mem_of_getElem? (i := 1) rfl)))
  have SC : Sta s s.heap "java/lang/String" "COMPACT_STRINGS" "Z" (.int zc) := Sta.start e10 (Or.inl (hsets _ (List.mem_of_getElem? (i := 0) rfl)))
  have hcs : ¬ (zc = (0 : Int32)) := gotF (Cond.eq_ints e10 (Term.int_eval (0))) n5
  obtain ⟨n, o, h1, h2, h3, _, L, rfl, ⟨rfl, N⟩, hq⟩ := rm0 l s _ hw tables_1 i0 c sa va kv zc s.heap s.heap.size (Old.start s) rfl HS HT SC hcs hcw hcalls.1 p e ha hc hk s m _ below hf ((Spec.applies_iff_loose hf).mp happ).1 ⟨rfl, rfl⟩ trivial
  refine ⟨n, _, h1, h2, h3, hpost _ _ _ _ _ _ ⟨Cond.after_iff.mpr rfl, Cond.after_iff.mpr (eq_i res_at (Term.int_eval (1)) rfl), trivial⟩ ⟨hq.1, hq.2.1, hq.2.2.1, (hq.2.2.2.sift fun y hy => Or.inr (N y hy)).mono (by decide) (by decide)⟩⟩
theorem main_1_1 : Claimed_1_1 := comes_1 fun _ _ _ _ _ _ h hF => ⟨h.1, hF⟩
theorem main_1_2 : Claimed_1_2 := comes_1 fun _ _ _ _ _ _ h hF => ⟨h.2.1, hF⟩
end Jvm.Pilot.@@N@@
namespace Jvm.Pilot.@@N@@
open Jvm Jvm.ClassFile Sem Op Lib Jvm.Free Jvm.Stand Jvm.Pilot.@@N@@.Jvm.D
/-! MADE BY PROGRAM (witnessworld.py) out of the Statement's table words and the real class files: 18 classes; the members and pool entries that the words name. The judged class is class 1, her method 1. -/
namespace start1
open Jvm.ClassFile
def u (s : String) : CpInfo := .utf8 (stringToUtf16 s)
/-- a pool by its gaps: so many unusable entries, then the entry; so many at the end -/
def gap : Nat → List CpInfo → List CpInfo
  | 0, r => r
  | n + 1, r => .unusable :: gap n r
def poolList (es : List (Nat × CpInfo)) (last : Nat) : List CpInfo := es.foldr (fun e r => gap e.1 (e.2 :: r)) (gap last [])
def pool (es : List (Nat × CpInfo)) (last : Nat) : Array CpInfo := ⟨poolList es last⟩
def fileOf (pool : Array CpInfo) (this : Nat) (attrs : Array Attribute := #[]) (ms : Array MethodInfo := #[]) (fl : Nat := 33) (sup : Nat := 0) (ifs : Array Nat := #[]) (fds : Array FieldInfo := #[]) : ClassFile where
  minorVersion := 0
  majorVersion := 65
  constantPool := pool
  accessFlags := fl
  thisClass := this
  superClass := sup
  interfaces := ifs
  fields := fds
  methods := ms
  attributes := attrs
def plain (name : String) (sup : Option ClassId) : Class where
  name := name
  kind := .ordinary
  loader := none
  accessFlags := 33
  super := sup
  interfaces := #[]
  cf := none
  fields := #[]
  methods := #[]
  instanceTypes := #[]
  staticTypes := #[]
  resolved := #[]
  callSites := []
  init := .initialized
  statics := none
  mirror := none

def pool0 : Array CpInfo := pool [(5, u "<init>"), (0, u "()V"), (1, .class_ 10), (1, u "java/lang/Object")] 113

def k0m0 : Method := { name := "<init>", desc := "()V", sig := { parameters := [], returnType := none }, accessFlags := 1, code := none }
/-- java/lang/Object -/
def k0 : Class := { plain "java/lang/Object" none with
  accessFlags := 33
  interfaces := #[]
  cf := some (fileOf pool0 8 #[] #[{ accessFlags := 1, nameIndex := 5, descriptorIndex := 6, attributes := #[] }] 33 0 #[] #[])
  fields := #[]
  methods := #[k0m0]
  instanceTypes := #[]
  staticTypes := #[]
  resolved := Array.replicate 124 none
  statics := none }

def pool1 : Array CpInfo := pool [(2, .class_ 4), (1, u "java/lang/Object"), (0, u "<init>"), (0, u "()V"), (0, .integer 2147483647), (0, .fieldref 9 10), (0, .class_ 11), (0, .nameAndType 12 13), (0, u "com/example/pemmican/pemmican/DataType"), (0, u "STRING"), (0, u "Lcom/example/pemmican/pemmican/DataType;"), (0, .string 15), (0, u "string"), (0, .fieldref 9 17), (0, .nameAndType 18 13), (0, u "INTEGER"), (0, .string 20), (0, u "integer"), (0, .fieldref 9 22), (0, .nameAndType 23 13), (0, u "FLOAT"), (0, .string 25), (0, u "float"), (0, .fieldref 9 27), (0, .nameAndType 28 13), (0, u "DOUBLE"), (0, .string 30), (0, u "double"), (0, .fieldref 9 32), (0, .nameAndType 33 13), (0, u "BOOLEAN"), (0, .string 35), (0, u "boolean"), (0, .methodref 9 37), (0, .nameAndType 38 39), (0, u "pmmlName"), (0, u "()Ljava/lang/String;"), (0, .methodref 41 42), (0, .class_ 43), (0, .nameAndType 44 45), (0, u "java/lang/String"), (0, u "equals"), (0, u "(Ljava/lang/Object;)Z"), (0, .methodref 9 47), (0, .nameAndType 48 49), (0, u "isNumber"), (0, u "()Z"), (0, .class_ 51), (0, u "com/example/pemmican/pemmican/DataTypeIsNumberPinLaw"), (2, u "law"), (0, u "(I)Z")] 3

def k1m0 : Method := { name := "<init>", desc := "()V", sig := { parameters := [], returnType := none }, accessFlags := 2, code := none }
def k1c1 : Code := { maxStack := 2, maxLocals := 5, code := code, exceptionTable := #[], attributes := #[] }
def k1m1 : Method := { name := "law", desc := "(I)Z", sig := { parameters := [.int], returnType := some .boolean }, accessFlags := 9, code := some k1c1 }
/-- com/example/pemmican/pemmican/DataTypeIsNumberPinLaw -/
def k1 : Class := { plain "com/example/pemmican/pemmican/DataTypeIsNumberPinLaw" (some 0) with
  accessFlags := 49
  interfaces := #[]
  cf := some (fileOf pool1 50 #[] #[{ accessFlags := 2, nameIndex := 5, descriptorIndex := 6, attributes := #[] }, { accessFlags := 9, nameIndex := 54, descriptorIndex := 55, attributes := #[] }] 49 2 #[] #[])
  fields := #[]
  methods := #[k1m0, k1m1]
  instanceTypes := #[]
  staticTypes := #[]
  resolved := Array.replicate 59 none
  statics := none }

def pool2 : Array CpInfo := pool [(1, .class_ 2), (0, u "java/lang/constant/Constable"), (0, .class_ 4), (0, u "java/lang/Object")] 6

/-- java/lang/constant/Constable -/
def k2 : Class := { plain "java/lang/constant/Constable" (some 0) with
  accessFlags := 1537
  interfaces := #[]
  cf := some (fileOf pool2 1 #[] #[] 1537 3 #[] #[])
  fields := #[]
  methods := #[]
  instanceTypes := #[]
  staticTypes := #[]
  resolved := Array.replicate 11 none
  statics := none }

def pool3 : Array CpInfo := pool [(1, .class_ 2), (0, u "java/lang/Comparable"), (0, .class_ 4), (0, u "java/lang/Object")] 7

/-- java/lang/Comparable -/
def k3 : Class := { plain "java/lang/Comparable" (some 0) with
  accessFlags := 1537
  interfaces := #[]
  cf := some (fileOf pool3 1 #[] #[] 1537 3 #[] #[])
  fields := #[]
  methods := #[]
  instanceTypes := #[]
  staticTypes := #[]
  resolved := Array.replicate 12 none
  statics := none }

def pool4 : Array CpInfo := pool [(1, .class_ 2), (0, u "java/io/Serializable"), (0, .class_ 4), (0, u "java/lang/Object")] 2

/-- java/io/Serializable -/
def k4 : Class := { plain "java/io/Serializable" (some 0) with
  accessFlags := 1537
  interfaces := #[]
  cf := some (fileOf pool4 1 #[] #[] 1537 3 #[] #[])
  fields := #[]
  methods := #[]
  instanceTypes := #[]
  staticTypes := #[]
  resolved := Array.replicate 7 none
  statics := none }

def pool5 : Array CpInfo := pool [(2, .class_ 4), (1, u "java/lang/Enum"), (0, u "name"), (0, u "Ljava/lang/String;"), (2, u "ordinal"), (0, u "I"), (1, .class_ 14), (1, u "java/lang/Object"), (4, u "hash"), (86, .class_ 108), (1, u "java/lang/Enum$EnumDesc"), (2, .class_ 112), (0, u "java/lang/constant/Constable"), (0, .class_ 114), (0, u "java/lang/Comparable"), (0, .class_ 116), (0, u "java/io/Serializable")] 87

/-- java/lang/Enum -/
def k5 : Class := { plain "java/lang/Enum" (some 0) with
  accessFlags := 1057
  interfaces := #[2, 3, 4]
  cf := some (fileOf pool5 2 #[.nestMembers #[106]] #[] 1057 12 #[111, 113, 115] #[{ accessFlags := 18, nameIndex := 5, descriptorIndex := 6, attributes := #[] }, { accessFlags := 18, nameIndex := 9, descriptorIndex := 10, attributes := #[] }, { accessFlags := 2, nameIndex := 19, descriptorIndex := 10, attributes := #[] }])
  fields := #[{ name := "name", type := (.object "java/lang/String"), accessFlags := 18, slot := 0, constantValue := 0 }, { name := "ordinal", type := .int, accessFlags := 18, slot := 1, constantValue := 0 }, { name := "hash", type := .int, accessFlags := 2, slot := 2, constantValue := 0 }]
  methods := #[]
  instanceTypes := #[(.object "java/lang/String"), .int, .int]
  staticTypes := #[]
  resolved := Array.replicate 204 none
  statics := none }

def pool6 : Array CpInfo := pool [(1, .class_ 2), (0, u "com/example/pemmican/pemmican/DataType"), (2, u "STRING"), (0, u "Lcom/example/pemmican/pemmican/DataType;"), (0, .fieldref 1 8), (0, .nameAndType 9 6), (0, u "INTEGER"), (0, .fieldref 1 11), (0, .nameAndType 12 6), (0, u "FLOAT"), (0, .fieldref 1 14), (0, .nameAndType 15 6), (0, u "DOUBLE"), (2, u "BOOLEAN"), (2, u "$VALUES"), (0, u "[Lcom/example/pemmican/pemmican/DataType;"), (6, .class_ 31), (1, u "java/lang/Enum"), (6, .fieldref 1 39), (0, .nameAndType 40 41), (0, u "pmmlName"), (0, u "Ljava/lang/String;"), (13, u "()Ljava/lang/String;"), (107, u "isNumber"), (0, u "()Z")] 9

def k6c0 : Code := { maxStack := 1, maxLocals := 1, code := prog_16_method_5_code, exceptionTable := #[], attributes := #[] }
def k6m0 : Method := { name := "pmmlName", desc := "()Ljava/lang/String;", sig := { parameters := [], returnType := some (.object "java/lang/String") }, accessFlags := 0, code := some k6c0 }
def k6c1 : Code := { maxStack := 2, maxLocals := 1, code := prog_16_method_6_code, exceptionTable := #[], attributes := #[] }
def k6m1 : Method := { name := "isNumber", desc := "()Z", sig := { parameters := [], returnType := some .boolean }, accessFlags := 0, code := some k6c1 }
/-- com/example/pemmican/pemmican/DataType -/
def k6 : Class := { plain "com/example/pemmican/pemmican/DataType" (some 5) with
  accessFlags := 16432
  interfaces := #[]
  cf := some (fileOf pool6 1 #[] #[{ accessFlags := 0, nameIndex := 40, descriptorIndex := 55, attributes := #[] }, { accessFlags := 0, nameIndex := 163, descriptorIndex := 164, attributes := #[] }] 16432 29 #[] #[{ accessFlags := 16409, nameIndex := 5, descriptorIndex := 6, attributes := #[] }, { accessFlags := 16409, nameIndex := 9, descriptorIndex := 6, attributes := #[] }, { accessFlags := 16409, nameIndex := 12, descriptorIndex := 6, attributes := #[] }, { accessFlags := 16409, nameIndex := 15, descriptorIndex := 6, attributes := #[] }, { accessFlags := 16409, nameIndex := 18, descriptorIndex := 6, attributes := #[] }, { accessFlags := 18, nameIndex := 40, descriptorIndex := 41, attributes := #[] }, { accessFlags := 4122, nameIndex := 21, descriptorIndex := 22, attributes := #[] }])
  fields := #[{ name := "STRING", type := (.object "com/example/pemmican/pemmican/DataType"), accessFlags := 16409, slot := 0, constantValue := 0 }, { name := "INTEGER", type := (.object "com/example/pemmican/pemmican/DataType"), accessFlags := 16409, slot := 1, constantValue := 0 }, { name := "FLOAT", type := (.object "com/example/pemmican/pemmican/DataType"), accessFlags := 16409, slot := 2, constantValue := 0 }, { name := "DOUBLE", type := (.object "com/example/pemmican/pemmican/DataType"), accessFlags := 16409, slot := 3, constantValue := 0 }, { name := "BOOLEAN", type := (.object "com/example/pemmican/pemmican/DataType"), accessFlags := 16409, slot := 4, constantValue := 0 }, { name := "pmmlName", type := (.object "java/lang/String"), accessFlags := 18, slot := 3, constantValue := 0 }, { name := "$VALUES", type := (.array (.object "com/example/pemmican/pemmican/DataType")), accessFlags := 4122, slot := 5, constantValue := 0 }]
  methods := #[k6m0, k6m1]
  instanceTypes := #[(.object "java/lang/String"), .int, .int, (.object "java/lang/String")]
  staticTypes := #[(.object "com/example/pemmican/pemmican/DataType"), (.object "com/example/pemmican/pemmican/DataType"), (.object "com/example/pemmican/pemmican/DataType"), (.object "com/example/pemmican/pemmican/DataType"), (.object "com/example/pemmican/pemmican/DataType"), (.array (.object "com/example/pemmican/pemmican/DataType"))]
  resolved := Array.replicate 174 none
  statics := some 0 }

def pool7 : Array CpInfo := pool [(2, .class_ 4), (1, u "java/lang/CharSequence"), (42, .class_ 48), (0, u "java/lang/CharSequence$1CodePointIterator"), (10, .class_ 60), (0, u "java/lang/CharSequence$1CharIterator"), (5, .class_ 67), (0, u "java/lang/Object")] 63

/-- java/lang/CharSequence -/
def k7 : Class := { plain "java/lang/CharSequence" (some 0) with
  accessFlags := 1537
  interfaces := #[]
  cf := some (fileOf pool7 2 #[.nestMembers #[47, 59]] #[] 1537 66 #[] #[])
  fields := #[]
  methods := #[]
  instanceTypes := #[]
  staticTypes := #[]
  resolved := Array.replicate 131 none
  statics := none }

def pool8 : Array CpInfo := pool [(1, .class_ 2), (0, u "java/lang/constant/ConstantDesc"), (0, .class_ 4), (0, u "java/lang/Object")] 32

/-- java/lang/constant/ConstantDesc -/
def k8 : Class := { plain "java/lang/constant/ConstantDesc" (some 0) with
  accessFlags := 1537
  interfaces := #[]
  cf := some (fileOf pool8 1 #[] #[] 1537 3 #[] #[])
  fields := #[]
  methods := #[]
  instanceTypes := #[]
  staticTypes := #[]
  resolved := Array.replicate 37 none
  statics := none }

def pool9 : Array CpInfo := pool [(2, .class_ 4), (1, u "java/lang/Object"), (0, u "<init>"), (0, u "()V"), (2, .fieldref 10 11), (0, .class_ 12), (0, .nameAndType 13 14), (0, u "java/lang/String"), (0, u "value"), (0, u "[B"), (0, .fieldref 10 16), (0, .nameAndType 17 18), (0, u "coder"), (0, u "B"), (2, u "hash"), (0, u "I"), (2, u "hashIsZero"), (0, u "Z"), (11, .fieldref 10 39), (0, .nameAndType 40 26), (0, u "COMPACT_STRINGS"), (66, .class_ 109), (1, u "java/lang/StringLatin1"), (431, .methodref 107 542), (0, .nameAndType 543 544), (0, u "equals"), (0, u "([B[B)Z"), (28, u "(Ljava/lang/Object;)Z"), (1, .class_ 576), (0, u "java/lang/CharSequence"), (22, u "CASE_INSENSITIVE_ORDER"), (0, u "Ljava/util/Comparator;"), (500, u "serialPersistentFields"), (0, u "[Ljava/io/ObjectStreamField;"), (0, .class_ 1104), (0, u "java/lang/String$CaseInsensitiveComparator"), (1, .class_ 1107), (0, u "java/io/Serializable"), (0, .class_ 1109), (0, u "java/lang/Comparable"), (0, .class_ 1111), (0, u "java/lang/constant/Constable"), (0, .class_ 1113), (0, u "java/lang/constant/ConstantDesc"), (2, u "serialVersionUID"), (0, u "J"), (3, u "REPL"), (0, u "C"), (2, u "LATIN1"), (1, u "UTF16")] 323

def k9m0 : Method := { name := "<init>", desc := "()V", sig := { parameters := [], returnType := none }, accessFlags := 1, code := none }
def k9c1 : Code := { maxStack := 2, maxLocals := 3, code := jdk_42_method_66_code, exceptionTable := #[], attributes := #[] }
def k9m1 : Method := { name := "equals", desc := "(Ljava/lang/Object;)Z", sig := { parameters := [(.object "java/lang/Object")], returnType := some .boolean }, accessFlags := 1, code := some k9c1 }
/-- java/lang/String -/
def k9 : Class := { plain "java/lang/String" (some 0) with
  accessFlags := 49
  interfaces := #[4, 3, 7, 2, 8]
  cf := some (fileOf pool9 10 #[.nestMembers #[1103]] #[{ accessFlags := 1, nameIndex := 5, descriptorIndex := 6, attributes := #[] }, { accessFlags := 1, nameIndex := 543, descriptorIndex := 573, attributes := #[] }] 49 2 #[1106, 1108, 575, 1110, 1112] #[{ accessFlags := 18, nameIndex := 13, descriptorIndex := 14, attributes := #[] }, { accessFlags := 18, nameIndex := 17, descriptorIndex := 18, attributes := #[] }, { accessFlags := 2, nameIndex := 21, descriptorIndex := 22, attributes := #[] }, { accessFlags := 2, nameIndex := 25, descriptorIndex := 26, attributes := #[] }, { accessFlags := 26, nameIndex := 1116, descriptorIndex := 1117, attributes := #[] }, { accessFlags := 24, nameIndex := 40, descriptorIndex := 26, attributes := #[] }, { accessFlags := 26, nameIndex := 1101, descriptorIndex := 1102, attributes := #[] }, { accessFlags := 26, nameIndex := 1121, descriptorIndex := 1122, attributes := #[] }, { accessFlags := 25, nameIndex := 599, descriptorIndex := 600, attributes := #[] }, { accessFlags := 24, nameIndex := 1125, descriptorIndex := 18, attributes := #[] }, { accessFlags := 24, nameIndex := 1127, descriptorIndex := 18, attributes := #[] }])
  fields := #[{ name := "value", type := (.array .byte), accessFlags := 18, slot := 0, constantValue := 0 }, { name := "coder", type := .byte, accessFlags := 18, slot := 1, constantValue := 0 }, { name := "hash", type := .int, accessFlags := 2, slot := 2, constantValue := 0 }, { name := "hashIsZero", type := .boolean, accessFlags := 2, slot := 3, constantValue := 0 }, { name := "serialVersionUID", type := .long, accessFlags := 26, slot := 0, constantValue := 0 }, { name := "COMPACT_STRINGS", type := .boolean, accessFlags := 24, slot := 1, constantValue := 0 }, { name := "serialPersistentFields", type := (.array (.object "java/io/ObjectStreamField")), accessFlags := 26, slot := 2, constantValue := 0 }, { name := "REPL", type := .char, accessFlags := 26, slot := 3, constantValue := 0 }, { name := "CASE_INSENSITIVE_ORDER", type := (.object "java/util/Comparator"), accessFlags := 25, slot := 4, constantValue := 0 }, { name := "LATIN1", type := .byte, accessFlags := 24, slot := 5, constantValue := 0 }, { name := "UTF16", type := .byte, accessFlags := 24, slot := 6, constantValue := 0 }]
  methods := #[k9m0, k9m1]
  instanceTypes := #[(.array .byte), .byte, .int, .boolean]
  staticTypes := #[.long, .boolean, (.array (.object "java/io/ObjectStreamField")), .char, (.object "java/util/Comparator"), .byte, .byte]
  resolved := Array.replicate 1451 none
  statics := some 1 }

def pool10 : Array CpInfo := pool [(4, .class_ 6), (1, u "java/lang/Object"), (0, u "<init>"), (0, u "()V"), (5, .class_ 16), (1, u "java/lang/StringLatin1"), (104, u "$assertionsDisabled"), (0, u "Z"), (98, .class_ 223), (1, u "java/lang/StringLatin1$LinesSpliterator"), (57, u "equals"), (0, u "([B[B)Z"), (107, .class_ 391), (0, u "java/lang/StringLatin1$CharsSpliterator")] 3

def k10m0 : Method := { name := "<init>", desc := "()V", sig := { parameters := [], returnType := none }, accessFlags := 0, code := none }
def k10c1 : Code := { maxStack := 3, maxLocals := 3, code := jdk_43_method_13_code, exceptionTable := #[], attributes := #[] }
def k10m1 : Method := { name := "equals", desc := "([B[B)Z", sig := { parameters := [(.array .byte), (.array .byte)], returnType := some .boolean }, accessFlags := 9, code := some k10c1 }
/-- java/lang/StringLatin1 -/
def k10 : Class := { plain "java/lang/StringLatin1" (some 0) with
  accessFlags := 48
  interfaces := #[]
  cf := some (fileOf pool10 14 #[.nestMembers #[390, 221]] #[{ accessFlags := 0, nameIndex := 7, descriptorIndex := 8, attributes := #[] }, { accessFlags := 9, nameIndex := 281, descriptorIndex := 282, attributes := #[] }] 48 4 #[] #[{ accessFlags := 4120, nameIndex := 121, descriptorIndex := 122, attributes := #[] }])
  fields := #[{ name := "$assertionsDisabled", type := .boolean, accessFlags := 4120, slot := 0, constantValue := 0 }]
  methods := #[k10m0, k10m1]
  instanceTypes := #[]
  staticTypes := #[.boolean]
  resolved := Array.replicate 395 none
  statics := none }

def pool11 : Array CpInfo := pool [(2, .class_ 4), (1, u "java/lang/Object"), (0, u "<init>"), (0, u "()V"), (17, .class_ 26), (1, u "jdk/internal/util/Preconditions"), (28, .class_ 56), (0, u "jdk/internal/util/Preconditions$4"), (57, .class_ 115), (0, u "jdk/internal/util/Preconditions$1"), (7, u "SIOOBE_FORMATTER"), (0, u "Ljava/util/function/BiFunction;"), (0, .class_ 126), (0, u "jdk/internal/util/Preconditions$2"), (3, u "AIOOBE_FORMATTER"), (0, .class_ 132), (0, u "jdk/internal/util/Preconditions$3"), (3, u "IOOBE_FORMATTER")] 57

def k11m0 : Method := { name := "<init>", desc := "()V", sig := { parameters := [], returnType := none }, accessFlags := 1, code := none }
/-- jdk/internal/util/Preconditions -/
def k11 : Class := { plain "jdk/internal/util/Preconditions" (some 0) with
  accessFlags := 33
  interfaces := #[]
  cf := some (fileOf pool11 24 #[.nestMembers #[55, 131, 125, 114]] #[{ accessFlags := 1, nameIndex := 5, descriptorIndex := 6, attributes := #[] }] 33 2 #[] #[{ accessFlags := 25, nameIndex := 123, descriptorIndex := 124, attributes := #[] }, { accessFlags := 25, nameIndex := 130, descriptorIndex := 124, attributes := #[] }, { accessFlags := 25, nameIndex := 136, descriptorIndex := 124, attributes := #[] }])
  fields := #[{ name := "SIOOBE_FORMATTER", type := (.object "java/util/function/BiFunction"), accessFlags := 25, slot := 0, constantValue := 0 }, { name := "AIOOBE_FORMATTER", type := (.object "java/util/function/BiFunction"), accessFlags := 25, slot := 1, constantValue := 0 }, { name := "IOOBE_FORMATTER", type := (.object "java/util/function/BiFunction"), accessFlags := 25, slot := 2, constantValue := 0 }]
  methods := #[k11m0]
  instanceTypes := #[]
  staticTypes := #[(.object "java/util/function/BiFunction"), (.object "java/util/function/BiFunction"), (.object "java/util/function/BiFunction")]
  resolved := Array.replicate 194 none
  statics := some 2 }

def pool12 : Array CpInfo := pool [(9, u "<init>"), (6, .class_ 18), (1, u "java/lang/Object"), (0, u "()V"), (1, .class_ 23), (1, u "jdk/internal/util/ArraysSupport"), (0, u "LOG2_ARRAY_LONG_INDEX_SCALE"), (0, u "I"), (2, u "U"), (0, u "Ljdk/internal/misc/Unsafe;"), (8, u "BIG_ENDIAN"), (0, u "Z"), (8, u "LOG2_BYTE_BIT_SIZE"), (4, u "LOG2_ARRAY_INT_INDEX_SCALE"), (54, u "JLA"), (0, u "Ljdk/internal/access/JavaLangAccess;"), (11, u "LOG2_ARRAY_BOOLEAN_INDEX_SCALE"), (9, u "LOG2_ARRAY_BYTE_INDEX_SCALE"), (5, u "LOG2_ARRAY_CHAR_INDEX_SCALE"), (5, u "LOG2_ARRAY_SHORT_INDEX_SCALE"), (18, u "LOG2_ARRAY_FLOAT_INDEX_SCALE"), (24, u "LOG2_ARRAY_DOUBLE_INDEX_SCALE"), (89, u "T_BOOLEAN"), (2, u "T_CHAR"), (1, u "T_FLOAT"), (1, u "T_DOUBLE"), (1, u "T_BYTE"), (1, u "T_SHORT"), (1, u "T_INT"), (1, u "T_LONG"), (1, u "SOFT_MAX_ARRAY_LENGTH")] 83

def k12m0 : Method := { name := "<init>", desc := "()V", sig := { parameters := [], returnType := none }, accessFlags := 2, code := none }
/-- jdk/internal/util/ArraysSupport -/
def k12 : Class := { plain "jdk/internal/util/ArraysSupport" (some 0) with
  accessFlags := 33
  interfaces := #[]
  cf := some (fileOf pool12 21 #[] #[{ accessFlags := 2, nameIndex := 9, descriptorIndex := 19, attributes := #[] }] 33 16 #[] #[{ accessFlags := 24, nameIndex := 28, descriptorIndex := 29, attributes := #[] }, { accessFlags := 26, nameIndex := 38, descriptorIndex := 39, attributes := #[] }, { accessFlags := 25, nameIndex := 121, descriptorIndex := 25, attributes := #[] }, { accessFlags := 25, nameIndex := 131, descriptorIndex := 25, attributes := #[] }, { accessFlags := 25, nameIndex := 137, descriptorIndex := 25, attributes := #[] }, { accessFlags := 25, nameIndex := 143, descriptorIndex := 25, attributes := #[] }, { accessFlags := 25, nameIndex := 53, descriptorIndex := 25, attributes := #[] }, { accessFlags := 25, nameIndex := 24, descriptorIndex := 25, attributes := #[] }, { accessFlags := 25, nameIndex := 162, descriptorIndex := 25, attributes := #[] }, { accessFlags := 25, nameIndex := 187, descriptorIndex := 25, attributes := #[] }, { accessFlags := 26, nameIndex := 48, descriptorIndex := 25, attributes := #[] }, { accessFlags := 25, nameIndex := 277, descriptorIndex := 25, attributes := #[] }, { accessFlags := 25, nameIndex := 280, descriptorIndex := 25, attributes := #[] }, { accessFlags := 25, nameIndex := 282, descriptorIndex := 25, attributes := #[] }, { accessFlags := 25, nameIndex := 284, descriptorIndex := 25, attributes := #[] }, { accessFlags := 25, nameIndex := 286, descriptorIndex := 25, attributes := #[] }, { accessFlags := 25, nameIndex := 288, descriptorIndex := 25, attributes := #[] }, { accessFlags := 25, nameIndex := 290, descriptorIndex := 25, attributes := #[] }, { accessFlags := 25, nameIndex := 292, descriptorIndex := 25, attributes := #[] }, { accessFlags := 26, nameIndex := 108, descriptorIndex := 109, attributes := #[] }, { accessFlags := 25, nameIndex := 294, descriptorIndex := 25, attributes := #[] }])
  fields := #[{ name := "U", type := (.object "jdk/internal/misc/Unsafe"), accessFlags := 24, slot := 0, constantValue := 0 }, { name := "BIG_ENDIAN", type := .boolean, accessFlags := 26, slot := 1, constantValue := 0 }, { name := "LOG2_ARRAY_BOOLEAN_INDEX_SCALE", type := .int, accessFlags := 25, slot := 2, constantValue := 0 }, { name := "LOG2_ARRAY_BYTE_INDEX_SCALE", type := .int, accessFlags := 25, slot := 3, constantValue := 0 }, { name := "LOG2_ARRAY_CHAR_INDEX_SCALE", type := .int, accessFlags := 25, slot := 4, constantValue := 0 }, { name := "LOG2_ARRAY_SHORT_INDEX_SCALE", type := .int, accessFlags := 25, slot := 5, constantValue := 0 }, { name := "LOG2_ARRAY_INT_INDEX_SCALE", type := .int, accessFlags := 25, slot := 6, constantValue := 0 }, { name := "LOG2_ARRAY_LONG_INDEX_SCALE", type := .int, accessFlags := 25, slot := 7, constantValue := 0 }, { name := "LOG2_ARRAY_FLOAT_INDEX_SCALE", type := .int, accessFlags := 25, slot := 8, constantValue := 0 }, { name := "LOG2_ARRAY_DOUBLE_INDEX_SCALE", type := .int, accessFlags := 25, slot := 9, constantValue := 0 }, { name := "LOG2_BYTE_BIT_SIZE", type := .int, accessFlags := 26, slot := 10, constantValue := 0 }, { name := "T_BOOLEAN", type := .int, accessFlags := 25, slot := 11, constantValue := 0 }, { name := "T_CHAR", type := .int, accessFlags := 25, slot := 12, constantValue := 0 }, { name := "T_FLOAT", type := .int, accessFlags := 25, slot := 13, constantValue := 0 }, { name := "T_DOUBLE", type := .int, accessFlags := 25, slot := 14, constantValue := 0 }, { name := "T_BYTE", type := .int, accessFlags := 25, slot := 15, constantValue := 0 }, { name := "T_SHORT", type := .int, accessFlags := 25, slot := 16, constantValue := 0 }, { name := "T_INT", type := .int, accessFlags := 25, slot := 17, constantValue := 0 }, { name := "T_LONG", type := .int, accessFlags := 25, slot := 18, constantValue := 0 }, { name := "JLA", type := (.object "jdk/internal/access/JavaLangAccess"), accessFlags := 26, slot := 19, constantValue := 0 }, { name := "SOFT_MAX_ARRAY_LENGTH", type := .int, accessFlags := 25, slot := 20, constantValue := 0 }]
  methods := #[k12m0]
  instanceTypes := #[]
  staticTypes := #[(.object "jdk/internal/misc/Unsafe"), .boolean, .int, .int, .int, .int, .int, .int, .int, .int, .int, .int, .int, .int, .int, .int, .int, .int, .int, (.object "jdk/internal/access/JavaLangAccess"), .int]
  resolved := Array.replicate 378 none
  statics := none }

def pool13 : Array CpInfo := pool [(1, u "java/lang/Cloneable"), (0, .class_ 1), (0, u "java/lang/Object"), (0, .class_ 3)] 3

/-- java/lang/Cloneable -/
def k13 : Class := { plain "java/lang/Cloneable" (some 0) with
  accessFlags := 1537
  interfaces := #[]
  cf := some (fileOf pool13 2 #[] #[] 1537 4 #[] #[])
  fields := #[]
  methods := #[]
  instanceTypes := #[]
  staticTypes := #[]
  resolved := Array.replicate 8 none
  statics := none }

/-- the primitive byte -/
def k14 : Class := { plain "byte" none with kind := .primitive 'B', accessFlags := 0x411 }
/-- [B -/
def k15 : Class := { plain "[B" (some 0) with kind := .array 14 .byte, interfaces := #[13, 4], accessFlags := 1041 }

/-- the primitive int -/
def k16 : Class := { plain "int" none with kind := .primitive 'I', accessFlags := 0x411 }
/-- [I -/
def k17 : Class := { plain "[I" (some 0) with kind := .array 16 .int, interfaces := #[13, 4], accessFlags := 1041 }

def heap : Heap := #[{ cls := 6, slots := #[.ref 3, .ref 4, .ref 5, .ref 6, .ref 7, .null], vm := .statics 6 },
  { cls := 9, slots := #[.long 0, .int 1, .null, .int 0, .null, .int 0, .int 0], vm := .statics 9 },
  { cls := 11, slots := #[.null, .null, .null], vm := .statics 11 },
  { cls := 6, slots := #[.null, .int 0, .int 0, .ref 8], vm := .none },
  { cls := 6, slots := #[.null, .int 1, .int 0, .ref 9], vm := .none },
  { cls := 6, slots := #[.null, .int 2, .int 0, .ref 10], vm := .none },
  { cls := 6, slots := #[.null, .int 3, .int 0, .ref 11], vm := .none },
  { cls := 6, slots := #[.null, .int 4, .int 0, .ref 12], vm := .none },
  { cls := 9, slots := #[.ref 13, .int 0, .int 0, .int 0], vm := .none },
  { cls := 9, slots := #[.ref 14, .int 0, .int 0, .int 0], vm := .none },
  { cls := 9, slots := #[.ref 15, .int 0, .int 0, .int 0], vm := .none },
  { cls := 9, slots := #[.ref 16, .int 0, .int 0, .int 0], vm := .none },
  { cls := 9, slots := #[.ref 17, .int 0, .int 0, .int 0], vm := .none },
  { cls := 15, slots := #[.int 115, .int 116, .int 114, .int 105, .int 110, .int 103], vm := .none },
  { cls := 15, slots := #[.int 105, .int 110, .int 116, .int 101, .int 103, .int 101, .int 114], vm := .none },
  { cls := 15, slots := #[.int 102, .int 108, .int 111, .int 97, .int 116], vm := .none },
  { cls := 15, slots := #[.int 100, .int 111, .int 117, .int 98, .int 108, .int 101], vm := .none },
  { cls := 15, slots := #[.int 98, .int 111, .int 111, .int 108, .int 101, .int 97, .int 110], vm := .none }]
def classes : Array Class := #[k0, k1, k2, k3, k4, k5, k6, k7, k8, k9, k10, k11, k12, k13, k14, k15, k16, k17]
def interned : List (Array UInt16 × Addr) := []
def slotsUsed : Nat := 87
def theMethod : MethodId := ⟨1, 1⟩
def args0 : Array Value := #[.int 5]
def aboutOver (below : List Frame) : State where
  vm := { classes := classes, interned := interned.toArray }
  heap := heap
  slotsUsed := slotsUsed
  threads := #[{ frames := .invoking theMethod args0 :: below }]
def below0 : List Frame := [.native { method := ⟨0, 0⟩, args := #[] }]
def about1 : State := aboutOver below0
def p0 : Program := .bare "" "" ""
def e0 : Env := launch0.env 0 0 0
theorem w_frames : about1.frames = Frame.invoking theMethod args0 :: below0 := rfl
set_option maxRecDepth 65536 in
theorem w_args : argsFit about1.vm theMethod args0 = true := by decide +kernel
set_option maxRecDepth 65536 in
theorem w_heap : heapFits about1 = true := by decide +kernel
set_option maxRecDepth 65536 in
theorem w_runnable : about1.curStatus? = some .runnable := by decide +kernel
set_option maxRecDepth 65536 in
theorem w_alone : about1.alone = true := by decide +kernel
set_option maxRecDepth 65536 in
theorem w_named : about1.methodNamed? x = some theMethod := by decide +kernel
set_option maxRecDepth 65536 in
theorem w_hears : about1.hears theMethod below0 = true := by decide +kernel
set_option maxRecDepth 65536 in
theorem w_ripe : about1.ripe theMethod args0 below0 = true := by decide +kernel
theorem w_running : about1.status = .running := rfl
set_option maxRecDepth 65536 in
theorem w_room : about1.hasRoom e0.platform room_1 = true :=
  launch0.hasRoom_least _ room_1 (by decide +kernel) (by decide +kernel) (by decide +kernel) (by decide +kernel) (by decide +kernel) (by decide +kernel)
theorem allAtoms_all (ts : List Jvm.Cond) (a : Array Jvm.Value) (st : Jvm.State) : (allAtoms ts).before a st = ts.all (fun c => c.before a st) := by
  induction ts with
  | nil => rfl
  | cons c t ih =>
    show (Jvm.Cond.and c (allAtoms t)).before a st = _
    rw [Jvm.Cond.before_and, ih, List.all_cons]
def words1 : List Jvm.Cond := Jvm.Cond.code x code maxLocals ret :: tables_1
/-- a 'code' word, met by the world's own term for the bytes: nothing is compared byte by byte -/
theorem code_word {y : MethodName} {bytes : ByteArray} {mx : Nat} {rt : Option FieldType} {a : Array Value} {s : State} {m : MethodId} {meth : Method} {c : Code} (h1 : s.methodNamed? y = some m) (h2 : s.vm.method? m = some meth) (h3 : meth.code = some c) (h4 : c.code = bytes)
    (h5 : (c.maxLocals == mx && c.exceptionTable.isEmpty && decide (c.maxStack ≤ mostOperands) && decide (meth.sig.returnType = rt) && !meth.locks && decide (parseMethodDescriptor y.desc = some meth.sig)) = true) : (Jvm.Cond.code y bytes mx rt).before a s = true := by
  simp only [Bool.and_eq_true, beq_iff_eq, Bool.not_eq_true', decide_eq_true_eq] at h5
  obtain ⟨⟨⟨⟨⟨g1, g2⟩, g3⟩, g4⟩, g5⟩, g6⟩ := h5
  simp [Cond.before, Cond.holds, Cond.value, h1, h2, h3, h4, g1, g2, g3, g4, g5, g6]
def isCode : Jvm.Cond → Bool
  | .code _ _ _ _ => true
  | _ => false
theorem all_split {L : List Jvm.Cond} {P : Jvm.Cond → Bool} (h1 : L.all (fun c => isCode c || P c) = true) (h2 : ∀ c ∈ L.filter isCode, P c = true) : L.all P = true := by
  refine List.all_eq_true.mpr fun c hc => ?_
  have h := List.all_eq_true.mp h1 c hc
  rcases Bool.eq_false_or_eq_true (isCode c) with hi | hi
  · exact h2 c (List.mem_filter.mpr ⟨hc, hi⟩)
  · simpa [hi] using h
set_option maxRecDepth 65536 in
theorem w_c0 : (Jvm.Cond.code x code maxLocals ret).before args0 about1 = true := code_word (m := ⟨1, 1⟩) (meth := k1m1) (c := k1c1) (by decide +kernel) rfl rfl rfl (by decide +kernel)
set_option maxRecDepth 65536 in
theorem w_c1 : (Jvm.Cond.code ({ cls := "com/example/pemmican/pemmican/DataType", name := "pmmlName", desc := "()Ljava/lang/String;" } : Jvm.MethodName) prog_16_method_5_code (1 : Nat) (Option.some (Jvm.ClassFile.FieldType.object "java/lang/String"))).before args0 about1 = true := code_word (m := ⟨6, 0⟩) (meth := k6m0) (c := k6c0) (by decide +kernel) rfl rfl rfl (by decide +kernel)
set_option maxRecDepth 65536 in
theorem w_c2 : (Jvm.Cond.code ({ cls := "java/lang/String", name := "equals", desc := "(Ljava/lang/Object;)Z" } : Jvm.MethodName) jdk_42_method_66_code (3 : Nat) (Option.some Jvm.ClassFile.FieldType.boolean)).before args0 about1 = true := code_word (m := ⟨9, 1⟩) (meth := k9m1) (c := k9c1) (by decide +kernel) rfl rfl rfl (by decide +kernel)
set_option maxRecDepth 65536 in
theorem w_c3 : (Jvm.Cond.code ({ cls := "java/lang/StringLatin1", name := "equals", desc := "([B[B)Z" } : Jvm.MethodName) jdk_43_method_13_code (3 : Nat) (Option.some Jvm.ClassFile.FieldType.boolean)).before args0 about1 = true := code_word (m := ⟨10, 1⟩) (meth := k10m1) (c := k10c1) (by decide +kernel) rfl rfl rfl (by decide +kernel)
set_option maxRecDepth 65536 in
theorem w_c4 : (Jvm.Cond.code ({ cls := "com/example/pemmican/pemmican/DataType", name := "isNumber", desc := "()Z" } : Jvm.MethodName) prog_16_method_6_code (1 : Nat) (Option.some Jvm.ClassFile.FieldType.boolean)).before args0 about1 = true := code_word (m := ⟨6, 1⟩) (meth := k6m1) (c := k6c1) (by decide +kernel) rfl rfl rfl (by decide +kernel)
def codes1 : List Jvm.Cond := [Jvm.Cond.code x code maxLocals ret, Jvm.Cond.code ({ cls := "com/example/pemmican/pemmican/DataType", name := "pmmlName", desc := "()Ljava/lang/String;" } : Jvm.MethodName) prog_16_method_5_code (1 : Nat) (Option.some (Jvm.ClassFile.FieldType.object "java/lang/String")), Jvm.Cond.code ({ cls := "java/lang/String", name := "equals", desc := "(Ljava/lang/Object;)Z" } : Jvm.MethodName) jdk_42_method_66_code (3 : Nat) (Option.some Jvm.ClassFile.FieldType.boolean), Jvm.Cond.code ({ cls := "java/lang/StringLatin1", name := "equals", desc := "([B[B)Z" } : Jvm.MethodName) jdk_43_method_13_code (3 : Nat) (Option.some Jvm.ClassFile.FieldType.boolean), Jvm.Cond.code ({ cls := "com/example/pemmican/pemmican/DataType", name := "isNumber", desc := "()Z" } : Jvm.MethodName) prog_16_method_6_code (1 : Nat) (Option.some Jvm.ClassFile.FieldType.boolean)]
set_option maxRecDepth 65536 in
theorem codes_eq : words1.filter isCode = codes1 := rfl
theorem w_codes : ∀ c ∈ words1.filter isCode, c.before args0 about1 = true := by
  rw [codes_eq]
  intro c hc
  simp only [codes1, List.mem_cons, List.not_mem_nil, or_false] at hc
  rcases hc with rfl | rfl | rfl | rfl | rfl
  · exact w_c0
  · exact w_c1
  · exact w_c2
  · exact w_c3
  · exact w_c4
set_option maxRecDepth 65536 in
theorem w_t1 : (words1.take 24).all (fun c => isCode c || c.before args0 about1) = true := by decide +kernel
set_option maxRecDepth 65536 in
theorem w_t2 : ((words1.drop 24).take 24).all (fun c => isCode c || c.before args0 about1) = true := by decide +kernel
set_option maxRecDepth 65536 in
theorem w_t3 : ((words1.drop 24).drop 24).all (fun c => isCode c || c.before args0 about1) = true := by decide +kernel
theorem w_tables : (allAtoms (Jvm.Cond.code x code maxLocals ret :: tables_1)).before args0 about1 = true := by
  rw [allAtoms_all]
  show words1.all (fun c => c.before args0 about1) = true
  refine all_split ?_ w_codes
  rw [← List.take_append_drop 24 words1, List.all_append, w_t1, ← List.take_append_drop 24 (words1.drop 24), List.all_append, w_t2, w_t3]
  rfl
set_option maxRecDepth 65536 in
theorem w_rest : rest_1_c.before args0 about1 = true := by decide +kernel
set_option maxRecDepth 65536 in
theorem w_case : (Jvm.Cond.and given_1 narrow_1).before args0 about1 = true := by decide +kernel
set_option maxRecDepth 65536 in
theorem w_consts : constsHeld consts_1 about1 := Jvm.Lit.constsHeldB_iff.mp (by decide +kernel)
theorem w_applies : (headSpec (Jvm.Cond.code x code maxLocals ret :: tables_1) room_1).applies x e0.platform about1 = true :=
  (Spec.applies_iff w_frames).mpr ⟨w_running, w_runnable, w_alone, w_named, w_hears, w_ripe, w_room, w_tables⟩
theorem atStart : AtStart classFile x code maxLocals ret World_1 tables_1 room_1 Calls_1 rest_1 Pre_1 launch0 p0 e0 about1 theMethod args0 below0 :=
  ⟨lists_1, trivial, launch0.admits_env _ _ _, launch0.least_env, fairChoices_fair.cas, fairChoices_fair.clock, w_frames, w_args, w_heap, w_applies, ⟨w_consts, trivial⟩, w_rest, w_case⟩
end start1
theorem witness_1 : WitnessClaimed_1 := ⟨start1.p0, start1.e0, start1.about1, start1.theMethod, start1.args0, start1.below0, start1.atStart⟩
end Jvm.Pilot.@@N@@
