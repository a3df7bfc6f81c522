import JvmDerived
import JvmDerived.Pilot.@@N@@Statement
import JvmDerived.Pilot.@@N@@Code
set_option linter.unusedVariables false
set_option linter.unusedSimpArgs false
namespace Jvm.RoadKit
open Sem ClassFile Op Lib Jvm.Stand Jvm.Free Jvm.LawKit
section New
variable {p : Program} {l : Launch} {e : Env} {R : Room} {s : State} {m : MethodId} {args : Array Value} {below : List Frame} {meth : Method} {c : Code} {T : State} {locs : List Loc} {cells slots : Nat}
theorem retI (X : Stand p l e R s m args below meth c T locs cells slots) (hx : p.tables.exec = Jvm.exec) {pc : Nat} {Ls : Array Slot} {z : Int32} {rest : List Value} (hret : meth.sig.returnType = some .int) (hd : decode c.code pc = .ok (.ireturn, 1)) {fs : List Frame}
    (hl : ∀ (f : JFrame) (acts : List Action), f.method = m → f.locked = none → f.entered = [] → (doReturn e (T.setTop f) acts (some (.int z))).1 = T.setFrames fs) : Steps p.tables e below (T.setTop (mkF m pc Ls (.int z :: rest))) (T.setFrames fs) := by
  have hm' : T.vm.method? m = some meth := X.method'
  have hn : narrow .int (.int z) = .int z := rfl
  show Steps p.tables e below (T.setTop { method := m, pc := pc, locals := Ls, stack := _ :: rest, locked := none }) _
  jvm_step X.here [X.here.top, hx, hd, hm', hret, hn]
  first | (intro acts; rw [hl _ acts rfl rfl rfl]) | rw [hl _ _ rfl rfl rfl]
  exact Steps.refl _
end New
end Jvm.RoadKit
namespace Jvm.Pilot.@@N@@
open Jvm Jvm.ClassFile Sem Op Lib Jvm.Free Jvm.Stand Jvm.LawKit Jvm.RoadKit Bundle Jvm.Pilot.@@N@@.Jvm.D
/-! own small kit: a walk forward, state by state -/
section OwnKit
variable {p : Program} {l : Launch} {e : Env} {R : Room} {s : State} {m : MethodId} {args : Array Value} {below : List Frame} {meth : Method} {c : Code} {T : State} {locs : List Loc} {cells slots : Nat} {rc rs : Nat} {Q : Option Value → Heap → List Loc → Prop} {Z : State} {h h' : Heap} {a b : Addr} {S S' : State}
/-- from S the run comes to its return, and Q holds there -/
def Go (p : Program) (e : Env) (below : List Frame) (s : State) (rc rs : Nat) (Q : Option Value → Heap → List Loc → Prop) (S : State) : Prop :=
  ∃ s₂ o, Steps p.tables e below S s₂ ∧ s₂.status = .running ∧ Ended s₂ below o ∧ ∃ v L, o = .returned v ∧ Q v s₂.heap L ∧ FrameEnd s o s₂ L rc rs
theorem Go.st (k : ∀ t, Steps p.tables e below S' t → Steps p.tables e below S t) (g : Go p e below s rc rs Q S') : Go p e below s rc rs Q S := by
  obtain ⟨x, y, z, r⟩ := g
  exact ⟨x, y, k x z, r⟩
theorem Go.tr (k : Steps p.tables e below S S') (g : Go p e below s rc rs Q S') : Go p e below s rc rs Q S := by
  obtain ⟨x, y, z, r⟩ := g
  exact ⟨x, y, k.trans z, r⟩
theorem Go.ret (X : Stand p l e R s m args below meth c T locs cells slots) (hlk : meth.locks = false) (v : Option Value) (hv : meth.sig.returnType = none → v = none) {g : JFrame} (hQ : Q v T.heap locs) (hc : cells ≤ rc) (hs : slots ≤ rs)
    (k : ∀ fs, (∀ (f : JFrame) (acts : List Action), f.method = m → f.locked = none → f.entered = [] → (doReturn e (T.setTop f) acts v).1 = T.setFrames fs) → Steps p.tables e below (T.setTop g) (T.setFrames fs)) : Go p e below s rc rs Q (T.setTop g) := by
  obtain ⟨fs, hr, hrun, hended, hW, hsame⟩ := X.leave (v := v) hv hlk
  exact ⟨_, _, k fs hr, hrun, hended, _, _, rfl, hQ, ⟨_, rfl⟩, hW, hsame.mono hc hs⟩
theorem own_w {a0 : Array Value} (hw : ∀ d ∈ tables_1, d.before a0 Z = true) (k : Nat) {d : Jvm.Cond} (q : tables_1[k]? = some d) : d.before a0 Z = true := hw _ (List.mem_of_getElem? q)
theorem own_idx {n j : Int32} {cl : Cell} (S : cl.slots.size = n.toNatClampNeg) (q1 : ¬ j < 0) (q2 : j < n) : ¬ (j < 0 ∨ cl.slots.size ≤ j.toNatClampNeg) := inb_of S ⟨q1, q2⟩
theorem own_iaload (X : Stand p l e R s m args below meth c T locs cells slots) (hx : p.tables.exec = Jvm.exec) (hZ : Z.Warmed39 s.vm) (eT : T.heap = h) {k : ClassId} {n : Int32} {vs : List Value} {d : Value} (V : Arv Z h a k .int n vs d) {j : Int32} (q1 : ¬ j < 0) (q2 : j < n) {v : Value} (hv : vs.getD j.toNatClampNeg d = v) {g : JFrame} (hg : g.method = m) {rest : List Value} (hs : g.stack = .int j :: .ref a :: rest) (hd : decode c.code g.pc = .ok (.iaload, 1)) (t : State) (kk : Steps p.tables e below (T.setTop { g with pc := g.pc + 1, stack := v :: rest }) t) : Steps p.tables e below (T.setTop g) t := by
  obtain ⟨cl, A, -, S, -, H, -⟩ := V
  have hin := own_idx S q1 q2
  exact X.iaload hx (j := j) (v := v) (by rw [eT]; exact A.1) (State.isArrayOf_alike hZ.alike A.2.1) A.2.2 hin (H.at hin hv) (g := g) hg hs hd _ kk
theorem own_laload (X : Stand p l e R s m args below meth c T locs cells slots) (hx : p.tables.exec = Jvm.exec) (hZ : Z.Warmed39 s.vm) (eT : T.heap = h) {k : ClassId} {n : Int32} {vs : List Value} {d : Value} (V : Arv Z h a k .long n vs d) {j : Int32} (q1 : ¬ j < 0) (q2 : j < n) {v : Value} (hv : vs.getD j.toNatClampNeg d = v) {g : JFrame} (hg : g.method = m) {rest : List Value} (hs : g.stack = .int j :: .ref a :: rest) (hd : decode c.code g.pc = .ok (.laload, 1)) (t : State) (kk : Steps p.tables e below (T.setTop { g with pc := g.pc + 1, stack := v :: rest }) t) : Steps p.tables e below (T.setTop g) t := by
  obtain ⟨cl, A, -, S, -, H, -⟩ := V
  have hin := own_idx S q1 q2
  exact X.laload hx (j := j) (v := v) (by rw [eT]; exact A.1) (State.isArrayOf_alike hZ.alike A.2.1) A.2.2 hin (H.at hin hv) (g := g) hg hs hd _ kk
theorem own_caload (X : Stand p l e R s m args below meth c T locs cells slots) (hx : p.tables.exec = Jvm.exec) (hZ : Z.Warmed39 s.vm) (eT : T.heap = h) {k : ClassId} {n : Int32} {vs : List Value} {d : Value} (V : Arv Z h a k .char n vs d) {j : Int32} (q1 : ¬ j < 0) (q2 : j < n) {v : Value} (hv : vs.getD j.toNatClampNeg d = v) {g : JFrame} (hg : g.method = m) {rest : List Value} (hs : g.stack = .int j :: .ref a :: rest) (hd : decode c.code g.pc = .ok (.caload, 1)) (t : State) (kk : Steps p.tables e below (T.setTop { g with pc := g.pc + 1, stack := v :: rest }) t) : Steps p.tables e below (T.setTop g) t := by
  obtain ⟨cl, A, -, S, -, H, -⟩ := V
  have hin := own_idx S q1 q2
  exact X.caload hx (j := j) (v := v) (by rw [eT]; exact A.1) (State.isArrayOf_alike hZ.alike A.2.1) A.2.2 hin (H.at hin hv) (g := g) hg hs hd _ kk
theorem own_baloadB (X : Stand p l e R s m args below meth c T locs cells slots) (hx : p.tables.exec = Jvm.exec) (hZ : Z.Warmed39 s.vm) (eT : T.heap = h) {k : ClassId} {n : Int32} {vs : List Value} {d : Value} (V : Arv Z h a k .byte n vs d) {j : Int32} (q1 : ¬ j < 0) (q2 : j < n) {v : Value} (hv : vs.getD j.toNatClampNeg d = v) {g : JFrame} (hg : g.method = m) {rest : List Value} (hs : g.stack = .int j :: .ref a :: rest) (hd : decode c.code g.pc = .ok (.baload, 1)) (t : State) (kk : Steps p.tables e below (T.setTop { g with pc := g.pc + 1, stack := v :: rest }) t) : Steps p.tables e below (T.setTop g) t := by
  obtain ⟨cl, A, -, S, -, H, -⟩ := V
  have hin := own_idx S q1 q2
  exact X.baloadBytes hx (j := j) (v := v) (by rw [eT]; exact A.1) (State.isArrayOf_alike hZ.alike A.2.1) A.2.2 hin (H.at hin hv) (g := g) hg hs hd _ kk
theorem own_baloadZ (X : Stand p l e R s m args below meth c T locs cells slots) (hx : p.tables.exec = Jvm.exec) (hZ : Z.Warmed39 s.vm) (eT : T.heap = h) {k : ClassId} {n : Int32} {vs : List Value} {d : Value} (V : Arv Z h a k .boolean n vs d) {j : Int32} (q1 : ¬ j < 0) (q2 : j < n) {v : Value} (hv : vs.getD j.toNatClampNeg d = v) {g : JFrame} (hg : g.method = m) {rest : List Value} (hs : g.stack = .int j :: .ref a :: rest) (hd : decode c.code g.pc = .ok (.baload, 1)) (t : State) (kk : Steps p.tables e below (T.setTop { g with pc := g.pc + 1, stack := v :: rest }) t) : Steps p.tables e below (T.setTop g) t := by
  obtain ⟨cl, A, -, S, -, H, -⟩ := V
  have hin := own_idx S q1 q2
  exact X.baloadBooleans hx (j := j) (v := v) (by rw [eT]; exact A.1) (State.isArrayOf_alike hZ.alike A.2.1) A.2.2 hin (H.at hin hv) (g := g) hg hs hd _ kk
theorem own_aaload (X : Stand p l e R s m args below meth c T locs cells slots) (hx : p.tables.exec = Jvm.exec) (hZ : Z.Warmed39 s.vm) (eT : T.heap = h) {k : ClassId} {n : Int32} {vs : List Value} {d : Value} {ty : FieldType} (V : Arv Z h a k ty n vs d) (hty : ty.isReference = true) {j : Int32} (q1 : ¬ j < 0) (q2 : j < n) {v : Value} (hv : vs.getD j.toNatClampNeg d = v) {g : JFrame} (hg : g.method = m) {rest : List Value} (hs : g.stack = .int j :: .ref a :: rest) (hd : decode c.code g.pc = .ok (.aaload, 1)) (t : State) (kk : Steps p.tables e below (T.setTop { g with pc := g.pc + 1, stack := v :: rest }) t) : Steps p.tables e below (T.setTop g) t := by
  obtain ⟨cl, A, -, S, -, H, -⟩ := V
  have hin := own_idx S q1 q2
  exact X.aaload hx (j := j) (v := v) (by rw [eT]; exact A.1) (State.isArrayOf_alike hZ.alike A.2.1) hty A.2.2 hin (H.at hin hv) (g := g) hg hs hd _ kk
theorem own_len (X : Stand p l e R s m args below meth c T locs cells slots) (hx : p.tables.exec = Jvm.exec) (hZ : Z.Warmed39 s.vm) (eT : T.heap = h) {k : ClassId} {n : Int32} {vs : List Value} {d : Value} {ty : FieldType} (V : Arv Z h a k ty n vs d) {g : JFrame} (hg : g.method = m) {rest : List Value} (hs : g.stack = .ref a :: rest) (hd : decode c.code g.pc = .ok (.arraylength, 1)) (t : State) (kk : Steps p.tables e below (T.setTop { g with pc := g.pc + 1, stack := .int n :: rest }) t) : Steps p.tables e below (T.setTop g) t := by
  obtain ⟨cl, A, -, S, N, -, -⟩ := V
  refine X.arraylength hx (by rw [eT]; exact A.1) (State.isArrayOf_alike hZ.alike A.2.1) (g := g) hg hs hd _ ?_
  rw [len_of S N]
  exact kk
theorem own_stI (X : Stand p l e R s m args below meth c T locs cells slots) (hx : p.tables.exec = Jvm.exec) (hZ : Z.Warmed39 s.vm) (eT : T.heap = h) {k : ClassId} {n : Int32} {vs : List Value} {d : Value} (V : Arv Z h a k .int n vs d) {j x : Int32} (q1 : ¬ j < 0) (q2 : j < n) (i : Nat) (hi : j.toNatClampNeg = i) (hl : i < vs.length) {g : JFrame} (hg : g.method = m) {rest : List Value} (hs : g.stack = .int x :: .int j :: .ref a :: rest) (hd : decode c.code g.pc = .ok (.iastore, 1)) :
    ∃ T' h', Stand p l e R s m args below meth c T' (locs ++ [⟨a, j.toNatClampNeg⟩]) cells slots ∧ T'.heap = h' ∧ Wr h h' a j.toNatClampNeg (.int x) ∧ Arv Z h' a k .int n (vs.set i (.int x)) d ∧ ∀ t, Steps p.tables e below (T'.setTop { g with pc := g.pc + 1, stack := rest }) t → Steps p.tables e below (T.setTop g) t := by
  obtain ⟨cl, A, q, S, N, H, G⟩ := V
  obtain ⟨T', h', X', e', W', st⟩ := stI X hx hZ eT A (own_idx S q1 q2) (g := g) hg hs hd
  exact ⟨T', h', X', e', W', Arv.set A q S N H G rfl W' i hi hl, st⟩
theorem own_stJ (X : Stand p l e R s m args below meth c T locs cells slots) (hx : p.tables.exec = Jvm.exec) (hZ : Z.Warmed39 s.vm) (eT : T.heap = h) {k : ClassId} {n : Int32} {vs : List Value} {d : Value} (V : Arv Z h a k .long n vs d) {j : Int32} {x : Int64} (q1 : ¬ j < 0) (q2 : j < n) (i : Nat) (hi : j.toNatClampNeg = i) (hl : i < vs.length) {g : JFrame} (hg : g.method = m) {rest : List Value} (hs : g.stack = .long x :: .int j :: .ref a :: rest) (hd : decode c.code g.pc = .ok (.lastore, 1)) :
    ∃ T' h', Stand p l e R s m args below meth c T' (locs ++ [⟨a, j.toNatClampNeg⟩]) cells slots ∧ T'.heap = h' ∧ Wr h h' a j.toNatClampNeg (.long x) ∧ Arv Z h' a k .long n (vs.set i (.long x)) d ∧ ∀ t, Steps p.tables e below (T'.setTop { g with pc := g.pc + 1, stack := rest }) t → Steps p.tables e below (T.setTop g) t := by
  obtain ⟨cl, A, q, S, N, H, G⟩ := V
  obtain ⟨T', h', X', e', W', st⟩ := stJ X hx hZ eT A (own_idx S q1 q2) (g := g) hg hs hd
  exact ⟨T', h', X', e', W', Arv.set A q S N H G rfl W' i hi hl, st⟩
theorem own_stC (X : Stand p l e R s m args below meth c T locs cells slots) (hx : p.tables.exec = Jvm.exec) (hZ : Z.Warmed39 s.vm) (eT : T.heap = h) {k : ClassId} {n : Int32} {vs : List Value} {d : Value} (V : Arv Z h a k .char n vs d) {j x : Int32} (q1 : ¬ j < 0) (q2 : j < n) (i : Nat) (hi : j.toNatClampNeg = i) (hl : i < vs.length) {g : JFrame} (hg : g.method = m) {rest : List Value} (hs : g.stack = .int x :: .int j :: .ref a :: rest) (hd : decode c.code g.pc = .ok (.castore, 1)) :
    ∃ T' h', Stand p l e R s m args below meth c T' (locs ++ [⟨a, j.toNatClampNeg⟩]) cells slots ∧ T'.heap = h' ∧ Wr h h' a j.toNatClampNeg (.int (nar .char x)) ∧ Arv Z h' a k .char n (vs.set i (.int (nar .char x))) d ∧ ∀ t, Steps p.tables e below (T'.setTop { g with pc := g.pc + 1, stack := rest }) t → Steps p.tables e below (T.setTop g) t := by
  obtain ⟨cl, A, q, S, N, H, G⟩ := V
  obtain ⟨T', h', X', e', W', st⟩ := stC X hx hZ eT A (own_idx S q1 q2) (g := g) hg hs hd
  exact ⟨T', h', X', e', W', Arv.set A q S N H G (fits_nar_char _) W' i hi hl, st⟩
theorem own_stB (X : Stand p l e R s m args below meth c T locs cells slots) (hx : p.tables.exec = Jvm.exec) (hZ : Z.Warmed39 s.vm) (eT : T.heap = h) {k : ClassId} {n : Int32} {vs : List Value} {d : Value} (V : Arv Z h a k .byte n vs d) {j x : Int32} (q1 : ¬ j < 0) (q2 : j < n) (i : Nat) (hi : j.toNatClampNeg = i) (hl : i < vs.length) {g : JFrame} (hg : g.method = m) {rest : List Value} (hs : g.stack = .int x :: .int j :: .ref a :: rest) (hd : decode c.code g.pc = .ok (.bastore, 1)) :
    ∃ T' h', Stand p l e R s m args below meth c T' (locs ++ [⟨a, j.toNatClampNeg⟩]) cells slots ∧ T'.heap = h' ∧ Wr h h' a j.toNatClampNeg (.int (nar .byte x)) ∧ Arv Z h' a k .byte n (vs.set i (.int (nar .byte x))) d ∧ ∀ t, Steps p.tables e below (T'.setTop { g with pc := g.pc + 1, stack := rest }) t → Steps p.tables e below (T.setTop g) t := by
  obtain ⟨cl, A, q, S, N, H, G⟩ := V
  obtain ⟨T', h', X', e', W', st⟩ := stB X hx hZ eT A (own_idx S q1 q2) (g := g) hg hs hd
  exact ⟨T', h', X', e', W', Arv.set A q S N H G (fits_nar_byte _) W' i hi hl, st⟩
theorem own_stZ (X : Stand p l e R s m args below meth c T locs cells slots) (hx : p.tables.exec = Jvm.exec) (hZ : Z.Warmed39 s.vm) (eT : T.heap = h) {k : ClassId} {n : Int32} {vs : List Value} {d : Value} (V : Arv Z h a k .boolean n vs d) {j x : Int32} (q1 : ¬ j < 0) (q2 : j < n) (i : Nat) (hi : j.toNatClampNeg = i) (hl : i < vs.length) {g : JFrame} (hg : g.method = m) {rest : List Value} (hs : g.stack = .int x :: .int j :: .ref a :: rest) (hd : decode c.code g.pc = .ok (.bastore, 1)) :
    ∃ T' h', Stand p l e R s m args below meth c T' (locs ++ [⟨a, j.toNatClampNeg⟩]) cells slots ∧ T'.heap = h' ∧ Wr h h' a j.toNatClampNeg (.int (nar .boolean x)) ∧ Arv Z h' a k .boolean n (vs.set i (.int (nar .boolean x))) d ∧ ∀ t, Steps p.tables e below (T'.setTop { g with pc := g.pc + 1, stack := rest }) t → Steps p.tables e below (T.setTop g) t := by
  obtain ⟨cl, A, q, S, N, H, G⟩ := V
  obtain ⟨T', h', X', e', W', st⟩ := stZ X hx hZ eT A (own_idx S q1 q2) (g := g) hg hs hd
  exact ⟨T', h', X', e', W', Arv.set A q S N H G (fits_nar_bool _) W' i hi hl, st⟩
theorem own_old {n0 : Nat} (O : Old Z n0 h) : n0 ≤ h.size := O.1 ▸ O.2.1
theorem own_res {z z' y : Int32} (hq : y = z') (hz : z = z') : some (Value.int z) = some (Value.int y) := by rw [hq, hz]
theorem own_resJ {z z' y : Int64} (hq : y = z') (hz : z = z') : some (Value.long z) = some (Value.long y) := by rw [hq, hz]
theorem own_narR {v : Value} {t : FieldType} (q : v.isRef = true) (r : t.isReference = true := by rfl) : narrow t v = v := by
  rcases ref_cases q with rfl | ⟨_, rfl⟩ <;> cases t <;> first | rfl | (simp [FieldType.isReference] at r)
theorem own_fitR {v : Value} {t : FieldType} (q : v.isRef = true) (r : t.isReference = true := by rfl) : fits t v = true := by
  rcases ref_cases q with rfl | ⟨_, rfl⟩ <;> cases t <;> first | rfl | (simp [FieldType.isReference] at r)
theorem own_fld {ar : Array Value} {t : Term} {x : Addr} {C n d : String} {k : Int32} (ht : t.eval ar s none [] s = some (.ref x)) (q : (Jvm.Cond.eq (.field t C n d) (.int k)).value ar s none s [] = some true) : Fld s s.heap x C n d (.int k) := by
  obtain ⟨u, w, e1, e2, -, k2⟩ := cmp_v (Or.inl q)
  have e3 : (Term.int k).eval ar s none [] s = some (.int k) := Term.int_eval k
  rw [e3] at e2
  obtain rfl := Option.some.inj e2
  obtain ⟨z, rfl⟩ := k2
  have e4 : z = k := gotT (Cond.eq_ints e1 e3) q
  subst e4
  rw [fld_at ht] at e1
  exact Fld.start e1
theorem own_neI {u w : Int32} (q : u ≠ w) : Value.int u ≠ Value.int w := fun z => q (Value.int.inj z)
theorem own_stR (X : Stand p l e R s m args below meth c T locs cells slots) (hx : p.tables.exec = Jvm.exec) (hZ : Z.Warmed39 s.vm) (eT : T.heap = h) {k : ClassId} {n : Int32} {vs : List Value} {d : Value} {ty : FieldType} {C : String} (V : Arv Z h a k ty n vs d) (hty : ty.isReference = true) (O : Ovr Z k C) {y : Addr} (I : Ins Z h y C true) {j : Int32} (q1 : ¬ j < 0) (q2 : j < n) (i : Nat) (hi : j.toNatClampNeg = i) (hl : i < vs.length) {g : JFrame} (hg : g.method = m) {rest : List Value} (hs : g.stack = .ref y :: .int j :: .ref a :: rest) (hd : decode c.code g.pc = .ok (.aastore, 1)) :
    ∃ T' h', Stand p l e R s m args below meth c T' (locs ++ [⟨a, j.toNatClampNeg⟩]) cells slots ∧ T'.heap = h' ∧ Wr h h' a j.toNatClampNeg (.ref y) ∧ Arv Z h' a k ty n (vs.set i (.ref y)) d ∧ ∀ t, Steps p.tables e below (T'.setTop { g with pc := g.pc + 1, stack := rest }) t → Steps p.tables e below (T.setTop g) t := by
  obtain ⟨cl, A, q, S, N, H, G⟩ := V
  obtain ⟨T', h', X', e', W', st⟩ := stR X hx hZ eT A (own_idx S q1 q2) hty (Sto.ofV A q O I) (g := g) hg hs hd
  exact ⟨T', h', X', e', W', Arv.set A q S N H G (own_fitR rfl hty) W' i hi hl, st⟩
theorem own_dupx2 (X : Stand p l e R s m args below meth c T locs cells slots) (hx : p.tables.exec = Jvm.exec) {g : JFrame} (hg : g.method = m) {x y z : Value} {rest : List Value} (hd : decode c.code g.pc = .ok (.dup_x2, 1)) (hs : g.stack = x :: y :: z :: rest) (hc : x.category = 1) (hc' : y.category = 1) (hc'' : z.category = 1) (t : State) (kk : Steps p.tables e below (T.setTop { g with pc := g.pc + 1, stack := x :: y :: z :: x :: rest }) t) : Steps p.tables e below (T.setTop g) t := by
  subst hg
  jvm_step X.here [X.here.top, hx, hd, dup_x2.wp_sem, hs, hc, hc', hc'']
  exact kk
theorem own_gen {n0 : Nat} (X : Stand p l e R s m args below meth c T locs cells slots) (N : Fr n0 locs) : ∃ L, Stand p l e R s m args below meth c T L cells slots ∧ Fr n0 L := ⟨_, X, N⟩
end OwnKit
/-! the same with the wide end (String constants may have been interned) -/
section OwnW
variable {p : Program} {l : Launch} {e : Env} {R : Room} {s : State} {m : MethodId} {args : Array Value} {below : List Frame} {meth : Method} {c : Code} {T : State} {locs : List Loc} {cells slots : Nat} {rc rs : Nat} {Q : Option Value → Heap → List Loc → Prop} {S S' : State}
def GoW (p : Program) (e : Env) (below : List Frame) (s : State) (rc rs : Nat) (Q : Option Value → Heap → List Loc → Prop) (S : State) : Prop :=
  ∃ s₂ o, Steps p.tables e below S s₂ ∧ s₂.status = .running ∧ Ended s₂ below o ∧ ∃ v L, o = .returned v ∧ Q v s₂.heap L ∧ ReturnedEndW s o s₂ L rc rs
theorem GoW.st (k : ∀ t, Steps p.tables e below S' t → Steps p.tables e below S t) (g : GoW p e below s rc rs Q S') : GoW p e below s rc rs Q S := by
  obtain ⟨x, y, z, r⟩ := g
  exact ⟨x, y, k x z, r⟩
theorem GoW.tr (k : Steps p.tables e below S S') (g : GoW p e below s rc rs Q S') : GoW p e below s rc rs Q S := by
  obtain ⟨x, y, z, r⟩ := g
  exact ⟨x, y, k.trans z, r⟩
theorem GoW.ret {vm1 : Vm} {n1 : Nat} (X : Stand p l e R (s.setVm vm1) m args below meth c T locs cells slots) (hlk : meth.locks = false) (hS : s.Since vm1 n1) (hn : n1 ≤ T.heap.size) (v : Option Value) (hv : meth.sig.returnType = none → v = none) {g : JFrame} (hQ : Q v T.heap locs) (hc : cells ≤ rc) (hs : slots ≤ rs)
    (k : ∀ fs, (∀ (f : JFrame) (acts : List Action), f.method = m → f.locked = none → f.entered = [] → (doReturn e (T.setTop f) acts v).1 = T.setFrames fs) → Steps p.tables e below (T.setTop g) (T.setFrames fs)) : GoW p e below s rc rs Q (T.setTop g) := by
  obtain ⟨fs, hr, hrun, hended, hE⟩ := X.leaveW hS hn (v := v) hv hlk
  exact ⟨_, _, k fs hr, hrun, hended, _, _, rfl, hQ, hE.1, hE.2.1, hE.2.2.1, hE.2.2.2.mono hc hs⟩
end OwnW
/-! the wide end, with the machine's tables in the end's words: which texts may have been interned is carried through calls -/
section OwnV
variable {p : Program} {l : Launch} {e : Env} {R : Room} {s : State} {m : MethodId} {args : Array Value} {below : List Frame} {meth : Method} {c : Code} {T : State} {locs : List Loc} {cells slots : Nat} {rc rs : Nat} {Q : Option Value → Vm → Heap → List Loc → Prop} {S S' Z : State} {a0 : Array Value} {h : Heap} {Ts Ts' : List String}
def GoV (p : Program) (e : Env) (below : List Frame) (s : State) (rc rs : Nat) (Q : Option Value → Vm → Heap → List Loc → Prop) (S : State) : Prop :=
  ∃ s₂ o, Steps p.tables e below S s₂ ∧ s₂.status = .running ∧ Ended s₂ below o ∧ ∃ v L, o = .returned v ∧ Q v s₂.vm s₂.heap L ∧ ReturnedEndW s o s₂ L rc rs
theorem GoV.st (k : ∀ t, Steps p.tables e below S' t → Steps p.tables e below S t) (g : GoV p e below s rc rs Q S') : GoV p e below s rc rs Q S := by
  obtain ⟨x, y, z, r⟩ := g
  exact ⟨x, y, k x z, r⟩
theorem GoV.tr (k : Steps p.tables e below S S') (g : GoV p e below s rc rs Q S') : GoV p e below s rc rs Q S := by
  obtain ⟨x, y, z, r⟩ := g
  exact ⟨x, y, k.trans z, r⟩
theorem GoV.ret {vm1 : Vm} {n1 : Nat} (X : Stand p l e R (s.setVm vm1) m args below meth c T locs cells slots) (hlk : meth.locks = false) (hS : s.Since vm1 n1) (hn : n1 ≤ T.heap.size) (v : Option Value) (hv : meth.sig.returnType = none → v = none) {g : JFrame} (hQ : Q v T.vm T.heap locs) (hc : cells ≤ rc) (hs : slots ≤ rs)
    (k : ∀ fs, (∀ (f : JFrame) (acts : List Action), f.method = m → f.locked = none → f.entered = [] → (doReturn e (T.setTop f) acts v).1 = T.setFrames fs) → Steps p.tables e below (T.setTop g) (T.setFrames fs)) : GoV p e below s rc rs Q (T.setTop g) := by
  obtain ⟨fs, hr, hrun, hended, hE⟩ := X.leaveW hS hn (v := v) hv hlk
  exact ⟨_, _, k fs hr, hrun, hended, _, _, rfl, hQ, hE.1, hE.2.1, hE.2.2.1, hE.2.2.2.mono hc hs⟩
theorem own_ibW {vm0 : Vm} (I : IB Z vm0 Ts) (X : Stand p l e R (s.setVm vm0) m args below meth c T locs cells slots) : IB Z T.vm Ts := by
  obtain ⟨more, a, b⟩ := I
  exact ⟨more, X.warmed.interned_eq.trans a, b⟩
theorem own_ibH {vm' : Vm} (I : IB Z s.vm Ts) (w : s.WarmedH vm') : IB Z vm' Ts := by
  obtain ⟨more, a, b⟩ := I
  exact ⟨more, w.interned_eq.trans a, b⟩
theorem own_ibM {vm0 : Vm} (I : IB Z vm0 Ts) (q : ∀ t ∈ Ts, t ∈ Ts') : IB Z vm0 Ts' := by
  obtain ⟨more, a, b⟩ := I
  exact ⟨more, a, fun x hx => by obtain ⟨t, h1, h2⟩ := b x hx; exact ⟨t, q t h1, h2⟩⟩
theorem own_backIB {y : MethodName} {bytes : ByteArray} {maxL : Nat} {ret : Option FieldType} {rm : Room} {len W : Nat} {as' : Array Value}
    (hM : MetFree l y (head1 [Cond.code y bytes maxL ret] rm) (fun a U => a = as' ∧ Z.Warmed39 U.vm ∧ U.heap = h ∧ IB Z U.vm Ts) (fun _ _ _ _ _ => True) (fun _ U o U' => ∃ v L, o = .returned v ∧ Q v U'.vm U'.heap L ∧ ReturnedEndW U o U' L rm.cells rm.slots))
    (hZ : Z.Warmed39 s.vm) (I : IB Z s.vm Ts) (wc : (Cond.code y bytes maxL ret).before a0 Z = true) (wz : (Cond.initialized y.cls).before a0 Z = true) (hf : rm.frames + 1 ≤ R.frames) (hl : W + (maxL + 11) + rm.locals ≤ R.locals) :
    BackS l R p e below s args y len W (fun A a => a = as' ∧ A.U.heap = h ∧ A.cells + rm.cells ≤ R.cells ∧ A.slots + rm.slots ≤ R.slots)
      (fun A _ v B => ∃ L, Q v B.U.vm B.U.heap L ∧ B.locs = A.locs ++ L ∧ B.cells = A.cells + rm.cells ∧ B.slots = A.slots + rm.slots) :=
  BackS.of_freeW (bytes := bytes) (maxL := maxL) (ret := ret) (E := fun _ _ o t L k n => k = rm.cells ∧ n = rm.slots ∧ ∃ v, o = .returned v ∧ Q v t.vm t.heap L) hM hf hl
    (fun m meth c A a Y hp => have hU : Z.Warmed39 A.U.vm := wtrans hZ Y.warmed
      ⟨by show (Cond.and _ .tt).before a A.U = true; rw [Cond.before_and, mv hU wc]; rfl, mv hU wc, mv hU wz, hp.2.2.1, hp.2.2.2⟩)
    (fun m meth c A a g mk Y hp => ⟨hp.1, wtrans hZ Y.warmed, hp.2.1, own_ibH I Y.warmed⟩) (fun _ _ _ _ _ _ _ _ _ => trivial)
    (fun _ _ _ _ ⟨v, L, h1, h2, h3⟩ => ⟨L, _, _, h3, rfl, rfl, v, h1, h2⟩)
    (fun m meth c A a g mk v t L k n Y hp _ _ ⟨e1, e2, v', e3, e4⟩ => by cases e3; subst e1 e2; exact ⟨L, e4, rfl, rfl, rfl⟩)
theorem own_fldne {x u b : Addr} {C n d : String} (F : Fld Z h u C n d (.ref b)) (G : Fld Z h x C n d .null) : u ≠ x := fun q => by
  subst q
  obtain ⟨c1, cf1, k1, i1, f1, a1, a2, -, -, -, -, a7⟩ := F
  obtain ⟨c2, cf2, k2, i2, f2, b1, b2, -, -, -, -, b7⟩ := G
  cases a1.symm.trans b1
  cases a2.symm.trans b2
  cases a7.symm.trans b7
end OwnV
/-! String constants under a held word that is carried by its addresses: a text that this walk has interned may be loaded again, by any class -/
section OwnH
open Jvm.Free.SB Jvm.Free.SBG
variable {p : Program} {l : Launch} {e : Env} {R : Room} {s : State} {m : MethodId} {args : Array Value} {below : List Frame} {meth : Method} {c : Code} {T : State} {locs : List Loc} {cells slots : Nat} {Z U W : State} {a0 : Array Value} {h h' : Heap} {vm0 vm1 : Vm} {own text : String} {index : Nat} {a b x : Addr} {ca cb : Cell} {Ps : List (Array UInt16 × Addr)}
def Cel (h : Heap) (a : Addr) (c : Cell) : Prop := h[a]? = some c
theorem Cel.ext (F : Cel h a ca) (E : Ext h h') : Cel h' a ca := E.2 a ca F
theorem Cel.keep {ws : List Addr} (F : Cel h a ca) (K : Keep h h' ws) (q : a ∉ ws) : Cel h' a ca := K.2.1 a ca F q
theorem Cel.other {sl : Nat} {v : Value} (F : Cel h a ca) (W : Wr h h' x sl v) (q : a ≠ x) : Cel h' a ca := by
  obtain ⟨cell, -, -, -, rfl⟩ := W
  show (h.setIfInBounds x _)[a]? = some ca
  rw [Array.getElem?_setIfInBounds_ne (Ne.symm q)]
  exact F
theorem Cel.lt (F : Cel h a ca) : a < h.size := (Array.getElem?_eq_some_iff.mp F).1
/-- wherever these two cells lie, a is a Latin-1 String of the units u -/
def OwnSk (Z : State) (a b : Addr) (ca cb : Cell) (u : Array UInt16) : Prop := ∀ U : State, Z.vm.Alike U.vm → Cel U.heap a ca → Cel U.heap b cb → SlOf U a u
/-- what the intern table finds: what it found at the start, or one of Ps -/
def OwnI (Z : State) (vm : Vm) (Ps : List (Array UInt16 × Addr)) : Prop := ∀ (u : Array UInt16) (a : Addr), vm.interned.find? (fun p => p.1 == u) = some (u, a) → Z.vm.interned.find? (fun p => p.1 == u) = some (u, a) ∨ (u, a) ∈ Ps
theorem OwnI.start : OwnI Z Z.vm [] := fun _ _ q => Or.inl q
theorem own_iH (I : OwnI Z s.vm Ps) (w : s.WarmedH vm1) : OwnI Z vm1 Ps := fun u a q => I u a (by rw [← w.interned_eq]; exact q)
theorem own_ibH' {Ts : List String} (I : IB Z s.vm Ts) (w : s.WarmedH vm1) : IB Z vm1 Ts := by
  obtain ⟨more, a, b⟩ := I
  exact ⟨more, w.interned_eq.trans a, b⟩
theorem own_slFacts {u : Array UInt16} (hal : Z.vm.Alike W.vm) (hs : SlOf W a u) (htext : utf16ToString? u = some text) {vs : List Value} {z : Int32} (ht : (∀ c ∈ text.toList, c.toNat < 256) ∧ text.toList.map (fun c => Value.int (Jvm.Lit.byteI c.toNat.toUInt16)) = vs) (hz : ¬ z < 0) (hl : z.toNatClampNeg = vs.length) :
    ∃ (b : Addr) (k : ClassId) (ca cb : Cell), Exa Z W.heap a "java/lang/String" ∧ Fld Z W.heap a "java/lang/String" "coder" "B" (.int 0) ∧ Fld Z W.heap a "java/lang/String" "value" "[B" (.ref b) ∧ Arv Z W.heap b k .byte z vs (.int 0) ∧ Cel W.heap a ca ∧ Cel W.heap b cb ∧ OwnSk Z a b ca cb u := by
  obtain ⟨q, cS, rfl, hSl, ⟨kS, k1, k2, k3⟩, hB, hbyt⟩ := hs
  have hall := hSl
  obtain ⟨⟨s1, s2, s3, fv, fc, s6, s7, s8, s9, s10, ⟨hst, kA, hkA, comp, hkind⟩, s12, s13, s14, s15, s16⟩, hfS, hcS⟩ := hall
  have hla := hal.symm
  obtain ⟨kZ, hkZ, ekZ⟩ := hla.2.2 _ _ k1
  obtain ⟨kB, hkB, ekB⟩ := hla.2.2 _ _ hkA
  obtain ⟨cv, kv, iv, v1, v2⟩ := found_asg hla fv
  obtain ⟨cc, kc, ic, c1, c2⟩ := found_asg hla fc
  have hlat := Jvm.ClassFile.lat_of_text htext ht.1
  have eu : vs = u.toList.map fun x => Value.int (Jvm.Lit.byteI x) := by rw [← ht.2, Jvm.ClassFile.units_of_text htext ht.1, List.map_map]; rfl
  have el : vs.length = u.size := by rw [eu]; simp
  have hsl : q.SA.slots = u.map fun x => Value.int (Jvm.Lit.byteI x) := by rw [hbyt, SBG.stringBytes_lat hlat]; rfl
  have hsz : q.SA.slots.size = u.size := by rw [hsl, Array.size_map]
  have H : Has q.SA vs (.int 0) := fun j hj => by
    have hj' : j < u.size := by omega
    rw [hsl, eu]; simp [hj']
  refine ⟨q.sd, q.SA.cls, q.sC, q.SA, ⟨q.sC, kZ, s1, by rw [hcS, ← hal.findClass]; exact hfS, by rw [hcS]; exact hkZ, s3, fun _ => by rw [k3, ekZ]⟩, ⟨q.sC, cc, kc, ic, q.fSC, s1, c1, s7, s2, s3, c2, s9⟩, ⟨q.sC, cv, kv, iv, q.fSV, s1, v1, s6, s2, s3, v2, s8⟩, ⟨q.SA, ⟨s10, ⟨hst, kB, hkB, comp, by rw [ekB]; exact hkind⟩, s12⟩, rfl, by rw [hsz, hl, el], hz, H, fun j hj => ?_⟩, s1, s10, ?_⟩
  · have e1 := s16 j hj
    rw [SBG.getD_of (H j hj)] at e1
    exact e1
  · intro U hU hca hcb
    have hWU : W.vm.Alike U.vm := hla.trans hU
    obtain ⟨kU, hkU, ekU⟩ := hWU.2.2 _ _ k1
    exact ⟨q, cS, rfl, hSl.carry hWU hca hcb, ⟨kU, hkU, by rw [ekU]; exact k2, by rw [ekU]; exact k3⟩, by rw [hWU.findClass]; exact hB, hbyt⟩
/-- the held word at a later state: an address that the table or the pool has come to name since lies in Ps -/
theorem own_held (hW : Z.Warmed39 U.vm) (w : (Cond.stringLink own index text).before a0 Z = true) (I : OwnI Z U.vm Ps) (hkeep : ∀ (b : Addr) (cl : Cell), Z.heap[b]? = some cl → U.heap[b]? = some cl) (hH : ConstHeldL Z own index) (hSl : ∀ q ∈ Ps, utf16ToString? q.1 = some text → SlOf U q.2 q.1) : ConstHeldL U own index := by
  intro d k' cf i u y hd hk' hcf' hp hu hor
  have hal : Z.vm.Alike U.vm := hW.alike
  have hdZ : Z.vm.findClass own = some d := by rw [← hal.findClass]; exact hd
  obtain ⟨k, cf0, i0, u0, hk, hcf, hp0, hu0, hnm, htext, -⟩ := Cond.stringLink_spec hdZ w
  obtain ⟨k2, hk2, hke, -, ee, -⟩ := hW.2.2.2 d k hk
  cases hk'.symm.trans hk2
  have hcfk : k'.cf = k.cf := by rw [hke]
  cases (hcfk ▸ hcf').symm.trans hcf
  cases hp.symm.trans hp0
  cases hu.symm.trans hu0
  have key : ∀ y, k.resolved[index]? = some none → U.vm.interned.find? (fun p => p.1 == u) = some (u, y) → SlOf U y u := fun y hop hf => by
    rcases I u y hf with q | q
    · exact (hH d k cf i u y hdZ hk hcf hp hu (Or.inr ⟨hop, q⟩)).moved hal hkeep
    · exact hSl _ q htext
  rcases ee index with e0 | ⟨hop, r, e1, hr | ⟨y3, t3, i3, u3, rfl, -, q3, q4, q5⟩⟩
  · rcases hor with h0 | ⟨h0, hf⟩
    · exact (hH d k cf i u y hdZ hk hcf hp hu (Or.inl (e0 ▸ h0))).moved hal hkeep
    · exact key y (e0 ▸ h0) hf
  · exfalso
    cases r <;> simp [State.rightAt, hk, hcf, hnm] at hr
  · rw [hcf] at q3 q4
    obtain rfl : i3 = i := by simpa using q3.symm.trans hp
    obtain rfl : u3 = u := by simpa [ConstantPool.utf8?, hu] using q4.symm
    rcases hor with h0 | ⟨h0, -⟩
    · obtain rfl : y3 = y := by simpa using e1.symm.trans h0
      exact key y3 hop q5
    · simp [e1] at h0
theorem own_ldcH (X : Stand p l e R (s.setVm vm0) m args below meth c T locs cells slots) (hx : p.tables.exec = Jvm.exec) (hZ : Z.Warmed39 vm0) (hown : vm0.findClass own = some m.cls) (w : (Cond.stringLink own index text).before a0 Z = true) (wS : ∀ a ∈ Bundle.stringAtoms, a.before a0 Z = true)
    (eT : T.heap = h) {k0 : Nat} (hS : s.Since vm0 k0) (hk : k0 ≤ h.size) (N : Fr s.heap.size locs) (hH : ConstHeldL (s.setVm vm0) own index) (I : OwnI Z vm0 Ps)
    {vs : List Value} {z : Int32} (ht : (∀ c ∈ text.toList, c.toNat < 256) ∧ text.toList.map (fun c => Value.int (Jvm.Lit.byteI c.toNat.toUInt16)) = vs) (hz : ¬ z < 0) (hl : z.toNatClampNeg = vs.length)
    {g : JFrame} (hg : g.method = m) (hd : decode c.code g.pc = .ok (.ldc index, 2)) {n : Nat} (hn : 4 * text.toList.length ≤ n) (hbig : n ≤ 536870912) (hc : cells + 2 ≤ R.cells) (hl' : slots + (n + 4) ≤ R.slots) :
    ∃ (a : Addr) (T' : State) (h' : Heap) (k1 : Nat) (b : Addr) (k : ClassId) (ca cb : Cell) (u : Array UInt16), Stand p l e R (s.setVm T'.vm) m args below meth c T' locs (cells + 2) (slots + (n + 4)) ∧ T'.heap = h' ∧ Ext h h' ∧ s.Since T'.vm k1 ∧ k1 ≤ h'.size ∧ Z.Warmed39 (s.setVm T'.vm).vm ∧ (s.setVm T'.vm).vm.findClass own = some m.cls ∧
      Exa Z h' a "java/lang/String" ∧ Fld Z h' a "java/lang/String" "coder" "B" (.int 0) ∧ Fld Z h' a "java/lang/String" "value" "[B" (.ref b) ∧ Arv Z h' b k .byte z vs (.int 0) ∧ Cel h' a ca ∧ Cel h' b cb ∧ OwnSk Z a b ca cb u ∧ utf16ToString? u = some text ∧ OwnI Z T'.vm ((u, a) :: Ps) ∧ (∀ Ts, IB s vm0 Ts → IB s T'.vm (text :: Ts)) ∧ Lit (s.setVm T'.vm) own index a ∧
      ∀ target, Steps p.tables e below (T'.setTop { g with pc := g.pc + 2, stack := .ref a :: g.stack }) target → Steps p.tables e below (T.setTop g) target := by
  obtain ⟨k, cf, i, u, hkz, hcf, hp, hu, hnm, htext, -⟩ := Cond.stringLink_spec (s := s.setVm vm0) hown (mvS (s := s.setVm vm0) (args := #[]) hZ w)
  have hTi : T.vm.interned = vm0.interned := X.warmed.interned_eq
  have hkz' : vm0.classes[m.cls]? = some k := hkz
  by_cases hy : ∃ a, Lit (s.setVm vm0) own index a
  · obtain ⟨a, L⟩ := hy
    have hres : k.resolved[index]? = some (some (.string a)) := by
      have L' : (s.setVm vm0).resolvedAt? own index = some (.string a) := L
      have L2 : (k.resolved[index]?).bind id = some (.string a) := by simpa [State.resolvedAt?, hown, hkz', Option.join] using L'
      cases hq : k.resolved[index]? with
      | none => simp [hq] at L2
      | some o => simpa [hq] using L2
    have hs : SlOf T a u := (hH m.cls k cf i u a hown hkz hcf hp hu (Or.inl hres)).moved X.warmed.alike (oldF X N)
    have hal : Z.vm.Alike T.vm := hZ.alike.trans X.warmed.alike
    obtain ⟨b, kb, ca, cb, f1, f2, f3, f4, f5, f6, f7⟩ := own_slFacts hal hs htext ht hz hl
    subst eT
    exact ⟨a, T, _, _, b, kb, ca, cb, u, (X.mono (by omega) (by omega)).retabled X.warmed.wide, rfl, ⟨Nat.le_refl _, fun _ _ q => q⟩, hS.trans (X.warmed.since T.heap.size) hk, Nat.le_refl _, State.Warmed39.trans (t := s.setVm vm0) hZ X.warmed.wide,
      by rw [show (s.setVm T.vm).vm = T.vm from rfl, X.warmed.alike.findClass]; exact hown, f1, f2, f3, f4, f5, f6, f7, htext, fun u' y hf => (I u' y (by rw [← hTi]; exact hf)).imp id (List.mem_cons_of_mem _), fun Ts J => IB.step J (Or.inl hTi), Lit.stays L X.warmed.wide, ldcAgain X hx hZ hown w L hg hd⟩
  · obtain ⟨a, T', X', hS', ⟨kk, hkk, hrr⟩, hb, -, hint, ⟨u2, htext2, hin⟩, st⟩ := X.ldcColdF (oldF X N) hx (own := own) hown (mvS hZ w) (fun d hd => by
      have q := wS d hd
      simp only [Bundle.stringAtoms, List.mem_cons, List.not_mem_nil, or_false] at hd
      rcases hd with rfl | rfl | rfl | rfl | rfl | rfl | rfl
      iterate 2 exact mv (s := s.setVm vm0) hZ q
      exact mvA (s := s.setVm vm0) hZ q
      iterate 4 exact mv (s := s.setVm vm0) hZ q) hH (fun v hv => Jvm.ClassFile.lat_of_text hv ht.1) hg hd hn hbig hc hl'
    have same : ∀ v : Array UInt16, utf16ToString? v = some text → v = u := fun v hv => Array.ext' ((Jvm.ClassFile.units_of_text hv ht.1).trans (Jvm.ClassFile.units_of_text htext ht.1).symm)
    obtain rfl : u2 = u := same u2 htext2
    have hs : SlOf T' a u2 := by
      obtain ⟨q, cS, g1, g2, g3, g4, g5, -⟩ := hin
      exact ⟨q, cS, g1, g2, g3, g4, g5⟩
    have hW : Z.Warmed39 T'.vm := State.Warmed39.trans (t := s.setVm vm0) hZ hS'.1
    obtain ⟨b, kb, ca, cb, f1, f2, f3, f4, f5, f6, f7⟩ := own_slFacts hW.alike hs htext ht hz hl
    have hfa : T'.vm.interned.find? (fun p => p.1 == u2) = some (u2, a) := by
      obtain ⟨k2, hk2, hke, -, ee, -⟩ := hS'.1.2.2.2 m.cls k hkz
      cases hkk.symm.trans hk2
      rcases ee index with e0 | ⟨hop, r, e1, hr | ⟨y3, t3, i3, u3, rfl, -, q3, q4, q5⟩⟩
      · exfalso
        refine hy ⟨a, ?_⟩
        show (s.setVm vm0).resolvedAt? own index = some (.string a)
        have e2 : k.resolved[index]? = some (some (.string a)) := e0 ▸ hrr
        simp [State.resolvedAt?, hown, hkz', e2]
      · exfalso
        cases r <;> simp [State.rightAt, hkz', hcf, hnm] at hr
      · rw [hcf] at q3 q4
        obtain rfl : i3 = i := by simpa using q3.symm.trans hp
        obtain rfl : u3 = u2 := by simpa [ConstantPool.utf8?, hu] using q4.symm
        obtain rfl : y3 = a := by simpa using e1.symm.trans hrr
        exact q5
    subst eT
    have E := ext_of hb
    refine ⟨a, T', _, _, b, kb, ca, cb, u2, X', rfl, E, hS.trans hS' (Nat.le_trans hk E.1), Nat.le_refl _, hW, by rw [show (s.setVm T'.vm).vm = T'.vm from rfl, hS'.1.alike.findClass]; exact hown, f1, f2, f3, f4, f5, f6, f7, htext, fun u' y hf => ?_, fun Ts J => IB.step J (by rw [← hTi]; exact hint), ?_, st⟩
    · by_cases hq : u' = u2
      · subst hq
        have : y = a := by simpa using hf.symm.trans hfa
        subst this
        exact Or.inr (List.mem_cons_self ..)
      · refine (I u' y ?_).imp id (List.mem_cons_of_mem _)
        rw [← hTi]
        rcases hint with e1 | ⟨u3, y3, ht3, e1⟩
        · rw [← e1]; exact hf
        · obtain rfl := same u3 ht3
          rw [e1, Array.find?_push] at hf
          have hne : (u3 == u') = false := by simpa using fun z => hq z.symm
          simpa [hne] using hf
    · have hf : T'.vm.findClass own = some m.cls := by rw [hS'.1.alike.findClass]; exact hown
      simp [Lit, State.resolvedAt?, hf, hkk, hrr]
theorem own_backHC {y : MethodName} {bytes : ByteArray} {maxL : Nat} {ret : Option FieldType} {rm : Room} {len W : Nat} {as' : Array Value} {Q : Option Value → Vm → Heap → List Loc → Prop} {C : List (String × Nat)}
    (hM : MetFree l y (head1 [Cond.code y bytes maxL ret] rm) (fun a U => a = as' ∧ Z.Warmed39 U.vm ∧ U.heap = h ∧ OwnI Z U.vm Ps ∧ ∀ c ∈ C, ConstHeldL U c.1 c.2) (fun _ _ _ _ _ => True) (fun _ U o U' => ∃ v L, o = .returned v ∧ Q v U'.vm U'.heap L ∧ ReturnedEndW U o U' L rm.cells rm.slots))
    (hZ : Z.Warmed39 s.vm) (I : OwnI Z s.vm Ps) (hC : ∀ U : State, Z.Warmed39 U.vm → s.WarmedH U.vm → U.heap = h → ∀ c ∈ C, ConstHeldL U c.1 c.2) (wc : (Cond.code y bytes maxL ret).before a0 Z = true) (wz : (Cond.initialized y.cls).before a0 Z = true) (hf : rm.frames + 1 ≤ R.frames) (hl : W + (maxL + 11) + rm.locals ≤ R.locals) :
    BackS l R p e below s args y len W (fun A a => a = as' ∧ A.U.heap = h ∧ A.cells + rm.cells ≤ R.cells ∧ A.slots + rm.slots ≤ R.slots)
      (fun A _ v B => ∃ L, Q v B.U.vm B.U.heap L ∧ B.locs = A.locs ++ L ∧ B.cells = A.cells + rm.cells ∧ B.slots = A.slots + rm.slots) :=
  BackS.of_freeW (bytes := bytes) (maxL := maxL) (ret := ret) (E := fun _ _ o t L k n => k = rm.cells ∧ n = rm.slots ∧ ∃ v, o = .returned v ∧ Q v t.vm t.heap L) hM hf hl
    (fun m meth c A a Y hp => have hU : Z.Warmed39 A.U.vm := wtrans hZ Y.warmed
      ⟨by show (Cond.and _ .tt).before a A.U = true; rw [Cond.before_and, mv hU wc]; rfl, mv hU wc, mv hU wz, hp.2.2.1, hp.2.2.2⟩)
    (fun m meth c A a g mk Y hp => ⟨hp.1, wtrans hZ Y.warmed, hp.2.1, own_iH I Y.warmed, hC (A.U.calling g mk a) (wtrans hZ Y.warmed) Y.warmed hp.2.1⟩) (fun _ _ _ _ _ _ _ _ _ => trivial)
    (fun _ _ _ _ ⟨v, L, h1, h2, h3⟩ => ⟨L, _, _, h3, rfl, rfl, v, h1, h2⟩)
    (fun m meth c A a g mk v t L k n Y hp _ _ ⟨e1, e2, v', e3, e4⟩ => by cases e3; subst e1 e2; exact ⟨L, e4, rfl, rfl, rfl⟩)
theorem own_heldMv (hW : s.WarmedH U.vm) (w : (Cond.stringLink own index text).before a0 s = true) (hh : U.heap = s.heap) (hH : ConstHeldL s own index) : ConstHeldL U own index :=
  own_held (Ps := []) hW.wide w (own_iH OwnI.start hW) (fun b cl q => by rw [hh]; exact q) hH (fun q hq => by cases hq)
end OwnH
theorem Go.s {p : Program} {e : Env} {below : List Frame} {s S S' : State} {rc rs : Nat} {Q : Option Value → Heap → List Loc → Prop} (k : ∀ {t}, Steps p.tables e below S' t → Steps p.tables e below S t) (g : Go p e below s rc rs Q S') : Go p e below s rc rs Q S := Go.st (fun _ q => k q) g
theorem GoW.s {p : Program} {e : Env} {below : List Frame} {s S S' : State} {rc rs : Nat} {Q : Option Value → Heap → List Loc → Prop} (k : ∀ {t}, Steps p.tables e below S' t → Steps p.tables e below S t) (g : GoW p e below s rc rs Q S') : GoW p e below s rc rs Q S := GoW.st (fun _ q => k q) g
theorem GoV.s {p : Program} {e : Env} {below : List Frame} {s S S' : State} {rc rs : Nat} {Q : Option Value → Vm → Heap → List Loc → Prop} (k : ∀ {t}, Steps p.tables e below S' t → Steps p.tables e below S t) (g : GoV p e below s rc rs Q S') : GoV p e below s rc rs Q S := GoV.st (fun _ q => k q) g
abbrev mN0 : MethodName := ⟨"java/util/AbstractCollection", "<init>", "()V"⟩
abbrev mN1 : MethodName := ⟨"java/util/AbstractList", "<init>", "()V"⟩
abbrev mN2 : MethodName := ⟨"java/util/ArrayList", "<init>", "()V"⟩
abbrev mN3 : MethodName := ⟨"com/example/pemmican/pemmican/XmlElement", "<init>", "(Ljava/lang/String;ILjava/util/Map;)V"⟩
abbrev mN4 : MethodName := ⟨"java/lang/AbstractStringBuilder", "<init>", "(I)V"⟩
abbrev mN5 : MethodName := ⟨"java/lang/StringBuilder", "<init>", "(I)V"⟩
abbrev mN6 : MethodName := ⟨"jdk/internal/util/Preconditions", "checkFromToIndex", "(IIILjava/util/function/BiFunction;)I"⟩
abbrev mN7 : MethodName := ⟨"java/lang/Math", "max", "(II)I"⟩
abbrev mN8 : MethodName := ⟨"java/lang/Math", "min", "(II)I"⟩
abbrev mN9 : MethodName := ⟨"jdk/internal/util/ArraysSupport", "newLength", "(III)I"⟩
abbrev mN10 : MethodName := ⟨"java/lang/AbstractStringBuilder", "newCapacity", "(I)I"⟩
abbrev mN11 : MethodName := ⟨"java/util/Arrays", "copyOf", "([BI)[B"⟩
abbrev mN12 : MethodName := ⟨"java/lang/AbstractStringBuilder", "ensureCapacityInternal", "(I)V"⟩
abbrev mN13 : MethodName := ⟨"java/lang/AbstractStringBuilder", "isLatin1", "()Z"⟩
abbrev mN14 : MethodName := ⟨"java/lang/StringLatin1", "canEncode", "(C)Z"⟩
abbrev mN15 : MethodName := ⟨"java/lang/AbstractStringBuilder", "appendChars", "([CII)V"⟩
abbrev mN16 : MethodName := ⟨"java/lang/AbstractStringBuilder", "append", "([CII)Ljava/lang/AbstractStringBuilder;"⟩
abbrev mN17 : MethodName := ⟨"java/lang/StringBuilder", "append", "([CII)Ljava/lang/StringBuilder;"⟩
abbrev mN18 : MethodName := ⟨"com/example/pemmican/pemmican/XmlElement", "appendText", "([CII)V"⟩
abbrev mN19 : MethodName := ⟨"java/lang/AbstractStringBuilder", "getValue", "()[B"⟩
abbrev mN20 : MethodName := ⟨"java/lang/AbstractStringBuilder", "length", "()I"⟩
abbrev mN21 : MethodName := ⟨"java/lang/StringBuilder", "length", "()I"⟩
abbrev mN22 : MethodName := ⟨"java/util/Arrays", "checkLength", "(II)V"⟩
abbrev mN23 : MethodName := ⟨"java/util/Arrays", "copyOfRangeByte", "([BII)[B"⟩
abbrev mN24 : MethodName := ⟨"java/util/Arrays", "copyOfRange", "([BII)[B"⟩
abbrev mN25 : MethodName := ⟨"java/lang/String", "<init>", "(Ljava/lang/AbstractStringBuilder;Ljava/lang/Void;)V"⟩
abbrev mN26 : MethodName := ⟨"java/lang/String", "<init>", "(Ljava/lang/StringBuilder;)V"⟩
abbrev mN27 : MethodName := ⟨"java/lang/StringBuilder", "toString", "()Ljava/lang/String;"⟩
abbrev mN28 : MethodName := ⟨"com/example/pemmican/pemmican/XmlElement", "text", "()Ljava/lang/String;"⟩
abbrev mN29 : MethodName := ⟨"java/lang/String", "coder", "()B"⟩
abbrev mN30 : MethodName := ⟨"java/lang/String", "isLatin1", "()Z"⟩
abbrev mN31 : MethodName := ⟨"java/lang/String", "length", "()I"⟩
abbrev mN32 : MethodName := ⟨"jdk/internal/util/Preconditions", "checkIndex", "(IILjava/util/function/BiFunction;)I"⟩
abbrev mN33 : MethodName := ⟨"java/lang/String", "checkIndex", "(II)V"⟩
abbrev mN34 : MethodName := ⟨"java/lang/StringLatin1", "charAt", "([BI)C"⟩
abbrev mN35 : MethodName := ⟨"java/lang/String", "charAt", "(I)C"⟩
abbrev mN36 : MethodName := ⟨"java/lang/StringLatin1", "equals", "([B[B)Z"⟩
abbrev mN37 : MethodName := ⟨"java/lang/String", "equals", "(Ljava/lang/Object;)Z"⟩
abbrev mN38 : MethodName := ⟨"com/example/pemmican/pemmican/XmlElementTextPinLaw", "at", "(Ljava/lang/String;[CIIIII)Z"⟩
abbrev mN39 : MethodName := ⟨"com/example/pemmican/pemmican/XmlElementTextPinLaw", "matches", "(Ljava/lang/String;[CIIII)Z"⟩
set_option maxRecDepth 65536
set_option maxHeartbeats 40000000
theorem own_lt (x y : Int32) : (x < y) = (x.toInt < y.toInt) := propext Int32.lt_iff_toInt_lt
theorem own_eq (x y : Int32) : (x = y) = (x.toInt = y.toInt) := propext Int32.toInt_inj.symm
theorem own_rem (x k : Int32) (hk : 0 < k.toInt) : ¬ ((x &&& 2147483647) % k < 0) ∧ (x &&& 2147483647) % k < k := by
  have h1 := c_mask x 2147483647 31 (by decide) (by decide)
  have h2 := c_iremV (x &&& 2147483647) k
  have h3 : 0 ≤ (x &&& 2147483647).toInt := by rw [h1]; exact Int.emod_nonneg _ (by decide)
  have h4 := h2.1 h3 hk
  rw [own_lt, own_lt]
  have h5 : (0 : Int32).toInt = 0 := rfl
  omega
section OwnT
variable {s : State} {ar : Array Value}
theorem own_fldR {t : Term} {x y : Addr} {C n d : String} (ht : t.eval ar s none [] s = some (.ref x)) (e : (Term.field t C n d).eval ar s none [] s = some (.ref y)) : Fld s s.heap x C n d (.ref y) := Fld.start ((fld_at ht).symm.trans e)
theorem own_int {t : Term} {k : Int32} (q : (Jvm.Cond.eq t (.int k)).value ar s none s [] = some true) : t.eval ar s none [] s = some (.int k) := by
  obtain ⟨u, w, e1, e2, -, k2⟩ := cmp_v (Or.inl q)
  have e3 : (Term.int k).eval ar s none [] s = some (.int k) := Term.int_eval k
  rw [e3] at e2
  obtain rfl := Option.some.inj e2
  obtain ⟨z, rfl⟩ := k2
  have e4 : z = k := gotT (Cond.eq_ints e1 e3) q
  subst e4
  exact e1
theorem own_lenv {t : Term} {x : Addr} {cl : Cell} {ty : FieldType} {n : Int32} (ev : t.eval ar s none [] s = some (.ref x)) (A : Arr s s.heap x cl ty) (q : (Jvm.Cond.eq (.length t) (.int n)).value ar s none s [] = some true) : cl.slots.size < 2 ^ 31 ∧ cl.slots.size.toInt32 = n := by
  have e1 := own_int q
  obtain ⟨a, cell, h1, h2, h3⟩ := Term.length_spec e1
  cases ev.symm.trans h1
  have h4 : s.arrayAt? x = some cl := A.fin (Vm.Alike.refl _)
  cases h2.symm.trans h4
  refine ⟨?_, (Value.int.inj h3).symm⟩
  by_cases hlt : cl.slots.size < 2147483648
  · exact hlt
  · exfalso
    simp [Term.eval, h1, h4, hlt] at e1
theorem own_elemv {t : Term} {x : Addr} {cl : Cell} {ty : FieldType} {i k : Int32} (ev : t.eval ar s none [] s = some (.ref x)) (A : Arr s s.heap x cl ty) (q : (Jvm.Cond.eq (.elem t (.int i)) (.int k)).value ar s none s [] = some true) : cl.slots[i.toNatClampNeg]? = some (.int k) :=
  (elem_in (own_int q) ev (Term.int_eval i) A.1).2
end OwnT
theorem own_getI (xs : List Int32) (d : Int32) (i : Nat) : (xs.map Value.int).getD i (.int d) = .int (xs.getD i d) := by
  induction xs generalizing i with
  | nil => rfl
  | cons a t ih =>
    cases i with
    | zero => rfl
    | succ n => exact ih n
section OwnS
variable {p : Program} {l : Launch} {e : Env} {R : Room} {s : State} {m : MethodId} {args : Array Value} {below : List Frame} {meth : Method} {c : Code} {T : State} {locs : List Loc} {cells slots : Nat} {Z : State} {h : Heap} {a b : Addr} {a0 : Array Value}
theorem own_selP {C : String} {y : MethodName} (hs : (Cond.selects C y y).before args s = true) (hp : s.PrivateAt y) (hi : (Cond.instanceMethod y).before args s = true) (hy : y.cls ≠ "java/lang/invoke/MethodHandle" ∧ y.cls ≠ "java/lang/invoke/VarHandle") : (Cond.selects y.cls y y).before args s = true := by
  obtain ⟨c2, r2, m2, -, -, q3, -, kP, hkP, hkPi⟩ := Cond.selects_spec hs
  exact selects_self_of_private (findClass_of_methodNamed q3) hkP hkPi hp hi hy
theorem own_same {C : String} {y z : MethodName} (hz : y.cls = z.cls) (wd : (Cond.declares y).before a0 Z = true) (ws : (Cond.selects C z z).before a0 Z = true) (hy : y.cls ≠ "java/lang/invoke/MethodHandle" ∧ y.cls ≠ "java/lang/invoke/VarHandle") : (Cond.sameMethod y.cls y.cls y.name y.desc).before a0 Z = true := by
  obtain ⟨m1, meth1, hn, -, -, -⟩ := Cond.declares_spec wd
  obtain ⟨c2, r2, m2, -, -, q3, -, kP, hkP, hkPi⟩ := Cond.selects_spec ws
  have e1 := findClass_of_methodNamed hn
  have e2 := findClass_of_methodNamed q3
  rw [← hz, e1] at e2
  have e3 : m1.cls = m2.cls := Option.some.inj e2
  have hf := State.methodFound?_of_named hn hy
  rw [← e3] at hkP
  simp [Cond.before, Cond.holds, Cond.value, e1, hf, hn, hkP, hkPi]
theorem own_nf {C : String} {y z : MethodName} (hz : y.cls = z.cls) (ws : (Cond.selects C z z).before args s = true) : NotFace s y := fun r0 h0 => by
  obtain ⟨c2, r2, m2, -, -, q3, -, kP, hkP, hkPi⟩ := Cond.selects_spec ws
  have e1 := findClass_of_methodNamed h0
  have e2 := findClass_of_methodNamed q3
  rw [← hz, e1] at e2
  have e3 : r0.cls = m2.cls := Option.some.inj e2
  exact ⟨kP, by rw [e3]; exact hkP, hkPi⟩
theorem own_neCB {ka kb : ClassId} {n n' : Int32} {vs vs' : List Value} {d d' : Value} (A : Arv Z h a ka .char n vs d) (B : Arv Z h b kb .byte n' vs' d') : a ≠ b := fun q => by
  subst q
  obtain ⟨c1, ⟨a1, ⟨-, k1, a2, p1, a3⟩, -⟩, -⟩ := A
  obtain ⟨c2, ⟨b1, ⟨-, k2, b2, p2, b3⟩, -⟩, -⟩ := B
  cases a1.symm.trans b1
  cases a2.symm.trans b2
  rw [a3] at b3
  cases b3
theorem own_stBa (X : Stand p l e R s m args below meth c T locs cells slots) (hx : p.tables.exec = Jvm.exec) (hZ : Z.Warmed39 s.vm) (eT : T.heap = h) {k : ClassId} {n : Int32} {vs : List Value} {d : Value} (V : Arv Z h a k .byte n vs d) {j x : Int32} (q1 : ¬ j < 0) (q2 : j < n) (hi : j.toNatClampNeg = vs.length) {g : JFrame} (hg : g.method = m) {rest : List Value} (hs : g.stack = .int x :: .int j :: .ref a :: rest) (hd : decode c.code g.pc = .ok (.bastore, 1)) :
    ∃ T' h', Stand p l e R s m args below meth c T' (locs ++ [⟨a, j.toNatClampNeg⟩]) cells slots ∧ T'.heap = h' ∧ Wr h h' a j.toNatClampNeg (.int (nar .byte x)) ∧ Arv Z h' a k .byte n (vs ++ [.int (nar .byte x)]) d ∧ ∀ t, Steps p.tables e below (T'.setTop { g with pc := g.pc + 1, stack := rest }) t → Steps p.tables e below (T.setTop g) t := by
  obtain ⟨T', h', X', e', W', V', st⟩ := own_stB X hx hZ eT (V.pad (vs' := vs ++ [d]) (pad_rep vs d 1)) q1 q2 vs.length hi (by simp) hg hs hd
  exact ⟨T', h', X', e', W', by rw [show (vs ++ [d]).set vs.length (.int (nar .byte x)) = vs ++ [.int (nar .byte x)] by simp] at V'; exact V', st⟩
theorem own_cpL {α : Type} (vs : List α) (d : α) (n : Nat) (h : vs.length ≤ n) (i : Nat) : vs.getD i d = ((List.range n).map fun j => vs.getD j d).getD i d := by
  rw [List.getD_eq_getElem?_getD (l := List.map _ _), List.getElem?_map]
  by_cases hi : i < n
  · rw [List.getElem?_range hi]; rfl
  · rw [List.getElem?_eq_none (by rw [List.length_range]; omega), List.getD_eq_getElem?_getD, List.getElem?_eq_none (by omega)]; rfl
theorem own_cpS (X : Stand p l e R s m args below meth c T locs cells slots) (hx : p.tables.exec = Jvm.exec) (hZ : Z.Warmed39 s.vm) {own : String} {index : Nat} (hown : s.vm.findClass own = some m.cls)
    (w1 : (Cond.methodLink own index Jvm.Stand.acN).before a0 Z = true) (w2 : (Cond.native Jvm.Stand.acN).before a0 Z = true) (w3 : (Cond.static Jvm.Stand.acN).before a0 Z = true) (w4 : (Cond.initialized "java/lang/System").before a0 Z = true) (eT : T.heap = h)
    {k k' : ClassId} {z z' nn : Int32} {vs : List Value} {d : Value} (A : Arv Z h a k .byte z vs d) (B : Arv Z h b k' .byte z' [] d) (h3 : ¬ nn < 0) (h4 : nn.toNatClampNeg ≤ z.toNatClampNeg) (h5 : nn.toNatClampNeg ≤ z'.toNatClampNeg) (hv : vs.length ≤ nn.toNatClampNeg) {n0 : Nat} (N : Fr n0 locs) (ge : n0 ≤ b)
    {g : JFrame} (hg : g.method = m) (hsize : g.locals.size = c.maxLocals) {rest : List Value} (hs : g.stack = .int nn :: .int (0 : Int32) :: .ref b :: .int (0 : Int32) :: .ref a :: rest) (hd : decode c.code g.pc = .ok (.invokestatic index, 3))
    (hf : 1 ≤ R.frames) {W : Nat} (hW : 2 * g.monitorRoom + (rest.map fun v => v.category).sum ≤ W) (hlo : W + (nativeFrameWords "java/lang/System" "arraycopy" 5 + 11) ≤ R.locals) :
    ∃ T' h' L, Stand p l e R s m args below meth c T' L cells slots ∧ T'.heap = h' ∧ Fr n0 L ∧ Keep h h' [b] ∧ Arv Z h' b k' .byte z' vs d ∧
      ∀ target, Steps p.tables e below (T'.setTop { g with pc := g.pc + 3, stack := rest }) target → Steps p.tables e below (T.setTop g) target := by
  have z0 : (0 : Int32).toNatClampNeg = 0 := rfl
  obtain ⟨T', h', L, X', e', N', K', V', st⟩ := cpA X hx hZ hown w1 w2 w3 w4 eT A (B.pad (vs' := List.replicate nn.toNatClampNeg d) (fun i => by simpa using pad_rep [] d nn.toNatClampNeg i)) (Or.inl ⟨rfl, rfl⟩) (by decide) (by decide) h3 (by rw [z0]; omega) (by rw [z0]; omega) rfl (by rw [z0, List.length_replicate]; omega) N ge hg hsize hs hd hf hW hlo
  refine ⟨T', h', L, X', e', N', K', V'.pad (fun i => ?_), st⟩
  have e1 : (List.replicate nn.toNatClampNeg d).drop ((0 : Int32).toNatClampNeg + nn.toNatClampNeg) = [] := by rw [z0]; simp
  have e2 : (List.replicate nn.toNatClampNeg d).take (0 : Int32).toNatClampNeg = [] := by rw [z0]; rfl
  rw [e1, e2, List.nil_append, List.append_nil, z0]
  simp only [Nat.zero_add]
  exact own_cpL vs d _ hv i
end OwnS
theorem own_tn {n : Nat} (h : n < 2147483648) : (Int32.ofNat n).toNatClampNeg = n := by
  simp only [Int32.toNatClampNeg]
  rw [Int32.toInt_ofNat_of_lt h]
  rfl
theorem own_nn {n : Nat} (h : n < 2147483648) : ¬ Int32.ofNat n < 0 := by
  rw [own_lt, Int32.toInt_ofNat_of_lt h]
  have : (0 : Int32).toInt = 0 := rfl
  omega
theorem own_nlt {a b : Nat} (ha : a < 2147483648) (hb : b < 2147483648) : (Int32.ofNat a < Int32.ofNat b) = (a < b) := by
  rw [own_lt, Int32.toInt_ofNat_of_lt ha, Int32.toInt_ofNat_of_lt hb]
  exact propext (by omega)
theorem own_lt4 {a : Nat} (ha : a < 2147483648) : (Int32.ofNat a < (4 : Int32)) = (a < 4) := own_nlt (b := 4) ha (by decide)
theorem own_4lt {a : Nat} (ha : a < 2147483648) : ((4 : Int32) < Int32.ofNat a) = (4 < a) := own_nlt (a := 4) (by decide) ha
theorem own_8lt {a : Nat} (ha : a < 2147483648) : ((8 : Int32) < Int32.ofNat a) = (8 < a) := own_nlt (a := 8) (by decide) ha
theorem own_neq {a b : Nat} (ha : a < 2147483648) (hb : b < 2147483648) : (Int32.ofNat a = Int32.ofNat b) = (a = b) := by
  rw [own_eq, Int32.toInt_ofNat_of_lt ha, Int32.toInt_ofNat_of_lt hb]
  exact propext (by omega)
theorem own_add (a b : Nat) : Int32.ofNat a + Int32.ofNat b = Int32.ofNat (a + b) := (Int32.ofNat_add a b).symm
theorem own_one (n : Nat) : Int32.ofNat n + (1 : Int32) = Int32.ofNat (n + 1) := own_add n 1
theorem own_sub {a b : Nat} (h : b ≤ a) : Int32.ofNat a - Int32.ofNat b = Int32.ofNat (a - b) := by
  have e : Int32.ofNat a = Int32.ofNat (a - b) + Int32.ofNat b := by rw [own_add, Nat.sub_add_cancel h]
  rw [e, Int32.add_sub_cancel]
theorem own_sub0 (n : Nat) : Int32.ofNat n - (0 : Int32) = Int32.ofNat n := own_sub (b := 0) (Nat.zero_le _)
theorem own_cnt {k s l : Nat} : (Int32.ofNat k + Int32.ofNat (s + l)) - Int32.ofNat s = Int32.ofNat (k + l) := by
  rw [own_add, own_sub (by omega)]
  congr 1
  omega
theorem own_shl0 (x : Int32) : x <<< ((0 : Int32) &&& 31) = x := by
  rw [own_eq]
  have h1 := c_ishl x 0 0 (by decide)
  have r1 := rng32 (x <<< ((0 : Int32) &&& 31))
  have r2 := rng32 x
  omega
theorem own_shr0 (x : Int32) : x >>> ((0 : Int32) &&& 31) = x := by
  rw [show ((0 : Int32) &&& 31) = 0 from rfl]
  exact Int32.shiftRight_zero
def oLo (c : Int32) : Int32 := c.toInt8.toInt32
theorem own_loD : ∀ n < 256, (((oLo (Int32.ofNat n)) &&& (255 : Int32)).toUInt32.toUInt16.toUInt32.toInt32) = Int32.ofNat n := by decide +kernel
theorem own_nat {c : Int32} (h : ¬ c < 0) : c = Int32.ofNat c.toNatClampNeg := by
  rw [own_lt, show (0 : Int32).toInt = 0 from rfl] at h
  have r := c.toInt_lt
  rw [own_eq, Int32.toInt_ofNat_of_lt (by simp only [Int32.toNatClampNeg]; omega)]
  simp only [Int32.toNatClampNeg]
  omega
theorem own_chv {c : Int32} (h : ¬ c < 0 ∧ ¬ (255 : Int32) < c) : nar .char (((oLo c) &&& (255 : Int32)).toUInt32.toUInt16.toUInt32.toInt32) = c := by
  rw [show nar .char (((oLo c) &&& (255 : Int32)).toUInt32.toUInt16.toUInt32.toInt32) = (((oLo c) &&& (255 : Int32)).toUInt32.toUInt16.toUInt32.toInt32) from Value.int.inj (XT.narrow_c _)]
  have e := own_nat h.1
  have h2 : c.toNatClampNeg < 256 := by
    have q := h.2
    rw [e, show (255 : Int32) = Int32.ofNat 255 from rfl, own_nlt (by decide) (by have := c.toInt_lt; simp only [Int32.toNatClampNeg]; omega)] at q
    omega
  rw [e]
  exact own_loD _ h2
def oLat (cs : List Int32) : List Value := cs.map fun c => Value.int (oLo c)
theorem oLat_len (cs : List Int32) : (oLat cs).length = cs.length := List.length_map ..
theorem own_latS {cs : List Int32} {c : Int32} : oLat (cs ++ [c]) = oLat cs ++ [.int (nar .byte (c.toInt8.toInt32))] := by
  unfold oLat
  rw [List.map_append, show nar .byte (c.toInt8.toInt32) = oLo c from Value.int.inj (XT.narrow_b c)]
  rfl
def oSl (D : List Int32) (s l : Nat) : List Int32 := (D.drop s).take l
theorem oSl_len {D : List Int32} {s l : Nat} (h : s + l ≤ D.length) : (oSl D s l).length = l := by
  unfold oSl
  rw [List.length_take, List.length_drop]
  omega
theorem oSl_succ {D : List Int32} {s l : Nat} (h : s + l < D.length) : oSl D s (l + 1) = oSl D s l ++ [D.getD (s + l) 0] := by
  unfold oSl
  have h1 : l < (D.drop s).length := by rw [List.length_drop]; omega
  rw [List.take_add_one, List.getElem?_eq_getElem h1, List.getElem_drop, List.getD_eq_getElem?_getD, List.getElem?_eq_getElem h]
  rfl
theorem oSl_mem {D : List Int32} {s l : Nat} {P : Int32 → Prop} (h : ∀ c ∈ D, P c) : ∀ c ∈ oSl D s l, P c := fun c hc => h c (List.mem_of_mem_drop (List.mem_of_mem_take hc))
theorem oSl_get {D : List Int32} {s l i : Nat} (h : i < l) : (oSl D s l).getD i 0 = D.getD (s + i) 0 := by
  unfold oSl
  rw [List.getD_eq_getElem?_getD, List.getD_eq_getElem?_getD, List.getElem?_take_of_lt h, List.getElem?_drop]
theorem own_at1 {D E : List Int32} {s l i : Nat} (h : i < l) (hd : s + l ≤ D.length) : (oSl D s l ++ E).getD i 0 = D.getD (s + i) 0 := by
  rw [← oSl_get h, List.getD_eq_getElem?_getD, List.getD_eq_getElem?_getD, List.getElem?_append_left (by rw [oSl_len hd]; exact h)]
theorem own_at2 {D : List Int32} {s l i : Nat} (h : ¬ i < l) (hd : s + l ≤ D.length) {t k : Nat} (h2 : i < l + k) : (oSl D s l ++ oSl D t k).getD i 0 = D.getD (t + i - l) 0 := by
  have e : t + i - l = t + (i - l) := by omega
  rw [e, ← oSl_get (l := k) (by omega), List.getD_eq_getElem?_getD, List.getD_eq_getElem?_getD, List.getElem?_append_right (by rw [oSl_len hd]; omega), oSl_len hd]
theorem own_getP {D : List Int32} {P : Int32 → Prop} (h : ∀ c ∈ D, P c) {i : Nat} (hi : i < D.length) : P (D.getD i 0) := by
  rw [List.getD_eq_getElem?_getD, List.getElem?_eq_getElem hi]
  exact h _ (List.getElem_mem hi)
theorem own_s0 (D : List Int32) (s : Nat) : oSl D s 0 = [] := by unfold oSl; rfl
theorem own_cntL {cs D : List Int32} {s l : Nat} (h : s + l ≤ 4) (hD : D.length = 4) : (cs ++ oSl D s l).length = cs.length + l := by rw [List.length_append, oSl_len (by omega)]
theorem dac_0 : decode jdk_22_method_1_code 0 = .ok (.aload_n 0, 1) := by decide +kernel
theorem dac_1 : decode jdk_22_method_1_code 1 = .ok (.invokespecial 1, 3) := by decide +kernel
theorem dac_4 : decode jdk_22_method_1_code 4 = .ok (.return_, 1) := by decide +kernel
theorem pnac : plainName "java/util/AbstractCollection" = true := by first | (simp [plainName, overriddenIn]; done) | decide +kernel
theorem efac (m : MethodId) (x0 : Addr) : entryFrame m #[(.ref x0)] 1 = mkF m 0 #[.val (.ref x0)] [] := by first | (simp [entryFrame, mkF, argsToLocals, Value.category, maxLocals]; done) | rfl
def Qac (Z : State) (x : Addr) (h0 : Heap) (n0 : Nat) (v : Option Value) (h : Heap) (L : List Loc) : Prop := v = none ∧ Fr n0 L ∧ h = h0
theorem rmac (l : Launch) (Z : State) (a0 : Array Value) (hw : ∀ d ∈ tables_1, d.before a0 Z = true) (ws : List Jvm.Cond) (x : Addr) (h0 : Heap) (n0 : Nat) (O0 : Old Z n0 h0)  :
  MetFree l mN0 (head1 (Jvm.Cond.code mN0 jdk_22_method_1_code 1 none :: ws) ({ frames := 1, cells := 0, slots := 0, locals := 12 } : Room)) (fun A_ U_ => A_ = #[(.ref x)] ∧ Z.Warmed39 U_.vm ∧ U_.heap = h0) (fun _ _ _ _ _ => True) (fun _ U o U' => ∃ v L, o = .returned v ∧ Qac Z x h0 n0 v U'.heap L ∧ FrameEnd U o U' L ({ frames := 1, cells := 0, slots := 0, locals := 12 } : Room).cells ({ frames := 1, cells := 0, slots := 0, locals := 12 } : Room).slots) := by
 refine MetFree.of_bodySF (plainFor_of_name pnac) hisR ?_
 intro p e s m args below meth cd s₁ Bd hml0 hP hK
 obtain ⟨rfl, hZ, hh⟩ := hP
 have hx := Bd.exec
 have hby := Bd.bytes
 have hlk : meth.locks = false := BodyLoose.notSynchronized Bd
 have hml : cd.maxLocals = 1 := hml0
 have hown : s.vm.findClass "java/util/AbstractCollection" = some m.cls := findClass_of_methodNamed Bd.named
 have X0 : Stand p l e ({ frames := 1, cells := 0, slots := 0, locals := 12 } : Room) s m #[(.ref x)] below meth cd s₁ [] 0 0 := Stand.of_body Bd
 have e0 : s₁.heap = h0 := by rw [← hh, Bd.state]; rfl
 have N0 := Fr.nil n0
 have G : Go p e below s 0 0 (Qac Z x h0 n0) (s₁.setTop (mkF m 0 #[.val (.ref x)] [])) := by
  refine Go.s (XS.aloadN X0.here hx rfl (hb hby dac_0) rfl rfl) ?_
  obtain ⟨T1, X1, e1, st1⟩ := initO X0 hx hZ hown (own_w hw 37 rfl) (own_w hw 17 rfl) (own_w hw 18 rfl) e0 (g := (mkF m 1 #[.val (.ref x)] [(.ref x)])) rfl (by rw [hml]; rfl) rfl (hb hby dac_1) (by decide) (W := 0) (by show 2 * 0 + _ ≤ _; exact Nat.le_of_eq rfl) (by decide)
  refine Go.st st1 ?_
  show Go p e below s _ _ _ (T1.setTop (mkF m 4 #[.val (.ref x)] []))
  exact Go.ret X1 hlk (none) (fun _ => rfl) (by rw [e1]; exact ⟨rfl, N0, rfl⟩) (by decide) (by decide) (fun fs hr => X1.returnOut hx Bd.returns (hb hby dac_4) hr)
 obtain ⟨s2, o2, st2, r2⟩ := G
 exact ⟨s2, o2, castTop (efac m x) st2, r2⟩
theorem dal_0 : decode jdk_39_method_1_code 0 = .ok (.aload_n 0, 1) := by decide +kernel
theorem dal_1 : decode jdk_39_method_1_code 1 = .ok (.invokespecial 1, 3) := by decide +kernel
theorem dal_4 : decode jdk_39_method_1_code 4 = .ok (.aload_n 0, 1) := by decide +kernel
theorem dal_5 : decode jdk_39_method_1_code 5 = .ok (.iconst 0, 1) := by decide +kernel
theorem dal_6 : decode jdk_39_method_1_code 6 = .ok (.putfield 7, 3) := by decide +kernel
theorem dal_9 : decode jdk_39_method_1_code 9 = .ok (.return_, 1) := by decide +kernel
theorem pdal_0 : parseMethodDescriptor "()V" = some ⟨[], none⟩ := by decide +kernel
theorem pnal : plainName "java/util/AbstractList" = true := by first | (simp [plainName, overriddenIn]; done) | decide +kernel
theorem efal (m : MethodId) (x0 : Addr) : entryFrame m #[(.ref x0)] 1 = mkF m 0 #[.val (.ref x0)] [] := by first | (simp [entryFrame, mkF, argsToLocals, Value.category, maxLocals]; done) | rfl
def Qal (Z : State) (x : Addr) (h0 : Heap) (n0 : Nat) (v : Option Value) (h : Heap) (L : List Loc) : Prop := v = none ∧ Fr n0 L ∧ Keep h0 h [x] ∧ Exa Z h x "java/util/ArrayList" ∧ Fld Z h x "java/util/AbstractList" "modCount" "I" (.int 0) ∧ Fld Z h x "java/util/ArrayList" "elementData" "[Ljava/lang/Object;" .null
theorem rmal (l : Launch) (Z : State) (a0 : Array Value) (hw : ∀ d ∈ tables_1, d.before a0 Z = true) (ws : List Jvm.Cond) (x : Addr) (h0 : Heap) (n0 : Nat) (O0 : Old Z n0 h0) (E_x : Exa Z h0 x "java/util/ArrayList") (F_x_modCount : Fld Z h0 x "java/util/AbstractList" "modCount" "I" (.int 0)) (F_x_elementData : Fld Z h0 x "java/util/ArrayList" "elementData" "[Ljava/lang/Object;" .null) (gx : n0 ≤ x) :
  MetFree l mN1 (head1 (Jvm.Cond.code mN1 jdk_39_method_1_code 1 none :: ws) ({ frames := 2, cells := 0, slots := 0, locals := 24 } : Room)) (fun A_ U_ => A_ = #[(.ref x)] ∧ Z.Warmed39 U_.vm ∧ U_.heap = h0) (fun _ _ _ _ _ => True) (fun _ U o U' => ∃ v L, o = .returned v ∧ Qal Z x h0 n0 v U'.heap L ∧ FrameEnd U o U' L ({ frames := 2, cells := 0, slots := 0, locals := 24 } : Room).cells ({ frames := 2, cells := 0, slots := 0, locals := 24 } : Room).slots) := by
 refine MetFree.of_bodySF (plainFor_of_name pnal) hisR ?_
 intro p e s m args below meth cd s₁ Bd hml0 hP hK
 obtain ⟨rfl, hZ, hh⟩ := hP
 have hx := Bd.exec
 have hby := Bd.bytes
 have hlk : meth.locks = false := BodyLoose.notSynchronized Bd
 have hml : cd.maxLocals = 1 := hml0
 have hown : s.vm.findClass "java/util/AbstractList" = some m.cls := findClass_of_methodNamed Bd.named
 have X0 : Stand p l e ({ frames := 2, cells := 0, slots := 0, locals := 24 } : Room) s m #[(.ref x)] below meth cd s₁ [] 0 0 := Stand.of_body Bd
 have e0 : s₁.heap = h0 := by rw [← hh, Bd.state]; rfl
 have N0 := Fr.nil n0
 have K0 : Keep h0 h0 [x] := Keep.refl _ _
 have G : Go p e below s 0 0 (Qal Z x h0 n0) (s₁.setTop (mkF m 0 #[.val (.ref x)] [])) := by
  refine Go.s (XS.aloadN X0.here hx rfl (hb hby dal_0) rfl rfl) ?_
  obtain ⟨_, _, ⟨T1, L1, k1, n1⟩, -, X1, ⟨Lc1, hQ1, l1, y1, z1⟩, st1⟩ := X0.specialBack hx (y := mN0) rfl hown (mvT hZ (own_w hw 31 rfl)) (mvT hZ (own_w hw 32 rfl)) (mvT hZ (own_w hw 36 rfl)) (by decide) (backOf (W := 0) (rmac l Z a0 hw [] x h0 n0 O0 ) hZ (own_w hw 36 rfl) (own_w hw 35 rfl) (by decide) (by decide)) (g := (mkF m 1 #[.val (.ref x)] [(.ref x)])) rfl (by rw [hml]; rfl) (Steps.refl _) (a := x) (argsL := []) (rest := []) (lenOf pdal_0 rfl) rfl (by show 2 * 0 + _ ≤ _; exact Nat.le_of_eq rfl) (hb hby dal_1) (fun _ _ => ⟨rfl, e0, (by decide : 0 + 0 ≤ _), (by decide : 0 + 0 ≤ _)⟩)
  dsimp only [Pt.U, Pt.locs, Pt.cells, Pt.slots] at X1 l1 y1 z1 st1 hQ1
  subst y1 z1
  obtain ⟨rfl, Nc1, e1⟩ := hQ1
  have N1 : Fr n0 L1 := by rw [l1]; exact Fr.app N0 Nc1
  refine Go.tr st1 ?_
  show Go p e below s _ _ _ (T1.setTop (mkF m 4 #[.val (.ref x)] []))
  refine Go.s (XS.aloadN X1.here hx rfl (hb hby dal_4) rfl rfl) ?_
  refine Go.s (XS.iconst X1.here hx rfl (hb hby dal_5)) ?_
  obtain ⟨T2, h2, X2, e2, W2, st2⟩ := putF X1 hx hZ hown (host := "") (Or.inl (own_w hw 38 rfl)) Via.refl e1 F_x_modCount E_x (Or.inl (own_w hw 39 rfl)) (own_w hw 20 rfl) (ty := .int) (by decide) rfl rfl (g := (mkF m 6 #[.val (.ref x)] [(.int 0), (.ref x)])) rfl rfl (hb hby dal_6)
  obtain ⟨lc2, X2, N2⟩ := own_gen X2 (Fr.snoc X2 N1 gx)
  have O2 := O0.wr W2 gx
  have K2 := K0.wr W2 (Or.inl (List.mem_of_getElem? (i := 0) rfl))
  have E_x := E_x.wr W2
  have F_x_elementData := F_x_elementData.other W2 (Or.inr (slot_ne (Or.inl (own_w hw 42 rfl)) (Or.inl (own_w hw 39 rfl)) (by decide) (by decide : parseFieldDescriptor "[Ljava/lang/Object;" = some (.array (.object "java/lang/Object"))) (by decide : parseFieldDescriptor "I" = some .int)))
  have F_x_modCount := F_x_modCount.same W2
  refine Go.st st2 ?_
  show Go p e below s _ _ _ (T2.setTop (mkF m 9 #[.val (.ref x)] []))
  exact Go.ret X2 hlk (none) (fun _ => rfl) (by rw [e2]; exact ⟨rfl, N2, K2, E_x, F_x_modCount, F_x_elementData⟩) (by decide) (by decide) (fun fs hr => X2.returnOut hx Bd.returns (hb hby dal_9) hr)
 obtain ⟨s2, o2, st2, r2⟩ := G
 exact ⟨s2, o2, castTop (efal m x) st2, r2⟩
theorem dan_0 : decode jdk_38_method_2_code 0 = .ok (.aload_n 0, 1) := by decide +kernel
theorem dan_1 : decode jdk_38_method_2_code 1 = .ok (.invokespecial 1, 3) := by decide +kernel
theorem dan_4 : decode jdk_38_method_2_code 4 = .ok (.aload_n 0, 1) := by decide +kernel
theorem dan_5 : decode jdk_38_method_2_code 5 = .ok (.getstatic 39, 3) := by decide +kernel
theorem dan_8 : decode jdk_38_method_2_code 8 = .ok (.putfield 9, 3) := by decide +kernel
theorem dan_11 : decode jdk_38_method_2_code 11 = .ok (.return_, 1) := by decide +kernel
theorem pnan : plainName "java/util/ArrayList" = true := by first | (simp [plainName, overriddenIn]; done) | decide +kernel
theorem efan (m : MethodId) (x0 : Addr) : entryFrame m #[(.ref x0)] 1 = mkF m 0 #[.val (.ref x0)] [] := by first | (simp [entryFrame, mkF, argsToLocals, Value.category, maxLocals]; done) | rfl
def Qan (Z : State) (x : Addr) (ad : Addr) (h0 : Heap) (n0 : Nat) (v : Option Value) (h : Heap) (L : List Loc) : Prop := v = none ∧ Fr n0 L ∧ Keep h0 h [x]
theorem rman (l : Launch) (Z : State) (a0 : Array Value) (hw : ∀ d ∈ tables_1, d.before a0 Z = true) (ws : List Jvm.Cond) (x : Addr) (ad : Addr) (h0 : Heap) (n0 : Nat) (O0 : Old Z n0 h0) (E_x : Exa Z h0 x "java/util/ArrayList") (F_x_modCount : Fld Z h0 x "java/util/AbstractList" "modCount" "I" (.int 0)) (F_x_elementData : Fld Z h0 x "java/util/ArrayList" "elementData" "[Ljava/lang/Object;" .null) (gx : n0 ≤ x) (SD : Sta Z Z.heap "java/util/ArrayList" "DEFAULTCAPACITY_EMPTY_ELEMENTDATA" "[Ljava/lang/Object;" (.ref ad)) :
  MetFree l mN2 (head1 (Jvm.Cond.code mN2 jdk_38_method_2_code 1 none :: ws) ({ frames := 3, cells := 0, slots := 0, locals := 36 } : Room)) (fun A_ U_ => A_ = #[(.ref x)] ∧ Z.Warmed39 U_.vm ∧ U_.heap = h0) (fun _ _ _ _ _ => True) (fun _ U o U' => ∃ v L, o = .returned v ∧ Qan Z x ad h0 n0 v U'.heap L ∧ FrameEnd U o U' L ({ frames := 3, cells := 0, slots := 0, locals := 36 } : Room).cells ({ frames := 3, cells := 0, slots := 0, locals := 36 } : Room).slots) := by
 refine MetFree.of_bodySF (plainFor_of_name pnan) hisR ?_
 intro p e s m args below meth cd s₁ Bd hml0 hP hK
 obtain ⟨rfl, hZ, hh⟩ := hP
 have hx := Bd.exec
 have hby := Bd.bytes
 have hlk : meth.locks = false := BodyLoose.notSynchronized Bd
 have hml : cd.maxLocals = 1 := hml0
 have hown : s.vm.findClass "java/util/ArrayList" = some m.cls := findClass_of_methodNamed Bd.named
 have X0 : Stand p l e ({ frames := 3, cells := 0, slots := 0, locals := 36 } : Room) s m #[(.ref x)] below meth cd s₁ [] 0 0 := Stand.of_body Bd
 have e0 : s₁.heap = h0 := by rw [← hh, Bd.state]; rfl
 have N0 := Fr.nil n0
 have K0 : Keep h0 h0 [x] := Keep.refl _ _
 have G : Go p e below s 0 0 (Qan Z x ad h0 n0) (s₁.setTop (mkF m 0 #[.val (.ref x)] [])) := by
  refine Go.s (XS.aloadN X0.here hx rfl (hb hby dan_0) rfl rfl) ?_
  obtain ⟨_, _, ⟨T1, L1, k1, n1⟩, -, X1, ⟨Lc1, hQ1, l1, y1, z1⟩, st1⟩ := X0.specialBack hx (y := mN1) rfl hown (mvT hZ (own_w hw 25 rfl)) (mvT hZ (own_w hw 26 rfl)) (mvT hZ (own_w hw 30 rfl)) (by decide) (backOf (W := 0) (rmal l Z a0 hw [] x h0 n0 O0 E_x F_x_modCount F_x_elementData gx) hZ (own_w hw 30 rfl) (own_w hw 29 rfl) (by decide) (by decide)) (g := (mkF m 1 #[.val (.ref x)] [(.ref x)])) rfl (by rw [hml]; rfl) (Steps.refl _) (a := x) (argsL := []) (rest := []) (lenOf pdal_0 rfl) rfl (by show 2 * 0 + _ ≤ _; exact Nat.le_of_eq rfl) (hb hby dan_1) (fun _ _ => ⟨rfl, e0, (by decide : 0 + 0 ≤ _), (by decide : 0 + 0 ≤ _)⟩)
  dsimp only [Pt.U, Pt.locs, Pt.cells, Pt.slots] at X1 l1 y1 z1 st1 hQ1
  subst y1 z1
  obtain ⟨rfl, Nc1, Kc1, NA, NB, NC⟩ := hQ1
  have N1 : Fr n0 L1 := by rw [l1]; exact Fr.app N0 Nc1
  have O1 := O0.keep Kc1 (allS gx all0)
  have K1 := K0.trans Kc1 (allS (Or.inl (List.mem_of_getElem? (i := 0) rfl)) all0)
  have E_x : Exa Z T1.heap x "java/util/ArrayList" := NA
  have F_x_modCount : Fld Z T1.heap x "java/util/AbstractList" "modCount" "I" (.int 0) := NB
  have F_x_elementData : Fld Z T1.heap x "java/util/ArrayList" "elementData" "[Ljava/lang/Object;" .null := NC
  refine Go.tr st1 ?_
  show Go p e below s _ _ _ (T1.setTop (mkF m 4 #[.val (.ref x)] []))
  refine Go.s (XS.aloadN X1.here hx rfl (hb hby dan_4) rfl rfl) ?_
  obtain ⟨T2, X2, e2, st2⟩ := getS X1 hx hZ hown (host := "") (own_w hw 40 rfl) Via.refl rfl (SD.ext O1.2) (g := (mkF m 5 #[.val (.ref x)] [(.ref x)])) rfl (hb hby dan_5)
  refine Go.st st2 ?_
  show Go p e below s _ _ _ (T2.setTop (mkF m 8 #[.val (.ref x)] [(.ref ad), (.ref x)]))
  obtain ⟨T3, h3, X3, e3, W3, st3⟩ := putF X2 hx hZ hown (host := "") (Or.inl (own_w hw 41 rfl)) Via.refl e2 F_x_elementData E_x (Or.inl (own_w hw 42 rfl)) (own_w hw 20 rfl) (ty := (.array (.object "java/lang/Object"))) (by decide) rfl rfl (g := (mkF m 8 #[.val (.ref x)] [(.ref ad), (.ref x)])) rfl rfl (hb hby dan_8)
  obtain ⟨lc3, X3, N3⟩ := own_gen X3 (Fr.snoc X3 N1 gx)
  have O3 := O1.wr W3 gx
  have K3 := K1.wr W3 (Or.inl (List.mem_of_getElem? (i := 0) rfl))
  have E_x := E_x.wr W3
  have F_x_modCount := F_x_modCount.other W3 (Or.inr (slot_ne (Or.inl (own_w hw 39 rfl)) (Or.inl (own_w hw 42 rfl)) (by decide) (by decide : parseFieldDescriptor "I" = some .int) (by decide : parseFieldDescriptor "[Ljava/lang/Object;" = some (.array (.object "java/lang/Object")))))
  have F_x_elementData := F_x_elementData.same W3
  refine Go.st st3 ?_
  show Go p e below s _ _ _ (T3.setTop (mkF m 11 #[.val (.ref x)] []))
  exact Go.ret X3 hlk (none) (fun _ => rfl) (by rw [e3]; exact ⟨rfl, N3, K3⟩) (by decide) (by decide) (fun fs hr => X3.returnOut hx Bd.returns (hb hby dan_11) hr)
 obtain ⟨s2, o2, st2, r2⟩ := G
 exact ⟨s2, o2, castTop (efan m x) st2, r2⟩
theorem dxi_0 : decode prog_78_method_1_code 0 = .ok (.aload_n 0, 1) := by decide +kernel
theorem dxi_1 : decode prog_78_method_1_code 1 = .ok (.invokespecial 1, 3) := by decide +kernel
theorem dxi_4 : decode prog_78_method_1_code 4 = .ok (.aload_n 0, 1) := by decide +kernel
theorem dxi_5 : decode prog_78_method_1_code 5 = .ok (.new 7, 3) := by decide +kernel
theorem dxi_8 : decode prog_78_method_1_code 8 = .ok (.dup, 1) := by decide +kernel
theorem dxi_9 : decode prog_78_method_1_code 9 = .ok (.invokespecial 9, 3) := by decide +kernel
theorem dxi_12 : decode prog_78_method_1_code 12 = .ok (.putfield 10, 3) := by decide +kernel
theorem dxi_15 : decode prog_78_method_1_code 15 = .ok (.aload_n 0, 1) := by decide +kernel
theorem dxi_16 : decode prog_78_method_1_code 16 = .ok (.aload_n 1, 1) := by decide +kernel
theorem dxi_17 : decode prog_78_method_1_code 17 = .ok (.putfield 16, 3) := by decide +kernel
theorem dxi_20 : decode prog_78_method_1_code 20 = .ok (.aload_n 0, 1) := by decide +kernel
theorem dxi_21 : decode prog_78_method_1_code 21 = .ok (.iload_n 2, 1) := by decide +kernel
theorem dxi_22 : decode prog_78_method_1_code 22 = .ok (.putfield 20, 3) := by decide +kernel
theorem dxi_25 : decode prog_78_method_1_code 25 = .ok (.aload_n 0, 1) := by decide +kernel
theorem dxi_26 : decode prog_78_method_1_code 26 = .ok (.aload_n 3, 1) := by decide +kernel
theorem dxi_27 : decode prog_78_method_1_code 27 = .ok (.putfield 24, 3) := by decide +kernel
theorem dxi_30 : decode prog_78_method_1_code 30 = .ok (.return_, 1) := by decide +kernel
theorem pnxi : plainName "com/example/pemmican/pemmican/XmlElement" = true := by first | (simp [plainName, overriddenIn]; done) | decide +kernel
theorem efxi (m : MethodId) (x0 : Addr) (x1 : Addr) (x2 : Int32) : entryFrame m #[(.ref x0), (.ref x1), (.int x2), .null] 4 = mkF m 0 #[.val (.ref x0), .val (.ref x1), .val (.int x2), .val .null] [] := by first | (simp [entryFrame, mkF, argsToLocals, Value.category, maxLocals]; done) | rfl
def Qxi (Z : State) (x : Addr) (u : Addr) (ad : Addr) (h0 : Heap) (n0 : Nat) (v : Option Value) (h : Heap) (L : List Loc) : Prop := v = none ∧ Fr n0 L ∧ Keep h0 h [x] ∧ Exa Z h x "com/example/pemmican/pemmican/XmlElement" ∧ Fld Z h x "com/example/pemmican/pemmican/XmlElement" "text" "Ljava/lang/StringBuilder;" .null
theorem rmxi (l : Launch) (Z : State) (a0 : Array Value) (hw : ∀ d ∈ tables_1, d.before a0 Z = true) (ws : List Jvm.Cond) (x : Addr) (u : Addr) (ad : Addr) (h0 : Heap) (n0 : Nat) (O0 : Old Z n0 h0) (E_x : Exa Z h0 x "com/example/pemmican/pemmican/XmlElement") (F_x_children : Fld Z h0 x "com/example/pemmican/pemmican/XmlElement" "children" "Ljava/util/List;" .null) (F_x_name : Fld Z h0 x "com/example/pemmican/pemmican/XmlElement" "name" "Ljava/lang/String;" .null) (F_x_line : Fld Z h0 x "com/example/pemmican/pemmican/XmlElement" "line" "I" (.int 0)) (F_x_attributes : Fld Z h0 x "com/example/pemmican/pemmican/XmlElement" "attributes" "Ljava/util/Map;" .null) (F_x_text : Fld Z h0 x "com/example/pemmican/pemmican/XmlElement" "text" "Ljava/lang/StringBuilder;" .null) (gx : n0 ≤ x) (SD : Sta Z Z.heap "java/util/ArrayList" "DEFAULTCAPACITY_EMPTY_ELEMENTDATA" "[Ljava/lang/Object;" (.ref ad)) :
  MetFree l mN3 (head1 (Jvm.Cond.code mN3 prog_78_method_1_code 4 none :: ws) ({ frames := 4, cells := 1, slots := 3, locals := 50 } : Room)) (fun A_ U_ => A_ = #[(.ref x), (.ref u), (.int 1), .null] ∧ Z.Warmed39 U_.vm ∧ U_.heap = h0) (fun _ _ _ _ _ => True) (fun _ U o U' => ∃ v L, o = .returned v ∧ Qxi Z x u ad h0 n0 v U'.heap L ∧ FrameEnd U o U' L ({ frames := 4, cells := 1, slots := 3, locals := 50 } : Room).cells ({ frames := 4, cells := 1, slots := 3, locals := 50 } : Room).slots) := by
 refine MetFree.of_bodySF (plainFor_of_name pnxi) hisR ?_
 intro p e s m args below meth cd s₁ Bd hml0 hP hK
 obtain ⟨rfl, hZ, hh⟩ := hP
 have hx := Bd.exec
 have hby := Bd.bytes
 have hlk : meth.locks = false := BodyLoose.notSynchronized Bd
 have hml : cd.maxLocals = 4 := hml0
 have hown : s.vm.findClass "com/example/pemmican/pemmican/XmlElement" = some m.cls := findClass_of_methodNamed Bd.named
 have hnm := (name_of_methodNamed Bd.named Bd.method).1
 have X0 : Stand p l e ({ frames := 4, cells := 1, slots := 3, locals := 50 } : Room) s m #[(.ref x), (.ref u), (.int 1), .null] below meth cd s₁ [] 0 0 := Stand.of_body Bd
 have e0 : s₁.heap = h0 := by rw [← hh, Bd.state]; rfl
 have N0 := Fr.nil n0
 have K0 : Keep h0 h0 [x] := Keep.refl _ _
 have G : Go p e below s 1 3 (Qxi Z x u ad h0 n0) (s₁.setTop (mkF m 0 #[.val (.ref x), .val (.ref u), .val (.int 1), .val .null] [])) := by
  refine Go.s (XS.aloadN X0.here hx rfl (hb hby dxi_0) rfl rfl) ?_
  obtain ⟨T1, X1, e1, st1⟩ := initO X0 hx hZ hown (own_w hw 16 rfl) (own_w hw 17 rfl) (own_w hw 18 rfl) e0 (g := (mkF m 1 #[.val (.ref x), .val (.ref u), .val (.int 1), .val .null] [(.ref x)])) rfl (by rw [hml]; rfl) rfl (hb hby dxi_1) (by decide) (W := 0) (by show 2 * 0 + _ ≤ _; exact Nat.le_of_eq rfl) (by decide)
  refine Go.st st1 ?_
  show Go p e below s _ _ _ (T1.setTop (mkF m 4 #[.val (.ref x), .val (.ref u), .val (.int 1), .val .null] []))
  refine Go.s (XS.aloadN X1.here hx rfl (hb hby dxi_4) rfl rfl) ?_
  obtain ⟨T2, h2, X2, e2, E2, A2, D2, -, st2⟩ := newO X1 hx hZ hown (own_w hw 19 rfl) (own_w hw 20 rfl) (own_w hw 21 rfl) e1 (g := (mkF m 5 #[.val (.ref x), .val (.ref u), .val (.int 1), .val .null] [(.ref x)])) rfl (hb hby dxi_5) (by decide) (by decide)
  obtain ⟨a2, g2⟩ : ∃ z, z = h0.size := ⟨_, rfl⟩
  rw [← g2] at A2 D2 st2
  have g_a2 : n0 ≤ a2 := Nat.le_trans (own_old O0) (Nat.le_of_eq g2.symm)
  have sz_a2 : h0.size ≤ a2 := Nat.le_trans K0.1 (Nat.le_of_eq g2.symm)
  have ne_x_a2 : x ≠ a2 := by rw [g2]; exact Nat.ne_of_lt E_x.lt
  have E_x := E_x.ext E2
  have F_x_children := F_x_children.ext E2
  have F_x_name := F_x_name.ext E2
  have F_x_line := F_x_line.ext E2
  have F_x_attributes := F_x_attributes.ext E2
  have F_x_text := F_x_text.ext E2
  have O2 := O0.ext E2
  have K2 := K0.ext E2
  have E_a2 : Exa Z h2 a2 "java/util/ArrayList" := A2
  have F_a2_modCount : Fld Z h2 a2 "java/util/AbstractList" "modCount" "I" (.int 0) := D2 (Or.inl (own_w hw 39 rfl)) (ty := .int) (by decide)
  have F_a2_elementData : Fld Z h2 a2 "java/util/ArrayList" "elementData" "[Ljava/lang/Object;" .null := D2 (Or.inl (own_w hw 42 rfl)) (ty := (.array (.object "java/lang/Object"))) (by decide)
  refine Go.st st2 ?_
  show Go p e below s _ _ _ (T2.setTop (mkF m 8 #[.val (.ref x), .val (.ref u), .val (.int 1), .val .null] [(.ref a2), (.ref x)]))
  refine Go.s (XS.dup X2.here hx rfl (hb hby dxi_8) rfl rfl) ?_
  obtain ⟨_, _, ⟨T3, L3, k3, n3⟩, -, X3, ⟨Lc3, hQ3, l3, y3, z3⟩, st3⟩ := X2.specialBack hx (y := mN2) rfl hown (mvT hZ (own_w hw 22 rfl)) (mvT hZ (own_w hw 23 rfl)) (mvT hZ (own_w hw 24 rfl)) (by decide) (backOf (W := 2) (rman l Z a0 hw [] a2 ad h2 n0 O2 E_a2 F_a2_modCount F_a2_elementData g_a2 SD) hZ (own_w hw 24 rfl) (own_w hw 21 rfl) (by decide) (by decide)) (g := (mkF m 9 #[.val (.ref x), .val (.ref u), .val (.int 1), .val .null] [(.ref a2), (.ref a2), (.ref x)])) rfl (by rw [hml]; rfl) (Steps.refl _) (a := a2) (argsL := []) (rest := [(.ref a2), (.ref x)]) (lenOf pdal_0 rfl) rfl (by show 2 * 0 + _ ≤ _; exact Nat.le_of_eq rfl) (hb hby dxi_9) (fun _ _ => ⟨rfl, e2, (by decide : 1 + 0 ≤ _), (by decide : 3 + 0 ≤ _)⟩)
  dsimp only [Pt.U, Pt.locs, Pt.cells, Pt.slots] at X3 l3 y3 z3 st3 hQ3
  subst y3 z3
  obtain ⟨rfl, Nc3, Kc3⟩ := hQ3
  have N3 : Fr n0 L3 := by rw [l3]; exact Fr.app N0 Nc3
  have E_x := E_x.keep Kc3
  have F_x_children := F_x_children.keep Kc3 (ninS ne_x_a2 nin0)
  have F_x_name := F_x_name.keep Kc3 (ninS ne_x_a2 nin0)
  have F_x_line := F_x_line.keep Kc3 (ninS ne_x_a2 nin0)
  have F_x_attributes := F_x_attributes.keep Kc3 (ninS ne_x_a2 nin0)
  have F_x_text := F_x_text.keep Kc3 (ninS ne_x_a2 nin0)
  have O3 := O2.keep Kc3 (allS g_a2 all0)
  have K3 := K2.trans Kc3 (allS (Or.inr sz_a2) all0)
  refine Go.tr st3 ?_
  show Go p e below s _ _ _ (T3.setTop (mkF m 12 #[.val (.ref x), .val (.ref u), .val (.int 1), .val .null] [(.ref a2), (.ref x)]))
  obtain ⟨T4, h4, X4, e4, W4, st4⟩ := putF X3 hx hZ hown (host := "") (Or.inl (own_w hw 43 rfl)) Via.refl rfl F_x_children E_x (Or.inr ⟨(own_w hw 44 rfl), rfl, hnm⟩) (own_w hw 3 rfl) (ty := (.object "java/util/List")) (by decide) rfl rfl (g := (mkF m 12 #[.val (.ref x), .val (.ref u), .val (.int 1), .val .null] [(.ref a2), (.ref x)])) rfl rfl (hb hby dxi_12)
  obtain ⟨lc4, X4, N4⟩ := own_gen X4 (Fr.snoc X4 N3 gx)
  have O4 := O3.wr W4 gx
  have K4 := K3.wr W4 (Or.inl (List.mem_of_getElem? (i := 0) rfl))
  have E_x := E_x.wr W4
  have F_x_name := F_x_name.other W4 (Or.inr (slot_ne (Or.inr (own_w hw 46 rfl)) (Or.inr (own_w hw 44 rfl)) (by decide) (by decide : parseFieldDescriptor "Ljava/lang/String;" = some (.object "java/lang/String")) (by decide : parseFieldDescriptor "Ljava/util/List;" = some (.object "java/util/List"))))
  have F_x_line := F_x_line.other W4 (Or.inr (slot_ne (Or.inr (own_w hw 48 rfl)) (Or.inr (own_w hw 44 rfl)) (by decide) (by decide : parseFieldDescriptor "I" = some .int) (by decide : parseFieldDescriptor "Ljava/util/List;" = some (.object "java/util/List"))))
  have F_x_attributes := F_x_attributes.other W4 (Or.inr (slot_ne (Or.inr (own_w hw 50 rfl)) (Or.inr (own_w hw 44 rfl)) (by decide) (by decide : parseFieldDescriptor "Ljava/util/Map;" = some (.object "java/util/Map")) (by decide : parseFieldDescriptor "Ljava/util/List;" = some (.object "java/util/List"))))
  have F_x_text := F_x_text.other W4 (Or.inr (slot_ne (Or.inl (own_w hw 57 rfl)) (Or.inr (own_w hw 44 rfl)) (by decide) (by decide : parseFieldDescriptor "Ljava/lang/StringBuilder;" = some (.object "java/lang/StringBuilder")) (by decide : parseFieldDescriptor "Ljava/util/List;" = some (.object "java/util/List"))))
  have F_x_children := F_x_children.same W4
  refine Go.st st4 ?_
  show Go p e below s _ _ _ (T4.setTop (mkF m 15 #[.val (.ref x), .val (.ref u), .val (.int 1), .val .null] []))
  refine Go.s (XS.aloadN X4.here hx rfl (hb hby dxi_15) rfl rfl) ?_
  refine Go.s (XS.aloadN X4.here hx rfl (hb hby dxi_16) rfl rfl) ?_
  obtain ⟨T5, h5, X5, e5, W5, st5⟩ := putF X4 hx hZ hown (host := "") (Or.inl (own_w hw 45 rfl)) Via.refl e4 F_x_name E_x (Or.inr ⟨(own_w hw 46 rfl), rfl, hnm⟩) (own_w hw 3 rfl) (ty := (.object "java/lang/String")) (by decide) rfl rfl (g := (mkF m 17 #[.val (.ref x), .val (.ref u), .val (.int 1), .val .null] [(.ref u), (.ref x)])) rfl rfl (hb hby dxi_17)
  obtain ⟨lc5, X5, N5⟩ := own_gen X5 (Fr.snoc X5 N4 gx)
  have O5 := O4.wr W5 gx
  have K5 := K4.wr W5 (Or.inl (List.mem_of_getElem? (i := 0) rfl))
  have E_x := E_x.wr W5
  have F_x_children := F_x_children.other W5 (Or.inr (slot_ne (Or.inr (own_w hw 44 rfl)) (Or.inr (own_w hw 46 rfl)) (by decide) (by decide : parseFieldDescriptor "Ljava/util/List;" = some (.object "java/util/List")) (by decide : parseFieldDescriptor "Ljava/lang/String;" = some (.object "java/lang/String"))))
  have F_x_line := F_x_line.other W5 (Or.inr (slot_ne (Or.inr (own_w hw 48 rfl)) (Or.inr (own_w hw 46 rfl)) (by decide) (by decide : parseFieldDescriptor "I" = some .int) (by decide : parseFieldDescriptor "Ljava/lang/String;" = some (.object "java/lang/String"))))
  have F_x_attributes := F_x_attributes.other W5 (Or.inr (slot_ne (Or.inr (own_w hw 50 rfl)) (Or.inr (own_w hw 46 rfl)) (by decide) (by decide : parseFieldDescriptor "Ljava/util/Map;" = some (.object "java/util/Map")) (by decide : parseFieldDescriptor "Ljava/lang/String;" = some (.object "java/lang/String"))))
  have F_x_text := F_x_text.other W5 (Or.inr (slot_ne (Or.inl (own_w hw 57 rfl)) (Or.inr (own_w hw 46 rfl)) (by decide) (by decide : parseFieldDescriptor "Ljava/lang/StringBuilder;" = some (.object "java/lang/StringBuilder")) (by decide : parseFieldDescriptor "Ljava/lang/String;" = some (.object "java/lang/String"))))
  have F_x_name := F_x_name.same W5
  refine Go.st st5 ?_
  show Go p e below s _ _ _ (T5.setTop (mkF m 20 #[.val (.ref x), .val (.ref u), .val (.int 1), .val .null] []))
  refine Go.s (XS.aloadN X5.here hx rfl (hb hby dxi_20) rfl rfl) ?_
  refine Go.s (XS.iloadN X5.here hx rfl (hb hby dxi_21) rfl) ?_
  obtain ⟨T6, h6, X6, e6, W6, st6⟩ := putF X5 hx hZ hown (host := "") (Or.inl (own_w hw 47 rfl)) Via.refl e5 F_x_line E_x (Or.inr ⟨(own_w hw 48 rfl), rfl, hnm⟩) (own_w hw 3 rfl) (ty := .int) (by decide) rfl rfl (g := (mkF m 22 #[.val (.ref x), .val (.ref u), .val (.int 1), .val .null] [(.int 1), (.ref x)])) rfl rfl (hb hby dxi_22)
  obtain ⟨lc6, X6, N6⟩ := own_gen X6 (Fr.snoc X6 N5 gx)
  have O6 := O5.wr W6 gx
  have K6 := K5.wr W6 (Or.inl (List.mem_of_getElem? (i := 0) rfl))
  have E_x := E_x.wr W6
  have F_x_children := F_x_children.other W6 (Or.inr (slot_ne (Or.inr (own_w hw 44 rfl)) (Or.inr (own_w hw 48 rfl)) (by decide) (by decide : parseFieldDescriptor "Ljava/util/List;" = some (.object "java/util/List")) (by decide : parseFieldDescriptor "I" = some .int)))
  have F_x_name := F_x_name.other W6 (Or.inr (slot_ne (Or.inr (own_w hw 46 rfl)) (Or.inr (own_w hw 48 rfl)) (by decide) (by decide : parseFieldDescriptor "Ljava/lang/String;" = some (.object "java/lang/String")) (by decide : parseFieldDescriptor "I" = some .int)))
  have F_x_attributes := F_x_attributes.other W6 (Or.inr (slot_ne (Or.inr (own_w hw 50 rfl)) (Or.inr (own_w hw 48 rfl)) (by decide) (by decide : parseFieldDescriptor "Ljava/util/Map;" = some (.object "java/util/Map")) (by decide : parseFieldDescriptor "I" = some .int)))
  have F_x_text := F_x_text.other W6 (Or.inr (slot_ne (Or.inl (own_w hw 57 rfl)) (Or.inr (own_w hw 48 rfl)) (by decide) (by decide : parseFieldDescriptor "Ljava/lang/StringBuilder;" = some (.object "java/lang/StringBuilder")) (by decide : parseFieldDescriptor "I" = some .int)))
  have F_x_line := F_x_line.same W6
  refine Go.st st6 ?_
  show Go p e below s _ _ _ (T6.setTop (mkF m 25 #[.val (.ref x), .val (.ref u), .val (.int 1), .val .null] []))
  refine Go.s (XS.aloadN X6.here hx rfl (hb hby dxi_25) rfl rfl) ?_
  refine Go.s (XS.aloadN X6.here hx rfl (hb hby dxi_26) rfl rfl) ?_
  obtain ⟨T7, h7, X7, e7, W7, st7⟩ := putF X6 hx hZ hown (host := "") (Or.inl (own_w hw 49 rfl)) Via.refl e6 F_x_attributes E_x (Or.inr ⟨(own_w hw 50 rfl), rfl, hnm⟩) (own_w hw 3 rfl) (ty := (.object "java/util/Map")) (by decide) rfl rfl (g := (mkF m 27 #[.val (.ref x), .val (.ref u), .val (.int 1), .val .null] [.null, (.ref x)])) rfl rfl (hb hby dxi_27)
  obtain ⟨lc7, X7, N7⟩ := own_gen X7 (Fr.snoc X7 N6 gx)
  have O7 := O6.wr W7 gx
  have K7 := K6.wr W7 (Or.inl (List.mem_of_getElem? (i := 0) rfl))
  have E_x := E_x.wr W7
  have F_x_children := F_x_children.other W7 (Or.inr (slot_ne (Or.inr (own_w hw 44 rfl)) (Or.inr (own_w hw 50 rfl)) (by decide) (by decide : parseFieldDescriptor "Ljava/util/List;" = some (.object "java/util/List")) (by decide : parseFieldDescriptor "Ljava/util/Map;" = some (.object "java/util/Map"))))
  have F_x_name := F_x_name.other W7 (Or.inr (slot_ne (Or.inr (own_w hw 46 rfl)) (Or.inr (own_w hw 50 rfl)) (by decide) (by decide : parseFieldDescriptor "Ljava/lang/String;" = some (.object "java/lang/String")) (by decide : parseFieldDescriptor "Ljava/util/Map;" = some (.object "java/util/Map"))))
  have F_x_line := F_x_line.other W7 (Or.inr (slot_ne (Or.inr (own_w hw 48 rfl)) (Or.inr (own_w hw 50 rfl)) (by decide) (by decide : parseFieldDescriptor "I" = some .int) (by decide : parseFieldDescriptor "Ljava/util/Map;" = some (.object "java/util/Map"))))
  have F_x_text := F_x_text.other W7 (Or.inr (slot_ne (Or.inl (own_w hw 57 rfl)) (Or.inr (own_w hw 50 rfl)) (by decide) (by decide : parseFieldDescriptor "Ljava/lang/StringBuilder;" = some (.object "java/lang/StringBuilder")) (by decide : parseFieldDescriptor "Ljava/util/Map;" = some (.object "java/util/Map"))))
  have F_x_attributes := F_x_attributes.same W7
  refine Go.st st7 ?_
  show Go p e below s _ _ _ (T7.setTop (mkF m 30 #[.val (.ref x), .val (.ref u), .val (.int 1), .val .null] []))
  exact Go.ret X7 hlk (none) (fun _ => rfl) (by rw [e7]; exact ⟨rfl, N7, K7, E_x, F_x_text⟩) (by decide) (by decide) (fun fs hr => X7.returnOut hx Bd.returns (hb hby dxi_30) hr)
 obtain ⟨s2, o2, st2, r2⟩ := G
 exact ⟨s2, o2, castTop (efxi m x u (1 : Int32)) st2, r2⟩
theorem dbi_0 : decode jdk_68_method_2_code 0 = .ok (.aload_n 0, 1) := by decide +kernel
theorem dbi_1 : decode jdk_68_method_2_code 1 = .ok (.invokespecial 3, 3) := by decide +kernel
theorem dbi_4 : decode jdk_68_method_2_code 4 = .ok (.getstatic 18, 3) := by decide +kernel
theorem dbi_7 : decode jdk_68_method_2_code 7 = .ok (.ifCond .eq 18, 3) := by decide +kernel
theorem dbi_10 : decode jdk_68_method_2_code 10 = .ok (.aload_n 0, 1) := by decide +kernel
theorem dbi_11 : decode jdk_68_method_2_code 11 = .ok (.iload_n 1, 1) := by decide +kernel
theorem dbi_12 : decode jdk_68_method_2_code 12 = .ok (.newarray .byte, 2) := by decide +kernel
theorem dbi_14 : decode jdk_68_method_2_code 14 = .ok (.putfield 15, 3) := by decide +kernel
theorem dbi_17 : decode jdk_68_method_2_code 17 = .ok (.aload_n 0, 1) := by decide +kernel
theorem dbi_18 : decode jdk_68_method_2_code 18 = .ok (.iconst 0, 1) := by decide +kernel
theorem dbi_19 : decode jdk_68_method_2_code 19 = .ok (.putfield 22, 3) := by decide +kernel
theorem dbi_22 : decode jdk_68_method_2_code 22 = .ok (.goto 16, 3) := by decide +kernel
theorem dbi_38 : decode jdk_68_method_2_code 38 = .ok (.return_, 1) := by decide +kernel
theorem pnbi : plainName "java/lang/AbstractStringBuilder" = true := by first | (simp [plainName, overriddenIn]; done) | decide +kernel
theorem efbi (m : MethodId) (x0 : Addr) (x1 : Int32) : entryFrame m #[(.ref x0), (.int x1)] 2 = mkF m 0 #[.val (.ref x0), .val (.int x1)] [] := by first | (simp [entryFrame, mkF, argsToLocals, Value.category, maxLocals]; done) | rfl
def Qbi (Z : State) (b : Addr) (n_ : Nat) (zc : Int32) (h0 : Heap) (n0 : Nat) (v : Option Value) (h : Heap) (L : List Loc) : Prop := ∃ (t : Addr) (kt : ClassId), v = none ∧ Fr n0 L ∧ Keep h0 h [b] ∧ n0 ≤ t ∧ h0.size ≤ t ∧ Exa Z h b "java/lang/StringBuilder" ∧ Fld Z h b "java/lang/AbstractStringBuilder" "value" "[B" (.ref t) ∧ Fld Z h b "java/lang/AbstractStringBuilder" "coder" "B" (.int 0) ∧ Fld Z h b "java/lang/AbstractStringBuilder" "count" "I" (.int 0) ∧ Arv Z h t kt .byte (Int32.ofNat n_) (oLat []) (.int 0) ∧ Exa Z h t "[B"
theorem rmbi (l : Launch) (Z : State) (a0 : Array Value) (hw : ∀ d ∈ tables_1, d.before a0 Z = true) (ws : List Jvm.Cond) (b : Addr) (n_ : Nat) (zc : Int32) (h0 : Heap) (n0 : Nat) (O0 : Old Z n0 h0) (E_b : Exa Z h0 b "java/lang/StringBuilder") (F_b_value : Fld Z h0 b "java/lang/AbstractStringBuilder" "value" "[B" .null) (F_b_coder : Fld Z h0 b "java/lang/AbstractStringBuilder" "coder" "B" (.int 0)) (F_b_count : Fld Z h0 b "java/lang/AbstractStringBuilder" "count" "I" (.int 0)) (gb : n0 ≤ b) (hl : n_ ≤ 4) (SC : Sta Z Z.heap "java/lang/String" "COMPACT_STRINGS" "Z" (.int zc)) (hcs : ¬ zc = 0) :
  MetFree l mN4 (head1 (Jvm.Cond.code mN4 jdk_68_method_2_code 2 none :: ws) ({ frames := 1, cells := 1, slots := 4, locals := 12 } : Room)) (fun A_ U_ => A_ = #[(.ref b), (.int (Int32.ofNat n_))] ∧ Z.Warmed39 U_.vm ∧ U_.heap = h0) (fun _ _ _ _ _ => True) (fun _ U o U' => ∃ v L, o = .returned v ∧ Qbi Z b n_ zc h0 n0 v U'.heap L ∧ FrameEnd U o U' L ({ frames := 1, cells := 1, slots := 4, locals := 12 } : Room).cells ({ frames := 1, cells := 1, slots := 4, locals := 12 } : Room).slots) := by
 refine MetFree.of_bodySF (plainFor_of_name pnbi) hisR ?_
 intro p e s m args below meth cd s₁ Bd hml0 hP hK
 obtain ⟨rfl, hZ, hh⟩ := hP
 have hx := Bd.exec
 have hby := Bd.bytes
 have hlk : meth.locks = false := BodyLoose.notSynchronized Bd
 have hml : cd.maxLocals = 2 := hml0
 have hown : s.vm.findClass "java/lang/AbstractStringBuilder" = some m.cls := findClass_of_methodNamed Bd.named
 have X0 : Stand p l e ({ frames := 1, cells := 1, slots := 4, locals := 12 } : Room) s m #[(.ref b), (.int (Int32.ofNat n_))] below meth cd s₁ [] 0 0 := Stand.of_body Bd
 have e0 : s₁.heap = h0 := by rw [← hh, Bd.state]; rfl
 have N0 := Fr.nil n0
 have K0 : Keep h0 h0 [b] := Keep.refl _ _
 have G : Go p e below s 1 4 (Qbi Z b n_ zc h0 n0) (s₁.setTop (mkF m 0 #[.val (.ref b), .val (.int (Int32.ofNat n_))] [])) := by
  refine Go.s (XS.aloadN X0.here hx rfl (hb hby dbi_0) rfl rfl) ?_
  obtain ⟨T1, X1, e1, st1⟩ := initO X0 hx hZ hown (own_w hw 70 rfl) (own_w hw 17 rfl) (own_w hw 18 rfl) e0 (g := (mkF m 1 #[.val (.ref b), .val (.int (Int32.ofNat n_))] [(.ref b)])) rfl (by rw [hml]; rfl) rfl (hb hby dbi_1) (by decide) (W := 0) (by show 2 * 0 + _ ≤ _; exact Nat.le_of_eq rfl) (by decide)
  refine Go.st st1 ?_
  show Go p e below s _ _ _ (T1.setTop (mkF m 4 #[.val (.ref b), .val (.int (Int32.ofNat n_))] []))
  obtain ⟨T2, X2, e2, st2⟩ := getS X1 hx hZ hown (host := "") (own_w hw 71 rfl) Via.refl e1 (SC.ext O0.2) (g := (mkF m 4 #[.val (.ref b), .val (.int (Int32.ofNat n_))] [])) rfl (hb hby dbi_4)
  refine Go.st st2 ?_
  show Go p e below s _ _ _ (T2.setTop (mkF m 7 #[.val (.ref b), .val (.int (Int32.ofNat n_))] [(.int zc)]))
  refine Go.s (XS.ifNo X2.here hx rfl (hb hby dbi_7) rfl (XT.i0_eq_f hcs)) ?_
  show Go p e below s _ _ _ (T2.setTop (mkF m 10 #[.val (.ref b), .val (.int (Int32.ofNat n_))] []))
  refine Go.s (XS.aloadN X2.here hx rfl (hb hby dbi_10) rfl rfl) ?_
  refine Go.s (XS.iloadN X2.here hx rfl (hb hby dbi_11) rfl) ?_
  obtain ⟨T3, h3, k3, X3, e3, E3, A3, Ex3, st3⟩ := newPE X2 hx hZ (own_w hw 8 rfl) e2 (g := (mkF m 12 #[.val (.ref b), .val (.int (Int32.ofNat n_))] [(.int (Int32.ofNat n_)), (.ref b)])) rfl (hb hby dbi_12) rfl (own_nn (by omega)) (cap := 4) (by rw [own_tn (by omega)]; omega) (by decide) (by decide) (by decide) (ad := "[B") (by decide)
  obtain ⟨b3, g3⟩ : ∃ z, z = h0.size := ⟨_, rfl⟩
  rw [← g3] at A3 Ex3 st3
  have g_b3 : n0 ≤ b3 := Nat.le_trans (own_old O0) (Nat.le_of_eq g3.symm)
  have sz_b3 : h0.size ≤ b3 := Nat.le_trans K0.1 (Nat.le_of_eq g3.symm)
  have ne_b_b3 : b ≠ b3 := by rw [g3]; exact Nat.ne_of_lt E_b.lt
  have E_b := E_b.ext E3
  have F_b_value := F_b_value.ext E3
  have F_b_coder := F_b_coder.ext E3
  have F_b_count := F_b_count.ext E3
  have O3 := O0.ext E3
  have K3 := K0.ext E3
  have E_b3 : Exa Z h3 b3 "[B" := Ex3
  have V_b3 : Arv Z h3 b3 k3 .byte (Int32.ofNat n_) [] (.int 0) := (Arv.new A3 (own_nn (by omega))).pad (pad_rep [] (.int 0) 0)
  refine Go.st st3 ?_
  show Go p e below s _ _ _ (T3.setTop (mkF m 14 #[.val (.ref b), .val (.int (Int32.ofNat n_))] [(.ref b3), (.ref b)]))
  obtain ⟨T4, h4, X4, e4, W4, st4⟩ := putF X3 hx hZ hown (host := "") (Or.inl (own_w hw 72 rfl)) Via.refl e3 F_b_value E_b (Or.inl (own_w hw 73 rfl)) (own_w hw 59 rfl) (ty := (.array .byte)) (by decide) rfl rfl (g := (mkF m 14 #[.val (.ref b), .val (.int (Int32.ofNat n_))] [(.ref b3), (.ref b)])) rfl rfl (hb hby dbi_14)
  obtain ⟨lc4, X4, N4⟩ := own_gen X4 (Fr.snoc X4 N0 gb)
  have O4 := O3.wr W4 gb
  have K4 := K3.wr W4 (Or.inl (List.mem_of_getElem? (i := 0) rfl))
  have E_b := E_b.wr W4
  have F_b_coder := F_b_coder.other W4 (Or.inr (slot_ne (Or.inl (own_w hw 75 rfl)) (Or.inl (own_w hw 73 rfl)) (by decide) (by decide : parseFieldDescriptor "B" = some .byte) (by decide : parseFieldDescriptor "[B" = some (.array .byte))))
  have F_b_count := F_b_count.other W4 (Or.inr (slot_ne (Or.inl (own_w hw 93 rfl)) (Or.inl (own_w hw 73 rfl)) (by decide) (by decide : parseFieldDescriptor "I" = some .int) (by decide : parseFieldDescriptor "[B" = some (.array .byte))))
  have E_b3 := E_b3.wr W4
  have V_b3 := V_b3.other W4 (Ne.symm ne_b_b3)
  have F_b_value := F_b_value.same W4
  refine Go.st st4 ?_
  show Go p e below s _ _ _ (T4.setTop (mkF m 17 #[.val (.ref b), .val (.int (Int32.ofNat n_))] []))
  refine Go.s (XS.aloadN X4.here hx rfl (hb hby dbi_17) rfl rfl) ?_
  refine Go.s (XS.iconst X4.here hx rfl (hb hby dbi_18)) ?_
  obtain ⟨T5, h5, X5, e5, W5, st5⟩ := putF X4 hx hZ hown (host := "") (Or.inl (own_w hw 74 rfl)) Via.refl e4 F_b_coder E_b (Or.inl (own_w hw 75 rfl)) (own_w hw 59 rfl) (ty := .byte) (by decide) rfl rfl (g := (mkF m 19 #[.val (.ref b), .val (.int (Int32.ofNat n_))] [(.int 0), (.ref b)])) rfl rfl (hb hby dbi_19)
  obtain ⟨lc5, X5, N5⟩ := own_gen X5 (Fr.snoc X5 N4 gb)
  have O5 := O4.wr W5 gb
  have K5 := K4.wr W5 (Or.inl (List.mem_of_getElem? (i := 0) rfl))
  have E_b := E_b.wr W5
  have F_b_value := F_b_value.other W5 (Or.inr (slot_ne (Or.inl (own_w hw 73 rfl)) (Or.inl (own_w hw 75 rfl)) (by decide) (by decide : parseFieldDescriptor "[B" = some (.array .byte)) (by decide : parseFieldDescriptor "B" = some .byte)))
  have F_b_count := F_b_count.other W5 (Or.inr (slot_ne (Or.inl (own_w hw 93 rfl)) (Or.inl (own_w hw 75 rfl)) (by decide) (by decide : parseFieldDescriptor "I" = some .int) (by decide : parseFieldDescriptor "B" = some .byte)))
  have E_b3 := E_b3.wr W5
  have V_b3 := V_b3.other W5 (Ne.symm ne_b_b3)
  have F_b_coder := F_b_coder.same W5
  refine Go.st st5 ?_
  show Go p e below s _ _ _ (T5.setTop (mkF m 22 #[.val (.ref b), .val (.int (Int32.ofNat n_))] []))
  refine Go.s (XS.goto X5.here hx rfl (pc0 := 22) (pc' := 38) rfl (hb hby dbi_22) (by decide) (by decide)) ?_
  exact Go.ret X5 hlk (none) (fun _ => rfl) (by rw [e5]; exact ⟨b3, _, rfl, N5, K5, g_b3, sz_b3, E_b, F_b_value, F_b_coder, F_b_count, V_b3, E_b3⟩) (by decide) (by decide) (fun fs hr => X5.returnOut hx Bd.returns (hb hby dbi_38) hr)
 obtain ⟨s2, o2, st2, r2⟩ := G
 exact ⟨s2, o2, castTop (efbi m b (Int32.ofNat n_)) st2, r2⟩
theorem dsb_0 : decode jdk_67_method_2_code 0 = .ok (.aload_n 0, 1) := by decide +kernel
theorem dsb_1 : decode jdk_67_method_2_code 1 = .ok (.iload_n 1, 1) := by decide +kernel
theorem dsb_2 : decode jdk_67_method_2_code 2 = .ok (.invokespecial 1, 3) := by decide +kernel
theorem dsb_5 : decode jdk_67_method_2_code 5 = .ok (.return_, 1) := by decide +kernel
theorem pdsb_0 : parseMethodDescriptor "(I)V" = some ⟨[.int], none⟩ := by decide +kernel
theorem pnsb : plainName "java/lang/StringBuilder" = true := by first | (simp [plainName, overriddenIn]; done) | decide +kernel
theorem efsb (m : MethodId) (x0 : Addr) (x1 : Int32) : entryFrame m #[(.ref x0), (.int x1)] 2 = mkF m 0 #[.val (.ref x0), .val (.int x1)] [] := by first | (simp [entryFrame, mkF, argsToLocals, Value.category, maxLocals]; done) | rfl
def Qsb (Z : State) (b : Addr) (n_ : Nat) (zc : Int32) (h0 : Heap) (n0 : Nat) (v : Option Value) (h : Heap) (L : List Loc) : Prop := ∃ (t : Addr) (kt : ClassId), v = none ∧ Fr n0 L ∧ Keep h0 h [b] ∧ n0 ≤ t ∧ h0.size ≤ t ∧ Exa Z h b "java/lang/StringBuilder" ∧ Fld Z h b "java/lang/AbstractStringBuilder" "value" "[B" (.ref t) ∧ Fld Z h b "java/lang/AbstractStringBuilder" "coder" "B" (.int 0) ∧ Fld Z h b "java/lang/AbstractStringBuilder" "count" "I" (.int 0) ∧ Arv Z h t kt .byte (Int32.ofNat n_) (oLat []) (.int 0) ∧ Exa Z h t "[B"
theorem rmsb (l : Launch) (Z : State) (a0 : Array Value) (hw : ∀ d ∈ tables_1, d.before a0 Z = true) (ws : List Jvm.Cond) (b : Addr) (n_ : Nat) (zc : Int32) (h0 : Heap) (n0 : Nat) (O0 : Old Z n0 h0) (E_b : Exa Z h0 b "java/lang/StringBuilder") (F_b_value : Fld Z h0 b "java/lang/AbstractStringBuilder" "value" "[B" .null) (F_b_coder : Fld Z h0 b "java/lang/AbstractStringBuilder" "coder" "B" (.int 0)) (F_b_count : Fld Z h0 b "java/lang/AbstractStringBuilder" "count" "I" (.int 0)) (gb : n0 ≤ b) (hl : n_ ≤ 4) (SC : Sta Z Z.heap "java/lang/String" "COMPACT_STRINGS" "Z" (.int zc)) (hcs : ¬ zc = 0) :
  MetFree l mN5 (head1 (Jvm.Cond.code mN5 jdk_67_method_2_code 2 none :: ws) ({ frames := 2, cells := 1, slots := 4, locals := 25 } : Room)) (fun A_ U_ => A_ = #[(.ref b), (.int (Int32.ofNat n_))] ∧ Z.Warmed39 U_.vm ∧ U_.heap = h0) (fun _ _ _ _ _ => True) (fun _ U o U' => ∃ v L, o = .returned v ∧ Qsb Z b n_ zc h0 n0 v U'.heap L ∧ FrameEnd U o U' L ({ frames := 2, cells := 1, slots := 4, locals := 25 } : Room).cells ({ frames := 2, cells := 1, slots := 4, locals := 25 } : Room).slots) := by
 refine MetFree.of_bodySF (plainFor_of_name pnsb) hisR ?_
 intro p e s m args below meth cd s₁ Bd hml0 hP hK
 obtain ⟨rfl, hZ, hh⟩ := hP
 have hx := Bd.exec
 have hby := Bd.bytes
 have hlk : meth.locks = false := BodyLoose.notSynchronized Bd
 have hml : cd.maxLocals = 2 := hml0
 have hown : s.vm.findClass "java/lang/StringBuilder" = some m.cls := findClass_of_methodNamed Bd.named
 have X0 : Stand p l e ({ frames := 2, cells := 1, slots := 4, locals := 25 } : Room) s m #[(.ref b), (.int (Int32.ofNat n_))] below meth cd s₁ [] 0 0 := Stand.of_body Bd
 have e0 : s₁.heap = h0 := by rw [← hh, Bd.state]; rfl
 have N0 := Fr.nil n0
 have K0 : Keep h0 h0 [b] := Keep.refl _ _
 have G : Go p e below s 1 4 (Qsb Z b n_ zc h0 n0) (s₁.setTop (mkF m 0 #[.val (.ref b), .val (.int (Int32.ofNat n_))] [])) := by
  refine Go.s (XS.aloadN X0.here hx rfl (hb hby dsb_0) rfl rfl) ?_
  refine Go.s (XS.iloadN X0.here hx rfl (hb hby dsb_1) rfl) ?_
  obtain ⟨_, _, ⟨T1, L1, k1, n1⟩, -, X1, ⟨Lc1, hQ1, l1, y1, z1⟩, st1⟩ := X0.specialBack hx (y := mN4) rfl hown (mvT hZ (own_w hw 64 rfl)) (mvT hZ (own_w hw 65 rfl)) (mvT hZ (own_w hw 69 rfl)) (by decide) (backOf (W := 0) (rmbi l Z a0 hw [] b n_ zc h0 n0 O0 E_b F_b_value F_b_coder F_b_count gb hl SC hcs) hZ (own_w hw 69 rfl) (own_w hw 68 rfl) (by decide) (by decide)) (g := (mkF m 2 #[.val (.ref b), .val (.int (Int32.ofNat n_))] [(.int (Int32.ofNat n_)), (.ref b)])) rfl (by rw [hml]; rfl) (Steps.refl _) (a := b) (argsL := [(.int (Int32.ofNat n_))]) (rest := []) (lenOf pdsb_0 rfl) rfl (by show 2 * 0 + _ ≤ _; exact Nat.le_of_eq rfl) (hb hby dsb_2) (fun _ _ => ⟨rfl, e0, (by decide : 0 + 1 ≤ _), (by decide : 0 + 4 ≤ _)⟩)
  dsimp only [Pt.U, Pt.locs, Pt.cells, Pt.slots] at X1 l1 y1 z1 st1 hQ1
  subst y1 z1
  obtain ⟨t, kt, rfl, Nc1, Kc1, gt, szt, NA, NB, NC, ND, NE, NF⟩ := hQ1
  have N1 : Fr n0 L1 := by rw [l1]; exact Fr.app N0 Nc1
  have g_t : n0 ≤ t := gt
  have sz_t : h0.size ≤ t := Nat.le_trans K0.1 szt
  have O1 := O0.keep Kc1 (allS gb all0)
  have K1 := K0.trans Kc1 (allS (Or.inl (List.mem_of_getElem? (i := 0) rfl)) all0)
  have E_b : Exa Z T1.heap b "java/lang/StringBuilder" := NA
  have F_b_value : Fld Z T1.heap b "java/lang/AbstractStringBuilder" "value" "[B" (.ref t) := NB
  have F_b_coder : Fld Z T1.heap b "java/lang/AbstractStringBuilder" "coder" "B" (.int 0) := NC
  have F_b_count : Fld Z T1.heap b "java/lang/AbstractStringBuilder" "count" "I" (.int (Int32.ofNat ([] : List Int32).length)) := ND
  have V_t : Arv Z T1.heap t kt .byte (Int32.ofNat n_) (oLat ([] : List Int32)) (.int 0) := NE
  have E_t : Exa Z T1.heap t "[B" := NF
  have ne_b_t : b ≠ t := Exa.neArv E_b V_t (own_w hw 59 rfl)
  refine Go.tr st1 ?_
  show Go p e below s _ _ _ (T1.setTop (mkF m 5 #[.val (.ref b), .val (.int (Int32.ofNat n_))] []))
  exact Go.ret X1 hlk (none) (fun _ => rfl) (by exact ⟨t, kt, rfl, N1, K1, g_t, sz_t, E_b, F_b_value, F_b_coder, F_b_count, V_t, E_t⟩) (by decide) (by decide) (fun fs hr => X1.returnOut hx Bd.returns (hb hby dsb_5) hr)
 obtain ⟨s2, o2, st2, r2⟩ := G
 exact ⟨s2, o2, castTop (efsb m b (Int32.ofNat n_)) st2, r2⟩
theorem dcf_0 : decode jdk_41_method_12_code 0 = .ok (.iload_n 0, 1) := by decide +kernel
theorem dcf_1 : decode jdk_41_method_12_code 1 = .ok (.ifCond .lt 13, 3) := by decide +kernel
theorem dcf_4 : decode jdk_41_method_12_code 4 = .ok (.iload_n 0, 1) := by decide +kernel
theorem dcf_5 : decode jdk_41_method_12_code 5 = .ok (.iload_n 1, 1) := by decide +kernel
theorem dcf_6 : decode jdk_41_method_12_code 6 = .ok (.if_icmp .gt 8, 3) := by decide +kernel
theorem dcf_9 : decode jdk_41_method_12_code 9 = .ok (.iload_n 1, 1) := by decide +kernel
theorem dcf_10 : decode jdk_41_method_12_code 10 = .ok (.iload_n 2, 1) := by decide +kernel
theorem dcf_11 : decode jdk_41_method_12_code 11 = .ok (.if_icmp .le 11, 3) := by decide +kernel
theorem dcf_22 : decode jdk_41_method_12_code 22 = .ok (.iload_n 0, 1) := by decide +kernel
theorem dcf_23 : decode jdk_41_method_12_code 23 = .ok (.ireturn, 1) := by decide +kernel
theorem pncf : plainName "jdk/internal/util/Preconditions" = true := by first | (simp [plainName, overriddenIn]; done) | decide +kernel
theorem efcf (m : MethodId) (x0 : Int32) (x1 : Int32) (x2 : Int32) (x3 : Value) (hr0 : Value.isRef x3 = true) : entryFrame m #[(.int x0), (.int x1), (.int x2), x3] 4 = mkF m 0 #[.val (.int x0), .val (.int x1), .val (.int x2), .val x3] [] := by rcases ref_cases hr0 with rfl | ⟨_, rfl⟩ <;> (first | (simp [entryFrame, mkF, argsToLocals, Value.category, maxLocals]; done) | rfl)
def Qcf (Z : State) (s_ : Nat) (n_ : Nat) (gm : Value) (h0 : Heap) (n0 : Nat) (v : Option Value) (h : Heap) (L : List Loc) : Prop := v = some (.int (Int32.ofNat s_)) ∧ Fr n0 L ∧ h = h0
theorem rmcf (l : Launch) (Z : State) (a0 : Array Value) (hw : ∀ d ∈ tables_1, d.before a0 Z = true) (ws : List Jvm.Cond) (s_ : Nat) (n_ : Nat) (gm : Value) (h0 : Heap) (n0 : Nat) (O0 : Old Z n0 h0) (hsl : s_ + n_ ≤ 4) (rg : gm.isRef = true) :
  MetFree l mN6 (head1 (Jvm.Cond.code mN6 jdk_41_method_12_code 4 (some .int) :: ws) ({ frames := 0, cells := 0, slots := 0, locals := 0 } : Room)) (fun A_ U_ => A_ = #[(.int (Int32.ofNat s_)), (.int (Int32.ofNat (s_ + n_))), (.int 4), gm] ∧ Z.Warmed39 U_.vm ∧ U_.heap = h0) (fun _ _ _ _ _ => True) (fun _ U o U' => ∃ v L, o = .returned v ∧ Qcf Z s_ n_ gm h0 n0 v U'.heap L ∧ FrameEnd U o U' L ({ frames := 0, cells := 0, slots := 0, locals := 0 } : Room).cells ({ frames := 0, cells := 0, slots := 0, locals := 0 } : Room).slots) := by
 refine MetFree.of_bodySF (plainFor_of_name pncf) hisR ?_
 intro p e s m args below meth cd s₁ Bd hml0 hP hK
 obtain ⟨rfl, hZ, hh⟩ := hP
 have hx := Bd.exec
 have hby := Bd.bytes
 have hlk : meth.locks = false := BodyLoose.notSynchronized Bd
 have hml : cd.maxLocals = 4 := hml0
 have hown : s.vm.findClass "jdk/internal/util/Preconditions" = some m.cls := findClass_of_methodNamed Bd.named
 have X0 : Stand p l e ({ frames := 0, cells := 0, slots := 0, locals := 0 } : Room) s m #[(.int (Int32.ofNat s_)), (.int (Int32.ofNat (s_ + n_))), (.int 4), gm] below meth cd s₁ [] 0 0 := Stand.of_body Bd
 have e0 : s₁.heap = h0 := by rw [← hh, Bd.state]; rfl
 have N0 := Fr.nil n0
 have G : Go p e below s 0 0 (Qcf Z s_ n_ gm h0 n0) (s₁.setTop (mkF m 0 #[.val (.int (Int32.ofNat s_)), .val (.int (Int32.ofNat (s_ + n_))), .val (.int 4), .val gm] [])) := by
  refine Go.s (XS.iloadN X0.here hx rfl (hb hby dcf_0) rfl) ?_
  refine Go.s (XS.ifNo X0.here hx rfl (hb hby dcf_1) rfl (XT.i0_lt_f (own_nn (by omega)))) ?_
  show Go p e below s _ _ _ (s₁.setTop (mkF m 4 #[.val (.int (Int32.ofNat s_)), .val (.int (Int32.ofNat (s_ + n_))), .val (.int 4), .val gm] []))
  refine Go.s (XS.iloadN X0.here hx rfl (hb hby dcf_4) rfl) ?_
  refine Go.s (XS.iloadN X0.here hx rfl (hb hby dcf_5) rfl) ?_
  refine Go.s (XS.icmpNo X0.here hx rfl (hb hby dcf_6) rfl (XT.ii_gt_f (by rw [own_nlt (by omega) (by omega)]; omega))) ?_
  show Go p e below s _ _ _ (s₁.setTop (mkF m 9 #[.val (.int (Int32.ofNat s_)), .val (.int (Int32.ofNat (s_ + n_))), .val (.int 4), .val gm] []))
  refine Go.s (XS.iloadN X0.here hx rfl (hb hby dcf_9) rfl) ?_
  refine Go.s (XS.iloadN X0.here hx rfl (hb hby dcf_10) rfl) ?_
  refine Go.s (XS.icmpYes X0.here hx rfl (pc0 := 11) (pc' := 22) rfl (hb hby dcf_11) rfl (XT.ii_le_t (by rw [own_4lt (by omega)]; omega)) (by decide) (by decide)) ?_
  show Go p e below s _ _ _ (s₁.setTop (mkF m 22 #[.val (.int (Int32.ofNat s_)), .val (.int (Int32.ofNat (s_ + n_))), .val (.int 4), .val gm] []))
  refine Go.s (XS.iloadN X0.here hx rfl (hb hby dcf_22) rfl) ?_
  exact Go.ret X0 hlk (some (.int (Int32.ofNat s_))) (fun h => by rw [Bd.returns] at h; cases h) (by rw [e0]; exact ⟨rfl, N0, rfl⟩) (by decide) (by decide) (fun fs hr => retI X0 hx Bd.returns (hb hby dcf_23) hr)
 obtain ⟨s2, o2, st2, r2⟩ := G
 exact ⟨s2, o2, castTop (efcf m (Int32.ofNat s_) (Int32.ofNat (s_ + n_)) (4 : Int32) gm rg) st2, r2⟩
theorem dmx_0 : decode jdk_29_method_65_code 0 = .ok (.iload_n 0, 1) := by decide +kernel
theorem dmx_1 : decode jdk_29_method_65_code 1 = .ok (.iload_n 1, 1) := by decide +kernel
theorem dmx_2 : decode jdk_29_method_65_code 2 = .ok (.if_icmp .lt 7, 3) := by decide +kernel
theorem dmx_5 : decode jdk_29_method_65_code 5 = .ok (.iload_n 0, 1) := by decide +kernel
theorem dmx_6 : decode jdk_29_method_65_code 6 = .ok (.goto 4, 3) := by decide +kernel
theorem dmx_9 : decode jdk_29_method_65_code 9 = .ok (.iload_n 1, 1) := by decide +kernel
theorem dmx_10 : decode jdk_29_method_65_code 10 = .ok (.ireturn, 1) := by decide +kernel
theorem efmx (m : MethodId) (x0 : Int32) (x1 : Int32) : entryFrame m #[(.int x0), (.int x1)] 2 = mkF m 0 #[.val (.int x0), .val (.int x1)] [] := by first | (simp [entryFrame, mkF, argsToLocals, Value.category, maxLocals]; done) | rfl
def fMx (p0 : Int32) (p1 : Int32) : Int32 := (if p0 < p1 then p1 else p0)
def Qmx (Z : State) (p0 : Int32) (p1 : Int32) (h0 : Heap) (n0 : Nat) (v : Option Value) (h : Heap) (L : List Loc) : Prop := v = some (.int (fMx p0 p1)) ∧ Fr n0 L ∧ h = h0
theorem rmmx (l : Launch) (Z : State) (a0 : Array Value) (hw : ∀ d ∈ tables_1, d.before a0 Z = true) (ws : List Jvm.Cond) (p0 : Int32) (p1 : Int32) (h0 : Heap) (n0 : Nat) (O0 : Old Z n0 h0)  :
  MetFree l mN7 (head1 (Jvm.Cond.code mN7 jdk_29_method_65_code 2 (some .int) :: ws) ({ frames := 0, cells := 0, slots := 0, locals := 0 } : Room)) (fun A_ U_ => A_ = #[(.int p0), (.int p1)] ∧ Z.Warmed39 U_.vm ∧ U_.heap = h0) (fun _ _ _ _ _ => True) (fun _ U o U' => ∃ v L, o = .returned v ∧ Qmx Z p0 p1 h0 n0 v U'.heap L ∧ FrameEnd U o U' L ({ frames := 0, cells := 0, slots := 0, locals := 0 } : Room).cells ({ frames := 0, cells := 0, slots := 0, locals := 0 } : Room).slots) := by
 refine MetFree.of_bodySF (by decide +kernel) hisR ?_
 intro p e s m args below meth cd s₁ Bd hml0 hP hK
 obtain ⟨rfl, hZ, hh⟩ := hP
 have hx := Bd.exec
 have hby := Bd.bytes
 have hlk : meth.locks = false := BodyLoose.notSynchronized Bd
 have hml : cd.maxLocals = 2 := hml0
 have hown : s.vm.findClass "java/lang/Math" = some m.cls := findClass_of_methodNamed Bd.named
 have X0 : Stand p l e ({ frames := 0, cells := 0, slots := 0, locals := 0 } : Room) s m #[(.int p0), (.int p1)] below meth cd s₁ [] 0 0 := Stand.of_body Bd
 have e0 : s₁.heap = h0 := by rw [← hh, Bd.state]; rfl
 have N0 := Fr.nil n0
 have G : Go p e below s 0 0 (Qmx Z p0 p1 h0 n0) (s₁.setTop (mkF m 0 #[.val (.int p0), .val (.int p1)] [])) := by
  refine Go.s (XS.iloadN X0.here hx rfl (hb hby dmx_0) rfl) ?_
  refine Go.s (XS.iloadN X0.here hx rfl (hb hby dmx_1) rfl) ?_
  by_cases c2_1 : p0 < p1
  · refine Go.s (XS.icmpYes X0.here hx rfl (pc0 := 2) (pc' := 9) rfl (hb hby dmx_2) rfl (XT.ii_lt_t c2_1) (by decide) (by decide)) ?_
    show Go p e below s _ _ _ (s₁.setTop (mkF m 9 #[.val (.int p0), .val (.int p1)] []))
    refine Go.s (XS.iloadN X0.here hx rfl (hb hby dmx_9) rfl) ?_
    exact Go.ret X0 hlk (some (.int p1)) (fun h => by rw [Bd.returns] at h; cases h) (by rw [e0]; exact ⟨own_res (z' := p1) (by unfold fMx; rw [if_pos c2_1]) rfl, N0, rfl⟩) (by decide) (by decide) (fun fs hr => retI X0 hx Bd.returns (hb hby dmx_10) hr)
  · refine Go.s (XS.icmpNo X0.here hx rfl (hb hby dmx_2) rfl (XT.ii_lt_f c2_1)) ?_
    show Go p e below s _ _ _ (s₁.setTop (mkF m 5 #[.val (.int p0), .val (.int p1)] []))
    refine Go.s (XS.iloadN X0.here hx rfl (hb hby dmx_5) rfl) ?_
    refine Go.s (XS.goto X0.here hx rfl (pc0 := 6) (pc' := 10) rfl (hb hby dmx_6) (by decide) (by decide)) ?_
    exact Go.ret X0 hlk (some (.int p0)) (fun h => by rw [Bd.returns] at h; cases h) (by rw [e0]; exact ⟨own_res (z' := p0) (by unfold fMx; rw [if_neg c2_1]) rfl, N0, rfl⟩) (by decide) (by decide) (fun fs hr => retI X0 hx Bd.returns (hb hby dmx_10) hr)
 obtain ⟨s2, o2, st2, r2⟩ := G
 exact ⟨s2, o2, castTop (efmx m p0 p1) st2, r2⟩
theorem dmn_0 : decode jdk_29_method_69_code 0 = .ok (.iload_n 0, 1) := by decide +kernel
theorem dmn_1 : decode jdk_29_method_69_code 1 = .ok (.iload_n 1, 1) := by decide +kernel
theorem dmn_2 : decode jdk_29_method_69_code 2 = .ok (.if_icmp .gt 7, 3) := by decide +kernel
theorem dmn_5 : decode jdk_29_method_69_code 5 = .ok (.iload_n 0, 1) := by decide +kernel
theorem dmn_6 : decode jdk_29_method_69_code 6 = .ok (.goto 4, 3) := by decide +kernel
theorem dmn_9 : decode jdk_29_method_69_code 9 = .ok (.iload_n 1, 1) := by decide +kernel
theorem dmn_10 : decode jdk_29_method_69_code 10 = .ok (.ireturn, 1) := by decide +kernel
theorem efmn (m : MethodId) (x0 : Int32) (x1 : Int32) : entryFrame m #[(.int x0), (.int x1)] 2 = mkF m 0 #[.val (.int x0), .val (.int x1)] [] := by first | (simp [entryFrame, mkF, argsToLocals, Value.category, maxLocals]; done) | rfl
def fMn (p0 : Int32) (p1 : Int32) : Int32 := (if p1 < p0 then p1 else p0)
def Qmn (Z : State) (p0 : Int32) (p1 : Int32) (h0 : Heap) (n0 : Nat) (v : Option Value) (h : Heap) (L : List Loc) : Prop := v = some (.int (fMn p0 p1)) ∧ Fr n0 L ∧ h = h0
theorem rmmn (l : Launch) (Z : State) (a0 : Array Value) (hw : ∀ d ∈ tables_1, d.before a0 Z = true) (ws : List Jvm.Cond) (p0 : Int32) (p1 : Int32) (h0 : Heap) (n0 : Nat) (O0 : Old Z n0 h0)  :
  MetFree l mN8 (head1 (Jvm.Cond.code mN8 jdk_29_method_69_code 2 (some .int) :: ws) ({ frames := 0, cells := 0, slots := 0, locals := 0 } : Room)) (fun A_ U_ => A_ = #[(.int p0), (.int p1)] ∧ Z.Warmed39 U_.vm ∧ U_.heap = h0) (fun _ _ _ _ _ => True) (fun _ U o U' => ∃ v L, o = .returned v ∧ Qmn Z p0 p1 h0 n0 v U'.heap L ∧ FrameEnd U o U' L ({ frames := 0, cells := 0, slots := 0, locals := 0 } : Room).cells ({ frames := 0, cells := 0, slots := 0, locals := 0 } : Room).slots) := by
 refine MetFree.of_bodySF (by decide +kernel) hisR ?_
 intro p e s m args below meth cd s₁ Bd hml0 hP hK
 obtain ⟨rfl, hZ, hh⟩ := hP
 have hx := Bd.exec
 have hby := Bd.bytes
 have hlk : meth.locks = false := BodyLoose.notSynchronized Bd
 have hml : cd.maxLocals = 2 := hml0
 have hown : s.vm.findClass "java/lang/Math" = some m.cls := findClass_of_methodNamed Bd.named
 have X0 : Stand p l e ({ frames := 0, cells := 0, slots := 0, locals := 0 } : Room) s m #[(.int p0), (.int p1)] below meth cd s₁ [] 0 0 := Stand.of_body Bd
 have e0 : s₁.heap = h0 := by rw [← hh, Bd.state]; rfl
 have N0 := Fr.nil n0
 have G : Go p e below s 0 0 (Qmn Z p0 p1 h0 n0) (s₁.setTop (mkF m 0 #[.val (.int p0), .val (.int p1)] [])) := by
  refine Go.s (XS.iloadN X0.here hx rfl (hb hby dmn_0) rfl) ?_
  refine Go.s (XS.iloadN X0.here hx rfl (hb hby dmn_1) rfl) ?_
  by_cases c2_1 : p1 < p0
  · refine Go.s (XS.icmpYes X0.here hx rfl (pc0 := 2) (pc' := 9) rfl (hb hby dmn_2) rfl (XT.ii_gt_t c2_1) (by decide) (by decide)) ?_
    show Go p e below s _ _ _ (s₁.setTop (mkF m 9 #[.val (.int p0), .val (.int p1)] []))
    refine Go.s (XS.iloadN X0.here hx rfl (hb hby dmn_9) rfl) ?_
    exact Go.ret X0 hlk (some (.int p1)) (fun h => by rw [Bd.returns] at h; cases h) (by rw [e0]; exact ⟨own_res (z' := p1) (by unfold fMn; rw [if_pos c2_1]) rfl, N0, rfl⟩) (by decide) (by decide) (fun fs hr => retI X0 hx Bd.returns (hb hby dmn_10) hr)
  · refine Go.s (XS.icmpNo X0.here hx rfl (hb hby dmn_2) rfl (XT.ii_gt_f c2_1)) ?_
    show Go p e below s _ _ _ (s₁.setTop (mkF m 5 #[.val (.int p0), .val (.int p1)] []))
    refine Go.s (XS.iloadN X0.here hx rfl (hb hby dmn_5) rfl) ?_
    refine Go.s (XS.goto X0.here hx rfl (pc0 := 6) (pc' := 10) rfl (hb hby dmn_6) (by decide) (by decide)) ?_
    exact Go.ret X0 hlk (some (.int p0)) (fun h => by rw [Bd.returns] at h; cases h) (by rw [e0]; exact ⟨own_res (z' := p0) (by unfold fMn; rw [if_neg c2_1]) rfl, N0, rfl⟩) (by decide) (by decide) (fun fs hr => retI X0 hx Bd.returns (hb hby dmn_10) hr)
 obtain ⟨s2, o2, st2, r2⟩ := G
 exact ⟨s2, o2, castTop (efmn m p0 p1) st2, r2⟩
theorem own_capD : ∀ N < 17, ∀ m < 9, N < m → (Int32.ofNat N + fMx (Int32.ofNat m - Int32.ofNat N) (Int32.ofNat N + (2 : Int32)) = Int32.ofNat (N + max (m - N) (N + 2))) := by decide +kernel
theorem own_capP : ∀ N < 17, ∀ m < 9, N < m → ((0 : Int32) < Int32.ofNat N + fMx (Int32.ofNat m - Int32.ofNat N) (Int32.ofNat N + (2 : Int32)) ∧ ¬ (2147483639 : Int32) < Int32.ofNat N + fMx (Int32.ofNat m - Int32.ofNat N) (Int32.ofNat N + (2 : Int32))) := by decide +kernel
theorem own_capM : ∀ N < 17, ∀ m < 9, N < m → ¬ Int32.ofNat (N + max (m - N) (N + 2)) = (2147483647 : Int32) := by decide +kernel
theorem own_dlt : ∀ N < 17, ∀ m < 9, (0 : Int32) < Int32.ofNat m - Int32.ofNat N → N < m := by decide +kernel
theorem own_dge : ∀ N < 17, ∀ m < 9, ¬ (0 : Int32) < Int32.ofNat m - Int32.ofNat N → m ≤ N := by decide +kernel
theorem own_mn {a b : Nat} (h : a ≤ b) (hb : b < 2147483648) : fMn (Int32.ofNat a) (Int32.ofNat b) = Int32.ofNat a := by
  unfold fMn
  rw [if_neg (by rw [own_nlt hb (by omega)]; omega)]
theorem own_mn2 {a b : Nat} (h : b ≤ a) (ha : a < 2147483648) : fMn (Int32.ofNat a) (Int32.ofNat b) = Int32.ofNat b := by
  unfold fMn
  by_cases q : b = a
  · rw [q, ite_self]
  · rw [if_pos (by rw [own_nlt (by omega) ha]; omega)]
theorem dnl_0 : decode jdk_48_method_27_code 0 = .ok (.iload_n 0, 1) := by decide +kernel
theorem dnl_1 : decode jdk_48_method_27_code 1 = .ok (.iload_n 1, 1) := by decide +kernel
theorem dnl_2 : decode jdk_48_method_27_code 2 = .ok (.iload_n 2, 1) := by decide +kernel
theorem dnl_3 : decode jdk_48_method_27_code 3 = .ok (.invokestatic 194, 3) := by decide +kernel
theorem dnl_6 : decode jdk_48_method_27_code 6 = .ok (.iadd, 1) := by decide +kernel
theorem dnl_7 : decode jdk_48_method_27_code 7 = .ok (.istore_n 3, 1) := by decide +kernel
theorem dnl_8 : decode jdk_48_method_27_code 8 = .ok (.iconst 0, 1) := by decide +kernel
theorem dnl_9 : decode jdk_48_method_27_code 9 = .ok (.iload_n 3, 1) := by decide +kernel
theorem dnl_10 : decode jdk_48_method_27_code 10 = .ok (.if_icmp .ge 11, 3) := by decide +kernel
theorem dnl_13 : decode jdk_48_method_27_code 13 = .ok (.iload_n 3, 1) := by decide +kernel
theorem dnl_14 : decode jdk_48_method_27_code 14 = .ok (.ldc 200, 2) := by decide +kernel
theorem dnl_16 : decode jdk_48_method_27_code 16 = .ok (.if_icmp .gt 5, 3) := by decide +kernel
theorem dnl_19 : decode jdk_48_method_27_code 19 = .ok (.iload_n 3, 1) := by decide +kernel
theorem dnl_20 : decode jdk_48_method_27_code 20 = .ok (.ireturn, 1) := by decide +kernel
theorem pdnl_0 : parseMethodDescriptor "(II)I" = some ⟨[.int, .int], some .int⟩ := by decide +kernel
theorem pnnl : plainName "jdk/internal/util/ArraysSupport" = true := by first | (simp [plainName, overriddenIn]; done) | decide +kernel
theorem efnl (m : MethodId) (x0 : Int32) (x1 : Int32) (x2 : Int32) : entryFrame m #[(.int x0), (.int x1), (.int x2)] 4 = mkF m 0 #[.val (.int x0), .val (.int x1), .val (.int x2), .unset] [] := by first | (simp [entryFrame, mkF, argsToLocals, Value.category, maxLocals]; done) | rfl
def Qnl (Z : State) (a : Int32) (b : Int32) (c : Int32) (h0 : Heap) (n0 : Nat) (v : Option Value) (h : Heap) (L : List Loc) : Prop := v = some (.int (a + fMx b c)) ∧ Fr n0 L ∧ h = h0
theorem rmnl (l : Launch) (Z : State) (a0 : Array Value) (hw : ∀ d ∈ tables_1, d.before a0 Z = true) (ws : List Jvm.Cond) (a : Int32) (b : Int32) (c : Int32) (h0 : Heap) (n0 : Nat) (O0 : Old Z n0 h0) (hp : (0 : Int32) < a + fMx b c) (hq : ¬ (2147483639 : Int32) < a + fMx b c) :
  MetFree l mN9 (head1 (Jvm.Cond.code mN9 jdk_48_method_27_code 4 (some .int) :: ws) ({ frames := 1, cells := 0, slots := 0, locals := 14 } : Room)) (fun A_ U_ => A_ = #[(.int a), (.int b), (.int c)] ∧ Z.Warmed39 U_.vm ∧ U_.heap = h0) (fun _ _ _ _ _ => True) (fun _ U o U' => ∃ v L, o = .returned v ∧ Qnl Z a b c h0 n0 v U'.heap L ∧ FrameEnd U o U' L ({ frames := 1, cells := 0, slots := 0, locals := 14 } : Room).cells ({ frames := 1, cells := 0, slots := 0, locals := 14 } : Room).slots) := by
 refine MetFree.of_bodySF (plainFor_of_name pnnl) hisR ?_
 intro p e s m args below meth cd s₁ Bd hml0 hP hK
 obtain ⟨rfl, hZ, hh⟩ := hP
 have hx := Bd.exec
 have hby := Bd.bytes
 have hlk : meth.locks = false := BodyLoose.notSynchronized Bd
 have hml : cd.maxLocals = 4 := hml0
 have hown : s.vm.findClass "jdk/internal/util/ArraysSupport" = some m.cls := findClass_of_methodNamed Bd.named
 have X0 : Stand p l e ({ frames := 1, cells := 0, slots := 0, locals := 14 } : Room) s m #[(.int a), (.int b), (.int c)] below meth cd s₁ [] 0 0 := Stand.of_body Bd
 have e0 : s₁.heap = h0 := by rw [← hh, Bd.state]; rfl
 have N0 := Fr.nil n0
 have G : Go p e below s 0 0 (Qnl Z a b c h0 n0) (s₁.setTop (mkF m 0 #[.val (.int a), .val (.int b), .val (.int c), .unset] [])) := by
  refine Go.s (XS.iloadN X0.here hx rfl (hb hby dnl_0) rfl) ?_
  refine Go.s (XS.iloadN X0.here hx rfl (hb hby dnl_1) rfl) ?_
  refine Go.s (XS.iloadN X0.here hx rfl (hb hby dnl_2) rfl) ?_
  obtain ⟨_, _, ⟨T1, L1, k1, n1⟩, -, X1, ⟨Lc1, hQ1, l1, y1, z1⟩, st1⟩ := Jvm.LawKit.callS X0 hx (y := mN7) hown (mvT hZ (own_w hw 194 rfl)) (mvT hZ (own_w hw 195 rfl)) (mvT hZ (own_w hw 196 rfl)) (mvT hZ (own_w hw 197 rfl)) (by decide) (backOf (W := 1) (rmmx l Z a0 hw [] b c h0 n0 O0 ) hZ (own_w hw 197 rfl) (own_w hw 196 rfl) (by decide) (by decide)) (g := (mkF m 3 #[.val (.int a), .val (.int b), .val (.int c), .unset] [(.int c), (.int b), (.int a)])) rfl (by rw [hml]; rfl) (argsL := [(.int b), (.int c)]) (rest := [(.int a)]) (lenOf pdnl_0 rfl) rfl (by show 2 * 0 + _ ≤ _; exact Nat.le_of_eq rfl) (hb hby dnl_3) (fun _ _ => ⟨rfl, e0, (by decide : 0 + 0 ≤ _), (by decide : 0 + 0 ≤ _)⟩)
  dsimp only [Pt.U, Pt.locs, Pt.cells, Pt.slots] at X1 l1 y1 z1 st1 hQ1
  subst y1 z1
  obtain ⟨rfl, Nc1, e1⟩ := hQ1
  have N1 : Fr n0 L1 := by rw [l1]; exact Fr.app N0 Nc1
  refine Go.st st1 ?_
  show Go p e below s _ _ _ (T1.setTop (mkF m 6 #[.val (.int a), .val (.int b), .val (.int c), .unset] [(.int (fMx b c)), (.int a)]))
  refine Go.s (XS.iadd X1.here hx rfl (hb hby dnl_6) rfl) ?_
  show Go p e below s _ _ _ (T1.setTop (mkF m 7 #[.val (.int a), .val (.int b), .val (.int c), .unset] [(.int (a + (fMx b c)))]))
  refine Go.s (XS.istoreN X1.here hx rfl (hb hby dnl_7) rfl (l' := #[.val (.int a), .val (.int b), .val (.int c), .val (.int (a + (fMx b c)))]) rfl) ?_
  refine Go.s (XS.iconst X1.here hx rfl (hb hby dnl_8)) ?_
  refine Go.s (XS.iloadN X1.here hx rfl (hb hby dnl_9) rfl) ?_
  refine Go.s (XS.icmpNo X1.here hx rfl (hb hby dnl_10) rfl (XT.ii_ge_f hp)) ?_
  show Go p e below s _ _ _ (T1.setTop (mkF m 13 #[.val (.int a), .val (.int b), .val (.int c), .val (.int (a + (fMx b c)))] []))
  refine Go.s (XS.iloadN X1.here hx rfl (hb hby dnl_13) rfl) ?_
  refine Go.s (X1.ldcI hx hown (mvT hZ (own_w hw 198 rfl)) rfl (hb hby dnl_14)) ?_
  show Go p e below s _ _ _ (T1.setTop (mkF m 16 #[.val (.int a), .val (.int b), .val (.int c), .val (.int (a + (fMx b c)))] [(.int 2147483639), (.int (a + (fMx b c)))]))
  refine Go.s (XS.icmpNo X1.here hx rfl (hb hby dnl_16) rfl (XT.ii_gt_f hq)) ?_
  show Go p e below s _ _ _ (T1.setTop (mkF m 19 #[.val (.int a), .val (.int b), .val (.int c), .val (.int (a + (fMx b c)))] []))
  refine Go.s (XS.iloadN X1.here hx rfl (hb hby dnl_19) rfl) ?_
  exact Go.ret X1 hlk (some (.int (a + (fMx b c)))) (fun h => by rw [Bd.returns] at h; cases h) (by rw [e1]; exact ⟨rfl, N1, rfl⟩) (by decide) (by decide) (fun fs hr => retI X1 hx Bd.returns (hb hby dnl_20) hr)
 obtain ⟨s2, o2, st2, r2⟩ := G
 exact ⟨s2, o2, castTop (efnl m a b c) st2, r2⟩
theorem dnc_0 : decode jdk_68_method_10_code 0 = .ok (.aload_n 0, 1) := by decide +kernel
theorem dnc_1 : decode jdk_68_method_10_code 1 = .ok (.getfield 15, 3) := by decide +kernel
theorem dnc_4 : decode jdk_68_method_10_code 4 = .ok (.arraylength, 1) := by decide +kernel
theorem dnc_5 : decode jdk_68_method_10_code 5 = .ok (.istore_n 2, 1) := by decide +kernel
theorem dnc_6 : decode jdk_68_method_10_code 6 = .ok (.iload_n 1, 1) := by decide +kernel
theorem dnc_7 : decode jdk_68_method_10_code 7 = .ok (.aload_n 0, 1) := by decide +kernel
theorem dnc_8 : decode jdk_68_method_10_code 8 = .ok (.getfield 22, 3) := by decide +kernel
theorem dnc_11 : decode jdk_68_method_10_code 11 = .ok (.ishl, 1) := by decide +kernel
theorem dnc_12 : decode jdk_68_method_10_code 12 = .ok (.istore_n 3, 1) := by decide +kernel
theorem dnc_13 : decode jdk_68_method_10_code 13 = .ok (.iload_n 3, 1) := by decide +kernel
theorem dnc_14 : decode jdk_68_method_10_code 14 = .ok (.iload_n 2, 1) := by decide +kernel
theorem dnc_15 : decode jdk_68_method_10_code 15 = .ok (.isub, 1) := by decide +kernel
theorem dnc_16 : decode jdk_68_method_10_code 16 = .ok (.istore 4, 2) := by decide +kernel
theorem dnc_18 : decode jdk_68_method_10_code 18 = .ok (.iload_n 2, 1) := by decide +kernel
theorem dnc_19 : decode jdk_68_method_10_code 19 = .ok (.iload 4, 2) := by decide +kernel
theorem dnc_21 : decode jdk_68_method_10_code 21 = .ok (.iload_n 2, 1) := by decide +kernel
theorem dnc_22 : decode jdk_68_method_10_code 22 = .ok (.iconst 2, 1) := by decide +kernel
theorem dnc_23 : decode jdk_68_method_10_code 23 = .ok (.aload_n 0, 1) := by decide +kernel
theorem dnc_24 : decode jdk_68_method_10_code 24 = .ok (.getfield 22, 3) := by decide +kernel
theorem dnc_27 : decode jdk_68_method_10_code 27 = .ok (.ishl, 1) := by decide +kernel
theorem dnc_28 : decode jdk_68_method_10_code 28 = .ok (.iadd, 1) := by decide +kernel
theorem dnc_29 : decode jdk_68_method_10_code 29 = .ok (.invokestatic 114, 3) := by decide +kernel
theorem dnc_32 : decode jdk_68_method_10_code 32 = .ok (.istore 5, 2) := by decide +kernel
theorem dnc_34 : decode jdk_68_method_10_code 34 = .ok (.iload 5, 2) := by decide +kernel
theorem dnc_36 : decode jdk_68_method_10_code 36 = .ok (.ldc 39, 2) := by decide +kernel
theorem dnc_38 : decode jdk_68_method_10_code 38 = .ok (.if_icmp .ne 13, 3) := by decide +kernel
theorem dnc_51 : decode jdk_68_method_10_code 51 = .ok (.iload 5, 2) := by decide +kernel
theorem dnc_53 : decode jdk_68_method_10_code 53 = .ok (.aload_n 0, 1) := by decide +kernel
theorem dnc_54 : decode jdk_68_method_10_code 54 = .ok (.getfield 22, 3) := by decide +kernel
theorem dnc_57 : decode jdk_68_method_10_code 57 = .ok (.ishr, 1) := by decide +kernel
theorem dnc_58 : decode jdk_68_method_10_code 58 = .ok (.ireturn, 1) := by decide +kernel
theorem pdnc_0 : parseMethodDescriptor "(III)I" = some ⟨[.int, .int, .int], some .int⟩ := by decide +kernel
theorem pnnc : plainName "java/lang/AbstractStringBuilder" = true := by first | (simp [plainName, overriddenIn]; done) | decide +kernel
theorem efnc (m : MethodId) (x0 : Addr) (x1 : Int32) : entryFrame m #[(.ref x0), (.int x1)] 6 = mkF m 0 #[.val (.ref x0), .val (.int x1), .unset, .unset, .unset, .unset] [] := by first | (simp [entryFrame, mkF, argsToLocals, Value.category, maxLocals]; done) | rfl
def Qnc (Z : State) (b : Addr) (t : Addr) (kt : ClassId) (N : Nat) (m_ : Nat) (cs : List Int32) (h0 : Heap) (n0 : Nat) (v : Option Value) (h : Heap) (L : List Loc) : Prop := v = some (.int (Int32.ofNat (N + max (m_ - N) (N + 2)))) ∧ Fr n0 L ∧ h = h0
theorem rmnc (l : Launch) (Z : State) (a0 : Array Value) (hw : ∀ d ∈ tables_1, d.before a0 Z = true) (ws : List Jvm.Cond) (b : Addr) (t : Addr) (kt : ClassId) (N : Nat) (m_ : Nat) (cs : List Int32) (h0 : Heap) (n0 : Nat) (O0 : Old Z n0 h0) (E_b : Exa Z h0 b "java/lang/StringBuilder") (F_b_value : Fld Z h0 b "java/lang/AbstractStringBuilder" "value" "[B" (.ref t)) (F_b_coder : Fld Z h0 b "java/lang/AbstractStringBuilder" "coder" "B" (.int 0)) (V_t : Arv Z h0 t kt .byte (Int32.ofNat N) (oLat cs) (.int 0)) (hNm : N < m_) (hm : m_ ≤ 8) :
  MetFree l mN10 (head1 (Jvm.Cond.code mN10 jdk_68_method_10_code 6 (some .int) :: ws) ({ frames := 2, cells := 0, slots := 0, locals := 29 } : Room)) (fun A_ U_ => A_ = #[(.ref b), (.int (Int32.ofNat m_))] ∧ Z.Warmed39 U_.vm ∧ U_.heap = h0) (fun _ _ _ _ _ => True) (fun _ U o U' => ∃ v L, o = .returned v ∧ Qnc Z b t kt N m_ cs h0 n0 v U'.heap L ∧ FrameEnd U o U' L ({ frames := 2, cells := 0, slots := 0, locals := 29 } : Room).cells ({ frames := 2, cells := 0, slots := 0, locals := 29 } : Room).slots) := by
 refine MetFree.of_bodySF (plainFor_of_name pnnc) hisR ?_
 intro p e s m args below meth cd s₁ Bd hml0 hP hK
 obtain ⟨rfl, hZ, hh⟩ := hP
 have hx := Bd.exec
 have hby := Bd.bytes
 have hlk : meth.locks = false := BodyLoose.notSynchronized Bd
 have hml : cd.maxLocals = 6 := hml0
 have hown : s.vm.findClass "java/lang/AbstractStringBuilder" = some m.cls := findClass_of_methodNamed Bd.named
 have X0 : Stand p l e ({ frames := 2, cells := 0, slots := 0, locals := 29 } : Room) s m #[(.ref b), (.int (Int32.ofNat m_))] below meth cd s₁ [] 0 0 := Stand.of_body Bd
 have e0 : s₁.heap = h0 := by rw [← hh, Bd.state]; rfl
 have N0 := Fr.nil n0
 have G : Go p e below s 0 0 (Qnc Z b t kt N m_ cs h0 n0) (s₁.setTop (mkF m 0 #[.val (.ref b), .val (.int (Int32.ofNat m_)), .unset, .unset, .unset, .unset] [])) := by
  refine Go.s (XS.aloadN X0.here hx rfl (hb hby dnc_0) rfl rfl) ?_
  obtain ⟨T1, X1, e1, st1⟩ := getF X0 hx hZ hown (host := "") (Or.inl (own_w hw 72 rfl)) Via.refl e0 F_b_value (g := (mkF m 1 #[.val (.ref b), .val (.int (Int32.ofNat m_)), .unset, .unset, .unset, .unset] [(.ref b)])) rfl rfl (hb hby dnc_1)
  refine Go.st st1 ?_
  show Go p e below s _ _ _ (T1.setTop (mkF m 4 #[.val (.ref b), .val (.int (Int32.ofNat m_)), .unset, .unset, .unset, .unset] [(.ref t)]))
  refine Go.s (own_len X1 hx hZ e1 V_t (g := (mkF m 4 #[.val (.ref b), .val (.int (Int32.ofNat m_)), .unset, .unset, .unset, .unset] [(.ref t)])) rfl rfl (hb hby dnc_4) _) ?_
  show Go p e below s _ _ _ (T1.setTop (mkF m 5 #[.val (.ref b), .val (.int (Int32.ofNat m_)), .unset, .unset, .unset, .unset] [(.int (Int32.ofNat N))]))
  refine Go.s (XS.istoreN X1.here hx rfl (hb hby dnc_5) rfl (l' := #[.val (.ref b), .val (.int (Int32.ofNat m_)), .val (.int (Int32.ofNat N)), .unset, .unset, .unset]) rfl) ?_
  refine Go.s (XS.iloadN X1.here hx rfl (hb hby dnc_6) rfl) ?_
  refine Go.s (XS.aloadN X1.here hx rfl (hb hby dnc_7) rfl rfl) ?_
  obtain ⟨T2, X2, e2, st2⟩ := getF X1 hx hZ hown (host := "") (Or.inl (own_w hw 74 rfl)) Via.refl e1 F_b_coder (g := (mkF m 8 #[.val (.ref b), .val (.int (Int32.ofNat m_)), .val (.int (Int32.ofNat N)), .unset, .unset, .unset] [(.ref b), (.int (Int32.ofNat m_))])) rfl rfl (hb hby dnc_8)
  refine Go.st st2 ?_
  show Go p e below s _ _ _ (T2.setTop (mkF m 11 #[.val (.ref b), .val (.int (Int32.ofNat m_)), .val (.int (Int32.ofNat N)), .unset, .unset, .unset] [(.int 0), (.int (Int32.ofNat m_))]))
  refine Go.s (XT.ishl X2.here hx rfl (hb hby dnc_11) rfl) ?_
  show Go p e below s _ _ _ (T2.setTop (mkF m 12 #[.val (.ref b), .val (.int (Int32.ofNat m_)), .val (.int (Int32.ofNat N)), .unset, .unset, .unset] [(.int ((Int32.ofNat m_) <<< ((0 : Int32) &&& 31)))]))
  rw [own_shl0]
  show Go p e below s _ _ _ (T2.setTop (mkF m 12 #[.val (.ref b), .val (.int (Int32.ofNat m_)), .val (.int (Int32.ofNat N)), .unset, .unset, .unset] [(.int (Int32.ofNat m_))]))
  refine Go.s (XS.istoreN X2.here hx rfl (hb hby dnc_12) rfl (l' := #[.val (.ref b), .val (.int (Int32.ofNat m_)), .val (.int (Int32.ofNat N)), .val (.int (Int32.ofNat m_)), .unset, .unset]) rfl) ?_
  refine Go.s (XS.iloadN X2.here hx rfl (hb hby dnc_13) rfl) ?_
  refine Go.s (XS.iloadN X2.here hx rfl (hb hby dnc_14) rfl) ?_
  refine Go.s (XS.isub X2.here hx rfl (hb hby dnc_15) rfl) ?_
  show Go p e below s _ _ _ (T2.setTop (mkF m 16 #[.val (.ref b), .val (.int (Int32.ofNat m_)), .val (.int (Int32.ofNat N)), .val (.int (Int32.ofNat m_)), .unset, .unset] [(.int ((Int32.ofNat m_) - (Int32.ofNat N)))]))
  refine Go.s (XS.istore X2.here hx rfl (hb hby dnc_16) rfl (l' := #[.val (.ref b), .val (.int (Int32.ofNat m_)), .val (.int (Int32.ofNat N)), .val (.int (Int32.ofNat m_)), .val (.int ((Int32.ofNat m_) - (Int32.ofNat N))), .unset]) rfl) ?_
  refine Go.s (XS.iloadN X2.here hx rfl (hb hby dnc_18) rfl) ?_
  refine Go.s (XS.iload X2.here hx rfl (hb hby dnc_19) rfl) ?_
  refine Go.s (XS.iloadN X2.here hx rfl (hb hby dnc_21) rfl) ?_
  refine Go.s (XS.iconst X2.here hx rfl (hb hby dnc_22)) ?_
  refine Go.s (XS.aloadN X2.here hx rfl (hb hby dnc_23) rfl rfl) ?_
  obtain ⟨T3, X3, e3, st3⟩ := getF X2 hx hZ hown (host := "") (Or.inl (own_w hw 74 rfl)) Via.refl e2 F_b_coder (g := (mkF m 24 #[.val (.ref b), .val (.int (Int32.ofNat m_)), .val (.int (Int32.ofNat N)), .val (.int (Int32.ofNat m_)), .val (.int ((Int32.ofNat m_) - (Int32.ofNat N))), .unset] [(.ref b), (.int 2), (.int (Int32.ofNat N)), (.int ((Int32.ofNat m_) - (Int32.ofNat N))), (.int (Int32.ofNat N))])) rfl rfl (hb hby dnc_24)
  refine Go.st st3 ?_
  show Go p e below s _ _ _ (T3.setTop (mkF m 27 #[.val (.ref b), .val (.int (Int32.ofNat m_)), .val (.int (Int32.ofNat N)), .val (.int (Int32.ofNat m_)), .val (.int ((Int32.ofNat m_) - (Int32.ofNat N))), .unset] [(.int 0), (.int 2), (.int (Int32.ofNat N)), (.int ((Int32.ofNat m_) - (Int32.ofNat N))), (.int (Int32.ofNat N))]))
  refine Go.s (XT.ishl X3.here hx rfl (hb hby dnc_27) rfl) ?_
  show Go p e below s _ _ _ (T3.setTop (mkF m 28 #[.val (.ref b), .val (.int (Int32.ofNat m_)), .val (.int (Int32.ofNat N)), .val (.int (Int32.ofNat m_)), .val (.int ((Int32.ofNat m_) - (Int32.ofNat N))), .unset] [(.int 2), (.int (Int32.ofNat N)), (.int ((Int32.ofNat m_) - (Int32.ofNat N))), (.int (Int32.ofNat N))]))
  refine Go.s (XS.iadd X3.here hx rfl (hb hby dnc_28) rfl) ?_
  show Go p e below s _ _ _ (T3.setTop (mkF m 29 #[.val (.ref b), .val (.int (Int32.ofNat m_)), .val (.int (Int32.ofNat N)), .val (.int (Int32.ofNat m_)), .val (.int ((Int32.ofNat m_) - (Int32.ofNat N))), .unset] [(.int ((Int32.ofNat N) + (2 : Int32))), (.int ((Int32.ofNat m_) - (Int32.ofNat N))), (.int (Int32.ofNat N))]))
  obtain ⟨v4, _, ⟨T4, L4, k4, n4⟩, -, X4, ⟨Lc4, hQ4, l4, y4, z4⟩, st4⟩ := Jvm.LawKit.callS X3 hx (y := mN9) hown (mvT hZ (own_w hw 190 rfl)) (mvT hZ (own_w hw 191 rfl)) (mvT hZ (own_w hw 192 rfl)) (mvT hZ (own_w hw 193 rfl)) (by decide) (backOf (W := 0) (rmnl l Z a0 hw [] (Int32.ofNat N) ((Int32.ofNat m_) - (Int32.ofNat N)) ((Int32.ofNat N) + (2 : Int32)) h0 n0 O0 (own_capP N (by omega) m_ (by omega) hNm).1 (own_capP N (by omega) m_ (by omega) hNm).2) hZ (own_w hw 193 rfl) (own_w hw 192 rfl) (by decide) (by decide)) (g := (mkF m 29 #[.val (.ref b), .val (.int (Int32.ofNat m_)), .val (.int (Int32.ofNat N)), .val (.int (Int32.ofNat m_)), .val (.int ((Int32.ofNat m_) - (Int32.ofNat N))), .unset] [(.int ((Int32.ofNat N) + (2 : Int32))), (.int ((Int32.ofNat m_) - (Int32.ofNat N))), (.int (Int32.ofNat N))])) rfl (by rw [hml]; rfl) (argsL := [(.int (Int32.ofNat N)), (.int ((Int32.ofNat m_) - (Int32.ofNat N))), (.int ((Int32.ofNat N) + (2 : Int32)))]) (rest := []) (lenOf pdnc_0 rfl) rfl (by show 2 * 0 + _ ≤ _; exact Nat.le_of_eq rfl) (hb hby dnc_29) (fun _ _ => ⟨rfl, e3, (by decide : 0 + 0 ≤ _), (by decide : 0 + 0 ≤ _)⟩)
  dsimp only [Pt.U, Pt.locs, Pt.cells, Pt.slots] at X4 l4 y4 z4 st4 hQ4
  subst y4 z4
  obtain ⟨ev4, Nc4, e4⟩ := hQ4
  rw [own_capD N (by omega) m_ (by omega) hNm] at ev4
  subst ev4
  have N4 : Fr n0 L4 := by rw [l4]; exact Fr.app N0 Nc4
  refine Go.st st4 ?_
  show Go p e below s _ _ _ (T4.setTop (mkF m 32 #[.val (.ref b), .val (.int (Int32.ofNat m_)), .val (.int (Int32.ofNat N)), .val (.int (Int32.ofNat m_)), .val (.int ((Int32.ofNat m_) - (Int32.ofNat N))), .unset] [(.int (Int32.ofNat (N + max (m_ - N) (N + 2))))]))
  refine Go.s (XS.istore X4.here hx rfl (hb hby dnc_32) rfl (l' := #[.val (.ref b), .val (.int (Int32.ofNat m_)), .val (.int (Int32.ofNat N)), .val (.int (Int32.ofNat m_)), .val (.int ((Int32.ofNat m_) - (Int32.ofNat N))), .val (.int (Int32.ofNat (N + max (m_ - N) (N + 2))))]) rfl) ?_
  refine Go.s (XS.iload X4.here hx rfl (hb hby dnc_34) rfl) ?_
  refine Go.s (X4.ldcI hx hown (mvT hZ (own_w hw 199 rfl)) rfl (hb hby dnc_36)) ?_
  show Go p e below s _ _ _ (T4.setTop (mkF m 38 #[.val (.ref b), .val (.int (Int32.ofNat m_)), .val (.int (Int32.ofNat N)), .val (.int (Int32.ofNat m_)), .val (.int ((Int32.ofNat m_) - (Int32.ofNat N))), .val (.int (Int32.ofNat (N + max (m_ - N) (N + 2))))] [(.int 2147483647), (.int (Int32.ofNat (N + max (m_ - N) (N + 2))))]))
  refine Go.s (XS.icmpYes X4.here hx rfl (pc0 := 38) (pc' := 51) rfl (hb hby dnc_38) rfl (XT.ii_ne_t (own_capM N (by omega) m_ (by omega) hNm)) (by decide) (by decide)) ?_
  show Go p e below s _ _ _ (T4.setTop (mkF m 51 #[.val (.ref b), .val (.int (Int32.ofNat m_)), .val (.int (Int32.ofNat N)), .val (.int (Int32.ofNat m_)), .val (.int ((Int32.ofNat m_) - (Int32.ofNat N))), .val (.int (Int32.ofNat (N + max (m_ - N) (N + 2))))] []))
  refine Go.s (XS.iload X4.here hx rfl (hb hby dnc_51) rfl) ?_
  refine Go.s (XS.aloadN X4.here hx rfl (hb hby dnc_53) rfl rfl) ?_
  obtain ⟨T5, X5, e5, st5⟩ := getF X4 hx hZ hown (host := "") (Or.inl (own_w hw 74 rfl)) Via.refl e4 F_b_coder (g := (mkF m 54 #[.val (.ref b), .val (.int (Int32.ofNat m_)), .val (.int (Int32.ofNat N)), .val (.int (Int32.ofNat m_)), .val (.int ((Int32.ofNat m_) - (Int32.ofNat N))), .val (.int (Int32.ofNat (N + max (m_ - N) (N + 2))))] [(.ref b), (.int (Int32.ofNat (N + max (m_ - N) (N + 2))))])) rfl rfl (hb hby dnc_54)
  refine Go.st st5 ?_
  show Go p e below s _ _ _ (T5.setTop (mkF m 57 #[.val (.ref b), .val (.int (Int32.ofNat m_)), .val (.int (Int32.ofNat N)), .val (.int (Int32.ofNat m_)), .val (.int ((Int32.ofNat m_) - (Int32.ofNat N))), .val (.int (Int32.ofNat (N + max (m_ - N) (N + 2))))] [(.int 0), (.int (Int32.ofNat (N + max (m_ - N) (N + 2))))]))
  refine Go.s (XT.ishr X5.here hx rfl (hb hby dnc_57) rfl) ?_
  show Go p e below s _ _ _ (T5.setTop (mkF m 58 #[.val (.ref b), .val (.int (Int32.ofNat m_)), .val (.int (Int32.ofNat N)), .val (.int (Int32.ofNat m_)), .val (.int ((Int32.ofNat m_) - (Int32.ofNat N))), .val (.int (Int32.ofNat (N + max (m_ - N) (N + 2))))] [(.int ((Int32.ofNat (N + max (m_ - N) (N + 2))) >>> ((0 : Int32) &&& 31)))]))
  rw [own_shr0]
  show Go p e below s _ _ _ (T5.setTop (mkF m 58 #[.val (.ref b), .val (.int (Int32.ofNat m_)), .val (.int (Int32.ofNat N)), .val (.int (Int32.ofNat m_)), .val (.int ((Int32.ofNat m_) - (Int32.ofNat N))), .val (.int (Int32.ofNat (N + max (m_ - N) (N + 2))))] [(.int (Int32.ofNat (N + max (m_ - N) (N + 2))))]))
  exact Go.ret X5 hlk (some (.int (Int32.ofNat (N + max (m_ - N) (N + 2))))) (fun h => by rw [Bd.returns] at h; cases h) (by rw [e5]; exact ⟨rfl, N4, rfl⟩) (by decide) (by decide) (fun fs hr => retI X5 hx Bd.returns (hb hby dnc_58) hr)
 obtain ⟨s2, o2, st2, r2⟩ := G
 exact ⟨s2, o2, castTop (efnc m b (Int32.ofNat m_)) st2, r2⟩
theorem dcy_0 : decode jdk_65_method_121_code 0 = .ok (.iload_n 1, 1) := by decide +kernel
theorem dcy_1 : decode jdk_65_method_121_code 1 = .ok (.aload_n 0, 1) := by decide +kernel
theorem dcy_2 : decode jdk_65_method_121_code 2 = .ok (.arraylength, 1) := by decide +kernel
theorem dcy_3 : decode jdk_65_method_121_code 3 = .ok (.if_icmp .ne 11, 3) := by decide +kernel
theorem dcy_14 : decode jdk_65_method_121_code 14 = .ok (.iload_n 1, 1) := by decide +kernel
theorem dcy_15 : decode jdk_65_method_121_code 15 = .ok (.newarray .byte, 2) := by decide +kernel
theorem dcy_17 : decode jdk_65_method_121_code 17 = .ok (.astore_n 2, 1) := by decide +kernel
theorem dcy_18 : decode jdk_65_method_121_code 18 = .ok (.aload_n 0, 1) := by decide +kernel
theorem dcy_19 : decode jdk_65_method_121_code 19 = .ok (.iconst 0, 1) := by decide +kernel
theorem dcy_20 : decode jdk_65_method_121_code 20 = .ok (.aload_n 2, 1) := by decide +kernel
theorem dcy_21 : decode jdk_65_method_121_code 21 = .ok (.iconst 0, 1) := by decide +kernel
theorem dcy_22 : decode jdk_65_method_121_code 22 = .ok (.aload_n 0, 1) := by decide +kernel
theorem dcy_23 : decode jdk_65_method_121_code 23 = .ok (.arraylength, 1) := by decide +kernel
theorem dcy_24 : decode jdk_65_method_121_code 24 = .ok (.iload_n 1, 1) := by decide +kernel
theorem dcy_25 : decode jdk_65_method_121_code 25 = .ok (.invokestatic 304, 3) := by decide +kernel
theorem dcy_28 : decode jdk_65_method_121_code 28 = .ok (.invokestatic 150, 3) := by decide +kernel
theorem dcy_31 : decode jdk_65_method_121_code 31 = .ok (.aload_n 2, 1) := by decide +kernel
theorem dcy_32 : decode jdk_65_method_121_code 32 = .ok (.areturn, 1) := by decide +kernel
theorem pncy : plainName "java/util/Arrays" = true := by first | (simp [plainName, overriddenIn]; done) | decide +kernel
theorem efcy (m : MethodId) (x0 : Addr) (x1 : Int32) : entryFrame m #[(.ref x0), (.int x1)] 3 = mkF m 0 #[.val (.ref x0), .val (.int x1), .unset] [] := by first | (simp [entryFrame, mkF, argsToLocals, Value.category, maxLocals]; done) | rfl
def Qcy (Z : State) (t : Addr) (kt : ClassId) (N : Nat) (M : Nat) (cs : List Int32) (h0 : Heap) (n0 : Nat) (v : Option Value) (h : Heap) (L : List Loc) : Prop := ∃ (u : Addr) (ku : ClassId), v = some (.ref u) ∧ Fr n0 L ∧ Keep h0 h [] ∧ n0 ≤ u ∧ h0.size ≤ u ∧ Arv Z h u ku .byte (Int32.ofNat M) (oLat cs) (.int 0) ∧ Exa Z h u "[B"
theorem rmcy (l : Launch) (Z : State) (a0 : Array Value) (hw : ∀ d ∈ tables_1, d.before a0 Z = true) (ws : List Jvm.Cond) (t : Addr) (kt : ClassId) (N : Nat) (M : Nat) (cs : List Int32) (h0 : Heap) (n0 : Nat) (O0 : Old Z n0 h0) (V_t : Arv Z h0 t kt .byte (Int32.ofNat N) (oLat cs) (.int 0)) (hNM : N < M) (hM : M ≤ 16) (hc : cs.length ≤ N) :
  MetFree l mN11 (head1 (Jvm.Cond.code mN11 jdk_65_method_121_code 3 (some (.array .byte)) :: ws) ({ frames := 1, cells := 1, slots := 16, locals := 22 } : Room)) (fun A_ U_ => A_ = #[(.ref t), (.int (Int32.ofNat M))] ∧ Z.Warmed39 U_.vm ∧ U_.heap = h0) (fun _ _ _ _ _ => True) (fun _ U o U' => ∃ v L, o = .returned v ∧ Qcy Z t kt N M cs h0 n0 v U'.heap L ∧ FrameEnd U o U' L ({ frames := 1, cells := 1, slots := 16, locals := 22 } : Room).cells ({ frames := 1, cells := 1, slots := 16, locals := 22 } : Room).slots) := by
 refine MetFree.of_bodySF (plainFor_of_name pncy) hisR ?_
 intro p e s m args below meth cd s₁ Bd hml0 hP hK
 obtain ⟨rfl, hZ, hh⟩ := hP
 have hx := Bd.exec
 have hby := Bd.bytes
 have hlk : meth.locks = false := BodyLoose.notSynchronized Bd
 have hml : cd.maxLocals = 3 := hml0
 have hown : s.vm.findClass "java/util/Arrays" = some m.cls := findClass_of_methodNamed Bd.named
 have X0 : Stand p l e ({ frames := 1, cells := 1, slots := 16, locals := 22 } : Room) s m #[(.ref t), (.int (Int32.ofNat M))] below meth cd s₁ [] 0 0 := Stand.of_body Bd
 have e0 : s₁.heap = h0 := by rw [← hh, Bd.state]; rfl
 have N0 := Fr.nil n0
 have K0 : Keep h0 h0 [] := Keep.refl _ _
 have G : Go p e below s 1 16 (Qcy Z t kt N M cs h0 n0) (s₁.setTop (mkF m 0 #[.val (.ref t), .val (.int (Int32.ofNat M)), .unset] [])) := by
  refine Go.s (XS.iloadN X0.here hx rfl (hb hby dcy_0) rfl) ?_
  refine Go.s (XS.aloadN X0.here hx rfl (hb hby dcy_1) rfl rfl) ?_
  refine Go.s (own_len X0 hx hZ e0 V_t (g := (mkF m 2 #[.val (.ref t), .val (.int (Int32.ofNat M)), .unset] [(.ref t), (.int (Int32.ofNat M))])) rfl rfl (hb hby dcy_2) _) ?_
  show Go p e below s _ _ _ (s₁.setTop (mkF m 3 #[.val (.ref t), .val (.int (Int32.ofNat M)), .unset] [(.int (Int32.ofNat N)), (.int (Int32.ofNat M))]))
  refine Go.s (XS.icmpYes X0.here hx rfl (pc0 := 3) (pc' := 14) rfl (hb hby dcy_3) rfl (XT.ii_ne_t (by rw [own_neq (by omega) (by omega)]; omega)) (by decide) (by decide)) ?_
  show Go p e below s _ _ _ (s₁.setTop (mkF m 14 #[.val (.ref t), .val (.int (Int32.ofNat M)), .unset] []))
  refine Go.s (XS.iloadN X0.here hx rfl (hb hby dcy_14) rfl) ?_
  obtain ⟨T1, h1, k1, X1, e1, E1, A1, Ex1, st1⟩ := newPE X0 hx hZ (own_w hw 8 rfl) e0 (g := (mkF m 15 #[.val (.ref t), .val (.int (Int32.ofNat M)), .unset] [(.int (Int32.ofNat M))])) rfl (hb hby dcy_15) rfl (own_nn (by omega)) (cap := 16) (by rw [own_tn (by omega)]; omega) (by decide) (by decide) (by decide) (ad := "[B") (by decide)
  obtain ⟨b1, g1⟩ : ∃ z, z = h0.size := ⟨_, rfl⟩
  rw [← g1] at A1 Ex1 st1
  have g_b1 : n0 ≤ b1 := Nat.le_trans (own_old O0) (Nat.le_of_eq g1.symm)
  have sz_b1 : h0.size ≤ b1 := Nat.le_trans K0.1 (Nat.le_of_eq g1.symm)
  have ne_t_b1 : t ≠ b1 := by rw [g1]; exact Nat.ne_of_lt V_t.lt
  have V_t := V_t.ext E1
  have O1 := O0.ext E1
  have K1 := K0.ext E1
  have E_b1 : Exa Z h1 b1 "[B" := Ex1
  have V_b1 : Arv Z h1 b1 k1 .byte (Int32.ofNat M) [] (.int 0) := (Arv.new A1 (own_nn (by omega))).pad (pad_rep [] (.int 0) 0)
  refine Go.st st1 ?_
  show Go p e below s _ _ _ (T1.setTop (mkF m 17 #[.val (.ref t), .val (.int (Int32.ofNat M)), .unset] [(.ref b1)]))
  refine Go.s (XS.astoreN X1.here hx rfl (hb hby dcy_17) rfl rfl (l' := #[.val (.ref t), .val (.int (Int32.ofNat M)), .val (.ref b1)]) rfl) ?_
  refine Go.s (XS.aloadN X1.here hx rfl (hb hby dcy_18) rfl rfl) ?_
  refine Go.s (XS.iconst X1.here hx rfl (hb hby dcy_19)) ?_
  refine Go.s (XS.aloadN X1.here hx rfl (hb hby dcy_20) rfl rfl) ?_
  refine Go.s (XS.iconst X1.here hx rfl (hb hby dcy_21)) ?_
  refine Go.s (XS.aloadN X1.here hx rfl (hb hby dcy_22) rfl rfl) ?_
  refine Go.s (own_len X1 hx hZ e1 V_t (g := (mkF m 23 #[.val (.ref t), .val (.int (Int32.ofNat M)), .val (.ref b1)] [(.ref t), (.int 0), (.ref b1), (.int 0), (.ref t)])) rfl rfl (hb hby dcy_23) _) ?_
  show Go p e below s _ _ _ (T1.setTop (mkF m 24 #[.val (.ref t), .val (.int (Int32.ofNat M)), .val (.ref b1)] [(.int (Int32.ofNat N)), (.int 0), (.ref b1), (.int 0), (.ref t)]))
  refine Go.s (XS.iloadN X1.here hx rfl (hb hby dcy_24) rfl) ?_
  obtain ⟨_, _, ⟨T2, L2, k2, n2⟩, -, X2, ⟨Lc2, hQ2, l2, y2, z2⟩, st2⟩ := Jvm.LawKit.callS X1 hx (y := mN8) hown (mvT hZ (own_w hw 203 rfl)) (mvT hZ (own_w hw 204 rfl)) (mvT hZ (own_w hw 196 rfl)) (mvT hZ (own_w hw 205 rfl)) (by decide) (backOf (W := 4) (rmmn l Z a0 hw [] (Int32.ofNat N) (Int32.ofNat M) h1 n0 O1 ) hZ (own_w hw 205 rfl) (own_w hw 196 rfl) (by decide) (by decide)) (g := (mkF m 25 #[.val (.ref t), .val (.int (Int32.ofNat M)), .val (.ref b1)] [(.int (Int32.ofNat M)), (.int (Int32.ofNat N)), (.int 0), (.ref b1), (.int 0), (.ref t)])) rfl (by rw [hml]; rfl) (argsL := [(.int (Int32.ofNat N)), (.int (Int32.ofNat M))]) (rest := [(.int 0), (.ref b1), (.int 0), (.ref t)]) (lenOf pdnl_0 rfl) rfl (by show 2 * 0 + _ ≤ _; exact Nat.le_of_eq rfl) (hb hby dcy_25) (fun _ _ => ⟨rfl, e1, (by decide : 1 + 0 ≤ _), (by decide : 16 + 0 ≤ _)⟩)
  dsimp only [Pt.U, Pt.locs, Pt.cells, Pt.slots] at X2 l2 y2 z2 st2 hQ2
  subst y2 z2
  obtain ⟨rfl, Nc2, e2⟩ := hQ2
  have N2 : Fr n0 L2 := by rw [l2]; exact Fr.app N0 Nc2
  refine Go.st st2 ?_
  show Go p e below s _ _ _ (T2.setTop (mkF m 28 #[.val (.ref t), .val (.int (Int32.ofNat M)), .val (.ref b1)] [(.int (fMn (Int32.ofNat N) (Int32.ofNat M))), (.int 0), (.ref b1), (.int 0), (.ref t)]))
  rw [own_mn (by omega) (by omega)]
  show Go p e below s _ _ _ (T2.setTop (mkF m 28 #[.val (.ref t), .val (.int (Int32.ofNat M)), .val (.ref b1)] [(.int (Int32.ofNat N)), (.int 0), (.ref b1), (.int 0), (.ref t)]))
  obtain ⟨T3, h3, L3, X3, e3, N3, Kc3, V3, st3⟩ := own_cpS X2 hx hZ hown (own_w hw 206 rfl) (own_w hw 209 rfl) (own_w hw 207 rfl) (own_w hw 208 rfl) e2 V_t V_b1 (own_nn (by omega)) (Nat.le_refl _) (by rw [own_tn (by omega), own_tn (by omega)]; omega) (by rw [own_tn (by omega), oLat_len]; omega) N2 g_b1 (g := (mkF m 28 #[.val (.ref t), .val (.int (Int32.ofNat M)), .val (.ref b1)] [(.int (Int32.ofNat N)), (.int 0), (.ref b1), (.int 0), (.ref t)])) rfl (by rw [hml]; rfl) rfl (hb hby dcy_28) (by decide) (W := 0) (by show 2 * 0 + _ ≤ _; exact Nat.le_of_eq rfl) (by decide)
  have V_t := V_t.keep Kc3 (ninS ne_t_b1 nin0)
  have E_b1 := E_b1.keep Kc3
  have O3 := O1.keep Kc3 (allS g_b1 all0)
  have K3 := K1.trans Kc3 (allS (Or.inr sz_b1) all0)
  have V_b1 : Arv Z h3 b1 k1 .byte (Int32.ofNat M) (oLat cs) (.int 0) := V3
  refine Go.st st3 ?_
  show Go p e below s _ _ _ (T3.setTop (mkF m 31 #[.val (.ref t), .val (.int (Int32.ofNat M)), .val (.ref b1)] []))
  refine Go.s (XS.aloadN X3.here hx rfl (hb hby dcy_31) rfl rfl) ?_
  exact Go.ret X3 hlk (some (.ref b1)) (fun h => by rw [Bd.returns] at h; cases h) (by rw [e3]; exact ⟨b1, _, rfl, N3, K3, g_b1, sz_b1, V_b1, E_b1⟩) (by decide) (by decide) (fun fs hr => retOut X3 hx Bd.returns rfl (Or.inr (Or.inr (Or.inr (Or.inr ⟨rfl, rfl, rfl⟩)))) (hb hby dcy_32) hr)
 obtain ⟨s2, o2, st2, r2⟩ := G
 exact ⟨s2, o2, castTop (efcy m t (Int32.ofNat M)) st2, r2⟩
theorem den_0 : decode jdk_68_method_9_code 0 = .ok (.aload_n 0, 1) := by decide +kernel
theorem den_1 : decode jdk_68_method_9_code 1 = .ok (.getfield 15, 3) := by decide +kernel
theorem den_4 : decode jdk_68_method_9_code 4 = .ok (.arraylength, 1) := by decide +kernel
theorem den_5 : decode jdk_68_method_9_code 5 = .ok (.aload_n 0, 1) := by decide +kernel
theorem den_6 : decode jdk_68_method_9_code 6 = .ok (.getfield 22, 3) := by decide +kernel
theorem den_9 : decode jdk_68_method_9_code 9 = .ok (.ishr, 1) := by decide +kernel
theorem den_10 : decode jdk_68_method_9_code 10 = .ok (.istore_n 2, 1) := by decide +kernel
theorem den_11 : decode jdk_68_method_9_code 11 = .ok (.iload_n 1, 1) := by decide +kernel
theorem den_12 : decode jdk_68_method_9_code 12 = .ok (.iload_n 2, 1) := by decide +kernel
theorem den_13 : decode jdk_68_method_9_code 13 = .ok (.isub, 1) := by decide +kernel
theorem den_14 : decode jdk_68_method_9_code 14 = .ok (.ifCond .le 24, 3) := by decide +kernel
theorem den_17 : decode jdk_68_method_9_code 17 = .ok (.aload_n 0, 1) := by decide +kernel
theorem den_18 : decode jdk_68_method_9_code 18 = .ok (.aload_n 0, 1) := by decide +kernel
theorem den_19 : decode jdk_68_method_9_code 19 = .ok (.getfield 15, 3) := by decide +kernel
theorem den_22 : decode jdk_68_method_9_code 22 = .ok (.aload_n 0, 1) := by decide +kernel
theorem den_23 : decode jdk_68_method_9_code 23 = .ok (.iload_n 1, 1) := by decide +kernel
theorem den_24 : decode jdk_68_method_9_code 24 = .ok (.invokevirtual 104, 3) := by decide +kernel
theorem den_27 : decode jdk_68_method_9_code 27 = .ok (.aload_n 0, 1) := by decide +kernel
theorem den_28 : decode jdk_68_method_9_code 28 = .ok (.getfield 22, 3) := by decide +kernel
theorem den_31 : decode jdk_68_method_9_code 31 = .ok (.ishl, 1) := by decide +kernel
theorem den_32 : decode jdk_68_method_9_code 32 = .ok (.invokestatic 108, 3) := by decide +kernel
theorem den_35 : decode jdk_68_method_9_code 35 = .ok (.putfield 15, 3) := by decide +kernel
theorem den_38 : decode jdk_68_method_9_code 38 = .ok (.return_, 1) := by decide +kernel
theorem pden_0 : parseMethodDescriptor "(I)I" = some ⟨[.int], some .int⟩ := by decide +kernel
theorem pden_1 : parseMethodDescriptor "([BI)[B" = some ⟨[(.array .byte), .int], some (.array .byte)⟩ := by decide +kernel
theorem pnen : plainName "java/lang/AbstractStringBuilder" = true := by first | (simp [plainName, overriddenIn]; done) | decide +kernel
theorem efen (m : MethodId) (x0 : Addr) (x1 : Int32) : entryFrame m #[(.ref x0), (.int x1)] 3 = mkF m 0 #[.val (.ref x0), .val (.int x1), .unset] [] := by first | (simp [entryFrame, mkF, argsToLocals, Value.category, maxLocals]; done) | rfl
def Qen (Z : State) (b : Addr) (t : Addr) (kt : ClassId) (N : Nat) (m_ : Nat) (cs : List Int32) (h0 : Heap) (n0 : Nat) (v : Option Value) (h : Heap) (L : List Loc) : Prop := ∃ (u : Addr) (ku : ClassId) (M : Nat), v = none ∧ Fr n0 L ∧ Keep h0 h [b] ∧ n0 ≤ u ∧ (u = t ∨ h0.size ≤ u) ∧ Exa Z h b "java/lang/StringBuilder" ∧ Fld Z h b "java/lang/AbstractStringBuilder" "value" "[B" (.ref u) ∧ Fld Z h b "java/lang/AbstractStringBuilder" "coder" "B" (.int 0) ∧ Fld Z h b "java/lang/AbstractStringBuilder" "count" "I" (.int (Int32.ofNat cs.length)) ∧ Arv Z h u ku .byte (Int32.ofNat M) (oLat cs) (.int 0) ∧ Exa Z h u "[B" ∧ m_ ≤ M ∧ M ≤ 16 ∧ N ≤ M
theorem rmen (l : Launch) (Z : State) (a0 : Array Value) (hw : ∀ d ∈ tables_1, d.before a0 Z = true) (ws : List Jvm.Cond) (b : Addr) (t : Addr) (kt : ClassId) (N : Nat) (m_ : Nat) (cs : List Int32) (h0 : Heap) (n0 : Nat) (O0 : Old Z n0 h0) (E_b : Exa Z h0 b "java/lang/StringBuilder") (F_b_value : Fld Z h0 b "java/lang/AbstractStringBuilder" "value" "[B" (.ref t)) (F_b_coder : Fld Z h0 b "java/lang/AbstractStringBuilder" "coder" "B" (.int 0)) (F_b_count : Fld Z h0 b "java/lang/AbstractStringBuilder" "count" "I" (.int (Int32.ofNat cs.length))) (V_t : Arv Z h0 t kt .byte (Int32.ofNat N) (oLat cs) (.int 0)) (E_t : Exa Z h0 t "[B") (gb : n0 ≤ b) (gt : n0 ≤ t) (hN : N ≤ 16) (hm : m_ ≤ 8) (hcl : cs.length ≤ N) :
  MetFree l mN12 (head1 (Jvm.Cond.code mN12 jdk_68_method_9_code 3 none :: ws) ({ frames := 3, cells := 1, slots := 16, locals := 48 } : Room)) (fun A_ U_ => A_ = #[(.ref b), (.int (Int32.ofNat m_))] ∧ Z.Warmed39 U_.vm ∧ U_.heap = h0) (fun _ _ _ _ _ => True) (fun _ U o U' => ∃ v L, o = .returned v ∧ Qen Z b t kt N m_ cs h0 n0 v U'.heap L ∧ FrameEnd U o U' L ({ frames := 3, cells := 1, slots := 16, locals := 48 } : Room).cells ({ frames := 3, cells := 1, slots := 16, locals := 48 } : Room).slots) := by
 refine MetFree.of_bodySF (plainFor_of_name pnen) hisR ?_
 intro p e s m args below meth cd s₁ Bd hml0 hP hK
 obtain ⟨rfl, hZ, hh⟩ := hP
 have hx := Bd.exec
 have hby := Bd.bytes
 have hlk : meth.locks = false := BodyLoose.notSynchronized Bd
 have hml : cd.maxLocals = 3 := hml0
 have hown : s.vm.findClass "java/lang/AbstractStringBuilder" = some m.cls := findClass_of_methodNamed Bd.named
 have X0 : Stand p l e ({ frames := 3, cells := 1, slots := 16, locals := 48 } : Room) s m #[(.ref b), (.int (Int32.ofNat m_))] below meth cd s₁ [] 0 0 := Stand.of_body Bd
 have e0 : s₁.heap = h0 := by rw [← hh, Bd.state]; rfl
 have N0 := Fr.nil n0
 have K0 : Keep h0 h0 [b] := Keep.refl _ _
 have ne_b_t : b ≠ t := Exa.neArv E_b V_t (own_w hw 59 rfl)
 have G : Go p e below s 1 16 (Qen Z b t kt N m_ cs h0 n0) (s₁.setTop (mkF m 0 #[.val (.ref b), .val (.int (Int32.ofNat m_)), .unset] [])) := by
  refine Go.s (XS.aloadN X0.here hx rfl (hb hby den_0) rfl rfl) ?_
  obtain ⟨T1, X1, e1, st1⟩ := getF X0 hx hZ hown (host := "") (Or.inl (own_w hw 72 rfl)) Via.refl e0 F_b_value (g := (mkF m 1 #[.val (.ref b), .val (.int (Int32.ofNat m_)), .unset] [(.ref b)])) rfl rfl (hb hby den_1)
  refine Go.st st1 ?_
  show Go p e below s _ _ _ (T1.setTop (mkF m 4 #[.val (.ref b), .val (.int (Int32.ofNat m_)), .unset] [(.ref t)]))
  refine Go.s (own_len X1 hx hZ e1 V_t (g := (mkF m 4 #[.val (.ref b), .val (.int (Int32.ofNat m_)), .unset] [(.ref t)])) rfl rfl (hb hby den_4) _) ?_
  show Go p e below s _ _ _ (T1.setTop (mkF m 5 #[.val (.ref b), .val (.int (Int32.ofNat m_)), .unset] [(.int (Int32.ofNat N))]))
  refine Go.s (XS.aloadN X1.here hx rfl (hb hby den_5) rfl rfl) ?_
  obtain ⟨T2, X2, e2, st2⟩ := getF X1 hx hZ hown (host := "") (Or.inl (own_w hw 74 rfl)) Via.refl e1 F_b_coder (g := (mkF m 6 #[.val (.ref b), .val (.int (Int32.ofNat m_)), .unset] [(.ref b), (.int (Int32.ofNat N))])) rfl rfl (hb hby den_6)
  refine Go.st st2 ?_
  show Go p e below s _ _ _ (T2.setTop (mkF m 9 #[.val (.ref b), .val (.int (Int32.ofNat m_)), .unset] [(.int 0), (.int (Int32.ofNat N))]))
  refine Go.s (XT.ishr X2.here hx rfl (hb hby den_9) rfl) ?_
  show Go p e below s _ _ _ (T2.setTop (mkF m 10 #[.val (.ref b), .val (.int (Int32.ofNat m_)), .unset] [(.int ((Int32.ofNat N) >>> ((0 : Int32) &&& 31)))]))
  rw [own_shr0]
  show Go p e below s _ _ _ (T2.setTop (mkF m 10 #[.val (.ref b), .val (.int (Int32.ofNat m_)), .unset] [(.int (Int32.ofNat N))]))
  refine Go.s (XS.istoreN X2.here hx rfl (hb hby den_10) rfl (l' := #[.val (.ref b), .val (.int (Int32.ofNat m_)), .val (.int (Int32.ofNat N))]) rfl) ?_
  refine Go.s (XS.iloadN X2.here hx rfl (hb hby den_11) rfl) ?_
  refine Go.s (XS.iloadN X2.here hx rfl (hb hby den_12) rfl) ?_
  refine Go.s (XS.isub X2.here hx rfl (hb hby den_13) rfl) ?_
  show Go p e below s _ _ _ (T2.setTop (mkF m 14 #[.val (.ref b), .val (.int (Int32.ofNat m_)), .val (.int (Int32.ofNat N))] [(.int ((Int32.ofNat m_) - (Int32.ofNat N)))]))
  by_cases c14_3 : (0 : Int32) < ((Int32.ofNat m_) - (Int32.ofNat N))
  · refine Go.s (XS.ifNo X2.here hx rfl (hb hby den_14) rfl (XT.i0_le_f c14_3)) ?_
    show Go p e below s _ _ _ (T2.setTop (mkF m 17 #[.val (.ref b), .val (.int (Int32.ofNat m_)), .val (.int (Int32.ofNat N))] []))
    refine Go.s (XS.aloadN X2.here hx rfl (hb hby den_17) rfl rfl) ?_
    refine Go.s (XS.aloadN X2.here hx rfl (hb hby den_18) rfl rfl) ?_
    obtain ⟨T4, X4, e4, st4⟩ := getF X2 hx hZ hown (host := "") (Or.inl (own_w hw 72 rfl)) Via.refl e2 F_b_value (g := (mkF m 19 #[.val (.ref b), .val (.int (Int32.ofNat m_)), .val (.int (Int32.ofNat N))] [(.ref b), (.ref b)])) rfl rfl (hb hby den_19)
    refine Go.st st4 ?_
    show Go p e below s _ _ _ (T4.setTop (mkF m 22 #[.val (.ref b), .val (.int (Int32.ofNat m_)), .val (.int (Int32.ofNat N))] [(.ref t), (.ref b)]))
    refine Go.s (XS.aloadN X4.here hx rfl (hb hby den_22) rfl rfl) ?_
    refine Go.s (XS.iloadN X4.here hx rfl (hb hby den_23) rfl) ?_
    obtain ⟨cq5, qa5, qb5⟩ := Exa.cell E_b
    obtain ⟨_, _, ⟨T5, L5, k5, n5⟩, -, X5, ⟨Lc5, hQ5, l5, y5, z5⟩, st5⟩ := X4.privateBack hx (y := mN10) hown (mvT hZ (own_w hw 185 rfl)) (mvT hZ (own_w hw 186 rfl)) (own_selP (mvT hZ (own_w hw 188 rfl)) (Cond.privateMethod_at (mvP hZ (own_w hw 187 rfl) (args := #[]))) (mvT hZ (own_w hw 186 rfl)) (by decide)) (Cond.privateMethod_at (mvP hZ (own_w hw 187 rfl) (args := #[]))) (mvT hZ (own_w hw 189 rfl)) (by decide) (backOf (W := 2) (rmnc l Z a0 hw [] b t kt N m_ cs h0 n0 O0 E_b F_b_value F_b_coder V_t (own_dlt N (by omega) m_ (by omega) c14_3) hm) hZ (own_w hw 189 rfl) (own_w hw 68 rfl) (by decide) (by decide)) (g := (mkF m 24 #[.val (.ref b), .val (.int (Int32.ofNat m_)), .val (.int (Int32.ofNat N))] [(.int (Int32.ofNat m_)), (.ref b), (.ref t), (.ref b)])) rfl (by rw [hml]; rfl) (Steps.refl _) (a := b) (by rw [e4]; exact qa5) qb5 (argsL := [(.int (Int32.ofNat m_))]) (rest := [(.ref t), (.ref b)]) (lenOf pden_0 rfl) rfl (by show 2 * 0 + _ ≤ _; exact Nat.le_of_eq rfl) (hb hby den_24) (fun _ _ => ⟨rfl, e4, (by decide : 0 + 0 ≤ _), (by decide : 0 + 0 ≤ _)⟩)
    dsimp only [Pt.U, Pt.locs, Pt.cells, Pt.slots] at X5 l5 y5 z5 st5 hQ5
    subst y5 z5
    obtain ⟨rfl, Nc5, e5⟩ := hQ5
    have N5 : Fr n0 L5 := by rw [l5]; exact Fr.app N0 Nc5
    refine Go.tr st5 ?_
    show Go p e below s _ _ _ (T5.setTop (mkF m 27 #[.val (.ref b), .val (.int (Int32.ofNat m_)), .val (.int (Int32.ofNat N))] [(.int (Int32.ofNat (N + max (m_ - N) (N + 2)))), (.ref t), (.ref b)]))
    refine Go.s (XS.aloadN X5.here hx rfl (hb hby den_27) rfl rfl) ?_
    obtain ⟨T6, X6, e6, st6⟩ := getF X5 hx hZ hown (host := "") (Or.inl (own_w hw 74 rfl)) Via.refl e5 F_b_coder (g := (mkF m 28 #[.val (.ref b), .val (.int (Int32.ofNat m_)), .val (.int (Int32.ofNat N))] [(.ref b), (.int (Int32.ofNat (N + max (m_ - N) (N + 2)))), (.ref t), (.ref b)])) rfl rfl (hb hby den_28)
    refine Go.st st6 ?_
    show Go p e below s _ _ _ (T6.setTop (mkF m 31 #[.val (.ref b), .val (.int (Int32.ofNat m_)), .val (.int (Int32.ofNat N))] [(.int 0), (.int (Int32.ofNat (N + max (m_ - N) (N + 2)))), (.ref t), (.ref b)]))
    refine Go.s (XT.ishl X6.here hx rfl (hb hby den_31) rfl) ?_
    show Go p e below s _ _ _ (T6.setTop (mkF m 32 #[.val (.ref b), .val (.int (Int32.ofNat m_)), .val (.int (Int32.ofNat N))] [(.int ((Int32.ofNat (N + max (m_ - N) (N + 2))) <<< ((0 : Int32) &&& 31))), (.ref t), (.ref b)]))
    rw [own_shl0]
    show Go p e below s _ _ _ (T6.setTop (mkF m 32 #[.val (.ref b), .val (.int (Int32.ofNat m_)), .val (.int (Int32.ofNat N))] [(.int (Int32.ofNat (N + max (m_ - N) (N + 2)))), (.ref t), (.ref b)]))
    have hlt := own_dlt N (by omega) m_ (by omega) c14_3
    obtain ⟨_, _, ⟨T7, L7, k7, n7⟩, -, X7, ⟨Lc7, hQ7, l7, y7, z7⟩, st7⟩ := Jvm.LawKit.callS X6 hx (y := mN11) hown (mvT hZ (own_w hw 200 rfl)) (mvT hZ (own_w hw 201 rfl)) (mvT hZ (own_w hw 145 rfl)) (mvT hZ (own_w hw 202 rfl)) (by decide) (backOf (W := 1) (rmcy l Z a0 hw [] t kt N (N + max (m_ - N) (N + 2)) cs h0 n0 O0 V_t (by omega) (by omega) hcl) hZ (own_w hw 202 rfl) (own_w hw 145 rfl) (by decide) (by decide)) (g := (mkF m 32 #[.val (.ref b), .val (.int (Int32.ofNat m_)), .val (.int (Int32.ofNat N))] [(.int (Int32.ofNat (N + max (m_ - N) (N + 2)))), (.ref t), (.ref b)])) rfl (by rw [hml]; rfl) (argsL := [(.ref t), (.int (Int32.ofNat (N + max (m_ - N) (N + 2))))]) (rest := [(.ref b)]) (lenOf pden_1 rfl) rfl (by show 2 * 0 + _ ≤ _; exact Nat.le_of_eq rfl) (hb hby den_32) (fun _ _ => ⟨rfl, e6, (by decide : 0 + 1 ≤ _), (by decide : 0 + 16 ≤ _)⟩)
    dsimp only [Pt.U, Pt.locs, Pt.cells, Pt.slots] at X7 l7 y7 z7 st7 hQ7
    subst y7 z7
    obtain ⟨u, ku, rfl, Nc7, Kc7, gu, szu, NA, NB⟩ := hQ7
    have N7 : Fr n0 L7 := by rw [l7]; exact Fr.app N5 Nc7
    have g_u : n0 ≤ u := gu
    have sz_u : h0.size ≤ u := Nat.le_trans K0.1 szu
    have ne_b_u : b ≠ u := Nat.ne_of_lt (Nat.lt_of_lt_of_le E_b.lt szu)
    have ne_t_u : t ≠ u := Nat.ne_of_lt (Nat.lt_of_lt_of_le V_t.lt szu)
    have E_b := E_b.keep Kc7
    have F_b_value := F_b_value.keep Kc7 nin0
    have F_b_coder := F_b_coder.keep Kc7 nin0
    have F_b_count := F_b_count.keep Kc7 nin0
    have V_t := V_t.keep Kc7 nin0
    have E_t := E_t.keep Kc7
    have O7 := O0.keep Kc7 all0
    have K7 := K0.trans Kc7 all0
    have V_u : Arv Z T7.heap u ku .byte (Int32.ofNat (N + max (m_ - N) (N + 2))) (oLat cs) (.int 0) := NA
    have E_u : Exa Z T7.heap u "[B" := NB
    refine Go.st st7 ?_
    show Go p e below s _ _ _ (T7.setTop (mkF m 35 #[.val (.ref b), .val (.int (Int32.ofNat m_)), .val (.int (Int32.ofNat N))] [(.ref u), (.ref b)]))
    obtain ⟨T8, h8, X8, e8, W8, st8⟩ := putF X7 hx hZ hown (host := "") (Or.inl (own_w hw 72 rfl)) Via.refl rfl F_b_value E_b (Or.inl (own_w hw 73 rfl)) (own_w hw 59 rfl) (ty := (.array .byte)) (by decide) rfl rfl (g := (mkF m 35 #[.val (.ref b), .val (.int (Int32.ofNat m_)), .val (.int (Int32.ofNat N))] [(.ref u), (.ref b)])) rfl rfl (hb hby den_35)
    obtain ⟨lc8, X8, N8⟩ := own_gen X8 (Fr.snoc X8 N7 gb)
    have O8 := O7.wr W8 gb
    have K8 := K7.wr W8 (Or.inl (List.mem_of_getElem? (i := 0) rfl))
    have E_b := E_b.wr W8
    have F_b_coder := F_b_coder.other W8 (Or.inr (slot_ne (Or.inl (own_w hw 75 rfl)) (Or.inl (own_w hw 73 rfl)) (by decide) (by decide : parseFieldDescriptor "B" = some .byte) (by decide : parseFieldDescriptor "[B" = some (.array .byte))))
    have F_b_count := F_b_count.other W8 (Or.inr (slot_ne (Or.inl (own_w hw 93 rfl)) (Or.inl (own_w hw 73 rfl)) (by decide) (by decide : parseFieldDescriptor "I" = some .int) (by decide : parseFieldDescriptor "[B" = some (.array .byte))))
    have V_t := V_t.other W8 (Ne.symm ne_b_t)
    have E_t := E_t.wr W8
    have V_u := V_u.other W8 (Ne.symm ne_b_u)
    have E_u := E_u.wr W8
    have F_b_value := F_b_value.same W8
    refine Go.st st8 ?_
    show Go p e below s _ _ _ (T8.setTop (mkF m 38 #[.val (.ref b), .val (.int (Int32.ofNat m_)), .val (.int (Int32.ofNat N))] []))
    exact Go.ret X8 hlk (none) (fun _ => rfl) (by rw [e8]; exact ⟨u, ku, (N + max (m_ - N) (N + 2)), rfl, N8, K8, g_u, Or.inr sz_u, E_b, F_b_value, F_b_coder, F_b_count, V_u, E_u, by omega, by omega, by omega⟩) (by decide) (by decide) (fun fs hr => X8.returnOut hx Bd.returns (hb hby den_38) hr)
  · refine Go.s (XS.ifYes X2.here hx rfl (pc0 := 14) (pc' := 38) rfl (hb hby den_14) rfl (XT.i0_le_t c14_3) (by decide) (by decide)) ?_
    show Go p e below s _ _ _ (T2.setTop (mkF m 38 #[.val (.ref b), .val (.int (Int32.ofNat m_)), .val (.int (Int32.ofNat N))] []))
    exact Go.ret X2 hlk (none) (fun _ => rfl) (by rw [e2]; exact ⟨t, kt, N, rfl, N0, K0, gt, Or.inl rfl, E_b, F_b_value, F_b_coder, F_b_count, V_t, E_t, own_dge N (by omega) m_ (by omega) c14_3, hN, Nat.le_refl _⟩) (by decide) (by decide) (fun fs hr => X2.returnOut hx Bd.returns (hb hby den_38) hr)
 obtain ⟨s2, o2, st2, r2⟩ := G
 exact ⟨s2, o2, castTop (efen m b (Int32.ofNat m_)) st2, r2⟩
theorem dil_0 : decode jdk_68_method_68_code 0 = .ok (.getstatic 18, 3) := by decide +kernel
theorem dil_3 : decode jdk_68_method_68_code 3 = .ok (.ifCond .eq 14, 3) := by decide +kernel
theorem dil_6 : decode jdk_68_method_68_code 6 = .ok (.aload_n 0, 1) := by decide +kernel
theorem dil_7 : decode jdk_68_method_68_code 7 = .ok (.getfield 22, 3) := by decide +kernel
theorem dil_10 : decode jdk_68_method_68_code 10 = .ok (.ifCond .ne 7, 3) := by decide +kernel
theorem dil_13 : decode jdk_68_method_68_code 13 = .ok (.iconst 1, 1) := by decide +kernel
theorem dil_14 : decode jdk_68_method_68_code 14 = .ok (.goto 4, 3) := by decide +kernel
theorem dil_18 : decode jdk_68_method_68_code 18 = .ok (.ireturn, 1) := by decide +kernel
theorem pnil : plainName "java/lang/AbstractStringBuilder" = true := by first | (simp [plainName, overriddenIn]; done) | decide +kernel
theorem efil (m : MethodId) (x0 : Addr) : entryFrame m #[(.ref x0)] 1 = mkF m 0 #[.val (.ref x0)] [] := by first | (simp [entryFrame, mkF, argsToLocals, Value.category, maxLocals]; done) | rfl
def Qil (Z : State) (b : Addr) (zc : Int32) (h0 : Heap) (n0 : Nat) (v : Option Value) (h : Heap) (L : List Loc) : Prop := v = some (.int 1) ∧ Fr n0 L ∧ h = h0
theorem rmil (l : Launch) (Z : State) (a0 : Array Value) (hw : ∀ d ∈ tables_1, d.before a0 Z = true) (ws : List Jvm.Cond) (b : Addr) (zc : Int32) (h0 : Heap) (n0 : Nat) (O0 : Old Z n0 h0) (F_b_coder : Fld Z h0 b "java/lang/AbstractStringBuilder" "coder" "B" (.int 0)) (SC : Sta Z Z.heap "java/lang/String" "COMPACT_STRINGS" "Z" (.int zc)) (hcs : ¬ zc = 0) :
  MetFree l mN13 (head1 (Jvm.Cond.code mN13 jdk_68_method_68_code 1 (some .boolean) :: ws) ({ frames := 0, cells := 0, slots := 0, locals := 0 } : Room)) (fun A_ U_ => A_ = #[(.ref b)] ∧ Z.Warmed39 U_.vm ∧ U_.heap = h0) (fun _ _ _ _ _ => True) (fun _ U o U' => ∃ v L, o = .returned v ∧ Qil Z b zc h0 n0 v U'.heap L ∧ FrameEnd U o U' L ({ frames := 0, cells := 0, slots := 0, locals := 0 } : Room).cells ({ frames := 0, cells := 0, slots := 0, locals := 0 } : Room).slots) := by
 refine MetFree.of_bodySF (plainFor_of_name pnil) hisR ?_
 intro p e s m args below meth cd s₁ Bd hml0 hP hK
 obtain ⟨rfl, hZ, hh⟩ := hP
 have hx := Bd.exec
 have hby := Bd.bytes
 have hlk : meth.locks = false := BodyLoose.notSynchronized Bd
 have hml : cd.maxLocals = 1 := hml0
 have hown : s.vm.findClass "java/lang/AbstractStringBuilder" = some m.cls := findClass_of_methodNamed Bd.named
 have X0 : Stand p l e ({ frames := 0, cells := 0, slots := 0, locals := 0 } : Room) s m #[(.ref b)] below meth cd s₁ [] 0 0 := Stand.of_body Bd
 have e0 : s₁.heap = h0 := by rw [← hh, Bd.state]; rfl
 have N0 := Fr.nil n0
 have G : Go p e below s 0 0 (Qil Z b zc h0 n0) (s₁.setTop (mkF m 0 #[.val (.ref b)] [])) := by
  obtain ⟨T1, X1, e1, st1⟩ := getS X0 hx hZ hown (host := "") (own_w hw 71 rfl) Via.refl e0 (SC.ext O0.2) (g := (mkF m 0 #[.val (.ref b)] [])) rfl (hb hby dil_0)
  refine Go.st st1 ?_
  show Go p e below s _ _ _ (T1.setTop (mkF m 3 #[.val (.ref b)] [(.int zc)]))
  refine Go.s (XS.ifNo X1.here hx rfl (hb hby dil_3) rfl (XT.i0_eq_f hcs)) ?_
  show Go p e below s _ _ _ (T1.setTop (mkF m 6 #[.val (.ref b)] []))
  refine Go.s (XS.aloadN X1.here hx rfl (hb hby dil_6) rfl rfl) ?_
  obtain ⟨T2, X2, e2, st2⟩ := getF X1 hx hZ hown (host := "") (Or.inl (own_w hw 74 rfl)) Via.refl e1 F_b_coder (g := (mkF m 7 #[.val (.ref b)] [(.ref b)])) rfl rfl (hb hby dil_7)
  refine Go.st st2 ?_
  show Go p e below s _ _ _ (T2.setTop (mkF m 10 #[.val (.ref b)] [(.int 0)]))
  refine Go.s (XS.ifNo X2.here hx rfl (hb hby dil_10) rfl (by decide)) ?_
  show Go p e below s _ _ _ (T2.setTop (mkF m 13 #[.val (.ref b)] []))
  refine Go.s (XS.iconst X2.here hx rfl (hb hby dil_13)) ?_
  refine Go.s (XS.goto X2.here hx rfl (pc0 := 14) (pc' := 18) rfl (hb hby dil_14) (by decide) (by decide)) ?_
  exact Go.ret X2 hlk (some (.int (nar .boolean (1 : Int32)))) (fun h => by rw [Bd.returns] at h; cases h) (by rw [e2]; exact ⟨rfl, N0, rfl⟩) (by decide) (by decide) (fun fs hr => retN X2 hx (t := .boolean) Bd.returns (by simp) (hb hby dil_18) hr)
 obtain ⟨s2, o2, st2, r2⟩ := G
 exact ⟨s2, o2, castTop (efil m b) st2, r2⟩
theorem dce_0 : decode jdk_43_method_3_code 0 = .ok (.iload_n 0, 1) := by decide +kernel
theorem dce_1 : decode jdk_43_method_3_code 1 = .ok (.sipush 255, 3) := by decide +kernel
theorem dce_4 : decode jdk_43_method_3_code 4 = .ok (.if_icmp .gt 7, 3) := by decide +kernel
theorem dce_7 : decode jdk_43_method_3_code 7 = .ok (.iconst 1, 1) := by decide +kernel
theorem dce_8 : decode jdk_43_method_3_code 8 = .ok (.goto 4, 3) := by decide +kernel
theorem dce_11 : decode jdk_43_method_3_code 11 = .ok (.iconst 0, 1) := by decide +kernel
theorem dce_12 : decode jdk_43_method_3_code 12 = .ok (.ireturn, 1) := by decide +kernel
theorem pnce : plainName "java/lang/StringLatin1" = true := by first | (simp [plainName, overriddenIn]; done) | decide +kernel
theorem efce (m : MethodId) (x0 : Int32) : entryFrame m #[(.int x0)] 1 = mkF m 0 #[.val (.int x0)] [] := by first | (simp [entryFrame, mkF, argsToLocals, Value.category, maxLocals]; done) | rfl
def fCe (p0 : Int32) : Int32 := (if (255 : Int32) < p0 then (0 : Int32) else (1 : Int32))
def Qce (Z : State) (p0 : Int32) (h0 : Heap) (n0 : Nat) (v : Option Value) (h : Heap) (L : List Loc) : Prop := v = some (.int (fCe p0)) ∧ Fr n0 L ∧ h = h0
theorem rmce (l : Launch) (Z : State) (a0 : Array Value) (hw : ∀ d ∈ tables_1, d.before a0 Z = true) (ws : List Jvm.Cond) (p0 : Int32) (h0 : Heap) (n0 : Nat) (O0 : Old Z n0 h0)  :
  MetFree l mN14 (head1 (Jvm.Cond.code mN14 jdk_43_method_3_code 1 (some .boolean) :: ws) ({ frames := 0, cells := 0, slots := 0, locals := 0 } : Room)) (fun A_ U_ => A_ = #[(.int p0)] ∧ Z.Warmed39 U_.vm ∧ U_.heap = h0) (fun _ _ _ _ _ => True) (fun _ U o U' => ∃ v L, o = .returned v ∧ Qce Z p0 h0 n0 v U'.heap L ∧ FrameEnd U o U' L ({ frames := 0, cells := 0, slots := 0, locals := 0 } : Room).cells ({ frames := 0, cells := 0, slots := 0, locals := 0 } : Room).slots) := by
 refine MetFree.of_bodySF (plainFor_of_name pnce) hisR ?_
 intro p e s m args below meth cd s₁ Bd hml0 hP hK
 obtain ⟨rfl, hZ, hh⟩ := hP
 have hx := Bd.exec
 have hby := Bd.bytes
 have hlk : meth.locks = false := BodyLoose.notSynchronized Bd
 have hml : cd.maxLocals = 1 := hml0
 have hown : s.vm.findClass "java/lang/StringLatin1" = some m.cls := findClass_of_methodNamed Bd.named
 have X0 : Stand p l e ({ frames := 0, cells := 0, slots := 0, locals := 0 } : Room) s m #[(.int p0)] below meth cd s₁ [] 0 0 := Stand.of_body Bd
 have e0 : s₁.heap = h0 := by rw [← hh, Bd.state]; rfl
 have N0 := Fr.nil n0
 have G : Go p e below s 0 0 (Qce Z p0 h0 n0) (s₁.setTop (mkF m 0 #[.val (.int p0)] [])) := by
  refine Go.s (XS.iloadN X0.here hx rfl (hb hby dce_0) rfl) ?_
  refine Go.s (XS.sipush X0.here hx rfl (hb hby dce_1)) ?_
  by_cases c4_1 : (255 : Int32) < p0
  · refine Go.s (XS.icmpYes X0.here hx rfl (pc0 := 4) (pc' := 11) rfl (hb hby dce_4) rfl (XT.ii_gt_t c4_1) (by decide) (by decide)) ?_
    show Go p e below s _ _ _ (s₁.setTop (mkF m 11 #[.val (.int p0)] []))
    refine Go.s (XS.iconst X0.here hx rfl (hb hby dce_11)) ?_
    exact Go.ret X0 hlk (some (.int (nar .boolean (0 : Int32)))) (fun h => by rw [Bd.returns] at h; cases h) (by rw [e0]; exact ⟨own_res (z' := (0 : Int32)) (by unfold fCe; rw [if_pos c4_1]) rfl, N0, rfl⟩) (by decide) (by decide) (fun fs hr => retN X0 hx (t := .boolean) Bd.returns (by simp) (hb hby dce_12) hr)
  · refine Go.s (XS.icmpNo X0.here hx rfl (hb hby dce_4) rfl (XT.ii_gt_f c4_1)) ?_
    show Go p e below s _ _ _ (s₁.setTop (mkF m 7 #[.val (.int p0)] []))
    refine Go.s (XS.iconst X0.here hx rfl (hb hby dce_7)) ?_
    refine Go.s (XS.goto X0.here hx rfl (pc0 := 8) (pc' := 12) rfl (hb hby dce_8) (by decide) (by decide)) ?_
    exact Go.ret X0 hlk (some (.int (nar .boolean (1 : Int32)))) (fun h => by rw [Bd.returns] at h; cases h) (by rw [e0]; exact ⟨own_res (z' := (1 : Int32)) (by unfold fCe; rw [if_neg c4_1]) rfl, N0, rfl⟩) (by decide) (by decide) (fun fs hr => retN X0 hx (t := .boolean) Bd.returns (by simp) (hb hby dce_12) hr)
 obtain ⟨s2, o2, st2, r2⟩ := G
 exact ⟨s2, o2, castTop (efce m p0) st2, r2⟩
theorem own_ce {c : Int32} (h : ¬ (255 : Int32) < c) : ¬ fCe c = (0 : Int32) := by unfold fCe; rw [if_neg h]; decide
theorem dch_0 : decode jdk_68_method_74_code 0 = .ok (.aload_n 0, 1) := by decide +kernel
theorem dch_1 : decode jdk_68_method_74_code 1 = .ok (.getfield 79, 3) := by decide +kernel
theorem dch_4 : decode jdk_68_method_74_code 4 = .ok (.istore 4, 2) := by decide +kernel
theorem dch_6 : decode jdk_68_method_74_code 6 = .ok (.aload_n 0, 1) := by decide +kernel
theorem dch_7 : decode jdk_68_method_74_code 7 = .ok (.invokevirtual 83, 3) := by decide +kernel
theorem dch_10 : decode jdk_68_method_74_code 10 = .ok (.ifCond .eq 97, 3) := by decide +kernel
theorem dch_13 : decode jdk_68_method_74_code 13 = .ok (.aload_n 0, 1) := by decide +kernel
theorem dch_14 : decode jdk_68_method_74_code 14 = .ok (.getfield 15, 3) := by decide +kernel
theorem dch_17 : decode jdk_68_method_74_code 17 = .ok (.astore 5, 2) := by decide +kernel
theorem dch_19 : decode jdk_68_method_74_code 19 = .ok (.iload_n 2, 1) := by decide +kernel
theorem dch_20 : decode jdk_68_method_74_code 20 = .ok (.istore 6, 2) := by decide +kernel
theorem dch_22 : decode jdk_68_method_74_code 22 = .ok (.iload 4, 2) := by decide +kernel
theorem dch_24 : decode jdk_68_method_74_code 24 = .ok (.istore 7, 2) := by decide +kernel
theorem dch_26 : decode jdk_68_method_74_code 26 = .ok (.iload 6, 2) := by decide +kernel
theorem dch_28 : decode jdk_68_method_74_code 28 = .ok (.iload_n 3, 1) := by decide +kernel
theorem dch_29 : decode jdk_68_method_74_code 29 = .ok (.if_icmp .ge 75, 3) := by decide +kernel
theorem dch_32 : decode jdk_68_method_74_code 32 = .ok (.aload_n 1, 1) := by decide +kernel
theorem dch_33 : decode jdk_68_method_74_code 33 = .ok (.iload 6, 2) := by decide +kernel
theorem dch_35 : decode jdk_68_method_74_code 35 = .ok (.caload, 1) := by decide +kernel
theorem dch_36 : decode jdk_68_method_74_code 36 = .ok (.istore 8, 2) := by decide +kernel
theorem dch_38 : decode jdk_68_method_74_code 38 = .ok (.iload 8, 2) := by decide +kernel
theorem dch_40 : decode jdk_68_method_74_code 40 = .ok (.invokestatic 191, 3) := by decide +kernel
theorem dch_43 : decode jdk_68_method_74_code 43 = .ok (.ifCond .eq 17, 3) := by decide +kernel
theorem dch_46 : decode jdk_68_method_74_code 46 = .ok (.aload 5, 2) := by decide +kernel
theorem dch_48 : decode jdk_68_method_74_code 48 = .ok (.iload 7, 2) := by decide +kernel
theorem dch_50 : decode jdk_68_method_74_code 50 = .ok (.iinc 7 1, 3) := by decide +kernel
theorem dch_53 : decode jdk_68_method_74_code 53 = .ok (.iload 8, 2) := by decide +kernel
theorem dch_55 : decode jdk_68_method_74_code 55 = .ok (.i2b, 1) := by decide +kernel
theorem dch_56 : decode jdk_68_method_74_code 56 = .ok (.bastore, 1) := by decide +kernel
theorem dch_57 : decode jdk_68_method_74_code 57 = .ok (.goto 41, 3) := by decide +kernel
theorem dch_98 : decode jdk_68_method_74_code 98 = .ok (.iinc 6 1, 3) := by decide +kernel
theorem dch_101 : decode jdk_68_method_74_code 101 = .ok (.goto (-75), 3) := by decide +kernel
theorem dch_104 : decode jdk_68_method_74_code 104 = .ok (.goto 15, 3) := by decide +kernel
theorem dch_119 : decode jdk_68_method_74_code 119 = .ok (.aload_n 0, 1) := by decide +kernel
theorem dch_120 : decode jdk_68_method_74_code 120 = .ok (.iload 4, 2) := by decide +kernel
theorem dch_122 : decode jdk_68_method_74_code 122 = .ok (.iload_n 3, 1) := by decide +kernel
theorem dch_123 : decode jdk_68_method_74_code 123 = .ok (.iadd, 1) := by decide +kernel
theorem dch_124 : decode jdk_68_method_74_code 124 = .ok (.iload_n 2, 1) := by decide +kernel
theorem dch_125 : decode jdk_68_method_74_code 125 = .ok (.isub, 1) := by decide +kernel
theorem dch_126 : decode jdk_68_method_74_code 126 = .ok (.putfield 79, 3) := by decide +kernel
theorem dch_129 : decode jdk_68_method_74_code 129 = .ok (.return_, 1) := by decide +kernel
theorem pdch_0 : parseMethodDescriptor "()Z" = some ⟨[], some .boolean⟩ := by decide +kernel
theorem pdch_1 : parseMethodDescriptor "(C)Z" = some ⟨[.char], some .boolean⟩ := by decide +kernel
theorem pnch : plainName "java/lang/AbstractStringBuilder" = true := by first | (simp [plainName, overriddenIn]; done) | decide +kernel
theorem efch (m : MethodId) (x0 : Addr) (x1 : Addr) (x2 : Int32) (x3 : Int32) : entryFrame m #[(.ref x0), (.ref x1), (.int x2), (.int x3)] 9 = mkF m 0 #[.val (.ref x0), .val (.ref x1), .val (.int x2), .val (.int x3), .unset, .unset, .unset, .unset, .unset] [] := by first | (simp [entryFrame, mkF, argsToLocals, Value.category, maxLocals]; done) | rfl
def Qch (Z : State) (b : Addr) (t : Addr) (kt : ClassId) (N : Nat) (cs : List Int32) (a : Addr) (ka : ClassId) (D : List Int32) (s_ : Nat) (n_ : Nat) (zc : Int32) (h0 : Heap) (n0 : Nat) (v : Option Value) (h : Heap) (L : List Loc) : Prop := v = none ∧ Fr n0 L ∧ Keep h0 h [b, t] ∧ Exa Z h b "java/lang/StringBuilder" ∧ Fld Z h b "java/lang/AbstractStringBuilder" "value" "[B" (.ref t) ∧ Fld Z h b "java/lang/AbstractStringBuilder" "coder" "B" (.int 0) ∧ Fld Z h b "java/lang/AbstractStringBuilder" "count" "I" (.int (Int32.ofNat (cs ++ oSl D s_ n_).length)) ∧ Arv Z h t kt .byte (Int32.ofNat N) (oLat (cs ++ oSl D s_ n_)) (.int 0) ∧ Exa Z h t "[B"
theorem rmch (l : Launch) (Z : State) (a0 : Array Value) (hw : ∀ d ∈ tables_1, d.before a0 Z = true) (ws : List Jvm.Cond) (b : Addr) (t : Addr) (kt : ClassId) (N : Nat) (cs : List Int32) (a : Addr) (ka : ClassId) (D : List Int32) (s_ : Nat) (n_ : Nat) (zc : Int32) (h0 : Heap) (n0 : Nat) (O0 : Old Z n0 h0) (E_b : Exa Z h0 b "java/lang/StringBuilder") (F_b_value : Fld Z h0 b "java/lang/AbstractStringBuilder" "value" "[B" (.ref t)) (F_b_coder : Fld Z h0 b "java/lang/AbstractStringBuilder" "coder" "B" (.int 0)) (F_b_count : Fld Z h0 b "java/lang/AbstractStringBuilder" "count" "I" (.int (Int32.ofNat cs.length))) (V_t : Arv Z h0 t kt .byte (Int32.ofNat N) (oLat cs) (.int 0)) (E_t : Exa Z h0 t "[B") (V_a : Arv Z h0 a ka .char (4 : Int32) (D.map Value.int) (.int 0)) (gb : n0 ≤ b) (gt : n0 ≤ t) (hN : N ≤ 16) (hcl : cs.length + n_ ≤ N) (hD : D.length = 4) (hbD : ∀ c ∈ D, ¬ c < 0 ∧ ¬ (255 : Int32) < c) (hsl : s_ + n_ ≤ 4) (SC : Sta Z Z.heap "java/lang/String" "COMPACT_STRINGS" "Z" (.int zc)) (hcs : ¬ zc = 0) :
  MetFree l mN15 (head1 (Jvm.Cond.code mN15 jdk_68_method_74_code 9 none :: ws) ({ frames := 1, cells := 0, slots := 0, locals := 12 } : Room)) (fun A_ U_ => A_ = #[(.ref b), (.ref a), (.int (Int32.ofNat s_)), (.int (Int32.ofNat (s_ + n_)))] ∧ Z.Warmed39 U_.vm ∧ U_.heap = h0) (fun _ _ _ _ _ => True) (fun _ U o U' => ∃ v L, o = .returned v ∧ Qch Z b t kt N cs a ka D s_ n_ zc h0 n0 v U'.heap L ∧ FrameEnd U o U' L ({ frames := 1, cells := 0, slots := 0, locals := 12 } : Room).cells ({ frames := 1, cells := 0, slots := 0, locals := 12 } : Room).slots) := by
 refine MetFree.of_bodySF (plainFor_of_name pnch) hisR ?_
 intro p e s m args below meth cd s₁ Bd hml0 hP hK
 obtain ⟨rfl, hZ, hh⟩ := hP
 have hx := Bd.exec
 have hby := Bd.bytes
 have hlk : meth.locks = false := BodyLoose.notSynchronized Bd
 have hml : cd.maxLocals = 9 := hml0
 have hown : s.vm.findClass "java/lang/AbstractStringBuilder" = some m.cls := findClass_of_methodNamed Bd.named
 have X0 : Stand p l e ({ frames := 1, cells := 0, slots := 0, locals := 12 } : Room) s m #[(.ref b), (.ref a), (.int (Int32.ofNat s_)), (.int (Int32.ofNat (s_ + n_)))] below meth cd s₁ [] 0 0 := Stand.of_body Bd
 have e0 : s₁.heap = h0 := by rw [← hh, Bd.state]; rfl
 have N0 := Fr.nil n0
 have K0 : Keep h0 h0 [b, t] := Keep.refl _ _
 have ne_b_t : b ≠ t := Exa.neArv E_b V_t (own_w hw 59 rfl)
 have ne_b_a : b ≠ a := Exa.neArv E_b V_a (own_w hw 59 rfl)
 have ne_a_t : a ≠ t := own_neCB V_a V_t
 have G : Go p e below s 0 0 (Qch Z b t kt N cs a ka D s_ n_ zc h0 n0) (s₁.setTop (mkF m 0 #[.val (.ref b), .val (.ref a), .val (.int (Int32.ofNat s_)), .val (.int (Int32.ofNat (s_ + n_))), .unset, .unset, .unset, .unset, .unset] [])) := by
  refine Go.s (XS.aloadN X0.here hx rfl (hb hby dch_0) rfl rfl) ?_
  obtain ⟨T1, X1, e1, st1⟩ := getF X0 hx hZ hown (host := "") (Or.inl (own_w hw 92 rfl)) Via.refl e0 F_b_count (g := (mkF m 1 #[.val (.ref b), .val (.ref a), .val (.int (Int32.ofNat s_)), .val (.int (Int32.ofNat (s_ + n_))), .unset, .unset, .unset, .unset, .unset] [(.ref b)])) rfl rfl (hb hby dch_1)
  refine Go.st st1 ?_
  show Go p e below s _ _ _ (T1.setTop (mkF m 4 #[.val (.ref b), .val (.ref a), .val (.int (Int32.ofNat s_)), .val (.int (Int32.ofNat (s_ + n_))), .unset, .unset, .unset, .unset, .unset] [(.int (Int32.ofNat cs.length))]))
  refine Go.s (XS.istore X1.here hx rfl (hb hby dch_4) rfl (l' := #[.val (.ref b), .val (.ref a), .val (.int (Int32.ofNat s_)), .val (.int (Int32.ofNat (s_ + n_))), .val (.int (Int32.ofNat cs.length)), .unset, .unset, .unset, .unset]) rfl) ?_
  refine Go.s (XS.aloadN X1.here hx rfl (hb hby dch_6) rfl rfl) ?_
  obtain ⟨cq2, kq2, qa2, qb2, qc2⟩ := isOf hZ e1 E_b
  obtain ⟨_, _, ⟨T2, L2, k2, n2⟩, -, X2, ⟨Lc2, hQ2, l2, y2, z2⟩, st2⟩ := X1.virtualBack hx (y := mN13) (z := mN13) hown (mvT hZ (own_w hw 104 rfl)) (mvT hZ (own_w hw 105 rfl)) (notFace_of_selects (args := #[]) (mvT hZ (own_w hw 107 rfl))) (mvT hZ (own_w hw 107 rfl)) (mvT hZ (own_w hw 106 rfl)) (by decide) (backOf (W := 0) (rmil l Z a0 hw [] b zc h0 n0 O0 F_b_coder SC hcs) hZ (own_w hw 108 rfl) (own_w hw 68 rfl) (by decide) (by decide)) qa2 qc2 (g := (mkF m 7 #[.val (.ref b), .val (.ref a), .val (.int (Int32.ofNat s_)), .val (.int (Int32.ofNat (s_ + n_))), .val (.int (Int32.ofNat cs.length)), .unset, .unset, .unset, .unset] [(.ref b)])) rfl (by rw [hml]; rfl) (Steps.refl _) (argsL := []) (rest := []) (lenOf pdch_0 rfl) rfl (by show 2 * 0 + _ ≤ _; exact Nat.le_of_eq rfl) (hb hby dch_7) (fun _ _ => ⟨rfl, e1, (by decide : 0 + 0 ≤ _), (by decide : 0 + 0 ≤ _)⟩)
  dsimp only [Pt.U, Pt.locs, Pt.cells, Pt.slots] at X2 l2 y2 z2 st2 hQ2
  subst y2 z2
  obtain ⟨rfl, Nc2, e2⟩ := hQ2
  have N2 : Fr n0 L2 := by rw [l2]; exact Fr.app N0 Nc2
  refine Go.tr st2 ?_
  show Go p e below s _ _ _ (T2.setTop (mkF m 10 #[.val (.ref b), .val (.ref a), .val (.int (Int32.ofNat s_)), .val (.int (Int32.ofNat (s_ + n_))), .val (.int (Int32.ofNat cs.length)), .unset, .unset, .unset, .unset] [(.int 1)]))
  refine Go.s (XS.ifNo X2.here hx rfl (hb hby dch_10) rfl (by decide)) ?_
  show Go p e below s _ _ _ (T2.setTop (mkF m 13 #[.val (.ref b), .val (.ref a), .val (.int (Int32.ofNat s_)), .val (.int (Int32.ofNat (s_ + n_))), .val (.int (Int32.ofNat cs.length)), .unset, .unset, .unset, .unset] []))
  refine Go.s (XS.aloadN X2.here hx rfl (hb hby dch_13) rfl rfl) ?_
  obtain ⟨T3, X3, e3, st3⟩ := getF X2 hx hZ hown (host := "") (Or.inl (own_w hw 72 rfl)) Via.refl e2 F_b_value (g := (mkF m 14 #[.val (.ref b), .val (.ref a), .val (.int (Int32.ofNat s_)), .val (.int (Int32.ofNat (s_ + n_))), .val (.int (Int32.ofNat cs.length)), .unset, .unset, .unset, .unset] [(.ref b)])) rfl rfl (hb hby dch_14)
  refine Go.st st3 ?_
  show Go p e below s _ _ _ (T3.setTop (mkF m 17 #[.val (.ref b), .val (.ref a), .val (.int (Int32.ofNat s_)), .val (.int (Int32.ofNat (s_ + n_))), .val (.int (Int32.ofNat cs.length)), .unset, .unset, .unset, .unset] [(.ref t)]))
  refine Go.s (XS.astore X3.here hx rfl (hb hby dch_17) rfl rfl (l' := #[.val (.ref b), .val (.ref a), .val (.int (Int32.ofNat s_)), .val (.int (Int32.ofNat (s_ + n_))), .val (.int (Int32.ofNat cs.length)), .val (.ref t), .unset, .unset, .unset]) rfl) ?_
  refine Go.s (XS.iloadN X3.here hx rfl (hb hby dch_19) rfl) ?_
  refine Go.s (XS.istore X3.here hx rfl (hb hby dch_20) rfl (l' := #[.val (.ref b), .val (.ref a), .val (.int (Int32.ofNat s_)), .val (.int (Int32.ofNat (s_ + n_))), .val (.int (Int32.ofNat cs.length)), .val (.ref t), .val (.int (Int32.ofNat s_)), .unset, .unset]) rfl) ?_
  refine Go.s (XS.iload X3.here hx rfl (hb hby dch_22) rfl) ?_
  refine Go.s (XS.istore X3.here hx rfl (hb hby dch_24) rfl (l' := #[.val (.ref b), .val (.ref a), .val (.int (Int32.ofNat s_)), .val (.int (Int32.ofNat (s_ + n_))), .val (.int (Int32.ofNat cs.length)), .val (.ref t), .val (.int (Int32.ofNat s_)), .val (.int (Int32.ofNat cs.length)), .unset]) rfl) ?_
  show Go p e below s _ _ _ (T3.setTop (mkF m 26 #[.val (.ref b), .val (.ref a), .val (.int (Int32.ofNat s_)), .val (.int (Int32.ofNat (s_ + n_))), .val (.int (Int32.ofNat cs.length)), .val (.ref t), .val (.int (Int32.ofNat s_)), .val (.int (Int32.ofNat cs.length)), .unset] []))
  have J104 : ∀ (q6 : Int32) (q7 : Int32) (q8 : Slot) (ds : List Int32) (T4 : State) (h4 : Heap) (lc4 : List Loc) (X4 : Stand p l e ({ frames := 1, cells := 0, slots := 0, locals := 12 } : Room) s m #[(.ref b), (.ref a), (.int (Int32.ofNat s_)), (.int (Int32.ofNat (s_ + n_)))] below meth cd T4 lc4 0 0) (e4 : T4.heap = h4) (N4 : Fr n0 lc4) (O4 : Old Z n0 h4) (K4 : Keep h0 h4 [b, t]) (E_b : Exa Z h4 b "java/lang/StringBuilder") (F_b_value : Fld Z h4 b "java/lang/AbstractStringBuilder" "value" "[B" (.ref t)) (F_b_coder : Fld Z h4 b "java/lang/AbstractStringBuilder" "coder" "B" (.int 0)) (F_b_count : Fld Z h4 b "java/lang/AbstractStringBuilder" "count" "I" (.int (Int32.ofNat cs.length))) (V_t : Arv Z h4 t kt .byte (Int32.ofNat N) (oLat ds) (.int 0)) (E_t : Exa Z h4 t "[B") (V_a : Arv Z h4 a ka .char (4 : Int32) (D.map Value.int) (.int 0)) (hds : ds = cs ++ oSl D s_ n_), Go p e below s 0 0 (Qch Z b t kt N cs a ka D s_ n_ zc h0 n0) (T4.setTop (mkF m 104 #[.val (.ref b), .val (.ref a), .val (.int (Int32.ofNat s_)), .val (.int (Int32.ofNat (s_ + n_))), .val (.int (Int32.ofNat cs.length)), .val (.ref t), .val (.int q6), .val (.int q7), q8] [])) := by
    intro q6 q7 q8 ds T4 h4 lc4 X4 e4 N4 O4 K4 E_b F_b_value F_b_coder F_b_count V_t E_t V_a hds
    refine Go.s (XS.goto X4.here hx rfl (pc0 := 104) (pc' := 119) rfl (hb hby dch_104) (by decide) (by decide)) ?_
    refine Go.s (XS.aloadN X4.here hx rfl (hb hby dch_119) rfl rfl) ?_
    refine Go.s (XS.iload X4.here hx rfl (hb hby dch_120) rfl) ?_
    refine Go.s (XS.iloadN X4.here hx rfl (hb hby dch_122) rfl) ?_
    refine Go.s (XS.iadd X4.here hx rfl (hb hby dch_123) rfl) ?_
    show Go p e below s _ _ _ (T4.setTop (mkF m 124 #[.val (.ref b), .val (.ref a), .val (.int (Int32.ofNat s_)), .val (.int (Int32.ofNat (s_ + n_))), .val (.int (Int32.ofNat cs.length)), .val (.ref t), .val (.int q6), .val (.int q7), q8] [(.int ((Int32.ofNat cs.length) + (Int32.ofNat (s_ + n_)))), (.ref b)]))
    refine Go.s (XS.iloadN X4.here hx rfl (hb hby dch_124) rfl) ?_
    refine Go.s (XS.isub X4.here hx rfl (hb hby dch_125) rfl) ?_
    show Go p e below s _ _ _ (T4.setTop (mkF m 126 #[.val (.ref b), .val (.ref a), .val (.int (Int32.ofNat s_)), .val (.int (Int32.ofNat (s_ + n_))), .val (.int (Int32.ofNat cs.length)), .val (.ref t), .val (.int q6), .val (.int q7), q8] [(.int (((Int32.ofNat cs.length) + (Int32.ofNat (s_ + n_))) - (Int32.ofNat s_))), (.ref b)]))
    obtain ⟨T5, h5, X5, e5, W5, st5⟩ := putF X4 hx hZ hown (host := "") (Or.inl (own_w hw 92 rfl)) Via.refl e4 F_b_count E_b (Or.inl (own_w hw 93 rfl)) (own_w hw 59 rfl) (ty := .int) (by decide) rfl rfl (g := (mkF m 126 #[.val (.ref b), .val (.ref a), .val (.int (Int32.ofNat s_)), .val (.int (Int32.ofNat (s_ + n_))), .val (.int (Int32.ofNat cs.length)), .val (.ref t), .val (.int q6), .val (.int q7), q8] [(.int (((Int32.ofNat cs.length) + (Int32.ofNat (s_ + n_))) - (Int32.ofNat s_))), (.ref b)])) rfl rfl (hb hby dch_126)
    obtain ⟨lc5, X5, N5⟩ := own_gen X5 (Fr.snoc X5 N4 gb)
    have O5 := O4.wr W5 gb
    have K5 := K4.wr W5 (Or.inl (List.mem_of_getElem? (i := 0) rfl))
    have E_b := E_b.wr W5
    have F_b_value := F_b_value.other W5 (Or.inr (slot_ne (Or.inl (own_w hw 73 rfl)) (Or.inl (own_w hw 93 rfl)) (by decide) (by decide : parseFieldDescriptor "[B" = some (.array .byte)) (by decide : parseFieldDescriptor "I" = some .int)))
    have F_b_coder := F_b_coder.other W5 (Or.inr (slot_ne (Or.inl (own_w hw 75 rfl)) (Or.inl (own_w hw 93 rfl)) (by decide) (by decide : parseFieldDescriptor "B" = some .byte) (by decide : parseFieldDescriptor "I" = some .int)))
    have V_t := V_t.other W5 (Ne.symm ne_b_t)
    have E_t := E_t.wr W5
    have V_a := V_a.other W5 (Ne.symm ne_b_a)
    have F_b_count := F_b_count.same W5
    refine Go.st st5 ?_
    show Go p e below s _ _ _ (T5.setTop (mkF m 129 #[.val (.ref b), .val (.ref a), .val (.int (Int32.ofNat s_)), .val (.int (Int32.ofNat (s_ + n_))), .val (.int (Int32.ofNat cs.length)), .val (.ref t), .val (.int q6), .val (.int q7), q8] []))
    exact Go.ret X5 hlk (none) (fun _ => rfl) (by rw [e5]; exact ⟨rfl, N5, K5, E_b, F_b_value, F_b_coder, by rw [own_cntL hsl hD, ← own_cnt (k := cs.length) (s := s_) (l := n_)]; exact F_b_count, by rw [← hds]; exact V_t, E_t⟩) (by decide) (by decide) (fun fs hr => X5.returnOut hx Bd.returns (hb hby dch_129) hr)
  refine Go.s (XS.iload X3.here hx rfl (hb hby dch_26) rfl) ?_
  refine Go.s (XS.iloadN X3.here hx rfl (hb hby dch_28) rfl) ?_
  by_cases c29_6 : (Int32.ofNat s_) < (Int32.ofNat (s_ + n_))
  · refine Go.s (XS.icmpNo X3.here hx rfl (hb hby dch_29) rfl (XT.ii_ge_f c29_6)) ?_
    show Go p e below s _ _ _ (T3.setTop (mkF m 32 #[.val (.ref b), .val (.ref a), .val (.int (Int32.ofNat s_)), .val (.int (Int32.ofNat (s_ + n_))), .val (.int (Int32.ofNat cs.length)), .val (.ref t), .val (.int (Int32.ofNat s_)), .val (.int (Int32.ofNat cs.length)), .unset] []))
    have hlt0 : s_ < s_ + n_ := by rw [own_nlt (by omega) (by omega)] at c29_6; exact c29_6
    refine Go.s (XS.aloadN X3.here hx rfl (hb hby dch_32) rfl rfl) ?_
    refine Go.s (XS.iload X3.here hx rfl (hb hby dch_33) rfl) ?_
    refine Go.s (own_caload X3 hx hZ e3 V_a (own_nn (by omega)) (by rw [own_lt4 (by omega)]; omega) (v := .int (D.getD s_ 0)) (by rw [own_tn (by omega)]; exact own_getI D 0 _) (g := (mkF m 35 #[.val (.ref b), .val (.ref a), .val (.int (Int32.ofNat s_)), .val (.int (Int32.ofNat (s_ + n_))), .val (.int (Int32.ofNat cs.length)), .val (.ref t), .val (.int (Int32.ofNat s_)), .val (.int (Int32.ofNat cs.length)), .unset] [(.int (Int32.ofNat s_)), (.ref a)])) rfl rfl (hb hby dch_35) _) ?_
    show Go p e below s _ _ _ (T3.setTop (mkF m 36 #[.val (.ref b), .val (.ref a), .val (.int (Int32.ofNat s_)), .val (.int (Int32.ofNat (s_ + n_))), .val (.int (Int32.ofNat cs.length)), .val (.ref t), .val (.int (Int32.ofNat s_)), .val (.int (Int32.ofNat cs.length)), .unset] [(.int (D.getD s_ 0))]))
    refine Go.s (XS.istore X3.here hx rfl (hb hby dch_36) rfl (l' := #[.val (.ref b), .val (.ref a), .val (.int (Int32.ofNat s_)), .val (.int (Int32.ofNat (s_ + n_))), .val (.int (Int32.ofNat cs.length)), .val (.ref t), .val (.int (Int32.ofNat s_)), .val (.int (Int32.ofNat cs.length)), .val (.int (D.getD s_ 0))]) rfl) ?_
    refine Go.s (XS.iload X3.here hx rfl (hb hby dch_38) rfl) ?_
    obtain ⟨_, _, ⟨T7, L7, k7, n7⟩, -, X7, ⟨Lc7, hQ7, l7, y7, z7⟩, st7⟩ := Jvm.LawKit.callS X3 hx (y := mN14) hown (mvT hZ (own_w hw 210 rfl)) (mvT hZ (own_w hw 211 rfl)) (mvT hZ (own_w hw 183 rfl)) (mvT hZ (own_w hw 212 rfl)) (by decide) (backOf (W := 0) (rmce l Z a0 hw [] (D.getD s_ 0) h0 n0 O0 ) hZ (own_w hw 212 rfl) (own_w hw 183 rfl) (by decide) (by decide)) (g := (mkF m 40 #[.val (.ref b), .val (.ref a), .val (.int (Int32.ofNat s_)), .val (.int (Int32.ofNat (s_ + n_))), .val (.int (Int32.ofNat cs.length)), .val (.ref t), .val (.int (Int32.ofNat s_)), .val (.int (Int32.ofNat cs.length)), .val (.int (D.getD s_ 0))] [(.int (D.getD s_ 0))])) rfl (by rw [hml]; rfl) (argsL := [(.int (D.getD s_ 0))]) (rest := []) (lenOf pdch_1 rfl) rfl (by show 2 * 0 + _ ≤ _; exact Nat.le_of_eq rfl) (hb hby dch_40) (fun _ _ => ⟨rfl, e3, (by decide : 0 + 0 ≤ _), (by decide : 0 + 0 ≤ _)⟩)
    dsimp only [Pt.U, Pt.locs, Pt.cells, Pt.slots] at X7 l7 y7 z7 st7 hQ7
    subst y7 z7
    obtain ⟨rfl, Nc7, e7⟩ := hQ7
    have N7 : Fr n0 L7 := by rw [l7]; exact Fr.app N2 Nc7
    refine Go.st st7 ?_
    show Go p e below s _ _ _ (T7.setTop (mkF m 43 #[.val (.ref b), .val (.ref a), .val (.int (Int32.ofNat s_)), .val (.int (Int32.ofNat (s_ + n_))), .val (.int (Int32.ofNat cs.length)), .val (.ref t), .val (.int (Int32.ofNat s_)), .val (.int (Int32.ofNat cs.length)), .val (.int (D.getD s_ 0))] [(.int (fCe (D.getD s_ 0)))]))
    refine Go.s (XS.ifNo X7.here hx rfl (hb hby dch_43) rfl (XT.i0_eq_f (own_ce (own_getP hbD (i := s_) (by omega)).2))) ?_
    show Go p e below s _ _ _ (T7.setTop (mkF m 46 #[.val (.ref b), .val (.ref a), .val (.int (Int32.ofNat s_)), .val (.int (Int32.ofNat (s_ + n_))), .val (.int (Int32.ofNat cs.length)), .val (.ref t), .val (.int (Int32.ofNat s_)), .val (.int (Int32.ofNat cs.length)), .val (.int (D.getD s_ 0))] []))
    refine Go.s (XS.aload X7.here hx rfl (hb hby dch_46) rfl rfl) ?_
    refine Go.s (XS.iload X7.here hx rfl (hb hby dch_48) rfl) ?_
    refine Go.s (XT.iincV X7.here hx rfl (1 : Int32) (hb hby dch_50) rfl rfl (l' := #[.val (.ref b), .val (.ref a), .val (.int (Int32.ofNat s_)), .val (.int (Int32.ofNat (s_ + n_))), .val (.int (Int32.ofNat cs.length)), .val (.ref t), .val (.int (Int32.ofNat s_)), .val (.int ((Int32.ofNat cs.length) + (1 : Int32))), .val (.int (D.getD s_ 0))]) rfl) ?_
    refine Go.s (XS.iload X7.here hx rfl (hb hby dch_53) rfl) ?_
    refine Go.s (XT.i2b X7.here hx rfl (hb hby dch_55) rfl) ?_
    show Go p e below s _ _ _ (T7.setTop (mkF m 56 #[.val (.ref b), .val (.ref a), .val (.int (Int32.ofNat s_)), .val (.int (Int32.ofNat (s_ + n_))), .val (.int (Int32.ofNat cs.length)), .val (.ref t), .val (.int (Int32.ofNat s_)), .val (.int ((Int32.ofNat cs.length) + (1 : Int32))), .val (.int (D.getD s_ 0))] [(.int ((D.getD s_ 0).toInt8.toInt32)), (.int (Int32.ofNat cs.length)), (.ref t)]))
    obtain ⟨T8, h8, X8, e8, W8, V8, st8⟩ := own_stBa X7 hx hZ e7 V_t (j := (Int32.ofNat cs.length)) (own_nn (by omega)) (by rw [own_nlt (by omega) (by omega)]; omega) (by rw [own_tn (by omega), oLat_len] <;> simp) (g := (mkF m 56 #[.val (.ref b), .val (.ref a), .val (.int (Int32.ofNat s_)), .val (.int (Int32.ofNat (s_ + n_))), .val (.int (Int32.ofNat cs.length)), .val (.ref t), .val (.int (Int32.ofNat s_)), .val (.int ((Int32.ofNat cs.length) + (1 : Int32))), .val (.int (D.getD s_ 0))] [(.int ((D.getD s_ 0).toInt8.toInt32)), (.int (Int32.ofNat cs.length)), (.ref t)])) rfl rfl (hb hby dch_56)
    obtain ⟨lc8, X8, N8⟩ := own_gen X8 (Fr.snoc X8 N7 gt)
    have O8 := O0.wr W8 gt
    have K8 := K0.wr W8 (Or.inl (List.mem_of_getElem? (i := 1) rfl))
    have E_b := E_b.wr W8
    have F_b_value := F_b_value.other W8 (Or.inl ne_b_t)
    have F_b_coder := F_b_coder.other W8 (Or.inl ne_b_t)
    have F_b_count := F_b_count.other W8 (Or.inl ne_b_t)
    have E_t := E_t.wr W8
    have V_a := V_a.other W8 ne_a_t
    have V_t : Arv Z h8 t kt .byte (Int32.ofNat N) ((oLat cs) ++ [.int (nar .byte ((D.getD s_ 0).toInt8.toInt32))]) (.int 0) := V8
    refine Go.st st8 ?_
    show Go p e below s _ _ _ (T8.setTop (mkF m 57 #[.val (.ref b), .val (.ref a), .val (.int (Int32.ofNat s_)), .val (.int (Int32.ofNat (s_ + n_))), .val (.int (Int32.ofNat cs.length)), .val (.ref t), .val (.int (Int32.ofNat s_)), .val (.int ((Int32.ofNat cs.length) + (1 : Int32))), .val (.int (D.getD s_ 0))] []))
    refine Go.s (XS.goto X8.here hx rfl (pc0 := 57) (pc' := 98) rfl (hb hby dch_57) (by decide) (by decide)) ?_
    show Go p e below s _ _ _ (T8.setTop (mkF m 98 #[.val (.ref b), .val (.ref a), .val (.int (Int32.ofNat s_)), .val (.int (Int32.ofNat (s_ + n_))), .val (.int (Int32.ofNat cs.length)), .val (.ref t), .val (.int (Int32.ofNat s_)), .val (.int ((Int32.ofNat cs.length) + (1 : Int32))), .val (.int (D.getD s_ 0))] []))
    have V_t : Arv Z h8 t kt .byte (Int32.ofNat N) (oLat (cs ++ [(D.getD s_ 0)])) (.int 0) := by rw [own_latS]; exact V_t
    refine Go.s (XT.iincV X8.here hx rfl (1 : Int32) (hb hby dch_98) rfl rfl (l' := #[.val (.ref b), .val (.ref a), .val (.int (Int32.ofNat s_)), .val (.int (Int32.ofNat (s_ + n_))), .val (.int (Int32.ofNat cs.length)), .val (.ref t), .val (.int ((Int32.ofNat s_) + (1 : Int32))), .val (.int ((Int32.ofNat cs.length) + (1 : Int32))), .val (.int (D.getD s_ 0))]) rfl) ?_
    refine Go.s (XS.goto X8.here hx rfl (pc0 := 101) (pc' := 26) rfl (hb hby dch_101) (by decide) (by decide)) ?_
    show Go p e below s _ _ _ (T8.setTop (mkF m 26 #[.val (.ref b), .val (.ref a), .val (.int (Int32.ofNat s_)), .val (.int (Int32.ofNat (s_ + n_))), .val (.int (Int32.ofNat cs.length)), .val (.ref t), .val (.int ((Int32.ofNat s_) + (1 : Int32))), .val (.int ((Int32.ofNat cs.length) + (1 : Int32))), .val (.int (D.getD s_ 0))] []))
    rw [own_one, own_one]
    show Go p e below s _ _ _ (T8.setTop (mkF m 26 #[.val (.ref b), .val (.ref a), .val (.int (Int32.ofNat s_)), .val (.int (Int32.ofNat (s_ + n_))), .val (.int (Int32.ofNat cs.length)), .val (.ref t), .val (.int (Int32.ofNat (s_ + 1))), .val (.int (Int32.ofNat (cs.length + 1))), .val (.int (D.getD s_ 0))] []))
    refine Go.s (XS.iload X8.here hx rfl (hb hby dch_26) rfl) ?_
    refine Go.s (XS.iloadN X8.here hx rfl (hb hby dch_28) rfl) ?_
    by_cases c29_9 : (Int32.ofNat (s_ + 1)) < (Int32.ofNat (s_ + n_))
    · refine Go.s (XS.icmpNo X8.here hx rfl (hb hby dch_29) rfl (XT.ii_ge_f c29_9)) ?_
      show Go p e below s _ _ _ (T8.setTop (mkF m 32 #[.val (.ref b), .val (.ref a), .val (.int (Int32.ofNat s_)), .val (.int (Int32.ofNat (s_ + n_))), .val (.int (Int32.ofNat cs.length)), .val (.ref t), .val (.int (Int32.ofNat (s_ + 1))), .val (.int (Int32.ofNat (cs.length + 1))), .val (.int (D.getD s_ 0))] []))
      have hlt1 : (s_ + 1) < s_ + n_ := by rw [own_nlt (by omega) (by omega)] at c29_9; exact c29_9
      refine Go.s (XS.aloadN X8.here hx rfl (hb hby dch_32) rfl rfl) ?_
      refine Go.s (XS.iload X8.here hx rfl (hb hby dch_33) rfl) ?_
      refine Go.s (own_caload X8 hx hZ e8 V_a (own_nn (by omega)) (by rw [own_lt4 (by omega)]; omega) (v := .int (D.getD (s_ + 1) 0)) (by rw [own_tn (by omega)]; exact own_getI D 0 _) (g := (mkF m 35 #[.val (.ref b), .val (.ref a), .val (.int (Int32.ofNat s_)), .val (.int (Int32.ofNat (s_ + n_))), .val (.int (Int32.ofNat cs.length)), .val (.ref t), .val (.int (Int32.ofNat (s_ + 1))), .val (.int (Int32.ofNat (cs.length + 1))), .val (.int (D.getD s_ 0))] [(.int (Int32.ofNat (s_ + 1))), (.ref a)])) rfl rfl (hb hby dch_35) _) ?_
      show Go p e below s _ _ _ (T8.setTop (mkF m 36 #[.val (.ref b), .val (.ref a), .val (.int (Int32.ofNat s_)), .val (.int (Int32.ofNat (s_ + n_))), .val (.int (Int32.ofNat cs.length)), .val (.ref t), .val (.int (Int32.ofNat (s_ + 1))), .val (.int (Int32.ofNat (cs.length + 1))), .val (.int (D.getD s_ 0))] [(.int (D.getD (s_ + 1) 0))]))
      refine Go.s (XS.istore X8.here hx rfl (hb hby dch_36) rfl (l' := #[.val (.ref b), .val (.ref a), .val (.int (Int32.ofNat s_)), .val (.int (Int32.ofNat (s_ + n_))), .val (.int (Int32.ofNat cs.length)), .val (.ref t), .val (.int (Int32.ofNat (s_ + 1))), .val (.int (Int32.ofNat (cs.length + 1))), .val (.int (D.getD (s_ + 1) 0))]) rfl) ?_
      refine Go.s (XS.iload X8.here hx rfl (hb hby dch_38) rfl) ?_
      obtain ⟨_, _, ⟨T10, L10, k10, n10⟩, -, X10, ⟨Lc10, hQ10, l10, y10, z10⟩, st10⟩ := Jvm.LawKit.callS X8 hx (y := mN14) hown (mvT hZ (own_w hw 210 rfl)) (mvT hZ (own_w hw 211 rfl)) (mvT hZ (own_w hw 183 rfl)) (mvT hZ (own_w hw 212 rfl)) (by decide) (backOf (W := 0) (rmce l Z a0 hw [] (D.getD (s_ + 1) 0) h8 n0 O8 ) hZ (own_w hw 212 rfl) (own_w hw 183 rfl) (by decide) (by decide)) (g := (mkF m 40 #[.val (.ref b), .val (.ref a), .val (.int (Int32.ofNat s_)), .val (.int (Int32.ofNat (s_ + n_))), .val (.int (Int32.ofNat cs.length)), .val (.ref t), .val (.int (Int32.ofNat (s_ + 1))), .val (.int (Int32.ofNat (cs.length + 1))), .val (.int (D.getD (s_ + 1) 0))] [(.int (D.getD (s_ + 1) 0))])) rfl (by rw [hml]; rfl) (argsL := [(.int (D.getD (s_ + 1) 0))]) (rest := []) (lenOf pdch_1 rfl) rfl (by show 2 * 0 + _ ≤ _; exact Nat.le_of_eq rfl) (hb hby dch_40) (fun _ _ => ⟨rfl, e8, (by decide : 0 + 0 ≤ _), (by decide : 0 + 0 ≤ _)⟩)
      dsimp only [Pt.U, Pt.locs, Pt.cells, Pt.slots] at X10 l10 y10 z10 st10 hQ10
      subst y10 z10
      obtain ⟨rfl, Nc10, e10⟩ := hQ10
      have N10 : Fr n0 L10 := by rw [l10]; exact Fr.app N8 Nc10
      refine Go.st st10 ?_
      show Go p e below s _ _ _ (T10.setTop (mkF m 43 #[.val (.ref b), .val (.ref a), .val (.int (Int32.ofNat s_)), .val (.int (Int32.ofNat (s_ + n_))), .val (.int (Int32.ofNat cs.length)), .val (.ref t), .val (.int (Int32.ofNat (s_ + 1))), .val (.int (Int32.ofNat (cs.length + 1))), .val (.int (D.getD (s_ + 1) 0))] [(.int (fCe (D.getD (s_ + 1) 0)))]))
      refine Go.s (XS.ifNo X10.here hx rfl (hb hby dch_43) rfl (XT.i0_eq_f (own_ce (own_getP hbD (i := (s_ + 1)) (by omega)).2))) ?_
      show Go p e below s _ _ _ (T10.setTop (mkF m 46 #[.val (.ref b), .val (.ref a), .val (.int (Int32.ofNat s_)), .val (.int (Int32.ofNat (s_ + n_))), .val (.int (Int32.ofNat cs.length)), .val (.ref t), .val (.int (Int32.ofNat (s_ + 1))), .val (.int (Int32.ofNat (cs.length + 1))), .val (.int (D.getD (s_ + 1) 0))] []))
      refine Go.s (XS.aload X10.here hx rfl (hb hby dch_46) rfl rfl) ?_
      refine Go.s (XS.iload X10.here hx rfl (hb hby dch_48) rfl) ?_
      refine Go.s (XT.iincV X10.here hx rfl (1 : Int32) (hb hby dch_50) rfl rfl (l' := #[.val (.ref b), .val (.ref a), .val (.int (Int32.ofNat s_)), .val (.int (Int32.ofNat (s_ + n_))), .val (.int (Int32.ofNat cs.length)), .val (.ref t), .val (.int (Int32.ofNat (s_ + 1))), .val (.int ((Int32.ofNat (cs.length + 1)) + (1 : Int32))), .val (.int (D.getD (s_ + 1) 0))]) rfl) ?_
      refine Go.s (XS.iload X10.here hx rfl (hb hby dch_53) rfl) ?_
      refine Go.s (XT.i2b X10.here hx rfl (hb hby dch_55) rfl) ?_
      show Go p e below s _ _ _ (T10.setTop (mkF m 56 #[.val (.ref b), .val (.ref a), .val (.int (Int32.ofNat s_)), .val (.int (Int32.ofNat (s_ + n_))), .val (.int (Int32.ofNat cs.length)), .val (.ref t), .val (.int (Int32.ofNat (s_ + 1))), .val (.int ((Int32.ofNat (cs.length + 1)) + (1 : Int32))), .val (.int (D.getD (s_ + 1) 0))] [(.int ((D.getD (s_ + 1) 0).toInt8.toInt32)), (.int (Int32.ofNat (cs.length + 1))), (.ref t)]))
      obtain ⟨T11, h11, X11, e11, W11, V11, st11⟩ := own_stBa X10 hx hZ e10 V_t (j := (Int32.ofNat (cs.length + 1))) (own_nn (by omega)) (by rw [own_nlt (by omega) (by omega)]; omega) (by rw [own_tn (by omega), oLat_len] <;> simp) (g := (mkF m 56 #[.val (.ref b), .val (.ref a), .val (.int (Int32.ofNat s_)), .val (.int (Int32.ofNat (s_ + n_))), .val (.int (Int32.ofNat cs.length)), .val (.ref t), .val (.int (Int32.ofNat (s_ + 1))), .val (.int ((Int32.ofNat (cs.length + 1)) + (1 : Int32))), .val (.int (D.getD (s_ + 1) 0))] [(.int ((D.getD (s_ + 1) 0).toInt8.toInt32)), (.int (Int32.ofNat (cs.length + 1))), (.ref t)])) rfl rfl (hb hby dch_56)
      obtain ⟨lc11, X11, N11⟩ := own_gen X11 (Fr.snoc X11 N10 gt)
      have O11 := O8.wr W11 gt
      have K11 := K8.wr W11 (Or.inl (List.mem_of_getElem? (i := 1) rfl))
      have E_b := E_b.wr W11
      have F_b_value := F_b_value.other W11 (Or.inl ne_b_t)
      have F_b_coder := F_b_coder.other W11 (Or.inl ne_b_t)
      have F_b_count := F_b_count.other W11 (Or.inl ne_b_t)
      have E_t := E_t.wr W11
      have V_a := V_a.other W11 ne_a_t
      have V_t : Arv Z h11 t kt .byte (Int32.ofNat N) ((oLat (cs ++ [(D.getD s_ 0)])) ++ [.int (nar .byte ((D.getD (s_ + 1) 0).toInt8.toInt32))]) (.int 0) := V11
      refine Go.st st11 ?_
      show Go p e below s _ _ _ (T11.setTop (mkF m 57 #[.val (.ref b), .val (.ref a), .val (.int (Int32.ofNat s_)), .val (.int (Int32.ofNat (s_ + n_))), .val (.int (Int32.ofNat cs.length)), .val (.ref t), .val (.int (Int32.ofNat (s_ + 1))), .val (.int ((Int32.ofNat (cs.length + 1)) + (1 : Int32))), .val (.int (D.getD (s_ + 1) 0))] []))
      refine Go.s (XS.goto X11.here hx rfl (pc0 := 57) (pc' := 98) rfl (hb hby dch_57) (by decide) (by decide)) ?_
      show Go p e below s _ _ _ (T11.setTop (mkF m 98 #[.val (.ref b), .val (.ref a), .val (.int (Int32.ofNat s_)), .val (.int (Int32.ofNat (s_ + n_))), .val (.int (Int32.ofNat cs.length)), .val (.ref t), .val (.int (Int32.ofNat (s_ + 1))), .val (.int ((Int32.ofNat (cs.length + 1)) + (1 : Int32))), .val (.int (D.getD (s_ + 1) 0))] []))
      have V_t : Arv Z h11 t kt .byte (Int32.ofNat N) (oLat ((cs ++ [(D.getD s_ 0)]) ++ [(D.getD (s_ + 1) 0)])) (.int 0) := by rw [own_latS]; exact V_t
      refine Go.s (XT.iincV X11.here hx rfl (1 : Int32) (hb hby dch_98) rfl rfl (l' := #[.val (.ref b), .val (.ref a), .val (.int (Int32.ofNat s_)), .val (.int (Int32.ofNat (s_ + n_))), .val (.int (Int32.ofNat cs.length)), .val (.ref t), .val (.int ((Int32.ofNat (s_ + 1)) + (1 : Int32))), .val (.int ((Int32.ofNat (cs.length + 1)) + (1 : Int32))), .val (.int (D.getD (s_ + 1) 0))]) rfl) ?_
      refine Go.s (XS.goto X11.here hx rfl (pc0 := 101) (pc' := 26) rfl (hb hby dch_101) (by decide) (by decide)) ?_
      show Go p e below s _ _ _ (T11.setTop (mkF m 26 #[.val (.ref b), .val (.ref a), .val (.int (Int32.ofNat s_)), .val (.int (Int32.ofNat (s_ + n_))), .val (.int (Int32.ofNat cs.length)), .val (.ref t), .val (.int ((Int32.ofNat (s_ + 1)) + (1 : Int32))), .val (.int ((Int32.ofNat (cs.length + 1)) + (1 : Int32))), .val (.int (D.getD (s_ + 1) 0))] []))
      rw [own_one, own_one]
      show Go p e below s _ _ _ (T11.setTop (mkF m 26 #[.val (.ref b), .val (.ref a), .val (.int (Int32.ofNat s_)), .val (.int (Int32.ofNat (s_ + n_))), .val (.int (Int32.ofNat cs.length)), .val (.ref t), .val (.int (Int32.ofNat (s_ + 2))), .val (.int (Int32.ofNat (cs.length + 2))), .val (.int (D.getD (s_ + 1) 0))] []))
      refine Go.s (XS.iload X11.here hx rfl (hb hby dch_26) rfl) ?_
      refine Go.s (XS.iloadN X11.here hx rfl (hb hby dch_28) rfl) ?_
      by_cases c29_12 : (Int32.ofNat (s_ + 2)) < (Int32.ofNat (s_ + n_))
      · refine Go.s (XS.icmpNo X11.here hx rfl (hb hby dch_29) rfl (XT.ii_ge_f c29_12)) ?_
        show Go p e below s _ _ _ (T11.setTop (mkF m 32 #[.val (.ref b), .val (.ref a), .val (.int (Int32.ofNat s_)), .val (.int (Int32.ofNat (s_ + n_))), .val (.int (Int32.ofNat cs.length)), .val (.ref t), .val (.int (Int32.ofNat (s_ + 2))), .val (.int (Int32.ofNat (cs.length + 2))), .val (.int (D.getD (s_ + 1) 0))] []))
        have hlt2 : (s_ + 2) < s_ + n_ := by rw [own_nlt (by omega) (by omega)] at c29_12; exact c29_12
        refine Go.s (XS.aloadN X11.here hx rfl (hb hby dch_32) rfl rfl) ?_
        refine Go.s (XS.iload X11.here hx rfl (hb hby dch_33) rfl) ?_
        refine Go.s (own_caload X11 hx hZ e11 V_a (own_nn (by omega)) (by rw [own_lt4 (by omega)]; omega) (v := .int (D.getD (s_ + 2) 0)) (by rw [own_tn (by omega)]; exact own_getI D 0 _) (g := (mkF m 35 #[.val (.ref b), .val (.ref a), .val (.int (Int32.ofNat s_)), .val (.int (Int32.ofNat (s_ + n_))), .val (.int (Int32.ofNat cs.length)), .val (.ref t), .val (.int (Int32.ofNat (s_ + 2))), .val (.int (Int32.ofNat (cs.length + 2))), .val (.int (D.getD (s_ + 1) 0))] [(.int (Int32.ofNat (s_ + 2))), (.ref a)])) rfl rfl (hb hby dch_35) _) ?_
        show Go p e below s _ _ _ (T11.setTop (mkF m 36 #[.val (.ref b), .val (.ref a), .val (.int (Int32.ofNat s_)), .val (.int (Int32.ofNat (s_ + n_))), .val (.int (Int32.ofNat cs.length)), .val (.ref t), .val (.int (Int32.ofNat (s_ + 2))), .val (.int (Int32.ofNat (cs.length + 2))), .val (.int (D.getD (s_ + 1) 0))] [(.int (D.getD (s_ + 2) 0))]))
        refine Go.s (XS.istore X11.here hx rfl (hb hby dch_36) rfl (l' := #[.val (.ref b), .val (.ref a), .val (.int (Int32.ofNat s_)), .val (.int (Int32.ofNat (s_ + n_))), .val (.int (Int32.ofNat cs.length)), .val (.ref t), .val (.int (Int32.ofNat (s_ + 2))), .val (.int (Int32.ofNat (cs.length + 2))), .val (.int (D.getD (s_ + 2) 0))]) rfl) ?_
        refine Go.s (XS.iload X11.here hx rfl (hb hby dch_38) rfl) ?_
        obtain ⟨_, _, ⟨T13, L13, k13, n13⟩, -, X13, ⟨Lc13, hQ13, l13, y13, z13⟩, st13⟩ := Jvm.LawKit.callS X11 hx (y := mN14) hown (mvT hZ (own_w hw 210 rfl)) (mvT hZ (own_w hw 211 rfl)) (mvT hZ (own_w hw 183 rfl)) (mvT hZ (own_w hw 212 rfl)) (by decide) (backOf (W := 0) (rmce l Z a0 hw [] (D.getD (s_ + 2) 0) h11 n0 O11 ) hZ (own_w hw 212 rfl) (own_w hw 183 rfl) (by decide) (by decide)) (g := (mkF m 40 #[.val (.ref b), .val (.ref a), .val (.int (Int32.ofNat s_)), .val (.int (Int32.ofNat (s_ + n_))), .val (.int (Int32.ofNat cs.length)), .val (.ref t), .val (.int (Int32.ofNat (s_ + 2))), .val (.int (Int32.ofNat (cs.length + 2))), .val (.int (D.getD (s_ + 2) 0))] [(.int (D.getD (s_ + 2) 0))])) rfl (by rw [hml]; rfl) (argsL := [(.int (D.getD (s_ + 2) 0))]) (rest := []) (lenOf pdch_1 rfl) rfl (by show 2 * 0 + _ ≤ _; exact Nat.le_of_eq rfl) (hb hby dch_40) (fun _ _ => ⟨rfl, e11, (by decide : 0 + 0 ≤ _), (by decide : 0 + 0 ≤ _)⟩)
        dsimp only [Pt.U, Pt.locs, Pt.cells, Pt.slots] at X13 l13 y13 z13 st13 hQ13
        subst y13 z13
        obtain ⟨rfl, Nc13, e13⟩ := hQ13
        have N13 : Fr n0 L13 := by rw [l13]; exact Fr.app N11 Nc13
        refine Go.st st13 ?_
        show Go p e below s _ _ _ (T13.setTop (mkF m 43 #[.val (.ref b), .val (.ref a), .val (.int (Int32.ofNat s_)), .val (.int (Int32.ofNat (s_ + n_))), .val (.int (Int32.ofNat cs.length)), .val (.ref t), .val (.int (Int32.ofNat (s_ + 2))), .val (.int (Int32.ofNat (cs.length + 2))), .val (.int (D.getD (s_ + 2) 0))] [(.int (fCe (D.getD (s_ + 2) 0)))]))
        refine Go.s (XS.ifNo X13.here hx rfl (hb hby dch_43) rfl (XT.i0_eq_f (own_ce (own_getP hbD (i := (s_ + 2)) (by omega)).2))) ?_
        show Go p e below s _ _ _ (T13.setTop (mkF m 46 #[.val (.ref b), .val (.ref a), .val (.int (Int32.ofNat s_)), .val (.int (Int32.ofNat (s_ + n_))), .val (.int (Int32.ofNat cs.length)), .val (.ref t), .val (.int (Int32.ofNat (s_ + 2))), .val (.int (Int32.ofNat (cs.length + 2))), .val (.int (D.getD (s_ + 2) 0))] []))
        refine Go.s (XS.aload X13.here hx rfl (hb hby dch_46) rfl rfl) ?_
        refine Go.s (XS.iload X13.here hx rfl (hb hby dch_48) rfl) ?_
        refine Go.s (XT.iincV X13.here hx rfl (1 : Int32) (hb hby dch_50) rfl rfl (l' := #[.val (.ref b), .val (.ref a), .val (.int (Int32.ofNat s_)), .val (.int (Int32.ofNat (s_ + n_))), .val (.int (Int32.ofNat cs.length)), .val (.ref t), .val (.int (Int32.ofNat (s_ + 2))), .val (.int ((Int32.ofNat (cs.length + 2)) + (1 : Int32))), .val (.int (D.getD (s_ + 2) 0))]) rfl) ?_
        refine Go.s (XS.iload X13.here hx rfl (hb hby dch_53) rfl) ?_
        refine Go.s (XT.i2b X13.here hx rfl (hb hby dch_55) rfl) ?_
        show Go p e below s _ _ _ (T13.setTop (mkF m 56 #[.val (.ref b), .val (.ref a), .val (.int (Int32.ofNat s_)), .val (.int (Int32.ofNat (s_ + n_))), .val (.int (Int32.ofNat cs.length)), .val (.ref t), .val (.int (Int32.ofNat (s_ + 2))), .val (.int ((Int32.ofNat (cs.length + 2)) + (1 : Int32))), .val (.int (D.getD (s_ + 2) 0))] [(.int ((D.getD (s_ + 2) 0).toInt8.toInt32)), (.int (Int32.ofNat (cs.length + 2))), (.ref t)]))
        obtain ⟨T14, h14, X14, e14, W14, V14, st14⟩ := own_stBa X13 hx hZ e13 V_t (j := (Int32.ofNat (cs.length + 2))) (own_nn (by omega)) (by rw [own_nlt (by omega) (by omega)]; omega) (by rw [own_tn (by omega), oLat_len] <;> simp) (g := (mkF m 56 #[.val (.ref b), .val (.ref a), .val (.int (Int32.ofNat s_)), .val (.int (Int32.ofNat (s_ + n_))), .val (.int (Int32.ofNat cs.length)), .val (.ref t), .val (.int (Int32.ofNat (s_ + 2))), .val (.int ((Int32.ofNat (cs.length + 2)) + (1 : Int32))), .val (.int (D.getD (s_ + 2) 0))] [(.int ((D.getD (s_ + 2) 0).toInt8.toInt32)), (.int (Int32.ofNat (cs.length + 2))), (.ref t)])) rfl rfl (hb hby dch_56)
        obtain ⟨lc14, X14, N14⟩ := own_gen X14 (Fr.snoc X14 N13 gt)
        have O14 := O11.wr W14 gt
        have K14 := K11.wr W14 (Or.inl (List.mem_of_getElem? (i := 1) rfl))
        have E_b := E_b.wr W14
        have F_b_value := F_b_value.other W14 (Or.inl ne_b_t)
        have F_b_coder := F_b_coder.other W14 (Or.inl ne_b_t)
        have F_b_count := F_b_count.other W14 (Or.inl ne_b_t)
        have E_t := E_t.wr W14
        have V_a := V_a.other W14 ne_a_t
        have V_t : Arv Z h14 t kt .byte (Int32.ofNat N) ((oLat ((cs ++ [(D.getD s_ 0)]) ++ [(D.getD (s_ + 1) 0)])) ++ [.int (nar .byte ((D.getD (s_ + 2) 0).toInt8.toInt32))]) (.int 0) := V14
        refine Go.st st14 ?_
        show Go p e below s _ _ _ (T14.setTop (mkF m 57 #[.val (.ref b), .val (.ref a), .val (.int (Int32.ofNat s_)), .val (.int (Int32.ofNat (s_ + n_))), .val (.int (Int32.ofNat cs.length)), .val (.ref t), .val (.int (Int32.ofNat (s_ + 2))), .val (.int ((Int32.ofNat (cs.length + 2)) + (1 : Int32))), .val (.int (D.getD (s_ + 2) 0))] []))
        refine Go.s (XS.goto X14.here hx rfl (pc0 := 57) (pc' := 98) rfl (hb hby dch_57) (by decide) (by decide)) ?_
        show Go p e below s _ _ _ (T14.setTop (mkF m 98 #[.val (.ref b), .val (.ref a), .val (.int (Int32.ofNat s_)), .val (.int (Int32.ofNat (s_ + n_))), .val (.int (Int32.ofNat cs.length)), .val (.ref t), .val (.int (Int32.ofNat (s_ + 2))), .val (.int ((Int32.ofNat (cs.length + 2)) + (1 : Int32))), .val (.int (D.getD (s_ + 2) 0))] []))
        have V_t : Arv Z h14 t kt .byte (Int32.ofNat N) (oLat (((cs ++ [(D.getD s_ 0)]) ++ [(D.getD (s_ + 1) 0)]) ++ [(D.getD (s_ + 2) 0)])) (.int 0) := by rw [own_latS]; exact V_t
        refine Go.s (XT.iincV X14.here hx rfl (1 : Int32) (hb hby dch_98) rfl rfl (l' := #[.val (.ref b), .val (.ref a), .val (.int (Int32.ofNat s_)), .val (.int (Int32.ofNat (s_ + n_))), .val (.int (Int32.ofNat cs.length)), .val (.ref t), .val (.int ((Int32.ofNat (s_ + 2)) + (1 : Int32))), .val (.int ((Int32.ofNat (cs.length + 2)) + (1 : Int32))), .val (.int (D.getD (s_ + 2) 0))]) rfl) ?_
        refine Go.s (XS.goto X14.here hx rfl (pc0 := 101) (pc' := 26) rfl (hb hby dch_101) (by decide) (by decide)) ?_
        show Go p e below s _ _ _ (T14.setTop (mkF m 26 #[.val (.ref b), .val (.ref a), .val (.int (Int32.ofNat s_)), .val (.int (Int32.ofNat (s_ + n_))), .val (.int (Int32.ofNat cs.length)), .val (.ref t), .val (.int ((Int32.ofNat (s_ + 2)) + (1 : Int32))), .val (.int ((Int32.ofNat (cs.length + 2)) + (1 : Int32))), .val (.int (D.getD (s_ + 2) 0))] []))
        rw [own_one, own_one]
        show Go p e below s _ _ _ (T14.setTop (mkF m 26 #[.val (.ref b), .val (.ref a), .val (.int (Int32.ofNat s_)), .val (.int (Int32.ofNat (s_ + n_))), .val (.int (Int32.ofNat cs.length)), .val (.ref t), .val (.int (Int32.ofNat (s_ + 3))), .val (.int (Int32.ofNat (cs.length + 3))), .val (.int (D.getD (s_ + 2) 0))] []))
        refine Go.s (XS.iload X14.here hx rfl (hb hby dch_26) rfl) ?_
        refine Go.s (XS.iloadN X14.here hx rfl (hb hby dch_28) rfl) ?_
        by_cases c29_15 : (Int32.ofNat (s_ + 3)) < (Int32.ofNat (s_ + n_))
        · refine Go.s (XS.icmpNo X14.here hx rfl (hb hby dch_29) rfl (XT.ii_ge_f c29_15)) ?_
          show Go p e below s _ _ _ (T14.setTop (mkF m 32 #[.val (.ref b), .val (.ref a), .val (.int (Int32.ofNat s_)), .val (.int (Int32.ofNat (s_ + n_))), .val (.int (Int32.ofNat cs.length)), .val (.ref t), .val (.int (Int32.ofNat (s_ + 3))), .val (.int (Int32.ofNat (cs.length + 3))), .val (.int (D.getD (s_ + 2) 0))] []))
          have hlt3 : (s_ + 3) < s_ + n_ := by rw [own_nlt (by omega) (by omega)] at c29_15; exact c29_15
          refine Go.s (XS.aloadN X14.here hx rfl (hb hby dch_32) rfl rfl) ?_
          refine Go.s (XS.iload X14.here hx rfl (hb hby dch_33) rfl) ?_
          refine Go.s (own_caload X14 hx hZ e14 V_a (own_nn (by omega)) (by rw [own_lt4 (by omega)]; omega) (v := .int (D.getD (s_ + 3) 0)) (by rw [own_tn (by omega)]; exact own_getI D 0 _) (g := (mkF m 35 #[.val (.ref b), .val (.ref a), .val (.int (Int32.ofNat s_)), .val (.int (Int32.ofNat (s_ + n_))), .val (.int (Int32.ofNat cs.length)), .val (.ref t), .val (.int (Int32.ofNat (s_ + 3))), .val (.int (Int32.ofNat (cs.length + 3))), .val (.int (D.getD (s_ + 2) 0))] [(.int (Int32.ofNat (s_ + 3))), (.ref a)])) rfl rfl (hb hby dch_35) _) ?_
          show Go p e below s _ _ _ (T14.setTop (mkF m 36 #[.val (.ref b), .val (.ref a), .val (.int (Int32.ofNat s_)), .val (.int (Int32.ofNat (s_ + n_))), .val (.int (Int32.ofNat cs.length)), .val (.ref t), .val (.int (Int32.ofNat (s_ + 3))), .val (.int (Int32.ofNat (cs.length + 3))), .val (.int (D.getD (s_ + 2) 0))] [(.int (D.getD (s_ + 3) 0))]))
          refine Go.s (XS.istore X14.here hx rfl (hb hby dch_36) rfl (l' := #[.val (.ref b), .val (.ref a), .val (.int (Int32.ofNat s_)), .val (.int (Int32.ofNat (s_ + n_))), .val (.int (Int32.ofNat cs.length)), .val (.ref t), .val (.int (Int32.ofNat (s_ + 3))), .val (.int (Int32.ofNat (cs.length + 3))), .val (.int (D.getD (s_ + 3) 0))]) rfl) ?_
          refine Go.s (XS.iload X14.here hx rfl (hb hby dch_38) rfl) ?_
          obtain ⟨_, _, ⟨T16, L16, k16, n16⟩, -, X16, ⟨Lc16, hQ16, l16, y16, z16⟩, st16⟩ := Jvm.LawKit.callS X14 hx (y := mN14) hown (mvT hZ (own_w hw 210 rfl)) (mvT hZ (own_w hw 211 rfl)) (mvT hZ (own_w hw 183 rfl)) (mvT hZ (own_w hw 212 rfl)) (by decide) (backOf (W := 0) (rmce l Z a0 hw [] (D.getD (s_ + 3) 0) h14 n0 O14 ) hZ (own_w hw 212 rfl) (own_w hw 183 rfl) (by decide) (by decide)) (g := (mkF m 40 #[.val (.ref b), .val (.ref a), .val (.int (Int32.ofNat s_)), .val (.int (Int32.ofNat (s_ + n_))), .val (.int (Int32.ofNat cs.length)), .val (.ref t), .val (.int (Int32.ofNat (s_ + 3))), .val (.int (Int32.ofNat (cs.length + 3))), .val (.int (D.getD (s_ + 3) 0))] [(.int (D.getD (s_ + 3) 0))])) rfl (by rw [hml]; rfl) (argsL := [(.int (D.getD (s_ + 3) 0))]) (rest := []) (lenOf pdch_1 rfl) rfl (by show 2 * 0 + _ ≤ _; exact Nat.le_of_eq rfl) (hb hby dch_40) (fun _ _ => ⟨rfl, e14, (by decide : 0 + 0 ≤ _), (by decide : 0 + 0 ≤ _)⟩)
          dsimp only [Pt.U, Pt.locs, Pt.cells, Pt.slots] at X16 l16 y16 z16 st16 hQ16
          subst y16 z16
          obtain ⟨rfl, Nc16, e16⟩ := hQ16
          have N16 : Fr n0 L16 := by rw [l16]; exact Fr.app N14 Nc16
          refine Go.st st16 ?_
          show Go p e below s _ _ _ (T16.setTop (mkF m 43 #[.val (.ref b), .val (.ref a), .val (.int (Int32.ofNat s_)), .val (.int (Int32.ofNat (s_ + n_))), .val (.int (Int32.ofNat cs.length)), .val (.ref t), .val (.int (Int32.ofNat (s_ + 3))), .val (.int (Int32.ofNat (cs.length + 3))), .val (.int (D.getD (s_ + 3) 0))] [(.int (fCe (D.getD (s_ + 3) 0)))]))
          refine Go.s (XS.ifNo X16.here hx rfl (hb hby dch_43) rfl (XT.i0_eq_f (own_ce (own_getP hbD (i := (s_ + 3)) (by omega)).2))) ?_
          show Go p e below s _ _ _ (T16.setTop (mkF m 46 #[.val (.ref b), .val (.ref a), .val (.int (Int32.ofNat s_)), .val (.int (Int32.ofNat (s_ + n_))), .val (.int (Int32.ofNat cs.length)), .val (.ref t), .val (.int (Int32.ofNat (s_ + 3))), .val (.int (Int32.ofNat (cs.length + 3))), .val (.int (D.getD (s_ + 3) 0))] []))
          refine Go.s (XS.aload X16.here hx rfl (hb hby dch_46) rfl rfl) ?_
          refine Go.s (XS.iload X16.here hx rfl (hb hby dch_48) rfl) ?_
          refine Go.s (XT.iincV X16.here hx rfl (1 : Int32) (hb hby dch_50) rfl rfl (l' := #[.val (.ref b), .val (.ref a), .val (.int (Int32.ofNat s_)), .val (.int (Int32.ofNat (s_ + n_))), .val (.int (Int32.ofNat cs.length)), .val (.ref t), .val (.int (Int32.ofNat (s_ + 3))), .val (.int ((Int32.ofNat (cs.length + 3)) + (1 : Int32))), .val (.int (D.getD (s_ + 3) 0))]) rfl) ?_
          refine Go.s (XS.iload X16.here hx rfl (hb hby dch_53) rfl) ?_
          refine Go.s (XT.i2b X16.here hx rfl (hb hby dch_55) rfl) ?_
          show Go p e below s _ _ _ (T16.setTop (mkF m 56 #[.val (.ref b), .val (.ref a), .val (.int (Int32.ofNat s_)), .val (.int (Int32.ofNat (s_ + n_))), .val (.int (Int32.ofNat cs.length)), .val (.ref t), .val (.int (Int32.ofNat (s_ + 3))), .val (.int ((Int32.ofNat (cs.length + 3)) + (1 : Int32))), .val (.int (D.getD (s_ + 3) 0))] [(.int ((D.getD (s_ + 3) 0).toInt8.toInt32)), (.int (Int32.ofNat (cs.length + 3))), (.ref t)]))
          obtain ⟨T17, h17, X17, e17, W17, V17, st17⟩ := own_stBa X16 hx hZ e16 V_t (j := (Int32.ofNat (cs.length + 3))) (own_nn (by omega)) (by rw [own_nlt (by omega) (by omega)]; omega) (by rw [own_tn (by omega), oLat_len] <;> simp) (g := (mkF m 56 #[.val (.ref b), .val (.ref a), .val (.int (Int32.ofNat s_)), .val (.int (Int32.ofNat (s_ + n_))), .val (.int (Int32.ofNat cs.length)), .val (.ref t), .val (.int (Int32.ofNat (s_ + 3))), .val (.int ((Int32.ofNat (cs.length + 3)) + (1 : Int32))), .val (.int (D.getD (s_ + 3) 0))] [(.int ((D.getD (s_ + 3) 0).toInt8.toInt32)), (.int (Int32.ofNat (cs.length + 3))), (.ref t)])) rfl rfl (hb hby dch_56)
          obtain ⟨lc17, X17, N17⟩ := own_gen X17 (Fr.snoc X17 N16 gt)
          have O17 := O14.wr W17 gt
          have K17 := K14.wr W17 (Or.inl (List.mem_of_getElem? (i := 1) rfl))
          have E_b := E_b.wr W17
          have F_b_value := F_b_value.other W17 (Or.inl ne_b_t)
          have F_b_coder := F_b_coder.other W17 (Or.inl ne_b_t)
          have F_b_count := F_b_count.other W17 (Or.inl ne_b_t)
          have E_t := E_t.wr W17
          have V_a := V_a.other W17 ne_a_t
          have V_t : Arv Z h17 t kt .byte (Int32.ofNat N) ((oLat (((cs ++ [(D.getD s_ 0)]) ++ [(D.getD (s_ + 1) 0)]) ++ [(D.getD (s_ + 2) 0)])) ++ [.int (nar .byte ((D.getD (s_ + 3) 0).toInt8.toInt32))]) (.int 0) := V17
          refine Go.st st17 ?_
          show Go p e below s _ _ _ (T17.setTop (mkF m 57 #[.val (.ref b), .val (.ref a), .val (.int (Int32.ofNat s_)), .val (.int (Int32.ofNat (s_ + n_))), .val (.int (Int32.ofNat cs.length)), .val (.ref t), .val (.int (Int32.ofNat (s_ + 3))), .val (.int ((Int32.ofNat (cs.length + 3)) + (1 : Int32))), .val (.int (D.getD (s_ + 3) 0))] []))
          refine Go.s (XS.goto X17.here hx rfl (pc0 := 57) (pc' := 98) rfl (hb hby dch_57) (by decide) (by decide)) ?_
          show Go p e below s _ _ _ (T17.setTop (mkF m 98 #[.val (.ref b), .val (.ref a), .val (.int (Int32.ofNat s_)), .val (.int (Int32.ofNat (s_ + n_))), .val (.int (Int32.ofNat cs.length)), .val (.ref t), .val (.int (Int32.ofNat (s_ + 3))), .val (.int ((Int32.ofNat (cs.length + 3)) + (1 : Int32))), .val (.int (D.getD (s_ + 3) 0))] []))
          have V_t : Arv Z h17 t kt .byte (Int32.ofNat N) (oLat ((((cs ++ [(D.getD s_ 0)]) ++ [(D.getD (s_ + 1) 0)]) ++ [(D.getD (s_ + 2) 0)]) ++ [(D.getD (s_ + 3) 0)])) (.int 0) := by rw [own_latS]; exact V_t
          refine Go.s (XT.iincV X17.here hx rfl (1 : Int32) (hb hby dch_98) rfl rfl (l' := #[.val (.ref b), .val (.ref a), .val (.int (Int32.ofNat s_)), .val (.int (Int32.ofNat (s_ + n_))), .val (.int (Int32.ofNat cs.length)), .val (.ref t), .val (.int ((Int32.ofNat (s_ + 3)) + (1 : Int32))), .val (.int ((Int32.ofNat (cs.length + 3)) + (1 : Int32))), .val (.int (D.getD (s_ + 3) 0))]) rfl) ?_
          refine Go.s (XS.goto X17.here hx rfl (pc0 := 101) (pc' := 26) rfl (hb hby dch_101) (by decide) (by decide)) ?_
          show Go p e below s _ _ _ (T17.setTop (mkF m 26 #[.val (.ref b), .val (.ref a), .val (.int (Int32.ofNat s_)), .val (.int (Int32.ofNat (s_ + n_))), .val (.int (Int32.ofNat cs.length)), .val (.ref t), .val (.int ((Int32.ofNat (s_ + 3)) + (1 : Int32))), .val (.int ((Int32.ofNat (cs.length + 3)) + (1 : Int32))), .val (.int (D.getD (s_ + 3) 0))] []))
          rw [own_one, own_one]
          show Go p e below s _ _ _ (T17.setTop (mkF m 26 #[.val (.ref b), .val (.ref a), .val (.int (Int32.ofNat s_)), .val (.int (Int32.ofNat (s_ + n_))), .val (.int (Int32.ofNat cs.length)), .val (.ref t), .val (.int (Int32.ofNat (s_ + 4))), .val (.int (Int32.ofNat (cs.length + 4))), .val (.int (D.getD (s_ + 3) 0))] []))
          refine Go.s (XS.iload X17.here hx rfl (hb hby dch_26) rfl) ?_
          refine Go.s (XS.iloadN X17.here hx rfl (hb hby dch_28) rfl) ?_
          refine Go.s (XS.icmpYes X17.here hx rfl (pc0 := 29) (pc' := 104) rfl (hb hby dch_29) rfl (XT.ii_ge_t (by rw [own_nlt (by omega) (by omega)]; omega)) (by decide) (by decide)) ?_
          show Go p e below s _ _ _ (T17.setTop (mkF m 104 #[.val (.ref b), .val (.ref a), .val (.int (Int32.ofNat s_)), .val (.int (Int32.ofNat (s_ + n_))), .val (.int (Int32.ofNat cs.length)), .val (.ref t), .val (.int (Int32.ofNat (s_ + 4))), .val (.int (Int32.ofNat (cs.length + 4))), .val (.int (D.getD (s_ + 3) 0))] []))
          have hE4 : n_ = 4 := by have := hlt3; omega
          exact J104 (Int32.ofNat (s_ + 4)) (Int32.ofNat (cs.length + 4)) (.val (.int (D.getD (s_ + 3) 0)) : Slot) ((((cs ++ [(D.getD s_ 0)]) ++ [(D.getD (s_ + 1) 0)]) ++ [(D.getD (s_ + 2) 0)]) ++ [(D.getD (s_ + 3) 0)]) _ _ _ X17 e17 N17 O17 K17 E_b F_b_value F_b_coder F_b_count V_t E_t V_a (by rw [hE4]; rw [oSl_succ (l := 3) (by omega), oSl_succ (l := 2) (by omega), oSl_succ (l := 1) (by omega), oSl_succ (l := 0) (by omega), own_s0, List.nil_append]; (try simp only [List.append_assoc, List.cons_append, List.nil_append]) <;> rfl)
        · have hge3 : ¬ (s_ + 3) < s_ + n_ := by rw [own_nlt (by omega) (by omega)] at c29_15; exact c29_15
          refine Go.s (XS.icmpYes X14.here hx rfl (pc0 := 29) (pc' := 104) rfl (hb hby dch_29) rfl (XT.ii_ge_t c29_15) (by decide) (by decide)) ?_
          show Go p e below s _ _ _ (T14.setTop (mkF m 104 #[.val (.ref b), .val (.ref a), .val (.int (Int32.ofNat s_)), .val (.int (Int32.ofNat (s_ + n_))), .val (.int (Int32.ofNat cs.length)), .val (.ref t), .val (.int (Int32.ofNat (s_ + 3))), .val (.int (Int32.ofNat (cs.length + 3))), .val (.int (D.getD (s_ + 2) 0))] []))
          have hE3 : n_ = 3 := by have := hge3; omega
          exact J104 (Int32.ofNat (s_ + 3)) (Int32.ofNat (cs.length + 3)) (.val (.int (D.getD (s_ + 2) 0)) : Slot) (((cs ++ [(D.getD s_ 0)]) ++ [(D.getD (s_ + 1) 0)]) ++ [(D.getD (s_ + 2) 0)]) _ _ _ X14 e14 N14 O14 K14 E_b F_b_value F_b_coder F_b_count V_t E_t V_a (by rw [hE3]; rw [oSl_succ (l := 2) (by omega), oSl_succ (l := 1) (by omega), oSl_succ (l := 0) (by omega), own_s0, List.nil_append]; (try simp only [List.append_assoc, List.cons_append, List.nil_append]) <;> rfl)
      · have hge2 : ¬ (s_ + 2) < s_ + n_ := by rw [own_nlt (by omega) (by omega)] at c29_12; exact c29_12
        refine Go.s (XS.icmpYes X11.here hx rfl (pc0 := 29) (pc' := 104) rfl (hb hby dch_29) rfl (XT.ii_ge_t c29_12) (by decide) (by decide)) ?_
        show Go p e below s _ _ _ (T11.setTop (mkF m 104 #[.val (.ref b), .val (.ref a), .val (.int (Int32.ofNat s_)), .val (.int (Int32.ofNat (s_ + n_))), .val (.int (Int32.ofNat cs.length)), .val (.ref t), .val (.int (Int32.ofNat (s_ + 2))), .val (.int (Int32.ofNat (cs.length + 2))), .val (.int (D.getD (s_ + 1) 0))] []))
        have hE2 : n_ = 2 := by have := hge2; omega
        exact J104 (Int32.ofNat (s_ + 2)) (Int32.ofNat (cs.length + 2)) (.val (.int (D.getD (s_ + 1) 0)) : Slot) ((cs ++ [(D.getD s_ 0)]) ++ [(D.getD (s_ + 1) 0)]) _ _ _ X11 e11 N11 O11 K11 E_b F_b_value F_b_coder F_b_count V_t E_t V_a (by rw [hE2]; rw [oSl_succ (l := 1) (by omega), oSl_succ (l := 0) (by omega), own_s0, List.nil_append]; (try simp only [List.append_assoc, List.cons_append, List.nil_append]) <;> rfl)
    · have hge1 : ¬ (s_ + 1) < s_ + n_ := by rw [own_nlt (by omega) (by omega)] at c29_9; exact c29_9
      refine Go.s (XS.icmpYes X8.here hx rfl (pc0 := 29) (pc' := 104) rfl (hb hby dch_29) rfl (XT.ii_ge_t c29_9) (by decide) (by decide)) ?_
      show Go p e below s _ _ _ (T8.setTop (mkF m 104 #[.val (.ref b), .val (.ref a), .val (.int (Int32.ofNat s_)), .val (.int (Int32.ofNat (s_ + n_))), .val (.int (Int32.ofNat cs.length)), .val (.ref t), .val (.int (Int32.ofNat (s_ + 1))), .val (.int (Int32.ofNat (cs.length + 1))), .val (.int (D.getD s_ 0))] []))
      have hE1 : n_ = 1 := by have := hge1; omega
      exact J104 (Int32.ofNat (s_ + 1)) (Int32.ofNat (cs.length + 1)) (.val (.int (D.getD s_ 0)) : Slot) (cs ++ [(D.getD s_ 0)]) _ _ _ X8 e8 N8 O8 K8 E_b F_b_value F_b_coder F_b_count V_t E_t V_a (by rw [hE1]; rw [oSl_succ (l := 0) (by omega), own_s0, List.nil_append]; (try simp only [List.append_assoc, List.cons_append, List.nil_append]) <;> rfl)
  · have hge0 : ¬ s_ < s_ + n_ := by rw [own_nlt (by omega) (by omega)] at c29_6; exact c29_6
    refine Go.s (XS.icmpYes X3.here hx rfl (pc0 := 29) (pc' := 104) rfl (hb hby dch_29) rfl (XT.ii_ge_t c29_6) (by decide) (by decide)) ?_
    show Go p e below s _ _ _ (T3.setTop (mkF m 104 #[.val (.ref b), .val (.ref a), .val (.int (Int32.ofNat s_)), .val (.int (Int32.ofNat (s_ + n_))), .val (.int (Int32.ofNat cs.length)), .val (.ref t), .val (.int (Int32.ofNat s_)), .val (.int (Int32.ofNat cs.length)), .unset] []))
    have hE0 : n_ = 0 := by have := hge0; omega
    exact J104 (Int32.ofNat s_) (Int32.ofNat cs.length) (.unset : Slot) cs _ _ _ X3 e3 N2 O0 K0 E_b F_b_value F_b_coder F_b_count V_t E_t V_a (by rw [hE0]; rw [own_s0, List.append_nil])
 obtain ⟨s2, o2, st2, r2⟩ := G
 exact ⟨s2, o2, castTop (efch m b a (Int32.ofNat s_) (Int32.ofNat (s_ + n_))) st2, r2⟩
theorem dap_0 : decode jdk_68_method_29_code 0 = .ok (.iload_n 2, 1) := by decide +kernel
theorem dap_1 : decode jdk_68_method_29_code 1 = .ok (.iload_n 3, 1) := by decide +kernel
theorem dap_2 : decode jdk_68_method_29_code 2 = .ok (.iadd, 1) := by decide +kernel
theorem dap_3 : decode jdk_68_method_29_code 3 = .ok (.istore 4, 2) := by decide +kernel
theorem dap_5 : decode jdk_68_method_29_code 5 = .ok (.iload_n 2, 1) := by decide +kernel
theorem dap_6 : decode jdk_68_method_29_code 6 = .ok (.iload 4, 2) := by decide +kernel
theorem dap_8 : decode jdk_68_method_29_code 8 = .ok (.aload_n 1, 1) := by decide +kernel
theorem dap_9 : decode jdk_68_method_29_code 9 = .ok (.arraylength, 1) := by decide +kernel
theorem dap_10 : decode jdk_68_method_29_code 10 = .ok (.getstatic 183, 3) := by decide +kernel
theorem dap_13 : decode jdk_68_method_29_code 13 = .ok (.invokestatic 161, 3) := by decide +kernel
theorem dap_16 : decode jdk_68_method_29_code 16 = .ok (.pop, 1) := by decide +kernel
theorem dap_17 : decode jdk_68_method_29_code 17 = .ok (.aload_n 0, 1) := by decide +kernel
theorem dap_18 : decode jdk_68_method_29_code 18 = .ok (.aload_n 0, 1) := by decide +kernel
theorem dap_19 : decode jdk_68_method_29_code 19 = .ok (.getfield 79, 3) := by decide +kernel
theorem dap_22 : decode jdk_68_method_29_code 22 = .ok (.iload_n 3, 1) := by decide +kernel
theorem dap_23 : decode jdk_68_method_29_code 23 = .ok (.iadd, 1) := by decide +kernel
theorem dap_24 : decode jdk_68_method_29_code 24 = .ok (.invokevirtual 100, 3) := by decide +kernel
theorem dap_27 : decode jdk_68_method_29_code 27 = .ok (.aload_n 0, 1) := by decide +kernel
theorem dap_28 : decode jdk_68_method_29_code 28 = .ok (.aload_n 1, 1) := by decide +kernel
theorem dap_29 : decode jdk_68_method_29_code 29 = .ok (.iload_n 2, 1) := by decide +kernel
theorem dap_30 : decode jdk_68_method_29_code 30 = .ok (.iload 4, 2) := by decide +kernel
theorem dap_32 : decode jdk_68_method_29_code 32 = .ok (.invokevirtual 239, 3) := by decide +kernel
theorem dap_35 : decode jdk_68_method_29_code 35 = .ok (.aload_n 0, 1) := by decide +kernel
theorem dap_36 : decode jdk_68_method_29_code 36 = .ok (.areturn, 1) := by decide +kernel
theorem pdap_0 : parseMethodDescriptor "(IIILjava/util/function/BiFunction;)I" = some ⟨[.int, .int, .int, (.object "java/util/function/BiFunction")], some .int⟩ := by decide +kernel
theorem pdap_1 : parseMethodDescriptor "([CII)V" = some ⟨[(.array .char), .int, .int], none⟩ := by decide +kernel
theorem pnap : plainName "java/lang/AbstractStringBuilder" = true := by first | (simp [plainName, overriddenIn]; done) | decide +kernel
theorem efap (m : MethodId) (x0 : Addr) (x1 : Addr) (x2 : Int32) (x3 : Int32) : entryFrame m #[(.ref x0), (.ref x1), (.int x2), (.int x3)] 5 = mkF m 0 #[.val (.ref x0), .val (.ref x1), .val (.int x2), .val (.int x3), .unset] [] := by first | (simp [entryFrame, mkF, argsToLocals, Value.category, maxLocals]; done) | rfl
def Qap (Z : State) (b : Addr) (t : Addr) (kt : ClassId) (N : Nat) (cs : List Int32) (a : Addr) (ka : ClassId) (D : List Int32) (s_ : Nat) (n_ : Nat) (zc : Int32) (gm : Value) (h0 : Heap) (n0 : Nat) (v : Option Value) (h : Heap) (L : List Loc) : Prop := ∃ (u : Addr) (ku : ClassId) (M : Nat), v = some (.ref b) ∧ Fr n0 L ∧ Keep h0 h [b, t] ∧ n0 ≤ u ∧ (u = t ∨ h0.size ≤ u) ∧ Exa Z h b "java/lang/StringBuilder" ∧ Fld Z h b "java/lang/AbstractStringBuilder" "value" "[B" (.ref u) ∧ Fld Z h b "java/lang/AbstractStringBuilder" "coder" "B" (.int 0) ∧ Fld Z h b "java/lang/AbstractStringBuilder" "count" "I" (.int (Int32.ofNat (cs ++ oSl D s_ n_).length)) ∧ Arv Z h u ku .byte (Int32.ofNat M) (oLat (cs ++ oSl D s_ n_)) (.int 0) ∧ Exa Z h u "[B" ∧ M ≤ 16 ∧ (cs ++ oSl D s_ n_).length ≤ M
theorem rmap (l : Launch) (Z : State) (a0 : Array Value) (hw : ∀ d ∈ tables_1, d.before a0 Z = true) (ws : List Jvm.Cond) (b : Addr) (t : Addr) (kt : ClassId) (N : Nat) (cs : List Int32) (a : Addr) (ka : ClassId) (D : List Int32) (s_ : Nat) (n_ : Nat) (zc : Int32) (gm : Value) (h0 : Heap) (n0 : Nat) (O0 : Old Z n0 h0) (E_b : Exa Z h0 b "java/lang/StringBuilder") (F_b_value : Fld Z h0 b "java/lang/AbstractStringBuilder" "value" "[B" (.ref t)) (F_b_coder : Fld Z h0 b "java/lang/AbstractStringBuilder" "coder" "B" (.int 0)) (F_b_count : Fld Z h0 b "java/lang/AbstractStringBuilder" "count" "I" (.int (Int32.ofNat cs.length))) (V_t : Arv Z h0 t kt .byte (Int32.ofNat N) (oLat cs) (.int 0)) (E_t : Exa Z h0 t "[B") (V_a : Arv Z h0 a ka .char (4 : Int32) (D.map Value.int) (.int 0)) (gb : n0 ≤ b) (gt : n0 ≤ t) (hN : N ≤ 16) (hcl : cs.length ≤ N) (hc4 : cs.length ≤ 4) (hD : D.length = 4) (hbD : ∀ c ∈ D, ¬ c < 0 ∧ ¬ (255 : Int32) < c) (hsl : s_ + n_ ≤ 4) (SC : Sta Z Z.heap "java/lang/String" "COMPACT_STRINGS" "Z" (.int zc)) (hcs : ¬ zc = 0) (SG : Sta Z Z.heap "jdk/internal/util/Preconditions" "IOOBE_FORMATTER" "Ljava/util/function/BiFunction;" gm) (rg : gm.isRef = true) :
  MetFree l mN16 (head1 (Jvm.Cond.code mN16 jdk_68_method_29_code 5 (some (.object "java/lang/AbstractStringBuilder")) :: ws) ({ frames := 4, cells := 1, slots := 16, locals := 62 } : Room)) (fun A_ U_ => A_ = #[(.ref b), (.ref a), (.int (Int32.ofNat s_)), (.int (Int32.ofNat n_))] ∧ Z.Warmed39 U_.vm ∧ U_.heap = h0) (fun _ _ _ _ _ => True) (fun _ U o U' => ∃ v L, o = .returned v ∧ Qap Z b t kt N cs a ka D s_ n_ zc gm h0 n0 v U'.heap L ∧ FrameEnd U o U' L ({ frames := 4, cells := 1, slots := 16, locals := 62 } : Room).cells ({ frames := 4, cells := 1, slots := 16, locals := 62 } : Room).slots) := by
 refine MetFree.of_bodySF (plainFor_of_name pnap) hisR ?_
 intro p e s m args below meth cd s₁ Bd hml0 hP hK
 obtain ⟨rfl, hZ, hh⟩ := hP
 have hx := Bd.exec
 have hby := Bd.bytes
 have hlk : meth.locks = false := BodyLoose.notSynchronized Bd
 have hml : cd.maxLocals = 5 := hml0
 have hown : s.vm.findClass "java/lang/AbstractStringBuilder" = some m.cls := findClass_of_methodNamed Bd.named
 have X0 : Stand p l e ({ frames := 4, cells := 1, slots := 16, locals := 62 } : Room) s m #[(.ref b), (.ref a), (.int (Int32.ofNat s_)), (.int (Int32.ofNat n_))] below meth cd s₁ [] 0 0 := Stand.of_body Bd
 have e0 : s₁.heap = h0 := by rw [← hh, Bd.state]; rfl
 have N0 := Fr.nil n0
 have K0 : Keep h0 h0 [b, t] := Keep.refl _ _
 have ne_b_t : b ≠ t := Exa.neArv E_b V_t (own_w hw 59 rfl)
 have ne_b_a : b ≠ a := Exa.neArv E_b V_a (own_w hw 59 rfl)
 have ne_a_t : a ≠ t := own_neCB V_a V_t
 have G : Go p e below s 1 16 (Qap Z b t kt N cs a ka D s_ n_ zc gm h0 n0) (s₁.setTop (mkF m 0 #[.val (.ref b), .val (.ref a), .val (.int (Int32.ofNat s_)), .val (.int (Int32.ofNat n_)), .unset] [])) := by
  refine Go.s (XS.iloadN X0.here hx rfl (hb hby dap_0) rfl) ?_
  refine Go.s (XS.iloadN X0.here hx rfl (hb hby dap_1) rfl) ?_
  refine Go.s (XS.iadd X0.here hx rfl (hb hby dap_2) rfl) ?_
  show Go p e below s _ _ _ (s₁.setTop (mkF m 3 #[.val (.ref b), .val (.ref a), .val (.int (Int32.ofNat s_)), .val (.int (Int32.ofNat n_)), .unset] [(.int ((Int32.ofNat s_) + (Int32.ofNat n_)))]))
  rw [own_add]
  show Go p e below s _ _ _ (s₁.setTop (mkF m 3 #[.val (.ref b), .val (.ref a), .val (.int (Int32.ofNat s_)), .val (.int (Int32.ofNat n_)), .unset] [(.int (Int32.ofNat (s_ + n_)))]))
  refine Go.s (XS.istore X0.here hx rfl (hb hby dap_3) rfl (l' := #[.val (.ref b), .val (.ref a), .val (.int (Int32.ofNat s_)), .val (.int (Int32.ofNat n_)), .val (.int (Int32.ofNat (s_ + n_)))]) rfl) ?_
  refine Go.s (XS.iloadN X0.here hx rfl (hb hby dap_5) rfl) ?_
  refine Go.s (XS.iload X0.here hx rfl (hb hby dap_6) rfl) ?_
  refine Go.s (XS.aloadN X0.here hx rfl (hb hby dap_8) rfl rfl) ?_
  refine Go.s (own_len X0 hx hZ e0 V_a (g := (mkF m 9 #[.val (.ref b), .val (.ref a), .val (.int (Int32.ofNat s_)), .val (.int (Int32.ofNat n_)), .val (.int (Int32.ofNat (s_ + n_)))] [(.ref a), (.int (Int32.ofNat (s_ + n_))), (.int (Int32.ofNat s_))])) rfl rfl (hb hby dap_9) _) ?_
  show Go p e below s _ _ _ (s₁.setTop (mkF m 10 #[.val (.ref b), .val (.ref a), .val (.int (Int32.ofNat s_)), .val (.int (Int32.ofNat n_)), .val (.int (Int32.ofNat (s_ + n_)))] [(.int 4), (.int (Int32.ofNat (s_ + n_))), (.int (Int32.ofNat s_))]))
  obtain ⟨T1, X1, e1, st1⟩ := getS X0 hx hZ hown (host := "") (own_w hw 86 rfl) Via.refl e0 (SG.ext O0.2) (g := (mkF m 10 #[.val (.ref b), .val (.ref a), .val (.int (Int32.ofNat s_)), .val (.int (Int32.ofNat n_)), .val (.int (Int32.ofNat (s_ + n_)))] [(.int 4), (.int (Int32.ofNat (s_ + n_))), (.int (Int32.ofNat s_))])) rfl (hb hby dap_10)
  refine Go.st st1 ?_
  show Go p e below s _ _ _ (T1.setTop (mkF m 13 #[.val (.ref b), .val (.ref a), .val (.int (Int32.ofNat s_)), .val (.int (Int32.ofNat n_)), .val (.int (Int32.ofNat (s_ + n_)))] [gm, (.int 4), (.int (Int32.ofNat (s_ + n_))), (.int (Int32.ofNat s_))]))
  obtain ⟨_, _, ⟨T2, L2, k2, n2⟩, -, X2, ⟨Lc2, hQ2, l2, y2, z2⟩, st2⟩ := Jvm.LawKit.callS X1 hx (y := mN6) hown (mvT hZ (own_w hw 89 rfl)) (mvT hZ (own_w hw 90 rfl)) (mvT hZ (own_w hw 87 rfl)) (mvT hZ (own_w hw 91 rfl)) (by decide) (backOf (W := 0) (rmcf l Z a0 hw [] s_ n_ gm h0 n0 O0 hsl rg) hZ (own_w hw 91 rfl) (own_w hw 87 rfl) (by decide) (by decide)) (g := (mkF m 13 #[.val (.ref b), .val (.ref a), .val (.int (Int32.ofNat s_)), .val (.int (Int32.ofNat n_)), .val (.int (Int32.ofNat (s_ + n_)))] [gm, (.int 4), (.int (Int32.ofNat (s_ + n_))), (.int (Int32.ofNat s_))])) rfl (by rw [hml]; rfl) (argsL := [(.int (Int32.ofNat s_)), (.int (Int32.ofNat (s_ + n_))), (.int 4), gm]) (rest := []) (lenOf pdap_0 rfl) rfl (by show 2 * 0 + _ ≤ _; exact Nat.le_of_eq rfl) (hb hby dap_13) (fun _ _ => ⟨rfl, e1, (by decide : 0 + 0 ≤ _), (by decide : 0 + 0 ≤ _)⟩)
  dsimp only [Pt.U, Pt.locs, Pt.cells, Pt.slots] at X2 l2 y2 z2 st2 hQ2
  subst y2 z2
  obtain ⟨rfl, Nc2, e2⟩ := hQ2
  have N2 : Fr n0 L2 := by rw [l2]; exact Fr.app N0 Nc2
  refine Go.st st2 ?_
  show Go p e below s _ _ _ (T2.setTop (mkF m 16 #[.val (.ref b), .val (.ref a), .val (.int (Int32.ofNat s_)), .val (.int (Int32.ofNat n_)), .val (.int (Int32.ofNat (s_ + n_)))] [(.int (Int32.ofNat s_))]))
  refine Go.s (XT.pop X2.here hx rfl (hb hby dap_16) rfl rfl) ?_
  show Go p e below s _ _ _ (T2.setTop (mkF m 17 #[.val (.ref b), .val (.ref a), .val (.int (Int32.ofNat s_)), .val (.int (Int32.ofNat n_)), .val (.int (Int32.ofNat (s_ + n_)))] []))
  refine Go.s (XS.aloadN X2.here hx rfl (hb hby dap_17) rfl rfl) ?_
  refine Go.s (XS.aloadN X2.here hx rfl (hb hby dap_18) rfl rfl) ?_
  obtain ⟨T3, X3, e3, st3⟩ := getF X2 hx hZ hown (host := "") (Or.inl (own_w hw 92 rfl)) Via.refl e2 F_b_count (g := (mkF m 19 #[.val (.ref b), .val (.ref a), .val (.int (Int32.ofNat s_)), .val (.int (Int32.ofNat n_)), .val (.int (Int32.ofNat (s_ + n_)))] [(.ref b), (.ref b)])) rfl rfl (hb hby dap_19)
  refine Go.st st3 ?_
  show Go p e below s _ _ _ (T3.setTop (mkF m 22 #[.val (.ref b), .val (.ref a), .val (.int (Int32.ofNat s_)), .val (.int (Int32.ofNat n_)), .val (.int (Int32.ofNat (s_ + n_)))] [(.int (Int32.ofNat cs.length)), (.ref b)]))
  refine Go.s (XS.iloadN X3.here hx rfl (hb hby dap_22) rfl) ?_
  refine Go.s (XS.iadd X3.here hx rfl (hb hby dap_23) rfl) ?_
  show Go p e below s _ _ _ (T3.setTop (mkF m 24 #[.val (.ref b), .val (.ref a), .val (.int (Int32.ofNat s_)), .val (.int (Int32.ofNat n_)), .val (.int (Int32.ofNat (s_ + n_)))] [(.int ((Int32.ofNat cs.length) + (Int32.ofNat n_))), (.ref b)]))
  rw [own_add]
  show Go p e below s _ _ _ (T3.setTop (mkF m 24 #[.val (.ref b), .val (.ref a), .val (.int (Int32.ofNat s_)), .val (.int (Int32.ofNat n_)), .val (.int (Int32.ofNat (s_ + n_)))] [(.int (Int32.ofNat (cs.length + n_))), (.ref b)]))
  obtain ⟨cq4, qa4, qb4⟩ := Exa.cell E_b
  obtain ⟨_, _, ⟨T4, L4, k4, n4⟩, -, X4, ⟨Lc4, hQ4, l4, y4, z4⟩, st4⟩ := X3.privateBack hx (y := mN12) hown (mvT hZ (own_w hw 94 rfl)) (mvT hZ (own_w hw 95 rfl)) (own_selP (mvT hZ (own_w hw 97 rfl)) (Cond.privateMethod_at (mvP hZ (own_w hw 96 rfl) (args := #[]))) (mvT hZ (own_w hw 95 rfl)) (by decide)) (Cond.privateMethod_at (mvP hZ (own_w hw 96 rfl) (args := #[]))) (mvT hZ (own_w hw 98 rfl)) (by decide) (backOf (W := 0) (rmen l Z a0 hw [] b t kt N (cs.length + n_) cs h0 n0 O0 E_b F_b_value F_b_coder F_b_count V_t E_t gb gt hN (by omega) hcl) hZ (own_w hw 98 rfl) (own_w hw 68 rfl) (by decide) (by decide)) (g := (mkF m 24 #[.val (.ref b), .val (.ref a), .val (.int (Int32.ofNat s_)), .val (.int (Int32.ofNat n_)), .val (.int (Int32.ofNat (s_ + n_)))] [(.int (Int32.ofNat (cs.length + n_))), (.ref b)])) rfl (by rw [hml]; rfl) (Steps.refl _) (a := b) (by rw [e3]; exact qa4) qb4 (argsL := [(.int (Int32.ofNat (cs.length + n_)))]) (rest := []) (lenOf pdsb_0 rfl) rfl (by show 2 * 0 + _ ≤ _; exact Nat.le_of_eq rfl) (hb hby dap_24) (fun _ _ => ⟨rfl, e3, (by decide : 0 + 1 ≤ _), (by decide : 0 + 16 ≤ _)⟩)
  dsimp only [Pt.U, Pt.locs, Pt.cells, Pt.slots] at X4 l4 y4 z4 st4 hQ4
  subst y4 z4
  obtain ⟨u, ku, M, rfl, Nc4, Kc4, gu, huo, NA, NB, NC, ND, NE, NF, hmM, hM16, hNM⟩ := hQ4
  have N4 : Fr n0 L4 := by rw [l4]; exact Fr.app N2 Nc4
  have V_a := V_a.keep Kc4 (ninS (Ne.symm ne_b_a) nin0)
  have O4 := O0.keep Kc4 (allS gb all0)
  have K4 := K0.trans Kc4 (allS (Or.inl (List.mem_of_getElem? (i := 0) rfl)) all0)
  have E_b : Exa Z T4.heap b "java/lang/StringBuilder" := NA
  have F_b_value : Fld Z T4.heap b "java/lang/AbstractStringBuilder" "value" "[B" (.ref u) := NB
  have F_b_coder : Fld Z T4.heap b "java/lang/AbstractStringBuilder" "coder" "B" (.int 0) := NC
  have F_b_count : Fld Z T4.heap b "java/lang/AbstractStringBuilder" "count" "I" (.int (Int32.ofNat cs.length)) := ND
  have V_u : Arv Z T4.heap u ku .byte (Int32.ofNat M) (oLat cs) (.int 0) := NE
  have E_u : Exa Z T4.heap u "[B" := NF
  have hku : u ∈ [b, t] ∨ h0.size ≤ u := huo.imp (fun q => by rw [q]; exact List.mem_of_getElem? (i := 1) rfl) id
  have ne_b_u : b ≠ u := Exa.neArv E_b V_u (own_w hw 59 rfl)
  have ne_a_u : a ≠ u := own_neCB V_a V_u
  refine Go.tr st4 ?_
  show Go p e below s _ _ _ (T4.setTop (mkF m 27 #[.val (.ref b), .val (.ref a), .val (.int (Int32.ofNat s_)), .val (.int (Int32.ofNat n_)), .val (.int (Int32.ofNat (s_ + n_)))] []))
  refine Go.s (XS.aloadN X4.here hx rfl (hb hby dap_27) rfl rfl) ?_
  refine Go.s (XS.aloadN X4.here hx rfl (hb hby dap_28) rfl rfl) ?_
  refine Go.s (XS.iloadN X4.here hx rfl (hb hby dap_29) rfl) ?_
  refine Go.s (XS.iload X4.here hx rfl (hb hby dap_30) rfl) ?_
  obtain ⟨cq5, qa5, qb5⟩ := Exa.cell E_b
  obtain ⟨_, _, ⟨T5, L5, k5, n5⟩, -, X5, ⟨Lc5, hQ5, l5, y5, z5⟩, st5⟩ := X4.privateBack hx (y := mN15) hown (mvT hZ (own_w hw 99 rfl)) (mvT hZ (own_w hw 100 rfl)) (own_selP (mvT hZ (own_w hw 102 rfl)) (Cond.privateMethod_at (mvP hZ (own_w hw 101 rfl) (args := #[]))) (mvT hZ (own_w hw 100 rfl)) (by decide)) (Cond.privateMethod_at (mvP hZ (own_w hw 101 rfl) (args := #[]))) (mvT hZ (own_w hw 103 rfl)) (by decide) (backOf (W := 0) (rmch l Z a0 hw [] b u ku M cs a ka D s_ n_ zc T4.heap n0 O4 E_b F_b_value F_b_coder F_b_count V_u E_u V_a gb gu hM16 (by omega) hD hbD hsl SC hcs) hZ (own_w hw 103 rfl) (own_w hw 68 rfl) (by decide) (by decide)) (g := (mkF m 32 #[.val (.ref b), .val (.ref a), .val (.int (Int32.ofNat s_)), .val (.int (Int32.ofNat n_)), .val (.int (Int32.ofNat (s_ + n_)))] [(.int (Int32.ofNat (s_ + n_))), (.int (Int32.ofNat s_)), (.ref a), (.ref b)])) rfl (by rw [hml]; rfl) (Steps.refl _) (a := b) qa5 qb5 (argsL := [(.ref a), (.int (Int32.ofNat s_)), (.int (Int32.ofNat (s_ + n_)))]) (rest := []) (lenOf pdap_1 rfl) rfl (by show 2 * 0 + _ ≤ _; exact Nat.le_of_eq rfl) (hb hby dap_32) (fun _ _ => ⟨rfl, rfl, (by decide : 1 + 0 ≤ _), (by decide : 16 + 0 ≤ _)⟩)
  dsimp only [Pt.U, Pt.locs, Pt.cells, Pt.slots] at X5 l5 y5 z5 st5 hQ5
  subst y5 z5
  obtain ⟨rfl, Nc5, Kc5, NA, NB, NC, ND, NE, NF⟩ := hQ5
  have N5 : Fr n0 L5 := by rw [l5]; exact Fr.app N4 Nc5
  have V_a := V_a.keep Kc5 (ninS (Ne.symm ne_b_a) (ninS ne_a_u nin0))
  have O5 := O4.keep Kc5 (allS gb (allS gu all0))
  have K5 := K4.trans Kc5 (allS (Or.inl (List.mem_of_getElem? (i := 0) rfl)) (allS hku all0))
  have E_b : Exa Z T5.heap b "java/lang/StringBuilder" := NA
  have F_b_value : Fld Z T5.heap b "java/lang/AbstractStringBuilder" "value" "[B" (.ref u) := NB
  have F_b_coder : Fld Z T5.heap b "java/lang/AbstractStringBuilder" "coder" "B" (.int 0) := NC
  have F_b_count : Fld Z T5.heap b "java/lang/AbstractStringBuilder" "count" "I" (.int (Int32.ofNat (cs ++ oSl D s_ n_).length)) := ND
  have V_u : Arv Z T5.heap u ku .byte (Int32.ofNat M) (oLat (cs ++ oSl D s_ n_)) (.int 0) := NE
  have E_u : Exa Z T5.heap u "[B" := NF
  refine Go.tr st5 ?_
  show Go p e below s _ _ _ (T5.setTop (mkF m 35 #[.val (.ref b), .val (.ref a), .val (.int (Int32.ofNat s_)), .val (.int (Int32.ofNat n_)), .val (.int (Int32.ofNat (s_ + n_)))] []))
  refine Go.s (XS.aloadN X5.here hx rfl (hb hby dap_35) rfl rfl) ?_
  exact Go.ret X5 hlk (some (.ref b)) (fun h => by rw [Bd.returns] at h; cases h) (by exact ⟨u, ku, M, rfl, N5, K5, gu, huo, E_b, F_b_value, F_b_coder, F_b_count, V_u, E_u, hM16, by rw [own_cntL hsl hD]; omega⟩) (by decide) (by decide) (fun fs hr => retOut X5 hx Bd.returns rfl (Or.inr (Or.inr (Or.inr (Or.inr ⟨rfl, rfl, rfl⟩)))) (hb hby dap_36) hr)
 obtain ⟨s2, o2, st2, r2⟩ := G
 exact ⟨s2, o2, castTop (efap m b a (Int32.ofNat s_) (Int32.ofNat n_)) st2, r2⟩
theorem dsa_0 : decode jdk_67_method_12_code 0 = .ok (.aload_n 0, 1) := by decide +kernel
theorem dsa_1 : decode jdk_67_method_12_code 1 = .ok (.aload_n 1, 1) := by decide +kernel
theorem dsa_2 : decode jdk_67_method_12_code 2 = .ok (.iload_n 2, 1) := by decide +kernel
theorem dsa_3 : decode jdk_67_method_12_code 3 = .ok (.iload_n 3, 1) := by decide +kernel
theorem dsa_4 : decode jdk_67_method_12_code 4 = .ok (.invokespecial 44, 3) := by decide +kernel
theorem dsa_7 : decode jdk_67_method_12_code 7 = .ok (.pop, 1) := by decide +kernel
theorem dsa_8 : decode jdk_67_method_12_code 8 = .ok (.aload_n 0, 1) := by decide +kernel
theorem dsa_9 : decode jdk_67_method_12_code 9 = .ok (.areturn, 1) := by decide +kernel
theorem pdsa_0 : parseMethodDescriptor "([CII)Ljava/lang/AbstractStringBuilder;" = some ⟨[(.array .char), .int, .int], some (.object "java/lang/AbstractStringBuilder")⟩ := by decide +kernel
theorem pnsa : plainName "java/lang/StringBuilder" = true := by first | (simp [plainName, overriddenIn]; done) | decide +kernel
theorem efsa (m : MethodId) (x0 : Addr) (x1 : Addr) (x2 : Int32) (x3 : Int32) : entryFrame m #[(.ref x0), (.ref x1), (.int x2), (.int x3)] 4 = mkF m 0 #[.val (.ref x0), .val (.ref x1), .val (.int x2), .val (.int x3)] [] := by first | (simp [entryFrame, mkF, argsToLocals, Value.category, maxLocals]; done) | rfl
def Qsa (Z : State) (b : Addr) (t : Addr) (kt : ClassId) (N : Nat) (cs : List Int32) (a : Addr) (ka : ClassId) (D : List Int32) (s_ : Nat) (n_ : Nat) (zc : Int32) (gm : Value) (h0 : Heap) (n0 : Nat) (v : Option Value) (h : Heap) (L : List Loc) : Prop := ∃ (u : Addr) (ku : ClassId) (M : Nat), v = some (.ref b) ∧ Fr n0 L ∧ Keep h0 h [b, t] ∧ n0 ≤ u ∧ (u = t ∨ h0.size ≤ u) ∧ Exa Z h b "java/lang/StringBuilder" ∧ Fld Z h b "java/lang/AbstractStringBuilder" "value" "[B" (.ref u) ∧ Fld Z h b "java/lang/AbstractStringBuilder" "coder" "B" (.int 0) ∧ Fld Z h b "java/lang/AbstractStringBuilder" "count" "I" (.int (Int32.ofNat (cs ++ oSl D s_ n_).length)) ∧ Arv Z h u ku .byte (Int32.ofNat M) (oLat (cs ++ oSl D s_ n_)) (.int 0) ∧ Exa Z h u "[B" ∧ M ≤ 16 ∧ (cs ++ oSl D s_ n_).length ≤ M
theorem rmsa (l : Launch) (Z : State) (a0 : Array Value) (hw : ∀ d ∈ tables_1, d.before a0 Z = true) (ws : List Jvm.Cond) (b : Addr) (t : Addr) (kt : ClassId) (N : Nat) (cs : List Int32) (a : Addr) (ka : ClassId) (D : List Int32) (s_ : Nat) (n_ : Nat) (zc : Int32) (gm : Value) (h0 : Heap) (n0 : Nat) (O0 : Old Z n0 h0) (E_b : Exa Z h0 b "java/lang/StringBuilder") (F_b_value : Fld Z h0 b "java/lang/AbstractStringBuilder" "value" "[B" (.ref t)) (F_b_coder : Fld Z h0 b "java/lang/AbstractStringBuilder" "coder" "B" (.int 0)) (F_b_count : Fld Z h0 b "java/lang/AbstractStringBuilder" "count" "I" (.int (Int32.ofNat cs.length))) (V_t : Arv Z h0 t kt .byte (Int32.ofNat N) (oLat cs) (.int 0)) (E_t : Exa Z h0 t "[B") (V_a : Arv Z h0 a ka .char (4 : Int32) (D.map Value.int) (.int 0)) (gb : n0 ≤ b) (gt : n0 ≤ t) (hN : N ≤ 16) (hcl : cs.length ≤ N) (hc4 : cs.length ≤ 4) (hD : D.length = 4) (hbD : ∀ c ∈ D, ¬ c < 0 ∧ ¬ (255 : Int32) < c) (hsl : s_ + n_ ≤ 4) (SC : Sta Z Z.heap "java/lang/String" "COMPACT_STRINGS" "Z" (.int zc)) (hcs : ¬ zc = 0) (SG : Sta Z Z.heap "jdk/internal/util/Preconditions" "IOOBE_FORMATTER" "Ljava/util/function/BiFunction;" gm) (rg : gm.isRef = true) :
  MetFree l mN17 (head1 (Jvm.Cond.code mN17 jdk_67_method_12_code 4 (some (.object "java/lang/StringBuilder")) :: ws) ({ frames := 5, cells := 1, slots := 16, locals := 78 } : Room)) (fun A_ U_ => A_ = #[(.ref b), (.ref a), (.int (Int32.ofNat s_)), (.int (Int32.ofNat n_))] ∧ Z.Warmed39 U_.vm ∧ U_.heap = h0) (fun _ _ _ _ _ => True) (fun _ U o U' => ∃ v L, o = .returned v ∧ Qsa Z b t kt N cs a ka D s_ n_ zc gm h0 n0 v U'.heap L ∧ FrameEnd U o U' L ({ frames := 5, cells := 1, slots := 16, locals := 78 } : Room).cells ({ frames := 5, cells := 1, slots := 16, locals := 78 } : Room).slots) := by
 refine MetFree.of_bodySF (plainFor_of_name pnsa) hisR ?_
 intro p e s m args below meth cd s₁ Bd hml0 hP hK
 obtain ⟨rfl, hZ, hh⟩ := hP
 have hx := Bd.exec
 have hby := Bd.bytes
 have hlk : meth.locks = false := BodyLoose.notSynchronized Bd
 have hml : cd.maxLocals = 4 := hml0
 have hown : s.vm.findClass "java/lang/StringBuilder" = some m.cls := findClass_of_methodNamed Bd.named
 have X0 : Stand p l e ({ frames := 5, cells := 1, slots := 16, locals := 78 } : Room) s m #[(.ref b), (.ref a), (.int (Int32.ofNat s_)), (.int (Int32.ofNat n_))] below meth cd s₁ [] 0 0 := Stand.of_body Bd
 have e0 : s₁.heap = h0 := by rw [← hh, Bd.state]; rfl
 have N0 := Fr.nil n0
 have K0 : Keep h0 h0 [b, t] := Keep.refl _ _
 have ne_b_t : b ≠ t := Exa.neArv E_b V_t (own_w hw 59 rfl)
 have ne_b_a : b ≠ a := Exa.neArv E_b V_a (own_w hw 59 rfl)
 have ne_a_t : a ≠ t := own_neCB V_a V_t
 have G : Go p e below s 1 16 (Qsa Z b t kt N cs a ka D s_ n_ zc gm h0 n0) (s₁.setTop (mkF m 0 #[.val (.ref b), .val (.ref a), .val (.int (Int32.ofNat s_)), .val (.int (Int32.ofNat n_))] [])) := by
  refine Go.s (XS.aloadN X0.here hx rfl (hb hby dsa_0) rfl rfl) ?_
  refine Go.s (XS.aloadN X0.here hx rfl (hb hby dsa_1) rfl rfl) ?_
  refine Go.s (XS.iloadN X0.here hx rfl (hb hby dsa_2) rfl) ?_
  refine Go.s (XS.iloadN X0.here hx rfl (hb hby dsa_3) rfl) ?_
  obtain ⟨_, _, ⟨T1, L1, k1, n1⟩, -, X1, ⟨Lc1, hQ1, l1, y1, z1⟩, st1⟩ := superBack X0 hx hZ (y := mN16) hown (own_w hw 81 rfl) (own_same (y := mN16) (z := mN12) rfl (own_w hw 84 rfl) (own_w hw 97 rfl) (by decide)) (own_w hw 82 rfl) (own_w hw 83 rfl) (by decide) (backOf (W := 0) (rmap l Z a0 hw [] b t kt N cs a ka D s_ n_ zc gm h0 n0 O0 E_b F_b_value F_b_coder F_b_count V_t E_t V_a gb gt hN hcl hc4 hD hbD hsl SC hcs SG rg) hZ (own_w hw 85 rfl) (own_w hw 68 rfl) (by decide) (by decide)) e0 (Ins.self E_b) (g := (mkF m 4 #[.val (.ref b), .val (.ref a), .val (.int (Int32.ofNat s_)), .val (.int (Int32.ofNat n_))] [(.int (Int32.ofNat n_)), (.int (Int32.ofNat s_)), (.ref a), (.ref b)])) rfl (by rw [hml]; rfl) (own_w hw 85 rfl) (argsL := [(.ref a), (.int (Int32.ofNat s_)), (.int (Int32.ofNat n_))]) (rest := []) (lenOf pdsa_0 rfl) rfl (by show 2 * 0 + _ ≤ _; exact Nat.le_of_eq rfl) (hb hby dsa_4) (fun _ _ => ⟨rfl, e0, (by decide : 0 + 1 ≤ _), (by decide : 0 + 16 ≤ _)⟩)
  dsimp only [Pt.U, Pt.locs, Pt.cells, Pt.slots] at X1 l1 y1 z1 st1 hQ1
  subst y1 z1
  obtain ⟨u, ku, M, rfl, Nc1, Kc1, gu, huo, NA, NB, NC, ND, NE, NF, hM16, hML⟩ := hQ1
  have N1 : Fr n0 L1 := by rw [l1]; exact Fr.app N0 Nc1
  have hku : u = t ∨ h0.size ≤ u := huo.imp id (fun q => Nat.le_trans K0.1 q)
  have V_a := V_a.keep Kc1 (ninS (Ne.symm ne_b_a) (ninS ne_a_t nin0))
  have O1 := O0.keep Kc1 (allS gb (allS gt all0))
  have K1 := K0.trans Kc1 (allS (Or.inl (List.mem_of_getElem? (i := 0) rfl)) (allS (Or.inl (List.mem_of_getElem? (i := 1) rfl)) all0))
  have E_b : Exa Z T1.heap b "java/lang/StringBuilder" := NA
  have F_b_value : Fld Z T1.heap b "java/lang/AbstractStringBuilder" "value" "[B" (.ref u) := NB
  have F_b_coder : Fld Z T1.heap b "java/lang/AbstractStringBuilder" "coder" "B" (.int 0) := NC
  have F_b_count : Fld Z T1.heap b "java/lang/AbstractStringBuilder" "count" "I" (.int (Int32.ofNat (cs ++ oSl D s_ n_).length)) := ND
  have V_u : Arv Z T1.heap u ku .byte (Int32.ofNat M) (oLat (cs ++ oSl D s_ n_)) (.int 0) := NE
  have E_u : Exa Z T1.heap u "[B" := NF
  refine Go.tr st1 ?_
  show Go p e below s _ _ _ (T1.setTop (mkF m 7 #[.val (.ref b), .val (.ref a), .val (.int (Int32.ofNat s_)), .val (.int (Int32.ofNat n_))] [(.ref b)]))
  refine Go.s (XT.pop X1.here hx rfl (hb hby dsa_7) rfl rfl) ?_
  show Go p e below s _ _ _ (T1.setTop (mkF m 8 #[.val (.ref b), .val (.ref a), .val (.int (Int32.ofNat s_)), .val (.int (Int32.ofNat n_))] []))
  refine Go.s (XS.aloadN X1.here hx rfl (hb hby dsa_8) rfl rfl) ?_
  exact Go.ret X1 hlk (some (.ref b)) (fun h => by rw [Bd.returns] at h; cases h) (by exact ⟨u, ku, M, rfl, N1, K1, gu, hku, E_b, F_b_value, F_b_coder, F_b_count, V_u, E_u, hM16, hML⟩) (by decide) (by decide) (fun fs hr => retOut X1 hx Bd.returns rfl (Or.inr (Or.inr (Or.inr (Or.inr ⟨rfl, rfl, rfl⟩)))) (hb hby dsa_9) hr)
 obtain ⟨s2, o2, st2, r2⟩ := G
 exact ⟨s2, o2, castTop (efsa m b a (Int32.ofNat s_) (Int32.ofNat n_)) st2, r2⟩
theorem dta_0 : decode prog_78_method_21_code 0 = .ok (.aload_n 0, 1) := by decide +kernel
theorem dta_1 : decode prog_78_method_21_code 1 = .ok (.getfield 147, 3) := by decide +kernel
theorem dta_4 : decode prog_78_method_21_code 4 = .ok (.ifnonnull 15, 3) := by decide +kernel
theorem dta_7 : decode prog_78_method_21_code 7 = .ok (.aload_n 0, 1) := by decide +kernel
theorem dta_8 : decode prog_78_method_21_code 8 = .ok (.new 152, 3) := by decide +kernel
theorem dta_11 : decode prog_78_method_21_code 11 = .ok (.dup, 1) := by decide +kernel
theorem dta_12 : decode prog_78_method_21_code 12 = .ok (.iload_n 3, 1) := by decide +kernel
theorem dta_13 : decode prog_78_method_21_code 13 = .ok (.invokespecial 173, 3) := by decide +kernel
theorem dta_16 : decode prog_78_method_21_code 16 = .ok (.putfield 147, 3) := by decide +kernel
theorem dta_19 : decode prog_78_method_21_code 19 = .ok (.aload_n 0, 1) := by decide +kernel
theorem dta_20 : decode prog_78_method_21_code 20 = .ok (.getfield 147, 3) := by decide +kernel
theorem dta_23 : decode prog_78_method_21_code 23 = .ok (.aload_n 1, 1) := by decide +kernel
theorem dta_24 : decode prog_78_method_21_code 24 = .ok (.iload_n 2, 1) := by decide +kernel
theorem dta_25 : decode prog_78_method_21_code 25 = .ok (.iload_n 3, 1) := by decide +kernel
theorem dta_26 : decode prog_78_method_21_code 26 = .ok (.invokevirtual 176, 3) := by decide +kernel
theorem dta_29 : decode prog_78_method_21_code 29 = .ok (.pop, 1) := by decide +kernel
theorem dta_30 : decode prog_78_method_21_code 30 = .ok (.return_, 1) := by decide +kernel
theorem pdta_0 : parseMethodDescriptor "([CII)Ljava/lang/StringBuilder;" = some ⟨[(.array .char), .int, .int], some (.object "java/lang/StringBuilder")⟩ := by decide +kernel
theorem pnta : plainName "com/example/pemmican/pemmican/XmlElement" = true := by first | (simp [plainName, overriddenIn]; done) | decide +kernel
theorem efta (m : MethodId) (x0 : Addr) (x1 : Addr) (x2 : Int32) (x3 : Int32) : entryFrame m #[(.ref x0), (.ref x1), (.int x2), (.int x3)] 4 = mkF m 0 #[.val (.ref x0), .val (.ref x1), .val (.int x2), .val (.int x3)] [] := by first | (simp [entryFrame, mkF, argsToLocals, Value.category, maxLocals]; done) | rfl
def Qta (Z : State) (e_ : Addr) (a : Addr) (ka : ClassId) (D : List Int32) (s_ : Nat) (n_ : Nat) (zc : Int32) (gm : Value) (h0 : Heap) (n0 : Nat) (v : Option Value) (h : Heap) (L : List Loc) : Prop := ∃ (b u : Addr) (ku : ClassId) (M : Nat), v = none ∧ Fr n0 L ∧ Keep h0 h [e_] ∧ n0 ≤ b ∧ h0.size ≤ b ∧ n0 ≤ u ∧ h0.size ≤ u ∧ Exa Z h e_ "com/example/pemmican/pemmican/XmlElement" ∧ Fld Z h e_ "com/example/pemmican/pemmican/XmlElement" "text" "Ljava/lang/StringBuilder;" (.ref b) ∧ Exa Z h b "java/lang/StringBuilder" ∧ Fld Z h b "java/lang/AbstractStringBuilder" "value" "[B" (.ref u) ∧ Fld Z h b "java/lang/AbstractStringBuilder" "coder" "B" (.int 0) ∧ Fld Z h b "java/lang/AbstractStringBuilder" "count" "I" (.int (Int32.ofNat (oSl D s_ n_).length)) ∧ Arv Z h u ku .byte (Int32.ofNat M) (oLat (oSl D s_ n_)) (.int 0) ∧ Exa Z h u "[B" ∧ M ≤ 16 ∧ (oSl D s_ n_).length ≤ M
theorem rmta (l : Launch) (Z : State) (a0 : Array Value) (hw : ∀ d ∈ tables_1, d.before a0 Z = true) (ws : List Jvm.Cond) (e_ : Addr) (a : Addr) (ka : ClassId) (D : List Int32) (s_ : Nat) (n_ : Nat) (zc : Int32) (gm : Value) (h0 : Heap) (n0 : Nat) (O0 : Old Z n0 h0) (E_e_ : Exa Z h0 e_ "com/example/pemmican/pemmican/XmlElement") (F_e__text : Fld Z h0 e_ "com/example/pemmican/pemmican/XmlElement" "text" "Ljava/lang/StringBuilder;" .null) (V_a : Arv Z h0 a ka .char (4 : Int32) (D.map Value.int) (.int 0)) (ge : n0 ≤ e_) (hD : D.length = 4) (hbD : ∀ c ∈ D, ¬ c < 0 ∧ ¬ (255 : Int32) < c) (hsl : s_ + n_ ≤ 4) (SC : Sta Z Z.heap "java/lang/String" "COMPACT_STRINGS" "Z" (.int zc)) (hcs : ¬ zc = 0) (SG : Sta Z Z.heap "jdk/internal/util/Preconditions" "IOOBE_FORMATTER" "Ljava/util/function/BiFunction;" gm) (rg : gm.isRef = true) :
  MetFree l mN18 (head1 (Jvm.Cond.code mN18 prog_78_method_21_code 4 none :: ws) ({ frames := 6, cells := 3, slots := 24, locals := 93 } : Room)) (fun A_ U_ => A_ = #[(.ref e_), (.ref a), (.int (Int32.ofNat s_)), (.int (Int32.ofNat n_))] ∧ Z.Warmed39 U_.vm ∧ U_.heap = h0) (fun _ _ _ _ _ => True) (fun _ U o U' => ∃ v L, o = .returned v ∧ Qta Z e_ a ka D s_ n_ zc gm h0 n0 v U'.heap L ∧ FrameEnd U o U' L ({ frames := 6, cells := 3, slots := 24, locals := 93 } : Room).cells ({ frames := 6, cells := 3, slots := 24, locals := 93 } : Room).slots) := by
 refine MetFree.of_bodySF (plainFor_of_name pnta) hisR ?_
 intro p e s m args below meth cd s₁ Bd hml0 hP hK
 obtain ⟨rfl, hZ, hh⟩ := hP
 have hx := Bd.exec
 have hby := Bd.bytes
 have hlk : meth.locks = false := BodyLoose.notSynchronized Bd
 have hml : cd.maxLocals = 4 := hml0
 have hown : s.vm.findClass "com/example/pemmican/pemmican/XmlElement" = some m.cls := findClass_of_methodNamed Bd.named
 have X0 : Stand p l e ({ frames := 6, cells := 3, slots := 24, locals := 93 } : Room) s m #[(.ref e_), (.ref a), (.int (Int32.ofNat s_)), (.int (Int32.ofNat n_))] below meth cd s₁ [] 0 0 := Stand.of_body Bd
 have e0 : s₁.heap = h0 := by rw [← hh, Bd.state]; rfl
 have N0 := Fr.nil n0
 have K0 : Keep h0 h0 [e_] := Keep.refl _ _
 have ne_e__a : e_ ≠ a := Exa.neArv E_e_ V_a (own_w hw 3 rfl)
 have hl : n_ ≤ 4 := by omega
 have G : Go p e below s 3 24 (Qta Z e_ a ka D s_ n_ zc gm h0 n0) (s₁.setTop (mkF m 0 #[.val (.ref e_), .val (.ref a), .val (.int (Int32.ofNat s_)), .val (.int (Int32.ofNat n_))] [])) := by
  refine Go.s (XS.aloadN X0.here hx rfl (hb hby dta_0) rfl rfl) ?_
  obtain ⟨T1, X1, e1, st1⟩ := getF X0 hx hZ hown (host := "") (Or.inl (own_w hw 56 rfl)) Via.refl e0 F_e__text (g := (mkF m 1 #[.val (.ref e_), .val (.ref a), .val (.int (Int32.ofNat s_)), .val (.int (Int32.ofNat n_))] [(.ref e_)])) rfl rfl (hb hby dta_1)
  refine Go.st st1 ?_
  show Go p e below s _ _ _ (T1.setTop (mkF m 4 #[.val (.ref e_), .val (.ref a), .val (.int (Int32.ofNat s_)), .val (.int (Int32.ofNat n_))] [.null]))
  refine Go.s (XT.ifnonnullNo X1.here hx rfl (hb hby dta_4) rfl) ?_
  show Go p e below s _ _ _ (T1.setTop (mkF m 7 #[.val (.ref e_), .val (.ref a), .val (.int (Int32.ofNat s_)), .val (.int (Int32.ofNat n_))] []))
  refine Go.s (XS.aloadN X1.here hx rfl (hb hby dta_7) rfl rfl) ?_
  obtain ⟨T2, h2, X2, e2, E2, A2, D2, -, st2⟩ := newO X1 hx hZ hown (own_w hw 58 rfl) (own_w hw 59 rfl) (own_w hw 60 rfl) e1 (g := (mkF m 8 #[.val (.ref e_), .val (.ref a), .val (.int (Int32.ofNat s_)), .val (.int (Int32.ofNat n_))] [(.ref e_)])) rfl (hb hby dta_8) (by decide) (by decide)
  obtain ⟨a2, g2⟩ : ∃ z, z = h0.size := ⟨_, rfl⟩
  rw [← g2] at A2 D2 st2
  have g_a2 : n0 ≤ a2 := Nat.le_trans (own_old O0) (Nat.le_of_eq g2.symm)
  have sz_a2 : h0.size ≤ a2 := Nat.le_trans K0.1 (Nat.le_of_eq g2.symm)
  have ne_e__a2 : e_ ≠ a2 := by rw [g2]; exact Nat.ne_of_lt E_e_.lt
  have ne_a_a2 : a ≠ a2 := by rw [g2]; exact Nat.ne_of_lt V_a.lt
  have E_e_ := E_e_.ext E2
  have F_e__text := F_e__text.ext E2
  have V_a := V_a.ext E2
  have O2 := O0.ext E2
  have K2 := K0.ext E2
  have E_a2 : Exa Z h2 a2 "java/lang/StringBuilder" := A2
  have F_a2_value : Fld Z h2 a2 "java/lang/AbstractStringBuilder" "value" "[B" .null := D2 (Or.inl (own_w hw 73 rfl)) (ty := (.array .byte)) (by decide)
  have F_a2_coder : Fld Z h2 a2 "java/lang/AbstractStringBuilder" "coder" "B" (.int 0) := D2 (Or.inl (own_w hw 75 rfl)) (ty := .byte) (by decide)
  have F_a2_count : Fld Z h2 a2 "java/lang/AbstractStringBuilder" "count" "I" (.int 0) := D2 (Or.inl (own_w hw 93 rfl)) (ty := .int) (by decide)
  refine Go.st st2 ?_
  show Go p e below s _ _ _ (T2.setTop (mkF m 11 #[.val (.ref e_), .val (.ref a), .val (.int (Int32.ofNat s_)), .val (.int (Int32.ofNat n_))] [(.ref a2), (.ref e_)]))
  refine Go.s (XS.dup X2.here hx rfl (hb hby dta_11) rfl rfl) ?_
  refine Go.s (XS.iloadN X2.here hx rfl (hb hby dta_12) rfl) ?_
  obtain ⟨_, _, ⟨T3, L3, k3, n3⟩, -, X3, ⟨Lc3, hQ3, l3, y3, z3⟩, st3⟩ := X2.specialBack hx (y := mN5) rfl hown (mvT hZ (own_w hw 61 rfl)) (mvT hZ (own_w hw 62 rfl)) (mvT hZ (own_w hw 63 rfl)) (by decide) (backOf (W := 2) (rmsb l Z a0 hw [] a2 n_ zc h2 n0 O2 E_a2 F_a2_value F_a2_coder F_a2_count g_a2 hl SC hcs) hZ (own_w hw 63 rfl) (own_w hw 60 rfl) (by decide) (by decide)) (g := (mkF m 13 #[.val (.ref e_), .val (.ref a), .val (.int (Int32.ofNat s_)), .val (.int (Int32.ofNat n_))] [(.int (Int32.ofNat n_)), (.ref a2), (.ref a2), (.ref e_)])) rfl (by rw [hml]; rfl) (Steps.refl _) (a := a2) (argsL := [(.int (Int32.ofNat n_))]) (rest := [(.ref a2), (.ref e_)]) (lenOf pdsb_0 rfl) rfl (by show 2 * 0 + _ ≤ _; exact Nat.le_of_eq rfl) (hb hby dta_13) (fun _ _ => ⟨rfl, e2, (by decide : 1 + 1 ≤ _), (by decide : 4 + 4 ≤ _)⟩)
  dsimp only [Pt.U, Pt.locs, Pt.cells, Pt.slots] at X3 l3 y3 z3 st3 hQ3
  subst y3 z3
  obtain ⟨t, kt, rfl, Nc3, Kc3, gt, szt, NA, NB, NC, ND, NE, NF⟩ := hQ3
  have N3 : Fr n0 L3 := by rw [l3]; exact Fr.app N0 Nc3
  have g_t : n0 ≤ t := gt
  have sz_t : h0.size ≤ t := Nat.le_trans K2.1 szt
  have ne_e__t : e_ ≠ t := Nat.ne_of_lt (Nat.lt_of_lt_of_le E_e_.lt szt)
  have ne_a_t : a ≠ t := Nat.ne_of_lt (Nat.lt_of_lt_of_le V_a.lt szt)
  have E_e_ := E_e_.keep Kc3
  have F_e__text := F_e__text.keep Kc3 (ninS ne_e__a2 nin0)
  have V_a := V_a.keep Kc3 (ninS ne_a_a2 nin0)
  have O3 := O2.keep Kc3 (allS g_a2 all0)
  have K3 := K2.trans Kc3 (allS (Or.inr sz_a2) all0)
  have E_a2 : Exa Z T3.heap a2 "java/lang/StringBuilder" := NA
  have F_a2_value : Fld Z T3.heap a2 "java/lang/AbstractStringBuilder" "value" "[B" (.ref t) := NB
  have F_a2_coder : Fld Z T3.heap a2 "java/lang/AbstractStringBuilder" "coder" "B" (.int 0) := NC
  have F_a2_count : Fld Z T3.heap a2 "java/lang/AbstractStringBuilder" "count" "I" (.int (Int32.ofNat ([] : List Int32).length)) := ND
  have V_t : Arv Z T3.heap t kt .byte (Int32.ofNat n_) (oLat ([] : List Int32)) (.int 0) := NE
  have E_t : Exa Z T3.heap t "[B" := NF
  have ne_a2_t : a2 ≠ t := Exa.neArv E_a2 V_t (own_w hw 59 rfl)
  refine Go.tr st3 ?_
  show Go p e below s _ _ _ (T3.setTop (mkF m 16 #[.val (.ref e_), .val (.ref a), .val (.int (Int32.ofNat s_)), .val (.int (Int32.ofNat n_))] [(.ref a2), (.ref e_)]))
  obtain ⟨T4, h4, X4, e4, W4, st4⟩ := putF X3 hx hZ hown (host := "") (Or.inl (own_w hw 56 rfl)) Via.refl rfl F_e__text E_e_ (Or.inl (own_w hw 57 rfl)) (own_w hw 3 rfl) (ty := (.object "java/lang/StringBuilder")) (by decide) rfl rfl (g := (mkF m 16 #[.val (.ref e_), .val (.ref a), .val (.int (Int32.ofNat s_)), .val (.int (Int32.ofNat n_))] [(.ref a2), (.ref e_)])) rfl rfl (hb hby dta_16)
  obtain ⟨lc4, X4, N4⟩ := own_gen X4 (Fr.snoc X4 N3 ge)
  have O4 := O3.wr W4 ge
  have K4 := K3.wr W4 (Or.inl (List.mem_of_getElem? (i := 0) rfl))
  have E_e_ := E_e_.wr W4
  have V_a := V_a.other W4 (Ne.symm ne_e__a)
  have E_a2 := E_a2.wr W4
  have F_a2_value := F_a2_value.other W4 (Or.inl (Ne.symm ne_e__a2))
  have F_a2_coder := F_a2_coder.other W4 (Or.inl (Ne.symm ne_e__a2))
  have F_a2_count := F_a2_count.other W4 (Or.inl (Ne.symm ne_e__a2))
  have V_t := V_t.other W4 (Ne.symm ne_e__t)
  have E_t := E_t.wr W4
  have F_e__text := F_e__text.same W4
  refine Go.st st4 ?_
  show Go p e below s _ _ _ (T4.setTop (mkF m 19 #[.val (.ref e_), .val (.ref a), .val (.int (Int32.ofNat s_)), .val (.int (Int32.ofNat n_))] []))
  refine Go.s (XS.aloadN X4.here hx rfl (hb hby dta_19) rfl rfl) ?_
  obtain ⟨T5, X5, e5, st5⟩ := getF X4 hx hZ hown (host := "") (Or.inl (own_w hw 56 rfl)) Via.refl e4 F_e__text (g := (mkF m 20 #[.val (.ref e_), .val (.ref a), .val (.int (Int32.ofNat s_)), .val (.int (Int32.ofNat n_))] [(.ref e_)])) rfl rfl (hb hby dta_20)
  refine Go.st st5 ?_
  show Go p e below s _ _ _ (T5.setTop (mkF m 23 #[.val (.ref e_), .val (.ref a), .val (.int (Int32.ofNat s_)), .val (.int (Int32.ofNat n_))] [(.ref a2)]))
  refine Go.s (XS.aloadN X5.here hx rfl (hb hby dta_23) rfl rfl) ?_
  refine Go.s (XS.iloadN X5.here hx rfl (hb hby dta_24) rfl) ?_
  refine Go.s (XS.iloadN X5.here hx rfl (hb hby dta_25) rfl) ?_
  obtain ⟨cq6, kq6, qa6, qb6, qc6⟩ := isOf hZ e5 E_a2
  obtain ⟨_, _, ⟨T6, L6, k6, n6⟩, -, X6, ⟨Lc6, hQ6, l6, y6, z6⟩, st6⟩ := X5.virtualBack hx (y := mN17) (z := mN17) hown (mvT hZ (own_w hw 76 rfl)) (mvT hZ (own_w hw 77 rfl)) (notFace_of_selects (args := #[]) (mvT hZ (own_w hw 79 rfl))) (mvT hZ (own_w hw 79 rfl)) (mvT hZ (own_w hw 78 rfl)) (by decide) (backOf (W := 0) (rmsa l Z a0 hw [] a2 t kt n_ ([] : List Int32) a ka D s_ n_ zc gm h4 n0 O4 E_a2 F_a2_value F_a2_coder F_a2_count V_t E_t V_a g_a2 g_t (Nat.le_trans hl (by decide)) (Nat.zero_le _) (Nat.zero_le _) hD hbD hsl SC hcs SG rg) hZ (own_w hw 80 rfl) (own_w hw 60 rfl) (by decide) (by decide)) qa6 qc6 (g := (mkF m 26 #[.val (.ref e_), .val (.ref a), .val (.int (Int32.ofNat s_)), .val (.int (Int32.ofNat n_))] [(.int (Int32.ofNat n_)), (.int (Int32.ofNat s_)), (.ref a), (.ref a2)])) rfl (by rw [hml]; rfl) (Steps.refl _) (argsL := [(.ref a), (.int (Int32.ofNat s_)), (.int (Int32.ofNat n_))]) (rest := []) (lenOf pdta_0 rfl) rfl (by show 2 * 0 + _ ≤ _; exact Nat.le_of_eq rfl) (hb hby dta_26) (fun _ _ => ⟨rfl, e5, (by decide : 2 + 1 ≤ _), (by decide : 8 + 16 ≤ _)⟩)
  dsimp only [Pt.U, Pt.locs, Pt.cells, Pt.slots] at X6 l6 y6 z6 st6 hQ6
  subst y6 z6
  obtain ⟨u, ku, M, rfl, Nc6, Kc6, gu, huo, NA, NB, NC, ND, NE, NF, hM16, hML⟩ := hQ6
  have N6 : Fr n0 L6 := by rw [l6]; exact Fr.app N4 Nc6
  have hku : u = t ∨ h0.size ≤ u := huo.imp id (fun q => Nat.le_trans K4.1 q)
  have E_e_ := E_e_.keep Kc6
  have F_e__text := F_e__text.keep Kc6 (ninS ne_e__a2 (ninS ne_e__t nin0))
  have V_a := V_a.keep Kc6 (ninS ne_a_a2 (ninS ne_a_t nin0))
  have O6 := O4.keep Kc6 (allS g_a2 (allS g_t all0))
  have K6 := K4.trans Kc6 (allS (Or.inr sz_a2) (allS (Or.inr sz_t) all0))
  have E_a2 : Exa Z T6.heap a2 "java/lang/StringBuilder" := NA
  have F_a2_value : Fld Z T6.heap a2 "java/lang/AbstractStringBuilder" "value" "[B" (.ref u) := NB
  have F_a2_coder : Fld Z T6.heap a2 "java/lang/AbstractStringBuilder" "coder" "B" (.int 0) := NC
  have F_a2_count : Fld Z T6.heap a2 "java/lang/AbstractStringBuilder" "count" "I" (.int (Int32.ofNat (([] : List Int32) ++ oSl D s_ n_).length)) := ND
  have V_u : Arv Z T6.heap u ku .byte (Int32.ofNat M) (oLat (([] : List Int32) ++ oSl D s_ n_)) (.int 0) := NE
  have E_u : Exa Z T6.heap u "[B" := NF
  refine Go.tr st6 ?_
  show Go p e below s _ _ _ (T6.setTop (mkF m 29 #[.val (.ref e_), .val (.ref a), .val (.int (Int32.ofNat s_)), .val (.int (Int32.ofNat n_))] [(.ref a2)]))
  refine Go.s (XT.pop X6.here hx rfl (hb hby dta_29) rfl rfl) ?_
  show Go p e below s _ _ _ (T6.setTop (mkF m 30 #[.val (.ref e_), .val (.ref a), .val (.int (Int32.ofNat s_)), .val (.int (Int32.ofNat n_))] []))
  exact Go.ret X6 hlk (none) (fun _ => rfl) (by exact ⟨a2, u, ku, M, rfl, N6, K6, g_a2, sz_a2, gu, hku.elim (fun q => by rw [q]; exact sz_t) id, E_e_, F_e__text, E_a2, F_a2_value, F_a2_coder, F_a2_count, V_u, E_u, hM16, hML⟩) (by decide) (by decide) (fun fs hr => X6.returnOut hx Bd.returns (hb hby dta_30) hr)
 obtain ⟨s2, o2, st2, r2⟩ := G
 exact ⟨s2, o2, castTop (efta m e_ a (Int32.ofNat s_) (Int32.ofNat n_)) st2, r2⟩
theorem pntb : plainName "com/example/pemmican/pemmican/XmlElement" = true := by first | (simp [plainName, overriddenIn]; done) | decide +kernel
theorem eftb (m : MethodId) (x0 : Addr) (x1 : Addr) (x2 : Int32) (x3 : Int32) : entryFrame m #[(.ref x0), (.ref x1), (.int x2), (.int x3)] 4 = mkF m 0 #[.val (.ref x0), .val (.ref x1), .val (.int x2), .val (.int x3)] [] := by first | (simp [entryFrame, mkF, argsToLocals, Value.category, maxLocals]; done) | rfl
def Qtb (Z : State) (e_ : Addr) (b : Addr) (t : Addr) (kt : ClassId) (N : Nat) (cs : List Int32) (a : Addr) (ka : ClassId) (D : List Int32) (s_ : Nat) (n_ : Nat) (zc : Int32) (gm : Value) (h0 : Heap) (n0 : Nat) (v : Option Value) (h : Heap) (L : List Loc) : Prop := ∃ (u : Addr) (ku : ClassId) (M : Nat), v = none ∧ Fr n0 L ∧ Keep h0 h [b, t] ∧ n0 ≤ u ∧ (u = t ∨ h0.size ≤ u) ∧ Exa Z h e_ "com/example/pemmican/pemmican/XmlElement" ∧ Fld Z h e_ "com/example/pemmican/pemmican/XmlElement" "text" "Ljava/lang/StringBuilder;" (.ref b) ∧ Exa Z h b "java/lang/StringBuilder" ∧ Fld Z h b "java/lang/AbstractStringBuilder" "value" "[B" (.ref u) ∧ Fld Z h b "java/lang/AbstractStringBuilder" "coder" "B" (.int 0) ∧ Fld Z h b "java/lang/AbstractStringBuilder" "count" "I" (.int (Int32.ofNat (cs ++ oSl D s_ n_).length)) ∧ Arv Z h u ku .byte (Int32.ofNat M) (oLat (cs ++ oSl D s_ n_)) (.int 0) ∧ Exa Z h u "[B" ∧ M ≤ 16 ∧ (cs ++ oSl D s_ n_).length ≤ M
theorem rmtb (l : Launch) (Z : State) (a0 : Array Value) (hw : ∀ d ∈ tables_1, d.before a0 Z = true) (ws : List Jvm.Cond) (e_ : Addr) (b : Addr) (t : Addr) (kt : ClassId) (N : Nat) (cs : List Int32) (a : Addr) (ka : ClassId) (D : List Int32) (s_ : Nat) (n_ : Nat) (zc : Int32) (gm : Value) (h0 : Heap) (n0 : Nat) (O0 : Old Z n0 h0) (E_e_ : Exa Z h0 e_ "com/example/pemmican/pemmican/XmlElement") (F_e__text : Fld Z h0 e_ "com/example/pemmican/pemmican/XmlElement" "text" "Ljava/lang/StringBuilder;" (.ref b)) (E_b : Exa Z h0 b "java/lang/StringBuilder") (F_b_value : Fld Z h0 b "java/lang/AbstractStringBuilder" "value" "[B" (.ref t)) (F_b_coder : Fld Z h0 b "java/lang/AbstractStringBuilder" "coder" "B" (.int 0)) (F_b_count : Fld Z h0 b "java/lang/AbstractStringBuilder" "count" "I" (.int (Int32.ofNat cs.length))) (V_t : Arv Z h0 t kt .byte (Int32.ofNat N) (oLat cs) (.int 0)) (E_t : Exa Z h0 t "[B") (V_a : Arv Z h0 a ka .char (4 : Int32) (D.map Value.int) (.int 0)) (neb : e_ ≠ b) (gb : n0 ≤ b) (gt : n0 ≤ t) (hN : N ≤ 16) (hcl : cs.length ≤ N) (hc4 : cs.length ≤ 4) (hD : D.length = 4) (hbD : ∀ c ∈ D, ¬ c < 0 ∧ ¬ (255 : Int32) < c) (hsl : s_ + n_ ≤ 4) (SC : Sta Z Z.heap "java/lang/String" "COMPACT_STRINGS" "Z" (.int zc)) (hcs : ¬ zc = 0) (SG : Sta Z Z.heap "jdk/internal/util/Preconditions" "IOOBE_FORMATTER" "Ljava/util/function/BiFunction;" gm) (rg : gm.isRef = true) :
  MetFree l mN18 (head1 (Jvm.Cond.code mN18 prog_78_method_21_code 4 none :: ws) ({ frames := 6, cells := 1, slots := 16, locals := 93 } : Room)) (fun A_ U_ => A_ = #[(.ref e_), (.ref a), (.int (Int32.ofNat s_)), (.int (Int32.ofNat n_))] ∧ Z.Warmed39 U_.vm ∧ U_.heap = h0) (fun _ _ _ _ _ => True) (fun _ U o U' => ∃ v L, o = .returned v ∧ Qtb Z e_ b t kt N cs a ka D s_ n_ zc gm h0 n0 v U'.heap L ∧ FrameEnd U o U' L ({ frames := 6, cells := 1, slots := 16, locals := 93 } : Room).cells ({ frames := 6, cells := 1, slots := 16, locals := 93 } : Room).slots) := by
 refine MetFree.of_bodySF (plainFor_of_name pntb) hisR ?_
 intro p e s m args below meth cd s₁ Bd hml0 hP hK
 obtain ⟨rfl, hZ, hh⟩ := hP
 have hx := Bd.exec
 have hby := Bd.bytes
 have hlk : meth.locks = false := BodyLoose.notSynchronized Bd
 have hml : cd.maxLocals = 4 := hml0
 have hown : s.vm.findClass "com/example/pemmican/pemmican/XmlElement" = some m.cls := findClass_of_methodNamed Bd.named
 have X0 : Stand p l e ({ frames := 6, cells := 1, slots := 16, locals := 93 } : Room) s m #[(.ref e_), (.ref a), (.int (Int32.ofNat s_)), (.int (Int32.ofNat n_))] below meth cd s₁ [] 0 0 := Stand.of_body Bd
 have e0 : s₁.heap = h0 := by rw [← hh, Bd.state]; rfl
 have N0 := Fr.nil n0
 have K0 : Keep h0 h0 [b, t] := Keep.refl _ _
 have ne_b_t : b ≠ t := Exa.neArv E_b V_t (own_w hw 59 rfl)
 have ne_b_a : b ≠ a := Exa.neArv E_b V_a (own_w hw 59 rfl)
 have ne_a_t : a ≠ t := own_neCB V_a V_t
 have ne_e__t : e_ ≠ t := Exa.neArv E_e_ V_t (own_w hw 3 rfl)
 have ne_e__a : e_ ≠ a := Exa.neArv E_e_ V_a (own_w hw 3 rfl)
 have G : Go p e below s 1 16 (Qtb Z e_ b t kt N cs a ka D s_ n_ zc gm h0 n0) (s₁.setTop (mkF m 0 #[.val (.ref e_), .val (.ref a), .val (.int (Int32.ofNat s_)), .val (.int (Int32.ofNat n_))] [])) := by
  refine Go.s (XS.aloadN X0.here hx rfl (hb hby dta_0) rfl rfl) ?_
  obtain ⟨T1, X1, e1, st1⟩ := getF X0 hx hZ hown (host := "") (Or.inl (own_w hw 56 rfl)) Via.refl e0 F_e__text (g := (mkF m 1 #[.val (.ref e_), .val (.ref a), .val (.int (Int32.ofNat s_)), .val (.int (Int32.ofNat n_))] [(.ref e_)])) rfl rfl (hb hby dta_1)
  refine Go.st st1 ?_
  show Go p e below s _ _ _ (T1.setTop (mkF m 4 #[.val (.ref e_), .val (.ref a), .val (.int (Int32.ofNat s_)), .val (.int (Int32.ofNat n_))] [(.ref b)]))
  refine Go.s (XT.ifnonnullYes X1.here hx rfl (pc0 := 4) (pc' := 19) rfl (hb hby dta_4) rfl (by decide) (by decide)) ?_
  show Go p e below s _ _ _ (T1.setTop (mkF m 19 #[.val (.ref e_), .val (.ref a), .val (.int (Int32.ofNat s_)), .val (.int (Int32.ofNat n_))] []))
  refine Go.s (XS.aloadN X1.here hx rfl (hb hby dta_19) rfl rfl) ?_
  obtain ⟨T2, X2, e2, st2⟩ := getF X1 hx hZ hown (host := "") (Or.inl (own_w hw 56 rfl)) Via.refl e1 F_e__text (g := (mkF m 20 #[.val (.ref e_), .val (.ref a), .val (.int (Int32.ofNat s_)), .val (.int (Int32.ofNat n_))] [(.ref e_)])) rfl rfl (hb hby dta_20)
  refine Go.st st2 ?_
  show Go p e below s _ _ _ (T2.setTop (mkF m 23 #[.val (.ref e_), .val (.ref a), .val (.int (Int32.ofNat s_)), .val (.int (Int32.ofNat n_))] [(.ref b)]))
  refine Go.s (XS.aloadN X2.here hx rfl (hb hby dta_23) rfl rfl) ?_
  refine Go.s (XS.iloadN X2.here hx rfl (hb hby dta_24) rfl) ?_
  refine Go.s (XS.iloadN X2.here hx rfl (hb hby dta_25) rfl) ?_
  obtain ⟨cq3, kq3, qa3, qb3, qc3⟩ := isOf hZ e2 E_b
  obtain ⟨_, _, ⟨T3, L3, k3, n3⟩, -, X3, ⟨Lc3, hQ3, l3, y3, z3⟩, st3⟩ := X2.virtualBack hx (y := mN17) (z := mN17) hown (mvT hZ (own_w hw 76 rfl)) (mvT hZ (own_w hw 77 rfl)) (notFace_of_selects (args := #[]) (mvT hZ (own_w hw 79 rfl))) (mvT hZ (own_w hw 79 rfl)) (mvT hZ (own_w hw 78 rfl)) (by decide) (backOf (W := 0) (rmsa l Z a0 hw [] b t kt N cs a ka D s_ n_ zc gm h0 n0 O0 E_b F_b_value F_b_coder F_b_count V_t E_t V_a gb gt hN hcl hc4 hD hbD hsl SC hcs SG rg) hZ (own_w hw 80 rfl) (own_w hw 60 rfl) (by decide) (by decide)) qa3 qc3 (g := (mkF m 26 #[.val (.ref e_), .val (.ref a), .val (.int (Int32.ofNat s_)), .val (.int (Int32.ofNat n_))] [(.int (Int32.ofNat n_)), (.int (Int32.ofNat s_)), (.ref a), (.ref b)])) rfl (by rw [hml]; rfl) (Steps.refl _) (argsL := [(.ref a), (.int (Int32.ofNat s_)), (.int (Int32.ofNat n_))]) (rest := []) (lenOf pdta_0 rfl) rfl (by show 2 * 0 + _ ≤ _; exact Nat.le_of_eq rfl) (hb hby dta_26) (fun _ _ => ⟨rfl, e2, (by decide : 0 + 1 ≤ _), (by decide : 0 + 16 ≤ _)⟩)
  dsimp only [Pt.U, Pt.locs, Pt.cells, Pt.slots] at X3 l3 y3 z3 st3 hQ3
  subst y3 z3
  obtain ⟨u, ku, M, rfl, Nc3, Kc3, gu, huo, NA, NB, NC, ND, NE, NF, hM16, hML⟩ := hQ3
  have N3 : Fr n0 L3 := by rw [l3]; exact Fr.app N0 Nc3
  have hku : u = t ∨ h0.size ≤ u := huo.imp id (fun q => Nat.le_trans K0.1 q)
  have E_e_ := E_e_.keep Kc3
  have F_e__text := F_e__text.keep Kc3 (ninS neb (ninS ne_e__t nin0))
  have V_a := V_a.keep Kc3 (ninS (Ne.symm ne_b_a) (ninS ne_a_t nin0))
  have O3 := O0.keep Kc3 (allS gb (allS gt all0))
  have K3 := K0.trans Kc3 (allS (Or.inl (List.mem_of_getElem? (i := 0) rfl)) (allS (Or.inl (List.mem_of_getElem? (i := 1) rfl)) all0))
  have E_b : Exa Z T3.heap b "java/lang/StringBuilder" := NA
  have F_b_value : Fld Z T3.heap b "java/lang/AbstractStringBuilder" "value" "[B" (.ref u) := NB
  have F_b_coder : Fld Z T3.heap b "java/lang/AbstractStringBuilder" "coder" "B" (.int 0) := NC
  have F_b_count : Fld Z T3.heap b "java/lang/AbstractStringBuilder" "count" "I" (.int (Int32.ofNat (cs ++ oSl D s_ n_).length)) := ND
  have V_u : Arv Z T3.heap u ku .byte (Int32.ofNat M) (oLat (cs ++ oSl D s_ n_)) (.int 0) := NE
  have E_u : Exa Z T3.heap u "[B" := NF
  refine Go.tr st3 ?_
  show Go p e below s _ _ _ (T3.setTop (mkF m 29 #[.val (.ref e_), .val (.ref a), .val (.int (Int32.ofNat s_)), .val (.int (Int32.ofNat n_))] [(.ref b)]))
  refine Go.s (XT.pop X3.here hx rfl (hb hby dta_29) rfl rfl) ?_
  show Go p e below s _ _ _ (T3.setTop (mkF m 30 #[.val (.ref e_), .val (.ref a), .val (.int (Int32.ofNat s_)), .val (.int (Int32.ofNat n_))] []))
  exact Go.ret X3 hlk (none) (fun _ => rfl) (by exact ⟨u, ku, M, rfl, N3, K3, gu, hku, E_e_, F_e__text, E_b, F_b_value, F_b_coder, F_b_count, V_u, E_u, hM16, hML⟩) (by decide) (by decide) (fun fs hr => X3.returnOut hx Bd.returns (hb hby dta_30) hr)
 obtain ⟨s2, o2, st2, r2⟩ := G
 exact ⟨s2, o2, castTop (eftb m e_ a (Int32.ofNat s_) (Int32.ofNat n_)) st2, r2⟩
theorem dgv_0 : decode jdk_68_method_64_code 0 = .ok (.aload_n 0, 1) := by decide +kernel
theorem dgv_1 : decode jdk_68_method_64_code 1 = .ok (.getfield 15, 3) := by decide +kernel
theorem dgv_4 : decode jdk_68_method_64_code 4 = .ok (.areturn, 1) := by decide +kernel
theorem pngv : plainName "java/lang/AbstractStringBuilder" = true := by first | (simp [plainName, overriddenIn]; done) | decide +kernel
theorem efgv (m : MethodId) (x0 : Addr) : entryFrame m #[(.ref x0)] 1 = mkF m 0 #[.val (.ref x0)] [] := by first | (simp [entryFrame, mkF, argsToLocals, Value.category, maxLocals]; done) | rfl
def Qgv (Z : State) (b : Addr) (t : Addr) (h0 : Heap) (n0 : Nat) (v : Option Value) (h : Heap) (L : List Loc) : Prop := v = some (.ref t) ∧ Fr n0 L ∧ h = h0
theorem rmgv (l : Launch) (Z : State) (a0 : Array Value) (hw : ∀ d ∈ tables_1, d.before a0 Z = true) (ws : List Jvm.Cond) (b : Addr) (t : Addr) (h0 : Heap) (n0 : Nat) (O0 : Old Z n0 h0) (F_b_value : Fld Z h0 b "java/lang/AbstractStringBuilder" "value" "[B" (.ref t)) :
  MetFree l mN19 (head1 (Jvm.Cond.code mN19 jdk_68_method_64_code 1 (some (.array .byte)) :: ws) ({ frames := 0, cells := 0, slots := 0, locals := 0 } : Room)) (fun A_ U_ => A_ = #[(.ref b)] ∧ Z.Warmed39 U_.vm ∧ U_.heap = h0) (fun _ _ _ _ _ => True) (fun _ U o U' => ∃ v L, o = .returned v ∧ Qgv Z b t h0 n0 v U'.heap L ∧ FrameEnd U o U' L ({ frames := 0, cells := 0, slots := 0, locals := 0 } : Room).cells ({ frames := 0, cells := 0, slots := 0, locals := 0 } : Room).slots) := by
 refine MetFree.of_bodySF (plainFor_of_name pngv) hisR ?_
 intro p e s m args below meth cd s₁ Bd hml0 hP hK
 obtain ⟨rfl, hZ, hh⟩ := hP
 have hx := Bd.exec
 have hby := Bd.bytes
 have hlk : meth.locks = false := BodyLoose.notSynchronized Bd
 have hml : cd.maxLocals = 1 := hml0
 have hown : s.vm.findClass "java/lang/AbstractStringBuilder" = some m.cls := findClass_of_methodNamed Bd.named
 have X0 : Stand p l e ({ frames := 0, cells := 0, slots := 0, locals := 0 } : Room) s m #[(.ref b)] below meth cd s₁ [] 0 0 := Stand.of_body Bd
 have e0 : s₁.heap = h0 := by rw [← hh, Bd.state]; rfl
 have N0 := Fr.nil n0
 have G : Go p e below s 0 0 (Qgv Z b t h0 n0) (s₁.setTop (mkF m 0 #[.val (.ref b)] [])) := by
  refine Go.s (XS.aloadN X0.here hx rfl (hb hby dgv_0) rfl rfl) ?_
  obtain ⟨T1, X1, e1, st1⟩ := getF X0 hx hZ hown (host := "") (Or.inl (own_w hw 72 rfl)) Via.refl e0 F_b_value (g := (mkF m 1 #[.val (.ref b)] [(.ref b)])) rfl rfl (hb hby dgv_1)
  refine Go.st st1 ?_
  show Go p e below s _ _ _ (T1.setTop (mkF m 4 #[.val (.ref b)] [(.ref t)]))
  exact Go.ret X1 hlk (some (.ref t)) (fun h => by rw [Bd.returns] at h; cases h) (by rw [e1]; exact ⟨rfl, N0, rfl⟩) (by decide) (by decide) (fun fs hr => retOut X1 hx Bd.returns rfl (Or.inr (Or.inr (Or.inr (Or.inr ⟨rfl, rfl, rfl⟩)))) (hb hby dgv_4) hr)
 obtain ⟨s2, o2, st2, r2⟩ := G
 exact ⟨s2, o2, castTop (efgv m b) st2, r2⟩
theorem dln_0 : decode jdk_68_method_6_code 0 = .ok (.aload_n 0, 1) := by decide +kernel
theorem dln_1 : decode jdk_68_method_6_code 1 = .ok (.getfield 79, 3) := by decide +kernel
theorem dln_4 : decode jdk_68_method_6_code 4 = .ok (.ireturn, 1) := by decide +kernel
theorem pnln : plainName "java/lang/AbstractStringBuilder" = true := by first | (simp [plainName, overriddenIn]; done) | decide +kernel
theorem efln (m : MethodId) (x0 : Addr) : entryFrame m #[(.ref x0)] 1 = mkF m 0 #[.val (.ref x0)] [] := by first | (simp [entryFrame, mkF, argsToLocals, Value.category, maxLocals]; done) | rfl
def Qln (Z : State) (b : Addr) (cs : List Int32) (h0 : Heap) (n0 : Nat) (v : Option Value) (h : Heap) (L : List Loc) : Prop := v = some (.int (Int32.ofNat cs.length)) ∧ Fr n0 L ∧ h = h0
theorem rmln (l : Launch) (Z : State) (a0 : Array Value) (hw : ∀ d ∈ tables_1, d.before a0 Z = true) (ws : List Jvm.Cond) (b : Addr) (cs : List Int32) (h0 : Heap) (n0 : Nat) (O0 : Old Z n0 h0) (F_b_count : Fld Z h0 b "java/lang/AbstractStringBuilder" "count" "I" (.int (Int32.ofNat cs.length))) :
  MetFree l mN20 (head1 (Jvm.Cond.code mN20 jdk_68_method_6_code 1 (some .int) :: ws) ({ frames := 0, cells := 0, slots := 0, locals := 0 } : Room)) (fun A_ U_ => A_ = #[(.ref b)] ∧ Z.Warmed39 U_.vm ∧ U_.heap = h0) (fun _ _ _ _ _ => True) (fun _ U o U' => ∃ v L, o = .returned v ∧ Qln Z b cs h0 n0 v U'.heap L ∧ FrameEnd U o U' L ({ frames := 0, cells := 0, slots := 0, locals := 0 } : Room).cells ({ frames := 0, cells := 0, slots := 0, locals := 0 } : Room).slots) := by
 refine MetFree.of_bodySF (plainFor_of_name pnln) hisR ?_
 intro p e s m args below meth cd s₁ Bd hml0 hP hK
 obtain ⟨rfl, hZ, hh⟩ := hP
 have hx := Bd.exec
 have hby := Bd.bytes
 have hlk : meth.locks = false := BodyLoose.notSynchronized Bd
 have hml : cd.maxLocals = 1 := hml0
 have hown : s.vm.findClass "java/lang/AbstractStringBuilder" = some m.cls := findClass_of_methodNamed Bd.named
 have X0 : Stand p l e ({ frames := 0, cells := 0, slots := 0, locals := 0 } : Room) s m #[(.ref b)] below meth cd s₁ [] 0 0 := Stand.of_body Bd
 have e0 : s₁.heap = h0 := by rw [← hh, Bd.state]; rfl
 have N0 := Fr.nil n0
 have G : Go p e below s 0 0 (Qln Z b cs h0 n0) (s₁.setTop (mkF m 0 #[.val (.ref b)] [])) := by
  refine Go.s (XS.aloadN X0.here hx rfl (hb hby dln_0) rfl rfl) ?_
  obtain ⟨T1, X1, e1, st1⟩ := getF X0 hx hZ hown (host := "") (Or.inl (own_w hw 92 rfl)) Via.refl e0 F_b_count (g := (mkF m 1 #[.val (.ref b)] [(.ref b)])) rfl rfl (hb hby dln_1)
  refine Go.st st1 ?_
  show Go p e below s _ _ _ (T1.setTop (mkF m 4 #[.val (.ref b)] [(.int (Int32.ofNat cs.length))]))
  exact Go.ret X1 hlk (some (.int (Int32.ofNat cs.length))) (fun h => by rw [Bd.returns] at h; cases h) (by rw [e1]; exact ⟨rfl, N0, rfl⟩) (by decide) (by decide) (fun fs hr => retI X1 hx Bd.returns (hb hby dln_4) hr)
 obtain ⟨s2, o2, st2, r2⟩ := G
 exact ⟨s2, o2, castTop (efln m b) st2, r2⟩
theorem dbl_0 : decode jdk_67_method_93_code 0 = .ok (.aload_n 0, 1) := by decide +kernel
theorem dbl_1 : decode jdk_67_method_93_code 1 = .ok (.invokespecial 343, 3) := by decide +kernel
theorem dbl_4 : decode jdk_67_method_93_code 4 = .ok (.ireturn, 1) := by decide +kernel
theorem pdbl_0 : parseMethodDescriptor "()I" = some ⟨[], some .int⟩ := by decide +kernel
theorem pnbl : plainName "java/lang/StringBuilder" = true := by first | (simp [plainName, overriddenIn]; done) | decide +kernel
theorem efbl (m : MethodId) (x0 : Addr) : entryFrame m #[(.ref x0)] 1 = mkF m 0 #[.val (.ref x0)] [] := by first | (simp [entryFrame, mkF, argsToLocals, Value.category, maxLocals]; done) | rfl
def Qbl (Z : State) (b : Addr) (cs : List Int32) (h0 : Heap) (n0 : Nat) (v : Option Value) (h : Heap) (L : List Loc) : Prop := v = some (.int (Int32.ofNat cs.length)) ∧ Fr n0 L ∧ h = h0
theorem rmbl (l : Launch) (Z : State) (a0 : Array Value) (hw : ∀ d ∈ tables_1, d.before a0 Z = true) (ws : List Jvm.Cond) (b : Addr) (cs : List Int32) (h0 : Heap) (n0 : Nat) (O0 : Old Z n0 h0) (E_b : Exa Z h0 b "java/lang/StringBuilder") (F_b_count : Fld Z h0 b "java/lang/AbstractStringBuilder" "count" "I" (.int (Int32.ofNat cs.length))) :
  MetFree l mN21 (head1 (Jvm.Cond.code mN21 jdk_67_method_93_code 1 (some .int) :: ws) ({ frames := 1, cells := 0, slots := 0, locals := 12 } : Room)) (fun A_ U_ => A_ = #[(.ref b)] ∧ Z.Warmed39 U_.vm ∧ U_.heap = h0) (fun _ _ _ _ _ => True) (fun _ U o U' => ∃ v L, o = .returned v ∧ Qbl Z b cs h0 n0 v U'.heap L ∧ FrameEnd U o U' L ({ frames := 1, cells := 0, slots := 0, locals := 12 } : Room).cells ({ frames := 1, cells := 0, slots := 0, locals := 12 } : Room).slots) := by
 refine MetFree.of_bodySF (plainFor_of_name pnbl) hisR ?_
 intro p e s m args below meth cd s₁ Bd hml0 hP hK
 obtain ⟨rfl, hZ, hh⟩ := hP
 have hx := Bd.exec
 have hby := Bd.bytes
 have hlk : meth.locks = false := BodyLoose.notSynchronized Bd
 have hml : cd.maxLocals = 1 := hml0
 have hown : s.vm.findClass "java/lang/StringBuilder" = some m.cls := findClass_of_methodNamed Bd.named
 have X0 : Stand p l e ({ frames := 1, cells := 0, slots := 0, locals := 12 } : Room) s m #[(.ref b)] below meth cd s₁ [] 0 0 := Stand.of_body Bd
 have e0 : s₁.heap = h0 := by rw [← hh, Bd.state]; rfl
 have N0 := Fr.nil n0
 have G : Go p e below s 0 0 (Qbl Z b cs h0 n0) (s₁.setTop (mkF m 0 #[.val (.ref b)] [])) := by
  refine Go.s (XS.aloadN X0.here hx rfl (hb hby dbl_0) rfl rfl) ?_
  obtain ⟨_, _, ⟨T1, L1, k1, n1⟩, -, X1, ⟨Lc1, hQ1, l1, y1, z1⟩, st1⟩ := superBack X0 hx hZ (y := mN20) hown (own_w hw 139 rfl) (own_same (y := mN20) (z := mN12) rfl (own_w hw 134 rfl) (own_w hw 97 rfl) (by decide)) (own_w hw 135 rfl) (own_w hw 83 rfl) (by decide) (backOf (W := 0) (rmln l Z a0 hw [] b cs h0 n0 O0 F_b_count) hZ (own_w hw 140 rfl) (own_w hw 68 rfl) (by decide) (by decide)) e0 (Ins.self E_b) (g := (mkF m 1 #[.val (.ref b)] [(.ref b)])) rfl (by rw [hml]; rfl) (own_w hw 140 rfl) (argsL := []) (rest := []) (lenOf pdbl_0 rfl) rfl (by show 2 * 0 + _ ≤ _; exact Nat.le_of_eq rfl) (hb hby dbl_1) (fun _ _ => ⟨rfl, e0, (by decide : 0 + 0 ≤ _), (by decide : 0 + 0 ≤ _)⟩)
  dsimp only [Pt.U, Pt.locs, Pt.cells, Pt.slots] at X1 l1 y1 z1 st1 hQ1
  subst y1 z1
  obtain ⟨rfl, Nc1, e1⟩ := hQ1
  have N1 : Fr n0 L1 := by rw [l1]; exact Fr.app N0 Nc1
  refine Go.tr st1 ?_
  show Go p e below s _ _ _ (T1.setTop (mkF m 4 #[.val (.ref b)] [(.int (Int32.ofNat cs.length))]))
  exact Go.ret X1 hlk (some (.int (Int32.ofNat cs.length))) (fun h => by rw [Bd.returns] at h; cases h) (by rw [e1]; exact ⟨rfl, N1, rfl⟩) (by decide) (by decide) (fun fs hr => retI X1 hx Bd.returns (hb hby dbl_4) hr)
 obtain ⟨s2, o2, st2, r2⟩ := G
 exact ⟨s2, o2, castTop (efbl m b) st2, r2⟩
theorem dkl_0 : decode jdk_65_method_131_code 0 = .ok (.iload_n 1, 1) := by decide +kernel
theorem dkl_1 : decode jdk_65_method_131_code 1 = .ok (.iload_n 0, 1) := by decide +kernel
theorem dkl_2 : decode jdk_65_method_131_code 2 = .ok (.if_icmp .ge 35, 3) := by decide +kernel
theorem dkl_37 : decode jdk_65_method_131_code 37 = .ok (.return_, 1) := by decide +kernel
theorem pnkl : plainName "java/util/Arrays" = true := by first | (simp [plainName, overriddenIn]; done) | decide +kernel
theorem efkl (m : MethodId) (x0 : Int32) (x1 : Int32) : entryFrame m #[(.int x0), (.int x1)] 2 = mkF m 0 #[.val (.int x0), .val (.int x1)] [] := by first | (simp [entryFrame, mkF, argsToLocals, Value.category, maxLocals]; done) | rfl
def Qkl (Z : State) (k_ : Nat) (h0 : Heap) (n0 : Nat) (v : Option Value) (h : Heap) (L : List Loc) : Prop := v = none ∧ Fr n0 L ∧ h = h0
theorem rmkl (l : Launch) (Z : State) (a0 : Array Value) (hw : ∀ d ∈ tables_1, d.before a0 Z = true) (ws : List Jvm.Cond) (k_ : Nat) (h0 : Heap) (n0 : Nat) (O0 : Old Z n0 h0) (hk : k_ ≤ 16) :
  MetFree l mN22 (head1 (Jvm.Cond.code mN22 jdk_65_method_131_code 2 none :: ws) ({ frames := 0, cells := 0, slots := 0, locals := 0 } : Room)) (fun A_ U_ => A_ = #[(.int 0), (.int (Int32.ofNat k_))] ∧ Z.Warmed39 U_.vm ∧ U_.heap = h0) (fun _ _ _ _ _ => True) (fun _ U o U' => ∃ v L, o = .returned v ∧ Qkl Z k_ h0 n0 v U'.heap L ∧ FrameEnd U o U' L ({ frames := 0, cells := 0, slots := 0, locals := 0 } : Room).cells ({ frames := 0, cells := 0, slots := 0, locals := 0 } : Room).slots) := by
 refine MetFree.of_bodySF (plainFor_of_name pnkl) hisR ?_
 intro p e s m args below meth cd s₁ Bd hml0 hP hK
 obtain ⟨rfl, hZ, hh⟩ := hP
 have hx := Bd.exec
 have hby := Bd.bytes
 have hlk : meth.locks = false := BodyLoose.notSynchronized Bd
 have hml : cd.maxLocals = 2 := hml0
 have hown : s.vm.findClass "java/util/Arrays" = some m.cls := findClass_of_methodNamed Bd.named
 have X0 : Stand p l e ({ frames := 0, cells := 0, slots := 0, locals := 0 } : Room) s m #[(.int 0), (.int (Int32.ofNat k_))] below meth cd s₁ [] 0 0 := Stand.of_body Bd
 have e0 : s₁.heap = h0 := by rw [← hh, Bd.state]; rfl
 have N0 := Fr.nil n0
 have G : Go p e below s 0 0 (Qkl Z k_ h0 n0) (s₁.setTop (mkF m 0 #[.val (.int 0), .val (.int (Int32.ofNat k_))] [])) := by
  refine Go.s (XS.iloadN X0.here hx rfl (hb hby dkl_0) rfl) ?_
  refine Go.s (XS.iloadN X0.here hx rfl (hb hby dkl_1) rfl) ?_
  refine Go.s (XS.icmpYes X0.here hx rfl (pc0 := 2) (pc' := 37) rfl (hb hby dkl_2) rfl (XT.ii_ge_t (own_nn (by omega))) (by decide) (by decide)) ?_
  show Go p e below s _ _ _ (s₁.setTop (mkF m 37 #[.val (.int 0), .val (.int (Int32.ofNat k_))] []))
  exact Go.ret X0 hlk (none) (fun _ => rfl) (by rw [e0]; exact ⟨rfl, N0, rfl⟩) (by decide) (by decide) (fun fs hr => X0.returnOut hx Bd.returns (hb hby dkl_37) hr)
 obtain ⟨s2, o2, st2, r2⟩ := G
 exact ⟨s2, o2, castTop (efkl m (0 : Int32) (Int32.ofNat k_)) st2, r2⟩
theorem dcb_0 : decode jdk_65_method_133_code 0 = .ok (.iload_n 1, 1) := by decide +kernel
theorem dcb_1 : decode jdk_65_method_133_code 1 = .ok (.iload_n 2, 1) := by decide +kernel
theorem dcb_2 : decode jdk_65_method_133_code 2 = .ok (.invokestatic 343, 3) := by decide +kernel
theorem dcb_5 : decode jdk_65_method_133_code 5 = .ok (.iload_n 2, 1) := by decide +kernel
theorem dcb_6 : decode jdk_65_method_133_code 6 = .ok (.iload_n 1, 1) := by decide +kernel
theorem dcb_7 : decode jdk_65_method_133_code 7 = .ok (.isub, 1) := by decide +kernel
theorem dcb_8 : decode jdk_65_method_133_code 8 = .ok (.istore_n 3, 1) := by decide +kernel
theorem dcb_9 : decode jdk_65_method_133_code 9 = .ok (.iload_n 3, 1) := by decide +kernel
theorem dcb_10 : decode jdk_65_method_133_code 10 = .ok (.newarray .byte, 2) := by decide +kernel
theorem dcb_12 : decode jdk_65_method_133_code 12 = .ok (.astore 4, 2) := by decide +kernel
theorem dcb_14 : decode jdk_65_method_133_code 14 = .ok (.aload_n 0, 1) := by decide +kernel
theorem dcb_15 : decode jdk_65_method_133_code 15 = .ok (.iload_n 1, 1) := by decide +kernel
theorem dcb_16 : decode jdk_65_method_133_code 16 = .ok (.aload 4, 2) := by decide +kernel
theorem dcb_18 : decode jdk_65_method_133_code 18 = .ok (.iconst 0, 1) := by decide +kernel
theorem dcb_19 : decode jdk_65_method_133_code 19 = .ok (.aload_n 0, 1) := by decide +kernel
theorem dcb_20 : decode jdk_65_method_133_code 20 = .ok (.arraylength, 1) := by decide +kernel
theorem dcb_21 : decode jdk_65_method_133_code 21 = .ok (.iload_n 1, 1) := by decide +kernel
theorem dcb_22 : decode jdk_65_method_133_code 22 = .ok (.isub, 1) := by decide +kernel
theorem dcb_23 : decode jdk_65_method_133_code 23 = .ok (.iload_n 3, 1) := by decide +kernel
theorem dcb_24 : decode jdk_65_method_133_code 24 = .ok (.invokestatic 304, 3) := by decide +kernel
theorem dcb_27 : decode jdk_65_method_133_code 27 = .ok (.invokestatic 150, 3) := by decide +kernel
theorem dcb_30 : decode jdk_65_method_133_code 30 = .ok (.aload 4, 2) := by decide +kernel
theorem dcb_32 : decode jdk_65_method_133_code 32 = .ok (.areturn, 1) := by decide +kernel
theorem pdcb_0 : parseMethodDescriptor "(II)V" = some ⟨[.int, .int], none⟩ := by decide +kernel
theorem pncb : plainName "java/util/Arrays" = true := by first | (simp [plainName, overriddenIn]; done) | decide +kernel
theorem efcb (m : MethodId) (x0 : Addr) (x1 : Int32) (x2 : Int32) : entryFrame m #[(.ref x0), (.int x1), (.int x2)] 5 = mkF m 0 #[.val (.ref x0), .val (.int x1), .val (.int x2), .unset, .unset] [] := by first | (simp [entryFrame, mkF, argsToLocals, Value.category, maxLocals]; done) | rfl
def Qcb (Z : State) (t : Addr) (kt : ClassId) (N : Nat) (cs : List Int32) (h0 : Heap) (n0 : Nat) (v : Option Value) (h : Heap) (L : List Loc) : Prop := ∃ (u : Addr) (ku : ClassId), v = some (.ref u) ∧ Fr n0 L ∧ Keep h0 h [] ∧ n0 ≤ u ∧ h0.size ≤ u ∧ Arv Z h u ku .byte (Int32.ofNat cs.length) (oLat cs) (.int 0)
theorem rmcb (l : Launch) (Z : State) (a0 : Array Value) (hw : ∀ d ∈ tables_1, d.before a0 Z = true) (ws : List Jvm.Cond) (t : Addr) (kt : ClassId) (N : Nat) (cs : List Int32) (h0 : Heap) (n0 : Nat) (O0 : Old Z n0 h0) (V_t : Arv Z h0 t kt .byte (Int32.ofNat N) (oLat cs) (.int 0)) (hN : N ≤ 16) (hcl : cs.length ≤ N) :
  MetFree l mN23 (head1 (Jvm.Cond.code mN23 jdk_65_method_133_code 5 (some (.array .byte)) :: ws) ({ frames := 1, cells := 1, slots := 16, locals := 22 } : Room)) (fun A_ U_ => A_ = #[(.ref t), (.int 0), (.int (Int32.ofNat cs.length))] ∧ Z.Warmed39 U_.vm ∧ U_.heap = h0) (fun _ _ _ _ _ => True) (fun _ U o U' => ∃ v L, o = .returned v ∧ Qcb Z t kt N cs h0 n0 v U'.heap L ∧ FrameEnd U o U' L ({ frames := 1, cells := 1, slots := 16, locals := 22 } : Room).cells ({ frames := 1, cells := 1, slots := 16, locals := 22 } : Room).slots) := by
 refine MetFree.of_bodySF (plainFor_of_name pncb) hisR ?_
 intro p e s m args below meth cd s₁ Bd hml0 hP hK
 obtain ⟨rfl, hZ, hh⟩ := hP
 have hx := Bd.exec
 have hby := Bd.bytes
 have hlk : meth.locks = false := BodyLoose.notSynchronized Bd
 have hml : cd.maxLocals = 5 := hml0
 have hown : s.vm.findClass "java/util/Arrays" = some m.cls := findClass_of_methodNamed Bd.named
 have X0 : Stand p l e ({ frames := 1, cells := 1, slots := 16, locals := 22 } : Room) s m #[(.ref t), (.int 0), (.int (Int32.ofNat cs.length))] below meth cd s₁ [] 0 0 := Stand.of_body Bd
 have e0 : s₁.heap = h0 := by rw [← hh, Bd.state]; rfl
 have N0 := Fr.nil n0
 have K0 : Keep h0 h0 [] := Keep.refl _ _
 have G : Go p e below s 1 16 (Qcb Z t kt N cs h0 n0) (s₁.setTop (mkF m 0 #[.val (.ref t), .val (.int 0), .val (.int (Int32.ofNat cs.length)), .unset, .unset] [])) := by
  refine Go.s (XS.iloadN X0.here hx rfl (hb hby dcb_0) rfl) ?_
  refine Go.s (XS.iloadN X0.here hx rfl (hb hby dcb_1) rfl) ?_
  obtain ⟨_, _, ⟨T1, L1, k1, n1⟩, -, X1, ⟨Lc1, hQ1, l1, y1, z1⟩, st1⟩ := Jvm.LawKit.callS X0 hx (y := mN22) hown (mvT hZ (own_w hw 216 rfl)) (mvT hZ (own_w hw 217 rfl)) (mvT hZ (own_w hw 145 rfl)) (mvT hZ (own_w hw 218 rfl)) (by decide) (backOf (W := 0) (rmkl l Z a0 hw [] cs.length h0 n0 O0 (by omega)) hZ (own_w hw 218 rfl) (own_w hw 145 rfl) (by decide) (by decide)) (g := (mkF m 2 #[.val (.ref t), .val (.int 0), .val (.int (Int32.ofNat cs.length)), .unset, .unset] [(.int (Int32.ofNat cs.length)), (.int 0)])) rfl (by rw [hml]; rfl) (argsL := [(.int 0), (.int (Int32.ofNat cs.length))]) (rest := []) (lenOf pdcb_0 rfl) rfl (by show 2 * 0 + _ ≤ _; exact Nat.le_of_eq rfl) (hb hby dcb_2) (fun _ _ => ⟨rfl, e0, (by decide : 0 + 0 ≤ _), (by decide : 0 + 0 ≤ _)⟩)
  dsimp only [Pt.U, Pt.locs, Pt.cells, Pt.slots] at X1 l1 y1 z1 st1 hQ1
  subst y1 z1
  obtain ⟨rfl, Nc1, e1⟩ := hQ1
  have N1 : Fr n0 L1 := by rw [l1]; exact Fr.app N0 Nc1
  refine Go.st st1 ?_
  show Go p e below s _ _ _ (T1.setTop (mkF m 5 #[.val (.ref t), .val (.int 0), .val (.int (Int32.ofNat cs.length)), .unset, .unset] []))
  refine Go.s (XS.iloadN X1.here hx rfl (hb hby dcb_5) rfl) ?_
  refine Go.s (XS.iloadN X1.here hx rfl (hb hby dcb_6) rfl) ?_
  refine Go.s (XS.isub X1.here hx rfl (hb hby dcb_7) rfl) ?_
  show Go p e below s _ _ _ (T1.setTop (mkF m 8 #[.val (.ref t), .val (.int 0), .val (.int (Int32.ofNat cs.length)), .unset, .unset] [(.int ((Int32.ofNat cs.length) - (0 : Int32)))]))
  rw [own_sub0]
  show Go p e below s _ _ _ (T1.setTop (mkF m 8 #[.val (.ref t), .val (.int 0), .val (.int (Int32.ofNat cs.length)), .unset, .unset] [(.int (Int32.ofNat cs.length))]))
  refine Go.s (XS.istoreN X1.here hx rfl (hb hby dcb_8) rfl (l' := #[.val (.ref t), .val (.int 0), .val (.int (Int32.ofNat cs.length)), .val (.int (Int32.ofNat cs.length)), .unset]) rfl) ?_
  refine Go.s (XS.iloadN X1.here hx rfl (hb hby dcb_9) rfl) ?_
  obtain ⟨T2, h2, k2, X2, e2, E2, A2, st2⟩ := newP X1 hx hZ (own_w hw 8 rfl) e1 (g := (mkF m 10 #[.val (.ref t), .val (.int 0), .val (.int (Int32.ofNat cs.length)), .val (.int (Int32.ofNat cs.length)), .unset] [(.int (Int32.ofNat cs.length))])) rfl (hb hby dcb_10) rfl (own_nn (by omega)) (cap := 16) (by rw [own_tn (by omega)]; omega) (by decide) (by decide) (by decide)
  obtain ⟨b2, g2⟩ : ∃ z, z = h0.size := ⟨_, rfl⟩
  rw [← g2] at A2 st2
  have g_b2 : n0 ≤ b2 := Nat.le_trans (own_old O0) (Nat.le_of_eq g2.symm)
  have sz_b2 : h0.size ≤ b2 := Nat.le_trans K0.1 (Nat.le_of_eq g2.symm)
  have ne_t_b2 : t ≠ b2 := by rw [g2]; exact Nat.ne_of_lt V_t.lt
  have V_t := V_t.ext E2
  have O2 := O0.ext E2
  have K2 := K0.ext E2
  have V_b2 : Arv Z h2 b2 k2 .byte (Int32.ofNat cs.length) [] (.int 0) := (Arv.new A2 (own_nn (by omega))).pad (pad_rep [] (.int 0) 0)
  refine Go.st st2 ?_
  show Go p e below s _ _ _ (T2.setTop (mkF m 12 #[.val (.ref t), .val (.int 0), .val (.int (Int32.ofNat cs.length)), .val (.int (Int32.ofNat cs.length)), .unset] [(.ref b2)]))
  refine Go.s (XS.astore X2.here hx rfl (hb hby dcb_12) rfl rfl (l' := #[.val (.ref t), .val (.int 0), .val (.int (Int32.ofNat cs.length)), .val (.int (Int32.ofNat cs.length)), .val (.ref b2)]) rfl) ?_
  refine Go.s (XS.aloadN X2.here hx rfl (hb hby dcb_14) rfl rfl) ?_
  refine Go.s (XS.iloadN X2.here hx rfl (hb hby dcb_15) rfl) ?_
  refine Go.s (XS.aload X2.here hx rfl (hb hby dcb_16) rfl rfl) ?_
  refine Go.s (XS.iconst X2.here hx rfl (hb hby dcb_18)) ?_
  refine Go.s (XS.aloadN X2.here hx rfl (hb hby dcb_19) rfl rfl) ?_
  refine Go.s (own_len X2 hx hZ e2 V_t (g := (mkF m 20 #[.val (.ref t), .val (.int 0), .val (.int (Int32.ofNat cs.length)), .val (.int (Int32.ofNat cs.length)), .val (.ref b2)] [(.ref t), (.int 0), (.ref b2), (.int 0), (.ref t)])) rfl rfl (hb hby dcb_20) _) ?_
  show Go p e below s _ _ _ (T2.setTop (mkF m 21 #[.val (.ref t), .val (.int 0), .val (.int (Int32.ofNat cs.length)), .val (.int (Int32.ofNat cs.length)), .val (.ref b2)] [(.int (Int32.ofNat N)), (.int 0), (.ref b2), (.int 0), (.ref t)]))
  refine Go.s (XS.iloadN X2.here hx rfl (hb hby dcb_21) rfl) ?_
  refine Go.s (XS.isub X2.here hx rfl (hb hby dcb_22) rfl) ?_
  show Go p e below s _ _ _ (T2.setTop (mkF m 23 #[.val (.ref t), .val (.int 0), .val (.int (Int32.ofNat cs.length)), .val (.int (Int32.ofNat cs.length)), .val (.ref b2)] [(.int ((Int32.ofNat N) - (0 : Int32))), (.int 0), (.ref b2), (.int 0), (.ref t)]))
  rw [own_sub0]
  show Go p e below s _ _ _ (T2.setTop (mkF m 23 #[.val (.ref t), .val (.int 0), .val (.int (Int32.ofNat cs.length)), .val (.int (Int32.ofNat cs.length)), .val (.ref b2)] [(.int (Int32.ofNat N)), (.int 0), (.ref b2), (.int 0), (.ref t)]))
  refine Go.s (XS.iloadN X2.here hx rfl (hb hby dcb_23) rfl) ?_
  obtain ⟨_, _, ⟨T3, L3, k3, n3⟩, -, X3, ⟨Lc3, hQ3, l3, y3, z3⟩, st3⟩ := Jvm.LawKit.callS X2 hx (y := mN8) hown (mvT hZ (own_w hw 203 rfl)) (mvT hZ (own_w hw 204 rfl)) (mvT hZ (own_w hw 196 rfl)) (mvT hZ (own_w hw 205 rfl)) (by decide) (backOf (W := 4) (rmmn l Z a0 hw [] (Int32.ofNat N) (Int32.ofNat cs.length) h2 n0 O2 ) hZ (own_w hw 205 rfl) (own_w hw 196 rfl) (by decide) (by decide)) (g := (mkF m 24 #[.val (.ref t), .val (.int 0), .val (.int (Int32.ofNat cs.length)), .val (.int (Int32.ofNat cs.length)), .val (.ref b2)] [(.int (Int32.ofNat cs.length)), (.int (Int32.ofNat N)), (.int 0), (.ref b2), (.int 0), (.ref t)])) rfl (by rw [hml]; rfl) (argsL := [(.int (Int32.ofNat N)), (.int (Int32.ofNat cs.length))]) (rest := [(.int 0), (.ref b2), (.int 0), (.ref t)]) (lenOf pdnl_0 rfl) rfl (by show 2 * 0 + _ ≤ _; exact Nat.le_of_eq rfl) (hb hby dcb_24) (fun _ _ => ⟨rfl, e2, (by decide : 1 + 0 ≤ _), (by decide : 16 + 0 ≤ _)⟩)
  dsimp only [Pt.U, Pt.locs, Pt.cells, Pt.slots] at X3 l3 y3 z3 st3 hQ3
  subst y3 z3
  obtain ⟨rfl, Nc3, e3⟩ := hQ3
  have N3 : Fr n0 L3 := by rw [l3]; exact Fr.app N1 Nc3
  refine Go.st st3 ?_
  show Go p e below s _ _ _ (T3.setTop (mkF m 27 #[.val (.ref t), .val (.int 0), .val (.int (Int32.ofNat cs.length)), .val (.int (Int32.ofNat cs.length)), .val (.ref b2)] [(.int (fMn (Int32.ofNat N) (Int32.ofNat cs.length))), (.int 0), (.ref b2), (.int 0), (.ref t)]))
  rw [own_mn2 (by omega) (by omega)]
  show Go p e below s _ _ _ (T3.setTop (mkF m 27 #[.val (.ref t), .val (.int 0), .val (.int (Int32.ofNat cs.length)), .val (.int (Int32.ofNat cs.length)), .val (.ref b2)] [(.int (Int32.ofNat cs.length)), (.int 0), (.ref b2), (.int 0), (.ref t)]))
  obtain ⟨T4, h4, L4, X4, e4, N4, Kc4, V4, st4⟩ := own_cpS X3 hx hZ hown (own_w hw 206 rfl) (own_w hw 209 rfl) (own_w hw 207 rfl) (own_w hw 208 rfl) e3 V_t V_b2 (own_nn (by omega)) (by rw [own_tn (by omega), own_tn (by omega)]; omega) (Nat.le_refl _) (by rw [own_tn (by omega), oLat_len]; omega) N3 g_b2 (g := (mkF m 27 #[.val (.ref t), .val (.int 0), .val (.int (Int32.ofNat cs.length)), .val (.int (Int32.ofNat cs.length)), .val (.ref b2)] [(.int (Int32.ofNat cs.length)), (.int 0), (.ref b2), (.int 0), (.ref t)])) rfl (by rw [hml]; rfl) rfl (hb hby dcb_27) (by decide) (W := 0) (by show 2 * 0 + _ ≤ _; exact Nat.le_of_eq rfl) (by decide)
  have V_t := V_t.keep Kc4 (ninS ne_t_b2 nin0)
  have O4 := O2.keep Kc4 (allS g_b2 all0)
  have K4 := K2.trans Kc4 (allS (Or.inr sz_b2) all0)
  have V_b2 : Arv Z h4 b2 k2 .byte (Int32.ofNat cs.length) (oLat cs) (.int 0) := V4
  refine Go.st st4 ?_
  show Go p e below s _ _ _ (T4.setTop (mkF m 30 #[.val (.ref t), .val (.int 0), .val (.int (Int32.ofNat cs.length)), .val (.int (Int32.ofNat cs.length)), .val (.ref b2)] []))
  refine Go.s (XS.aload X4.here hx rfl (hb hby dcb_30) rfl rfl) ?_
  exact Go.ret X4 hlk (some (.ref b2)) (fun h => by rw [Bd.returns] at h; cases h) (by rw [e4]; exact ⟨b2, _, rfl, N4, K4, g_b2, sz_b2, V_b2⟩) (by decide) (by decide) (fun fs hr => retOut X4 hx Bd.returns rfl (Or.inr (Or.inr (Or.inr (Or.inr ⟨rfl, rfl, rfl⟩)))) (hb hby dcb_32) hr)
 obtain ⟨s2, o2, st2, r2⟩ := G
 exact ⟨s2, o2, castTop (efcb m t (0 : Int32) (Int32.ofNat cs.length)) st2, r2⟩
theorem dcr_0 : decode jdk_65_method_132_code 0 = .ok (.iload_n 1, 1) := by decide +kernel
theorem dcr_1 : decode jdk_65_method_132_code 1 = .ok (.ifCond .ne 9, 3) := by decide +kernel
theorem dcr_4 : decode jdk_65_method_132_code 4 = .ok (.iload_n 2, 1) := by decide +kernel
theorem dcr_5 : decode jdk_65_method_132_code 5 = .ok (.aload_n 0, 1) := by decide +kernel
theorem dcr_6 : decode jdk_65_method_132_code 6 = .ok (.arraylength, 1) := by decide +kernel
theorem dcr_7 : decode jdk_65_method_132_code 7 = .ok (.if_icmp .eq 10, 3) := by decide +kernel
theorem dcr_10 : decode jdk_65_method_132_code 10 = .ok (.aload_n 0, 1) := by decide +kernel
theorem dcr_11 : decode jdk_65_method_132_code 11 = .ok (.iload_n 1, 1) := by decide +kernel
theorem dcr_12 : decode jdk_65_method_132_code 12 = .ok (.iload_n 2, 1) := by decide +kernel
theorem dcr_13 : decode jdk_65_method_132_code 13 = .ok (.invokestatic 339, 3) := by decide +kernel
theorem dcr_16 : decode jdk_65_method_132_code 16 = .ok (.areturn, 1) := by decide +kernel
theorem dcr_17 : decode jdk_65_method_132_code 17 = .ok (.aload_n 0, 1) := by decide +kernel
theorem dcr_18 : decode jdk_65_method_132_code 18 = .ok (.invokevirtual 310, 3) := by decide +kernel
theorem dcr_21 : decode jdk_65_method_132_code 21 = .ok (.checkcast 311, 3) := by decide +kernel
theorem dcr_24 : decode jdk_65_method_132_code 24 = .ok (.areturn, 1) := by decide +kernel
theorem pdcr_0 : parseMethodDescriptor "([BII)[B" = some ⟨[(.array .byte), .int, .int], some (.array .byte)⟩ := by decide +kernel
theorem pncr : plainName "java/util/Arrays" = true := by first | (simp [plainName, overriddenIn]; done) | decide +kernel
theorem efcr (m : MethodId) (x0 : Addr) (x1 : Int32) (x2 : Int32) : entryFrame m #[(.ref x0), (.int x1), (.int x2)] 3 = mkF m 0 #[.val (.ref x0), .val (.int x1), .val (.int x2)] [] := by first | (simp [entryFrame, mkF, argsToLocals, Value.category, maxLocals]; done) | rfl
def Qcr (Z : State) (t : Addr) (kt : ClassId) (N : Nat) (cs : List Int32) (h0 : Heap) (n0 : Nat) (v : Option Value) (h : Heap) (L : List Loc) : Prop := ∃ (u : Addr) (ku : ClassId), v = some (.ref u) ∧ Fr n0 L ∧ Keep h0 h [] ∧ n0 ≤ u ∧ h0.size ≤ u ∧ Arv Z h u ku .byte (Int32.ofNat cs.length) (oLat cs) (.int 0)
theorem rmcr (l : Launch) (Z : State) (a0 : Array Value) (hw : ∀ d ∈ tables_1, d.before a0 Z = true) (ws : List Jvm.Cond) (t : Addr) (kt : ClassId) (N : Nat) (cs : List Int32) (h0 : Heap) (n0 : Nat) (O0 : Old Z n0 h0) (V_t : Arv Z h0 t kt .byte (Int32.ofNat N) (oLat cs) (.int 0)) (E_t : Exa Z h0 t "[B") (hN : N ≤ 16) (hcl : cs.length ≤ N) :
  MetFree l mN24 (head1 (Jvm.Cond.code mN24 jdk_65_method_132_code 3 (some (.array .byte)) :: ws) ({ frames := 2, cells := 1, slots := 16, locals := 38 } : Room)) (fun A_ U_ => A_ = #[(.ref t), (.int 0), (.int (Int32.ofNat cs.length))] ∧ Z.Warmed39 U_.vm ∧ U_.heap = h0) (fun _ _ _ _ _ => True) (fun _ U o U' => ∃ v L, o = .returned v ∧ Qcr Z t kt N cs h0 n0 v U'.heap L ∧ FrameEnd U o U' L ({ frames := 2, cells := 1, slots := 16, locals := 38 } : Room).cells ({ frames := 2, cells := 1, slots := 16, locals := 38 } : Room).slots) := by
 refine MetFree.of_bodySF (plainFor_of_name pncr) hisR ?_
 intro p e s m args below meth cd s₁ Bd hml0 hP hK
 obtain ⟨rfl, hZ, hh⟩ := hP
 have hx := Bd.exec
 have hby := Bd.bytes
 have hlk : meth.locks = false := BodyLoose.notSynchronized Bd
 have hml : cd.maxLocals = 3 := hml0
 have hown : s.vm.findClass "java/util/Arrays" = some m.cls := findClass_of_methodNamed Bd.named
 have X0 : Stand p l e ({ frames := 2, cells := 1, slots := 16, locals := 38 } : Room) s m #[(.ref t), (.int 0), (.int (Int32.ofNat cs.length))] below meth cd s₁ [] 0 0 := Stand.of_body Bd
 have e0 : s₁.heap = h0 := by rw [← hh, Bd.state]; rfl
 have N0 := Fr.nil n0
 have K0 : Keep h0 h0 [] := Keep.refl _ _
 have G : Go p e below s 1 16 (Qcr Z t kt N cs h0 n0) (s₁.setTop (mkF m 0 #[.val (.ref t), .val (.int 0), .val (.int (Int32.ofNat cs.length))] [])) := by
  refine Go.s (XS.iloadN X0.here hx rfl (hb hby dcr_0) rfl) ?_
  refine Go.s (XS.ifNo X0.here hx rfl (hb hby dcr_1) rfl (by decide)) ?_
  show Go p e below s _ _ _ (s₁.setTop (mkF m 4 #[.val (.ref t), .val (.int 0), .val (.int (Int32.ofNat cs.length))] []))
  refine Go.s (XS.iloadN X0.here hx rfl (hb hby dcr_4) rfl) ?_
  refine Go.s (XS.aloadN X0.here hx rfl (hb hby dcr_5) rfl rfl) ?_
  refine Go.s (own_len X0 hx hZ e0 V_t (g := (mkF m 6 #[.val (.ref t), .val (.int 0), .val (.int (Int32.ofNat cs.length))] [(.ref t), (.int (Int32.ofNat cs.length))])) rfl rfl (hb hby dcr_6) _) ?_
  show Go p e below s _ _ _ (s₁.setTop (mkF m 7 #[.val (.ref t), .val (.int 0), .val (.int (Int32.ofNat cs.length))] [(.int (Int32.ofNat N)), (.int (Int32.ofNat cs.length))]))
  by_cases c7_1 : (Int32.ofNat cs.length) = (Int32.ofNat N)
  · refine Go.s (XS.icmpYes X0.here hx rfl (pc0 := 7) (pc' := 17) rfl (hb hby dcr_7) rfl (XT.ii_eq_t c7_1) (by decide) (by decide)) ?_
    show Go p e below s _ _ _ (s₁.setTop (mkF m 17 #[.val (.ref t), .val (.int 0), .val (.int (Int32.ofNat cs.length))] []))
    refine Go.s (XS.aloadN X0.here hx rfl (hb hby dcr_17) rfl rfl) ?_
    obtain ⟨T2, h2, X2, e2, E2, A2, Ex2, st2⟩ := cloneH X0 hx hZ hown (own_w hw 147 rfl) (own_w hw 148 rfl) (own_w hw 152 rfl) (own_w hw 150 rfl) (own_w hw 151 rfl) (own_w hw 153 rfl) e0 (Arv.arh V_t) E_t (g := (mkF m 18 #[.val (.ref t), .val (.int 0), .val (.int (Int32.ofNat cs.length))] [(.ref t)])) rfl (by rw [hml]; rfl) rfl (hb hby dcr_18) (by decide) (W := 0) (cap := 16) (by show 2 * 0 + _ ≤ _; exact Nat.le_of_eq rfl) (by decide) (by rw [own_tn (by omega)]; omega) (by decide) (by decide)
    obtain ⟨q2, g2⟩ : ∃ z, z = h0.size := ⟨_, rfl⟩
    rw [← g2] at A2 Ex2 st2
    have g_q2 : n0 ≤ q2 := Nat.le_trans (own_old O0) (Nat.le_of_eq g2.symm)
    have sz_q2 : h0.size ≤ q2 := Nat.le_trans K0.1 (Nat.le_of_eq g2.symm)
    have ne_t_q2 : t ≠ q2 := by rw [g2]; exact Nat.ne_of_lt V_t.lt
    have V_t := V_t.ext E2
    have E_t := E_t.ext E2
    have O2 := O0.ext E2
    have K2 := K0.ext E2
    have E_q2 : Exa Z h2 q2 "[B" := Ex2
    have V_q2 : Arv Z h2 q2 kt .byte (Int32.ofNat N) (oLat cs) (.int 0) := A2
    refine Go.st st2 ?_
    show Go p e below s _ _ _ (T2.setTop (mkF m 21 #[.val (.ref t), .val (.int 0), .val (.int (Int32.ofNat cs.length))] [(.ref q2)]))
    obtain ⟨T3, X3, e3, st3⟩ := castY X2 hx hZ hown (own_w hw 154 rfl) e2 (Ins.self E_q2) (g := (mkF m 21 #[.val (.ref t), .val (.int 0), .val (.int (Int32.ofNat cs.length))] [(.ref q2)])) rfl rfl (hb hby dcr_21)
    refine Go.st st3 ?_
    show Go p e below s _ _ _ (T3.setTop (mkF m 24 #[.val (.ref t), .val (.int 0), .val (.int (Int32.ofNat cs.length))] [(.ref q2)]))
    exact Go.ret X3 hlk (some (.ref q2)) (fun h => by rw [Bd.returns] at h; cases h) (by rw [e3]; exact ⟨q2, _, rfl, N0, K2, g_q2, sz_q2, by rw [c7_1]; exact V_q2⟩) (by decide) (by decide) (fun fs hr => retOut X3 hx Bd.returns rfl (Or.inr (Or.inr (Or.inr (Or.inr ⟨rfl, rfl, rfl⟩)))) (hb hby dcr_24) hr)
  · refine Go.s (XS.icmpNo X0.here hx rfl (hb hby dcr_7) rfl (XT.ii_eq_f c7_1)) ?_
    show Go p e below s _ _ _ (s₁.setTop (mkF m 10 #[.val (.ref t), .val (.int 0), .val (.int (Int32.ofNat cs.length))] []))
    refine Go.s (XS.aloadN X0.here hx rfl (hb hby dcr_10) rfl rfl) ?_
    refine Go.s (XS.iloadN X0.here hx rfl (hb hby dcr_11) rfl) ?_
    refine Go.s (XS.iloadN X0.here hx rfl (hb hby dcr_12) rfl) ?_
    obtain ⟨_, _, ⟨T4, L4, k4, n4⟩, -, X4, ⟨Lc4, hQ4, l4, y4, z4⟩, st4⟩ := Jvm.LawKit.callS X0 hx (y := mN23) hown (mvT hZ (own_w hw 213 rfl)) (mvT hZ (own_w hw 214 rfl)) (mvT hZ (own_w hw 145 rfl)) (mvT hZ (own_w hw 215 rfl)) (by decide) (backOf (W := 0) (rmcb l Z a0 hw [] t kt N cs h0 n0 O0 V_t hN hcl) hZ (own_w hw 215 rfl) (own_w hw 145 rfl) (by decide) (by decide)) (g := (mkF m 13 #[.val (.ref t), .val (.int 0), .val (.int (Int32.ofNat cs.length))] [(.int (Int32.ofNat cs.length)), (.int 0), (.ref t)])) rfl (by rw [hml]; rfl) (argsL := [(.ref t), (.int 0), (.int (Int32.ofNat cs.length))]) (rest := []) (lenOf pdcr_0 rfl) rfl (by show 2 * 0 + _ ≤ _; exact Nat.le_of_eq rfl) (hb hby dcr_13) (fun _ _ => ⟨rfl, e0, (by decide : 0 + 1 ≤ _), (by decide : 0 + 16 ≤ _)⟩)
    dsimp only [Pt.U, Pt.locs, Pt.cells, Pt.slots] at X4 l4 y4 z4 st4 hQ4
    subst y4 z4
    obtain ⟨u, ku, rfl, Nc4, Kc4, gu, szu, NA⟩ := hQ4
    have N4 : Fr n0 L4 := by rw [l4]; exact Fr.app N0 Nc4
    have g_u : n0 ≤ u := gu
    have sz_u : h0.size ≤ u := Nat.le_trans K0.1 szu
    have ne_t_u : t ≠ u := Nat.ne_of_lt (Nat.lt_of_lt_of_le V_t.lt szu)
    have V_t := V_t.keep Kc4 nin0
    have E_t := E_t.keep Kc4
    have O4 := O0.keep Kc4 all0
    have K4 := K0.trans Kc4 all0
    have V_u : Arv Z T4.heap u ku .byte (Int32.ofNat cs.length) (oLat cs) (.int 0) := NA
    refine Go.st st4 ?_
    show Go p e below s _ _ _ (T4.setTop (mkF m 16 #[.val (.ref t), .val (.int 0), .val (.int (Int32.ofNat cs.length))] [(.ref u)]))
    exact Go.ret X4 hlk (some (.ref u)) (fun h => by rw [Bd.returns] at h; cases h) (by exact ⟨u, ku, rfl, N4, K4, g_u, sz_u, V_u⟩) (by decide) (by decide) (fun fs hr => retOut X4 hx Bd.returns rfl (Or.inr (Or.inr (Or.inr (Or.inr ⟨rfl, rfl, rfl⟩)))) (hb hby dcr_16) hr)
 obtain ⟨s2, o2, st2, r2⟩ := G
 exact ⟨s2, o2, castTop (efcr m t (0 : Int32) (Int32.ofNat cs.length)) st2, r2⟩
theorem div_0 : decode jdk_42_method_150_code 0 = .ok (.aload_n 0, 1) := by decide +kernel
theorem div_1 : decode jdk_42_method_150_code 1 = .ok (.invokespecial 1, 3) := by decide +kernel
theorem div_4 : decode jdk_42_method_150_code 4 = .ok (.aload_n 1, 1) := by decide +kernel
theorem div_5 : decode jdk_42_method_150_code 5 = .ok (.invokevirtual 552, 3) := by decide +kernel
theorem div_8 : decode jdk_42_method_150_code 8 = .ok (.astore_n 3, 1) := by decide +kernel
theorem div_9 : decode jdk_42_method_150_code 9 = .ok (.aload_n 1, 1) := by decide +kernel
theorem div_10 : decode jdk_42_method_150_code 10 = .ok (.invokevirtual 549, 3) := by decide +kernel
theorem div_13 : decode jdk_42_method_150_code 13 = .ok (.istore 4, 2) := by decide +kernel
theorem div_15 : decode jdk_42_method_150_code 15 = .ok (.aload_n 1, 1) := by decide +kernel
theorem div_16 : decode jdk_42_method_150_code 16 = .ok (.invokevirtual 1047, 3) := by decide +kernel
theorem div_19 : decode jdk_42_method_150_code 19 = .ok (.ifCond .eq 22, 3) := by decide +kernel
theorem div_22 : decode jdk_42_method_150_code 22 = .ok (.aload_n 0, 1) := by decide +kernel
theorem div_23 : decode jdk_42_method_150_code 23 = .ok (.iconst 0, 1) := by decide +kernel
theorem div_24 : decode jdk_42_method_150_code 24 = .ok (.putfield 15, 3) := by decide +kernel
theorem div_27 : decode jdk_42_method_150_code 27 = .ok (.aload_n 0, 1) := by decide +kernel
theorem div_28 : decode jdk_42_method_150_code 28 = .ok (.aload_n 3, 1) := by decide +kernel
theorem div_29 : decode jdk_42_method_150_code 29 = .ok (.iconst 0, 1) := by decide +kernel
theorem div_30 : decode jdk_42_method_150_code 30 = .ok (.iload 4, 2) := by decide +kernel
theorem div_32 : decode jdk_42_method_150_code 32 = .ok (.invokestatic 54, 3) := by decide +kernel
theorem div_35 : decode jdk_42_method_150_code 35 = .ok (.putfield 9, 3) := by decide +kernel
theorem div_38 : decode jdk_42_method_150_code 38 = .ok (.goto 59, 3) := by decide +kernel
theorem div_97 : decode jdk_42_method_150_code 97 = .ok (.return_, 1) := by decide +kernel
theorem pdiv_0 : parseMethodDescriptor "()[B" = some ⟨[], some (.array .byte)⟩ := by decide +kernel
theorem pniv : plainName "java/lang/String" = true := by first | (simp [plainName, overriddenIn]; done) | decide +kernel
theorem efiv (m : MethodId) (x0 : Addr) (x1 : Addr) : entryFrame m #[(.ref x0), (.ref x1), .null] 5 = mkF m 0 #[.val (.ref x0), .val (.ref x1), .val .null, .unset, .unset] [] := by first | (simp [entryFrame, mkF, argsToLocals, Value.category, maxLocals]; done) | rfl
def Qiv (Z : State) (x : Addr) (b : Addr) (t : Addr) (kt : ClassId) (N : Nat) (cs : List Int32) (zc : Int32) (h0 : Heap) (n0 : Nat) (v : Option Value) (h : Heap) (L : List Loc) : Prop := ∃ (u : Addr) (ku : ClassId), v = none ∧ Fr n0 L ∧ Keep h0 h [x] ∧ Exa Z h x "java/lang/String" ∧ Fld Z h x "java/lang/String" "coder" "B" (.int 0) ∧ Fld Z h x "java/lang/String" "value" "[B" (.ref u) ∧ Arv Z h u ku .byte (Int32.ofNat cs.length) (oLat cs) (.int 0)
theorem rmiv (l : Launch) (Z : State) (a0 : Array Value) (hw : ∀ d ∈ tables_1, d.before a0 Z = true) (ws : List Jvm.Cond) (x : Addr) (b : Addr) (t : Addr) (kt : ClassId) (N : Nat) (cs : List Int32) (zc : Int32) (h0 : Heap) (n0 : Nat) (O0 : Old Z n0 h0) (E_x : Exa Z h0 x "java/lang/String") (F_x_coder : Fld Z h0 x "java/lang/String" "coder" "B" (.int 0)) (F_x_value : Fld Z h0 x "java/lang/String" "value" "[B" .null) (E_b : Exa Z h0 b "java/lang/StringBuilder") (F_b_value : Fld Z h0 b "java/lang/AbstractStringBuilder" "value" "[B" (.ref t)) (F_b_coder : Fld Z h0 b "java/lang/AbstractStringBuilder" "coder" "B" (.int 0)) (F_b_count : Fld Z h0 b "java/lang/AbstractStringBuilder" "count" "I" (.int (Int32.ofNat cs.length))) (V_t : Arv Z h0 t kt .byte (Int32.ofNat N) (oLat cs) (.int 0)) (E_t : Exa Z h0 t "[B") (gx : n0 ≤ x) (nxb : b ≠ x) (hN : N ≤ 16) (hcl : cs.length ≤ N) (SC : Sta Z Z.heap "java/lang/String" "COMPACT_STRINGS" "Z" (.int zc)) (hcs : ¬ zc = 0) :
  MetFree l mN25 (head1 (Jvm.Cond.code mN25 jdk_42_method_150_code 5 none :: ws) ({ frames := 3, cells := 1, slots := 16, locals := 53 } : Room)) (fun A_ U_ => A_ = #[(.ref x), (.ref b), .null] ∧ Z.Warmed39 U_.vm ∧ U_.heap = h0) (fun _ _ _ _ _ => True) (fun _ U o U' => ∃ v L, o = .returned v ∧ Qiv Z x b t kt N cs zc h0 n0 v U'.heap L ∧ FrameEnd U o U' L ({ frames := 3, cells := 1, slots := 16, locals := 53 } : Room).cells ({ frames := 3, cells := 1, slots := 16, locals := 53 } : Room).slots) := by
 refine MetFree.of_bodySF (plainFor_of_name pniv) hisR ?_
 intro p e s m args below meth cd s₁ Bd hml0 hP hK
 obtain ⟨rfl, hZ, hh⟩ := hP
 have hx := Bd.exec
 have hby := Bd.bytes
 have hlk : meth.locks = false := BodyLoose.notSynchronized Bd
 have hml : cd.maxLocals = 5 := hml0
 have hown : s.vm.findClass "java/lang/String" = some m.cls := findClass_of_methodNamed Bd.named
 have hnm := (name_of_methodNamed Bd.named Bd.method).1
 have X0 : Stand p l e ({ frames := 3, cells := 1, slots := 16, locals := 53 } : Room) s m #[(.ref x), (.ref b), .null] below meth cd s₁ [] 0 0 := Stand.of_body Bd
 have e0 : s₁.heap = h0 := by rw [← hh, Bd.state]; rfl
 have N0 := Fr.nil n0
 have K0 : Keep h0 h0 [x] := Keep.refl _ _
 have ne_x_t : x ≠ t := Exa.neArv E_x V_t (own_w hw 7 rfl)
 have G : Go p e below s 1 16 (Qiv Z x b t kt N cs zc h0 n0) (s₁.setTop (mkF m 0 #[.val (.ref x), .val (.ref b), .val .null, .unset, .unset] [])) := by
  refine Go.s (XS.aloadN X0.here hx rfl (hb hby div_0) rfl rfl) ?_
  obtain ⟨T1, X1, e1, st1⟩ := initO X0 hx hZ hown (own_w hw 127 rfl) (own_w hw 17 rfl) (own_w hw 18 rfl) e0 (g := (mkF m 1 #[.val (.ref x), .val (.ref b), .val .null, .unset, .unset] [(.ref x)])) rfl (by rw [hml]; rfl) rfl (hb hby div_1) (by decide) (W := 0) (by show 2 * 0 + _ ≤ _; exact Nat.le_of_eq rfl) (by decide)
  refine Go.st st1 ?_
  show Go p e below s _ _ _ (T1.setTop (mkF m 4 #[.val (.ref x), .val (.ref b), .val .null, .unset, .unset] []))
  refine Go.s (XS.aloadN X1.here hx rfl (hb hby div_4) rfl rfl) ?_
  obtain ⟨cq2, kq2, qa2, qb2, qc2⟩ := isOf hZ e1 E_b
  obtain ⟨_, _, ⟨T2, L2, k2, n2⟩, -, X2, ⟨Lc2, hQ2, l2, y2, z2⟩, st2⟩ := X1.virtualBack hx (y := mN19) (z := mN19) hown (mvT hZ (own_w hw 128 rfl)) (mvT hZ (own_w hw 129 rfl)) (notFace_of_selects (args := #[]) (mvT hZ (own_w hw 131 rfl))) (mvT hZ (own_w hw 131 rfl)) (mvT hZ (own_w hw 130 rfl)) (by decide) (backOf (W := 0) (rmgv l Z a0 hw [] b t h0 n0 O0 F_b_value) hZ (own_w hw 132 rfl) (own_w hw 68 rfl) (by decide) (by decide)) qa2 qc2 (g := (mkF m 5 #[.val (.ref x), .val (.ref b), .val .null, .unset, .unset] [(.ref b)])) rfl (by rw [hml]; rfl) (Steps.refl _) (argsL := []) (rest := []) (lenOf pdiv_0 rfl) rfl (by show 2 * 0 + _ ≤ _; exact Nat.le_of_eq rfl) (hb hby div_5) (fun _ _ => ⟨rfl, e1, (by decide : 0 + 0 ≤ _), (by decide : 0 + 0 ≤ _)⟩)
  dsimp only [Pt.U, Pt.locs, Pt.cells, Pt.slots] at X2 l2 y2 z2 st2 hQ2
  subst y2 z2
  obtain ⟨rfl, Nc2, e2⟩ := hQ2
  have N2 : Fr n0 L2 := by rw [l2]; exact Fr.app N0 Nc2
  refine Go.tr st2 ?_
  show Go p e below s _ _ _ (T2.setTop (mkF m 8 #[.val (.ref x), .val (.ref b), .val .null, .unset, .unset] [(.ref t)]))
  refine Go.s (XS.astoreN X2.here hx rfl (hb hby div_8) rfl rfl (l' := #[.val (.ref x), .val (.ref b), .val .null, .val (.ref t), .unset]) rfl) ?_
  refine Go.s (XS.aloadN X2.here hx rfl (hb hby div_9) rfl rfl) ?_
  obtain ⟨cq3, kq3, qa3, qb3, qc3⟩ := isOf hZ e2 E_b
  obtain ⟨_, _, ⟨T3, L3, k3, n3⟩, -, X3, ⟨Lc3, hQ3, l3, y3, z3⟩, st3⟩ := X2.virtualBack hx (y := mN20) (z := mN21) hown (mvT hZ (own_w hw 133 rfl)) (mvT hZ (own_w hw 134 rfl)) (own_nf (args := #[]) (y := mN20) (z := mN12) rfl (mvT hZ (own_w hw 97 rfl))) (mvT hZ (own_w hw 136 rfl)) (mvT hZ (own_w hw 137 rfl)) (by decide) (backOf (W := 0) (rmbl l Z a0 hw [] b cs h0 n0 O0 E_b F_b_count) hZ (own_w hw 138 rfl) (own_w hw 60 rfl) (by decide) (by decide)) qa3 qc3 (g := (mkF m 10 #[.val (.ref x), .val (.ref b), .val .null, .val (.ref t), .unset] [(.ref b)])) rfl (by rw [hml]; rfl) (Steps.refl _) (argsL := []) (rest := []) (lenOf pdbl_0 rfl) rfl (by show 2 * 0 + _ ≤ _; exact Nat.le_of_eq rfl) (hb hby div_10) (fun _ _ => ⟨rfl, e2, (by decide : 0 + 0 ≤ _), (by decide : 0 + 0 ≤ _)⟩)
  dsimp only [Pt.U, Pt.locs, Pt.cells, Pt.slots] at X3 l3 y3 z3 st3 hQ3
  subst y3 z3
  obtain ⟨rfl, Nc3, e3⟩ := hQ3
  have N3 : Fr n0 L3 := by rw [l3]; exact Fr.app N2 Nc3
  refine Go.tr st3 ?_
  show Go p e below s _ _ _ (T3.setTop (mkF m 13 #[.val (.ref x), .val (.ref b), .val .null, .val (.ref t), .unset] [(.int (Int32.ofNat cs.length))]))
  refine Go.s (XS.istore X3.here hx rfl (hb hby div_13) rfl (l' := #[.val (.ref x), .val (.ref b), .val .null, .val (.ref t), .val (.int (Int32.ofNat cs.length))]) rfl) ?_
  refine Go.s (XS.aloadN X3.here hx rfl (hb hby div_15) rfl rfl) ?_
  obtain ⟨cq4, kq4, qa4, qb4, qc4⟩ := isOf hZ e3 E_b
  obtain ⟨_, _, ⟨T4, L4, k4, n4⟩, -, X4, ⟨Lc4, hQ4, l4, y4, z4⟩, st4⟩ := X3.virtualBack hx (y := mN13) (z := mN13) hown (mvT hZ (own_w hw 141 rfl)) (mvT hZ (own_w hw 105 rfl)) (notFace_of_selects (args := #[]) (mvT hZ (own_w hw 107 rfl))) (mvT hZ (own_w hw 107 rfl)) (mvT hZ (own_w hw 106 rfl)) (by decide) (backOf (W := 0) (rmil l Z a0 hw [] b zc h0 n0 O0 F_b_coder SC hcs) hZ (own_w hw 108 rfl) (own_w hw 68 rfl) (by decide) (by decide)) qa4 qc4 (g := (mkF m 16 #[.val (.ref x), .val (.ref b), .val .null, .val (.ref t), .val (.int (Int32.ofNat cs.length))] [(.ref b)])) rfl (by rw [hml]; rfl) (Steps.refl _) (argsL := []) (rest := []) (lenOf pdch_0 rfl) rfl (by show 2 * 0 + _ ≤ _; exact Nat.le_of_eq rfl) (hb hby div_16) (fun _ _ => ⟨rfl, e3, (by decide : 0 + 0 ≤ _), (by decide : 0 + 0 ≤ _)⟩)
  dsimp only [Pt.U, Pt.locs, Pt.cells, Pt.slots] at X4 l4 y4 z4 st4 hQ4
  subst y4 z4
  obtain ⟨rfl, Nc4, e4⟩ := hQ4
  have N4 : Fr n0 L4 := by rw [l4]; exact Fr.app N3 Nc4
  refine Go.tr st4 ?_
  show Go p e below s _ _ _ (T4.setTop (mkF m 19 #[.val (.ref x), .val (.ref b), .val .null, .val (.ref t), .val (.int (Int32.ofNat cs.length))] [(.int 1)]))
  refine Go.s (XS.ifNo X4.here hx rfl (hb hby div_19) rfl (by decide)) ?_
  show Go p e below s _ _ _ (T4.setTop (mkF m 22 #[.val (.ref x), .val (.ref b), .val .null, .val (.ref t), .val (.int (Int32.ofNat cs.length))] []))
  refine Go.s (XS.aloadN X4.here hx rfl (hb hby div_22) rfl rfl) ?_
  refine Go.s (XS.iconst X4.here hx rfl (hb hby div_23)) ?_
  obtain ⟨T5, h5, X5, e5, W5, st5⟩ := putF X4 hx hZ hown (host := "") (Or.inl (own_w hw 142 rfl)) Via.refl e4 F_x_coder E_x (Or.inr ⟨(own_w hw 10 rfl), rfl, hnm⟩) (own_w hw 7 rfl) (ty := .byte) (by decide) rfl rfl (g := (mkF m 24 #[.val (.ref x), .val (.ref b), .val .null, .val (.ref t), .val (.int (Int32.ofNat cs.length))] [(.int 0), (.ref x)])) rfl rfl (hb hby div_24)
  obtain ⟨lc5, X5, N5⟩ := own_gen X5 (Fr.snoc X5 N4 gx)
  have O5 := O0.wr W5 gx
  have K5 := K0.wr W5 (Or.inl (List.mem_of_getElem? (i := 0) rfl))
  have E_x := E_x.wr W5
  have F_x_value := F_x_value.other W5 (Or.inr (slot_ne (Or.inr (own_w hw 9 rfl)) (Or.inr (own_w hw 10 rfl)) (by decide) (by decide : parseFieldDescriptor "[B" = some (.array .byte)) (by decide : parseFieldDescriptor "B" = some .byte)))
  have E_b := E_b.wr W5
  have F_b_value := F_b_value.other W5 (Or.inl nxb)
  have F_b_coder := F_b_coder.other W5 (Or.inl nxb)
  have F_b_count := F_b_count.other W5 (Or.inl nxb)
  have V_t := V_t.other W5 (Ne.symm ne_x_t)
  have E_t := E_t.wr W5
  have F_x_coder := F_x_coder.same W5
  refine Go.st st5 ?_
  show Go p e below s _ _ _ (T5.setTop (mkF m 27 #[.val (.ref x), .val (.ref b), .val .null, .val (.ref t), .val (.int (Int32.ofNat cs.length))] []))
  refine Go.s (XS.aloadN X5.here hx rfl (hb hby div_27) rfl rfl) ?_
  refine Go.s (XS.aloadN X5.here hx rfl (hb hby div_28) rfl rfl) ?_
  refine Go.s (XS.iconst X5.here hx rfl (hb hby div_29)) ?_
  refine Go.s (XS.iload X5.here hx rfl (hb hby div_30) rfl) ?_
  obtain ⟨_, _, ⟨T6, L6, k6, n6⟩, -, X6, ⟨Lc6, hQ6, l6, y6, z6⟩, st6⟩ := Jvm.LawKit.callS X5 hx (y := mN24) hown (mvT hZ (own_w hw 143 rfl)) (mvT hZ (own_w hw 144 rfl)) (mvT hZ (own_w hw 145 rfl)) (mvT hZ (own_w hw 146 rfl)) (by decide) (backOf (W := 1) (rmcr l Z a0 hw [] t kt N cs h5 n0 O5 V_t E_t hN hcl) hZ (own_w hw 146 rfl) (own_w hw 145 rfl) (by decide) (by decide)) (g := (mkF m 32 #[.val (.ref x), .val (.ref b), .val .null, .val (.ref t), .val (.int (Int32.ofNat cs.length))] [(.int (Int32.ofNat cs.length)), (.int 0), (.ref t), (.ref x)])) rfl (by rw [hml]; rfl) (argsL := [(.ref t), (.int 0), (.int (Int32.ofNat cs.length))]) (rest := [(.ref x)]) (lenOf pdcr_0 rfl) rfl (by show 2 * 0 + _ ≤ _; exact Nat.le_of_eq rfl) (hb hby div_32) (fun _ _ => ⟨rfl, e5, (by decide : 0 + 1 ≤ _), (by decide : 0 + 16 ≤ _)⟩)
  dsimp only [Pt.U, Pt.locs, Pt.cells, Pt.slots] at X6 l6 y6 z6 st6 hQ6
  subst y6 z6
  obtain ⟨u, ku, rfl, Nc6, Kc6, gu, szu, NA⟩ := hQ6
  have N6 : Fr n0 L6 := by rw [l6]; exact Fr.app N5 Nc6
  have g_u : n0 ≤ u := gu
  have sz_u : h0.size ≤ u := Nat.le_trans K5.1 szu
  have ne_x_u : x ≠ u := Nat.ne_of_lt (Nat.lt_of_lt_of_le E_x.lt szu)
  have ne_b_u : b ≠ u := Nat.ne_of_lt (Nat.lt_of_lt_of_le E_b.lt szu)
  have ne_t_u : t ≠ u := Nat.ne_of_lt (Nat.lt_of_lt_of_le V_t.lt szu)
  have E_x := E_x.keep Kc6
  have F_x_coder := F_x_coder.keep Kc6 nin0
  have F_x_value := F_x_value.keep Kc6 nin0
  have E_b := E_b.keep Kc6
  have F_b_value := F_b_value.keep Kc6 nin0
  have F_b_coder := F_b_coder.keep Kc6 nin0
  have F_b_count := F_b_count.keep Kc6 nin0
  have V_t := V_t.keep Kc6 nin0
  have E_t := E_t.keep Kc6
  have O6 := O5.keep Kc6 all0
  have K6 := K5.trans Kc6 all0
  have V_u : Arv Z T6.heap u ku .byte (Int32.ofNat cs.length) (oLat cs) (.int 0) := NA
  refine Go.st st6 ?_
  show Go p e below s _ _ _ (T6.setTop (mkF m 35 #[.val (.ref x), .val (.ref b), .val .null, .val (.ref t), .val (.int (Int32.ofNat cs.length))] [(.ref u), (.ref x)]))
  obtain ⟨T7, h7, X7, e7, W7, st7⟩ := putF X6 hx hZ hown (host := "") (Or.inl (own_w hw 156 rfl)) Via.refl rfl F_x_value E_x (Or.inr ⟨(own_w hw 9 rfl), rfl, hnm⟩) (own_w hw 7 rfl) (ty := (.array .byte)) (by decide) rfl rfl (g := (mkF m 35 #[.val (.ref x), .val (.ref b), .val .null, .val (.ref t), .val (.int (Int32.ofNat cs.length))] [(.ref u), (.ref x)])) rfl rfl (hb hby div_35)
  obtain ⟨lc7, X7, N7⟩ := own_gen X7 (Fr.snoc X7 N6 gx)
  have O7 := O6.wr W7 gx
  have K7 := K6.wr W7 (Or.inl (List.mem_of_getElem? (i := 0) rfl))
  have E_x := E_x.wr W7
  have F_x_coder := F_x_coder.other W7 (Or.inr (slot_ne (Or.inr (own_w hw 10 rfl)) (Or.inr (own_w hw 9 rfl)) (by decide) (by decide : parseFieldDescriptor "B" = some .byte) (by decide : parseFieldDescriptor "[B" = some (.array .byte))))
  have E_b := E_b.wr W7
  have F_b_value := F_b_value.other W7 (Or.inl nxb)
  have F_b_coder := F_b_coder.other W7 (Or.inl nxb)
  have F_b_count := F_b_count.other W7 (Or.inl nxb)
  have V_t := V_t.other W7 (Ne.symm ne_x_t)
  have E_t := E_t.wr W7
  have V_u := V_u.other W7 (Ne.symm ne_x_u)
  have F_x_value := F_x_value.same W7
  refine Go.st st7 ?_
  show Go p e below s _ _ _ (T7.setTop (mkF m 38 #[.val (.ref x), .val (.ref b), .val .null, .val (.ref t), .val (.int (Int32.ofNat cs.length))] []))
  refine Go.s (XS.goto X7.here hx rfl (pc0 := 38) (pc' := 97) rfl (hb hby div_38) (by decide) (by decide)) ?_
  exact Go.ret X7 hlk (none) (fun _ => rfl) (by rw [e7]; exact ⟨u, ku, rfl, N7, K7, E_x, F_x_coder, F_x_value, V_u⟩) (by decide) (by decide) (fun fs hr => X7.returnOut hx Bd.returns (hb hby div_97) hr)
 obtain ⟨s2, o2, st2, r2⟩ := G
 exact ⟨s2, o2, castTop (efiv m x b) st2, r2⟩
theorem dib_0 : decode jdk_42_method_53_code 0 = .ok (.aload_n 0, 1) := by decide +kernel
theorem dib_1 : decode jdk_42_method_53_code 1 = .ok (.aload_n 1, 1) := by decide +kernel
theorem dib_2 : decode jdk_42_method_53_code 2 = .ok (.aconst_null, 1) := by decide +kernel
theorem dib_3 : decode jdk_42_method_53_code 3 = .ok (.invokespecial 489, 3) := by decide +kernel
theorem dib_6 : decode jdk_42_method_53_code 6 = .ok (.return_, 1) := by decide +kernel
theorem pdib_0 : parseMethodDescriptor "(Ljava/lang/AbstractStringBuilder;Ljava/lang/Void;)V" = some ⟨[(.object "java/lang/AbstractStringBuilder"), (.object "java/lang/Void")], none⟩ := by decide +kernel
theorem pnib : plainName "java/lang/String" = true := by first | (simp [plainName, overriddenIn]; done) | decide +kernel
theorem efib (m : MethodId) (x0 : Addr) (x1 : Addr) : entryFrame m #[(.ref x0), (.ref x1)] 2 = mkF m 0 #[.val (.ref x0), .val (.ref x1)] [] := by first | (simp [entryFrame, mkF, argsToLocals, Value.category, maxLocals]; done) | rfl
def Qib (Z : State) (x : Addr) (b : Addr) (t : Addr) (kt : ClassId) (N : Nat) (cs : List Int32) (zc : Int32) (h0 : Heap) (n0 : Nat) (v : Option Value) (h : Heap) (L : List Loc) : Prop := ∃ (u : Addr) (ku : ClassId), v = none ∧ Fr n0 L ∧ Keep h0 h [x] ∧ Exa Z h x "java/lang/String" ∧ Fld Z h x "java/lang/String" "coder" "B" (.int 0) ∧ Fld Z h x "java/lang/String" "value" "[B" (.ref u) ∧ Arv Z h u ku .byte (Int32.ofNat cs.length) (oLat cs) (.int 0)
theorem rmib (l : Launch) (Z : State) (a0 : Array Value) (hw : ∀ d ∈ tables_1, d.before a0 Z = true) (ws : List Jvm.Cond) (x : Addr) (b : Addr) (t : Addr) (kt : ClassId) (N : Nat) (cs : List Int32) (zc : Int32) (h0 : Heap) (n0 : Nat) (O0 : Old Z n0 h0) (E_x : Exa Z h0 x "java/lang/String") (F_x_coder : Fld Z h0 x "java/lang/String" "coder" "B" (.int 0)) (F_x_value : Fld Z h0 x "java/lang/String" "value" "[B" .null) (E_b : Exa Z h0 b "java/lang/StringBuilder") (F_b_value : Fld Z h0 b "java/lang/AbstractStringBuilder" "value" "[B" (.ref t)) (F_b_coder : Fld Z h0 b "java/lang/AbstractStringBuilder" "coder" "B" (.int 0)) (F_b_count : Fld Z h0 b "java/lang/AbstractStringBuilder" "count" "I" (.int (Int32.ofNat cs.length))) (V_t : Arv Z h0 t kt .byte (Int32.ofNat N) (oLat cs) (.int 0)) (E_t : Exa Z h0 t "[B") (gx : n0 ≤ x) (nxb : b ≠ x) (hN : N ≤ 16) (hcl : cs.length ≤ N) (SC : Sta Z Z.heap "java/lang/String" "COMPACT_STRINGS" "Z" (.int zc)) (hcs : ¬ zc = 0) :
  MetFree l mN26 (head1 (Jvm.Cond.code mN26 jdk_42_method_53_code 2 none :: ws) ({ frames := 4, cells := 1, slots := 16, locals := 69 } : Room)) (fun A_ U_ => A_ = #[(.ref x), (.ref b)] ∧ Z.Warmed39 U_.vm ∧ U_.heap = h0) (fun _ _ _ _ _ => True) (fun _ U o U' => ∃ v L, o = .returned v ∧ Qib Z x b t kt N cs zc h0 n0 v U'.heap L ∧ FrameEnd U o U' L ({ frames := 4, cells := 1, slots := 16, locals := 69 } : Room).cells ({ frames := 4, cells := 1, slots := 16, locals := 69 } : Room).slots) := by
 refine MetFree.of_bodySF (plainFor_of_name pnib) hisR ?_
 intro p e s m args below meth cd s₁ Bd hml0 hP hK
 obtain ⟨rfl, hZ, hh⟩ := hP
 have hx := Bd.exec
 have hby := Bd.bytes
 have hlk : meth.locks = false := BodyLoose.notSynchronized Bd
 have hml : cd.maxLocals = 2 := hml0
 have hown : s.vm.findClass "java/lang/String" = some m.cls := findClass_of_methodNamed Bd.named
 have X0 : Stand p l e ({ frames := 4, cells := 1, slots := 16, locals := 69 } : Room) s m #[(.ref x), (.ref b)] below meth cd s₁ [] 0 0 := Stand.of_body Bd
 have e0 : s₁.heap = h0 := by rw [← hh, Bd.state]; rfl
 have N0 := Fr.nil n0
 have K0 : Keep h0 h0 [x] := Keep.refl _ _
 have ne_x_t : x ≠ t := Exa.neArv E_x V_t (own_w hw 7 rfl)
 have G : Go p e below s 1 16 (Qib Z x b t kt N cs zc h0 n0) (s₁.setTop (mkF m 0 #[.val (.ref x), .val (.ref b)] [])) := by
  refine Go.s (XS.aloadN X0.here hx rfl (hb hby dib_0) rfl rfl) ?_
  refine Go.s (XS.aloadN X0.here hx rfl (hb hby dib_1) rfl rfl) ?_
  refine Go.s (XS.aconstNull X0.here hx rfl (hb hby dib_2)) ?_
  obtain ⟨_, _, ⟨T1, L1, k1, n1⟩, -, X1, ⟨Lc1, hQ1, l1, y1, z1⟩, st1⟩ := X0.specialBack hx (y := mN25) rfl hown (mvT hZ (own_w hw 124 rfl)) (mvT hZ (own_w hw 125 rfl)) (mvT hZ (own_w hw 126 rfl)) (by decide) (backOf (W := 0) (rmiv l Z a0 hw [] x b t kt N cs zc h0 n0 O0 E_x F_x_coder F_x_value E_b F_b_value F_b_coder F_b_count V_t E_t gx nxb hN hcl SC hcs) hZ (own_w hw 126 rfl) (own_w hw 6 rfl) (by decide) (by decide)) (g := (mkF m 3 #[.val (.ref x), .val (.ref b)] [.null, (.ref b), (.ref x)])) rfl (by rw [hml]; rfl) (Steps.refl _) (a := x) (argsL := [(.ref b), .null]) (rest := []) (lenOf pdib_0 rfl) rfl (by show 2 * 0 + _ ≤ _; exact Nat.le_of_eq rfl) (hb hby dib_3) (fun _ _ => ⟨rfl, e0, (by decide : 0 + 1 ≤ _), (by decide : 0 + 16 ≤ _)⟩)
  dsimp only [Pt.U, Pt.locs, Pt.cells, Pt.slots] at X1 l1 y1 z1 st1 hQ1
  subst y1 z1
  obtain ⟨u, ku, rfl, Nc1, Kc1, NA, NB, NC, ND⟩ := hQ1
  have N1 : Fr n0 L1 := by rw [l1]; exact Fr.app N0 Nc1
  have E_b := E_b.keep Kc1
  have F_b_value := F_b_value.keep Kc1 (ninS nxb nin0)
  have F_b_coder := F_b_coder.keep Kc1 (ninS nxb nin0)
  have F_b_count := F_b_count.keep Kc1 (ninS nxb nin0)
  have V_t := V_t.keep Kc1 (ninS (Ne.symm ne_x_t) nin0)
  have E_t := E_t.keep Kc1
  have O1 := O0.keep Kc1 (allS gx all0)
  have K1 := K0.trans Kc1 (allS (Or.inl (List.mem_of_getElem? (i := 0) rfl)) all0)
  have E_x : Exa Z T1.heap x "java/lang/String" := NA
  have F_x_coder : Fld Z T1.heap x "java/lang/String" "coder" "B" (.int 0) := NB
  have F_x_value : Fld Z T1.heap x "java/lang/String" "value" "[B" (.ref u) := NC
  have V_u : Arv Z T1.heap u ku .byte (Int32.ofNat cs.length) (oLat cs) (.int 0) := ND
  refine Go.tr st1 ?_
  show Go p e below s _ _ _ (T1.setTop (mkF m 6 #[.val (.ref x), .val (.ref b)] []))
  exact Go.ret X1 hlk (none) (fun _ => rfl) (by exact ⟨u, ku, rfl, N1, K1, E_x, F_x_coder, F_x_value, V_u⟩) (by decide) (by decide) (fun fs hr => X1.returnOut hx Bd.returns (hb hby dib_6) hr)
 obtain ⟨s2, o2, st2, r2⟩ := G
 exact ⟨s2, o2, castTop (efib m x b) st2, r2⟩
theorem dts_0 : decode jdk_67_method_42_code 0 = .ok (.new 18, 3) := by decide +kernel
theorem dts_3 : decode jdk_67_method_42_code 3 = .ok (.dup, 1) := by decide +kernel
theorem dts_4 : decode jdk_67_method_42_code 4 = .ok (.aload_n 0, 1) := by decide +kernel
theorem dts_5 : decode jdk_67_method_42_code 5 = .ok (.invokespecial 137, 3) := by decide +kernel
theorem dts_8 : decode jdk_67_method_42_code 8 = .ok (.areturn, 1) := by decide +kernel
theorem pdts_0 : parseMethodDescriptor "(Ljava/lang/StringBuilder;)V" = some ⟨[(.object "java/lang/StringBuilder")], none⟩ := by decide +kernel
theorem pnts : plainName "java/lang/StringBuilder" = true := by first | (simp [plainName, overriddenIn]; done) | decide +kernel
theorem efts (m : MethodId) (x0 : Addr) : entryFrame m #[(.ref x0)] 1 = mkF m 0 #[.val (.ref x0)] [] := by first | (simp [entryFrame, mkF, argsToLocals, Value.category, maxLocals]; done) | rfl
def Qts (Z : State) (b : Addr) (t : Addr) (kt : ClassId) (N : Nat) (cs : List Int32) (zc : Int32) (h0 : Heap) (n0 : Nat) (v : Option Value) (h : Heap) (L : List Loc) : Prop := ∃ (x u : Addr) (ku : ClassId), v = some (.ref x) ∧ Fr n0 L ∧ Keep h0 h [] ∧ n0 ≤ x ∧ h0.size ≤ x ∧ Exa Z h x "java/lang/String" ∧ Fld Z h x "java/lang/String" "coder" "B" (.int 0) ∧ Fld Z h x "java/lang/String" "value" "[B" (.ref u) ∧ Arv Z h u ku .byte (Int32.ofNat cs.length) (oLat cs) (.int 0)
theorem rmts (l : Launch) (Z : State) (a0 : Array Value) (hw : ∀ d ∈ tables_1, d.before a0 Z = true) (ws : List Jvm.Cond) (b : Addr) (t : Addr) (kt : ClassId) (N : Nat) (cs : List Int32) (zc : Int32) (h0 : Heap) (n0 : Nat) (O0 : Old Z n0 h0) (E_b : Exa Z h0 b "java/lang/StringBuilder") (F_b_value : Fld Z h0 b "java/lang/AbstractStringBuilder" "value" "[B" (.ref t)) (F_b_coder : Fld Z h0 b "java/lang/AbstractStringBuilder" "coder" "B" (.int 0)) (F_b_count : Fld Z h0 b "java/lang/AbstractStringBuilder" "count" "I" (.int (Int32.ofNat cs.length))) (V_t : Arv Z h0 t kt .byte (Int32.ofNat N) (oLat cs) (.int 0)) (E_t : Exa Z h0 t "[B") (hN : N ≤ 16) (hcl : cs.length ≤ N) (SC : Sta Z Z.heap "java/lang/String" "COMPACT_STRINGS" "Z" (.int zc)) (hcs : ¬ zc = 0) :
  MetFree l mN27 (head1 (Jvm.Cond.code mN27 jdk_67_method_42_code 1 (some (.object "java/lang/String")) :: ws) ({ frames := 5, cells := 2, slots := 20, locals := 83 } : Room)) (fun A_ U_ => A_ = #[(.ref b)] ∧ Z.Warmed39 U_.vm ∧ U_.heap = h0) (fun _ _ _ _ _ => True) (fun _ U o U' => ∃ v L, o = .returned v ∧ Qts Z b t kt N cs zc h0 n0 v U'.heap L ∧ FrameEnd U o U' L ({ frames := 5, cells := 2, slots := 20, locals := 83 } : Room).cells ({ frames := 5, cells := 2, slots := 20, locals := 83 } : Room).slots) := by
 refine MetFree.of_bodySF (plainFor_of_name pnts) hisR ?_
 intro p e s m args below meth cd s₁ Bd hml0 hP hK
 obtain ⟨rfl, hZ, hh⟩ := hP
 have hx := Bd.exec
 have hby := Bd.bytes
 have hlk : meth.locks = false := BodyLoose.notSynchronized Bd
 have hml : cd.maxLocals = 1 := hml0
 have hown : s.vm.findClass "java/lang/StringBuilder" = some m.cls := findClass_of_methodNamed Bd.named
 have X0 : Stand p l e ({ frames := 5, cells := 2, slots := 20, locals := 83 } : Room) s m #[(.ref b)] below meth cd s₁ [] 0 0 := Stand.of_body Bd
 have e0 : s₁.heap = h0 := by rw [← hh, Bd.state]; rfl
 have N0 := Fr.nil n0
 have K0 : Keep h0 h0 [] := Keep.refl _ _
 have G : Go p e below s 2 20 (Qts Z b t kt N cs zc h0 n0) (s₁.setTop (mkF m 0 #[.val (.ref b)] [])) := by
  obtain ⟨T1, h1, X1, e1, E1, A1, D1, -, st1⟩ := newO X0 hx hZ hown (own_w hw 119 rfl) (own_w hw 7 rfl) (own_w hw 6 rfl) e0 (g := (mkF m 0 #[.val (.ref b)] [])) rfl (hb hby dts_0) (by decide) (by decide)
  obtain ⟨a1, g1⟩ : ∃ z, z = h0.size := ⟨_, rfl⟩
  rw [← g1] at A1 D1 st1
  have g_a1 : n0 ≤ a1 := Nat.le_trans (own_old O0) (Nat.le_of_eq g1.symm)
  have sz_a1 : h0.size ≤ a1 := Nat.le_trans K0.1 (Nat.le_of_eq g1.symm)
  have ne_b_a1 : b ≠ a1 := by rw [g1]; exact Nat.ne_of_lt E_b.lt
  have ne_t_a1 : t ≠ a1 := by rw [g1]; exact Nat.ne_of_lt V_t.lt
  have E_b := E_b.ext E1
  have F_b_value := F_b_value.ext E1
  have F_b_coder := F_b_coder.ext E1
  have F_b_count := F_b_count.ext E1
  have V_t := V_t.ext E1
  have E_t := E_t.ext E1
  have O1 := O0.ext E1
  have K1 := K0.ext E1
  have E_a1 : Exa Z h1 a1 "java/lang/String" := A1
  have F_a1_value : Fld Z h1 a1 "java/lang/String" "value" "[B" .null := D1 (Or.inr (own_w hw 9 rfl)) (ty := (.array .byte)) (by decide)
  have F_a1_coder : Fld Z h1 a1 "java/lang/String" "coder" "B" (.int 0) := D1 (Or.inr (own_w hw 10 rfl)) (ty := .byte) (by decide)
  refine Go.st st1 ?_
  show Go p e below s _ _ _ (T1.setTop (mkF m 3 #[.val (.ref b)] [(.ref a1)]))
  refine Go.s (XS.dup X1.here hx rfl (hb hby dts_3) rfl rfl) ?_
  refine Go.s (XS.aloadN X1.here hx rfl (hb hby dts_4) rfl rfl) ?_
  obtain ⟨_, _, ⟨T2, L2, k2, n2⟩, -, X2, ⟨Lc2, hQ2, l2, y2, z2⟩, st2⟩ := X1.specialBack hx (y := mN26) rfl hown (mvT hZ (own_w hw 120 rfl)) (mvT hZ (own_w hw 121 rfl)) (mvT hZ (own_w hw 123 rfl)) (by decide) (backOf (W := 1) (rmib l Z a0 hw [] a1 b t kt N cs zc h1 n0 O1 E_a1 F_a1_coder F_a1_value E_b F_b_value F_b_coder F_b_count V_t E_t g_a1 ne_b_a1 hN hcl SC hcs) hZ (own_w hw 123 rfl) (own_w hw 6 rfl) (by decide) (by decide)) (g := (mkF m 5 #[.val (.ref b)] [(.ref b), (.ref a1), (.ref a1)])) rfl (by rw [hml]; rfl) (Steps.refl _) (a := a1) (argsL := [(.ref b)]) (rest := [(.ref a1)]) (lenOf pdts_0 rfl) rfl (by show 2 * 0 + _ ≤ _; exact Nat.le_of_eq rfl) (hb hby dts_5) (fun _ _ => ⟨rfl, e1, (by decide : 1 + 1 ≤ _), (by decide : 4 + 16 ≤ _)⟩)
  dsimp only [Pt.U, Pt.locs, Pt.cells, Pt.slots] at X2 l2 y2 z2 st2 hQ2
  subst y2 z2
  obtain ⟨u, ku, rfl, Nc2, Kc2, NA, NB, NC, ND⟩ := hQ2
  have N2 : Fr n0 L2 := by rw [l2]; exact Fr.app N0 Nc2
  have E_b := E_b.keep Kc2
  have F_b_value := F_b_value.keep Kc2 (ninS ne_b_a1 nin0)
  have F_b_coder := F_b_coder.keep Kc2 (ninS ne_b_a1 nin0)
  have F_b_count := F_b_count.keep Kc2 (ninS ne_b_a1 nin0)
  have V_t := V_t.keep Kc2 (ninS ne_t_a1 nin0)
  have E_t := E_t.keep Kc2
  have O2 := O1.keep Kc2 (allS g_a1 all0)
  have K2 := K1.trans Kc2 (allS (Or.inr sz_a1) all0)
  have E_a1 : Exa Z T2.heap a1 "java/lang/String" := NA
  have F_a1_coder : Fld Z T2.heap a1 "java/lang/String" "coder" "B" (.int 0) := NB
  have F_a1_value : Fld Z T2.heap a1 "java/lang/String" "value" "[B" (.ref u) := NC
  have V_u : Arv Z T2.heap u ku .byte (Int32.ofNat cs.length) (oLat cs) (.int 0) := ND
  refine Go.tr st2 ?_
  show Go p e below s _ _ _ (T2.setTop (mkF m 8 #[.val (.ref b)] [(.ref a1)]))
  exact Go.ret X2 hlk (some (.ref a1)) (fun h => by rw [Bd.returns] at h; cases h) (by exact ⟨a1, u, ku, rfl, N2, K2, g_a1, sz_a1, E_a1, F_a1_coder, F_a1_value, V_u⟩) (by decide) (by decide) (fun fs hr => retOut X2 hx Bd.returns rfl (Or.inr (Or.inr (Or.inr (Or.inr ⟨rfl, rfl, rfl⟩)))) (hb hby dts_8) hr)
 obtain ⟨s2, o2, st2, r2⟩ := G
 exact ⟨s2, o2, castTop (efts m b) st2, r2⟩
theorem dtx_0 : decode prog_78_method_17_code 0 = .ok (.aload_n 0, 1) := by decide +kernel
theorem dtx_1 : decode prog_78_method_17_code 1 = .ok (.getfield 147, 3) := by decide +kernel
theorem dtx_4 : decode prog_78_method_17_code 4 = .ok (.ifnonnull 8, 3) := by decide +kernel
theorem dtx_12 : decode prog_78_method_17_code 12 = .ok (.aload_n 0, 1) := by decide +kernel
theorem dtx_13 : decode prog_78_method_17_code 13 = .ok (.getfield 147, 3) := by decide +kernel
theorem dtx_16 : decode prog_78_method_17_code 16 = .ok (.invokevirtual 151, 3) := by decide +kernel
theorem dtx_19 : decode prog_78_method_17_code 19 = .ok (.areturn, 1) := by decide +kernel
theorem pdtx_0 : parseMethodDescriptor "()Ljava/lang/String;" = some ⟨[], some (.object "java/lang/String")⟩ := by decide +kernel
theorem pntx : plainName "com/example/pemmican/pemmican/XmlElement" = true := by first | (simp [plainName, overriddenIn]; done) | decide +kernel
theorem eftx (m : MethodId) (x0 : Addr) : entryFrame m #[(.ref x0)] 1 = mkF m 0 #[.val (.ref x0)] [] := by first | (simp [entryFrame, mkF, argsToLocals, Value.category, maxLocals]; done) | rfl
def Qtx (Z : State) (e_ : Addr) (b : Addr) (t : Addr) (kt : ClassId) (N : Nat) (cs : List Int32) (zc : Int32) (h0 : Heap) (n0 : Nat) (v : Option Value) (h : Heap) (L : List Loc) : Prop := ∃ (x u : Addr) (ku : ClassId), v = some (.ref x) ∧ Fr n0 L ∧ Keep h0 h [] ∧ n0 ≤ x ∧ h0.size ≤ x ∧ Exa Z h x "java/lang/String" ∧ Fld Z h x "java/lang/String" "coder" "B" (.int 0) ∧ Fld Z h x "java/lang/String" "value" "[B" (.ref u) ∧ Arv Z h u ku .byte (Int32.ofNat cs.length) (oLat cs) (.int 0)
theorem rmtx (l : Launch) (Z : State) (a0 : Array Value) (hw : ∀ d ∈ tables_1, d.before a0 Z = true) (ws : List Jvm.Cond) (e_ : Addr) (b : Addr) (t : Addr) (kt : ClassId) (N : Nat) (cs : List Int32) (zc : Int32) (h0 : Heap) (n0 : Nat) (O0 : Old Z n0 h0) (E_e_ : Exa Z h0 e_ "com/example/pemmican/pemmican/XmlElement") (F_e__text : Fld Z h0 e_ "com/example/pemmican/pemmican/XmlElement" "text" "Ljava/lang/StringBuilder;" (.ref b)) (E_b : Exa Z h0 b "java/lang/StringBuilder") (F_b_value : Fld Z h0 b "java/lang/AbstractStringBuilder" "value" "[B" (.ref t)) (F_b_coder : Fld Z h0 b "java/lang/AbstractStringBuilder" "coder" "B" (.int 0)) (F_b_count : Fld Z h0 b "java/lang/AbstractStringBuilder" "count" "I" (.int (Int32.ofNat cs.length))) (V_t : Arv Z h0 t kt .byte (Int32.ofNat N) (oLat cs) (.int 0)) (E_t : Exa Z h0 t "[B") (hN : N ≤ 16) (hcl : cs.length ≤ N) (SC : Sta Z Z.heap "java/lang/String" "COMPACT_STRINGS" "Z" (.int zc)) (hcs : ¬ zc = 0) :
  MetFree l mN28 (head1 (Jvm.Cond.code mN28 prog_78_method_17_code 1 (some (.object "java/lang/String")) :: ws) ({ frames := 6, cells := 2, slots := 20, locals := 95 } : Room)) (fun A_ U_ => A_ = #[(.ref e_)] ∧ Z.Warmed39 U_.vm ∧ U_.heap = h0) (fun _ _ _ _ _ => True) (fun _ U o U' => ∃ v L, o = .returned v ∧ Qtx Z e_ b t kt N cs zc h0 n0 v U'.heap L ∧ FrameEnd U o U' L ({ frames := 6, cells := 2, slots := 20, locals := 95 } : Room).cells ({ frames := 6, cells := 2, slots := 20, locals := 95 } : Room).slots) := by
 refine MetFree.of_bodySF (plainFor_of_name pntx) hisR ?_
 intro p e s m args below meth cd s₁ Bd hml0 hP hK
 obtain ⟨rfl, hZ, hh⟩ := hP
 have hx := Bd.exec
 have hby := Bd.bytes
 have hlk : meth.locks = false := BodyLoose.notSynchronized Bd
 have hml : cd.maxLocals = 1 := hml0
 have hown : s.vm.findClass "com/example/pemmican/pemmican/XmlElement" = some m.cls := findClass_of_methodNamed Bd.named
 have X0 : Stand p l e ({ frames := 6, cells := 2, slots := 20, locals := 95 } : Room) s m #[(.ref e_)] below meth cd s₁ [] 0 0 := Stand.of_body Bd
 have e0 : s₁.heap = h0 := by rw [← hh, Bd.state]; rfl
 have N0 := Fr.nil n0
 have K0 : Keep h0 h0 [] := Keep.refl _ _
 have G : Go p e below s 2 20 (Qtx Z e_ b t kt N cs zc h0 n0) (s₁.setTop (mkF m 0 #[.val (.ref e_)] [])) := by
  refine Go.s (XS.aloadN X0.here hx rfl (hb hby dtx_0) rfl rfl) ?_
  obtain ⟨T1, X1, e1, st1⟩ := getF X0 hx hZ hown (host := "") (Or.inl (own_w hw 56 rfl)) Via.refl e0 F_e__text (g := (mkF m 1 #[.val (.ref e_)] [(.ref e_)])) rfl rfl (hb hby dtx_1)
  refine Go.st st1 ?_
  show Go p e below s _ _ _ (T1.setTop (mkF m 4 #[.val (.ref e_)] [(.ref b)]))
  refine Go.s (XT.ifnonnullYes X1.here hx rfl (pc0 := 4) (pc' := 12) rfl (hb hby dtx_4) rfl (by decide) (by decide)) ?_
  show Go p e below s _ _ _ (T1.setTop (mkF m 12 #[.val (.ref e_)] []))
  refine Go.s (XS.aloadN X1.here hx rfl (hb hby dtx_12) rfl rfl) ?_
  obtain ⟨T2, X2, e2, st2⟩ := getF X1 hx hZ hown (host := "") (Or.inl (own_w hw 56 rfl)) Via.refl e1 F_e__text (g := (mkF m 13 #[.val (.ref e_)] [(.ref e_)])) rfl rfl (hb hby dtx_13)
  refine Go.st st2 ?_
  show Go p e below s _ _ _ (T2.setTop (mkF m 16 #[.val (.ref e_)] [(.ref b)]))
  obtain ⟨cq3, kq3, qa3, qb3, qc3⟩ := isOf hZ e2 E_b
  obtain ⟨_, _, ⟨T3, L3, k3, n3⟩, -, X3, ⟨Lc3, hQ3, l3, y3, z3⟩, st3⟩ := X2.virtualBack hx (y := mN27) (z := mN27) hown (mvT hZ (own_w hw 114 rfl)) (mvT hZ (own_w hw 115 rfl)) (notFace_of_selects (args := #[]) (mvT hZ (own_w hw 117 rfl))) (mvT hZ (own_w hw 117 rfl)) (mvT hZ (own_w hw 116 rfl)) (by decide) (backOf (W := 0) (rmts l Z a0 hw [] b t kt N cs zc h0 n0 O0 E_b F_b_value F_b_coder F_b_count V_t E_t hN hcl SC hcs) hZ (own_w hw 118 rfl) (own_w hw 60 rfl) (by decide) (by decide)) qa3 qc3 (g := (mkF m 16 #[.val (.ref e_)] [(.ref b)])) rfl (by rw [hml]; rfl) (Steps.refl _) (argsL := []) (rest := []) (lenOf pdtx_0 rfl) rfl (by show 2 * 0 + _ ≤ _; exact Nat.le_of_eq rfl) (hb hby dtx_16) (fun _ _ => ⟨rfl, e2, (by decide : 0 + 2 ≤ _), (by decide : 0 + 20 ≤ _)⟩)
  dsimp only [Pt.U, Pt.locs, Pt.cells, Pt.slots] at X3 l3 y3 z3 st3 hQ3
  subst y3 z3
  obtain ⟨x, u, ku, rfl, Nc3, Kc3, gx, szx, NA, NB, NC, ND⟩ := hQ3
  have N3 : Fr n0 L3 := by rw [l3]; exact Fr.app N0 Nc3
  have g_x : n0 ≤ x := gx
  have sz_x : h0.size ≤ x := Nat.le_trans K0.1 szx
  have ne_e__x : e_ ≠ x := Nat.ne_of_lt (Nat.lt_of_lt_of_le E_e_.lt szx)
  have ne_b_x : b ≠ x := Nat.ne_of_lt (Nat.lt_of_lt_of_le E_b.lt szx)
  have ne_t_x : t ≠ x := Nat.ne_of_lt (Nat.lt_of_lt_of_le V_t.lt szx)
  have E_e_ := E_e_.keep Kc3
  have F_e__text := F_e__text.keep Kc3 nin0
  have E_b := E_b.keep Kc3
  have F_b_value := F_b_value.keep Kc3 nin0
  have F_b_coder := F_b_coder.keep Kc3 nin0
  have F_b_count := F_b_count.keep Kc3 nin0
  have V_t := V_t.keep Kc3 nin0
  have E_t := E_t.keep Kc3
  have O3 := O0.keep Kc3 all0
  have K3 := K0.trans Kc3 all0
  have E_x : Exa Z T3.heap x "java/lang/String" := NA
  have F_x_coder : Fld Z T3.heap x "java/lang/String" "coder" "B" (.int 0) := NB
  have F_x_value : Fld Z T3.heap x "java/lang/String" "value" "[B" (.ref u) := NC
  have V_u : Arv Z T3.heap u ku .byte (Int32.ofNat cs.length) (oLat cs) (.int 0) := ND
  refine Go.tr st3 ?_
  show Go p e below s _ _ _ (T3.setTop (mkF m 19 #[.val (.ref e_)] [(.ref x)]))
  exact Go.ret X3 hlk (some (.ref x)) (fun h => by rw [Bd.returns] at h; cases h) (by exact ⟨x, u, ku, rfl, N3, K3, g_x, sz_x, E_x, F_x_coder, F_x_value, V_u⟩) (by decide) (by decide) (fun fs hr => retOut X3 hx Bd.returns rfl (Or.inr (Or.inr (Or.inr (Or.inr ⟨rfl, rfl, rfl⟩)))) (hb hby dtx_19) hr)
 obtain ⟨s2, o2, st2, r2⟩ := G
 exact ⟨s2, o2, castTop (eftx m e_) st2, r2⟩
theorem dsc_0 : decode jdk_42_method_152_code 0 = .ok (.getstatic 38, 3) := by decide +kernel
theorem dsc_3 : decode jdk_42_method_152_code 3 = .ok (.ifCond .eq 10, 3) := by decide +kernel
theorem dsc_6 : decode jdk_42_method_152_code 6 = .ok (.aload_n 0, 1) := by decide +kernel
theorem dsc_7 : decode jdk_42_method_152_code 7 = .ok (.getfield 15, 3) := by decide +kernel
theorem dsc_10 : decode jdk_42_method_152_code 10 = .ok (.goto 4, 3) := by decide +kernel
theorem dsc_14 : decode jdk_42_method_152_code 14 = .ok (.ireturn, 1) := by decide +kernel
theorem pnsc : plainName "java/lang/String" = true := by first | (simp [plainName, overriddenIn]; done) | decide +kernel
theorem efsc (m : MethodId) (x0 : Addr) : entryFrame m #[(.ref x0)] 1 = mkF m 0 #[.val (.ref x0)] [] := by first | (simp [entryFrame, mkF, argsToLocals, Value.category, maxLocals]; done) | rfl
def Qsc (Z : State) (x : Addr) (zc : Int32) (h0 : Heap) (n0 : Nat) (v : Option Value) (h : Heap) (L : List Loc) : Prop := v = some (.int 0) ∧ Fr n0 L ∧ h = h0
theorem rmsc (l : Launch) (Z : State) (a0 : Array Value) (hw : ∀ d ∈ tables_1, d.before a0 Z = true) (ws : List Jvm.Cond) (x : Addr) (zc : Int32) (h0 : Heap) (n0 : Nat) (O0 : Old Z n0 h0) (F_x_coder : Fld Z h0 x "java/lang/String" "coder" "B" (.int 0)) (SC : Sta Z Z.heap "java/lang/String" "COMPACT_STRINGS" "Z" (.int zc)) (hcs : ¬ zc = 0) :
  MetFree l mN29 (head1 (Jvm.Cond.code mN29 jdk_42_method_152_code 1 (some .byte) :: ws) ({ frames := 0, cells := 0, slots := 0, locals := 0 } : Room)) (fun A_ U_ => A_ = #[(.ref x)] ∧ Z.Warmed39 U_.vm ∧ U_.heap = h0) (fun _ _ _ _ _ => True) (fun _ U o U' => ∃ v L, o = .returned v ∧ Qsc Z x zc h0 n0 v U'.heap L ∧ FrameEnd U o U' L ({ frames := 0, cells := 0, slots := 0, locals := 0 } : Room).cells ({ frames := 0, cells := 0, slots := 0, locals := 0 } : Room).slots) := by
 refine MetFree.of_bodySF (plainFor_of_name pnsc) hisR ?_
 intro p e s m args below meth cd s₁ Bd hml0 hP hK
 obtain ⟨rfl, hZ, hh⟩ := hP
 have hx := Bd.exec
 have hby := Bd.bytes
 have hlk : meth.locks = false := BodyLoose.notSynchronized Bd
 have hml : cd.maxLocals = 1 := hml0
 have hown : s.vm.findClass "java/lang/String" = some m.cls := findClass_of_methodNamed Bd.named
 have X0 : Stand p l e ({ frames := 0, cells := 0, slots := 0, locals := 0 } : Room) s m #[(.ref x)] below meth cd s₁ [] 0 0 := Stand.of_body Bd
 have e0 : s₁.heap = h0 := by rw [← hh, Bd.state]; rfl
 have N0 := Fr.nil n0
 have G : Go p e below s 0 0 (Qsc Z x zc h0 n0) (s₁.setTop (mkF m 0 #[.val (.ref x)] [])) := by
  obtain ⟨T1, X1, e1, st1⟩ := getS X0 hx hZ hown (host := "") (own_w hw 171 rfl) Via.refl e0 (SC.ext O0.2) (g := (mkF m 0 #[.val (.ref x)] [])) rfl (hb hby dsc_0)
  refine Go.st st1 ?_
  show Go p e below s _ _ _ (T1.setTop (mkF m 3 #[.val (.ref x)] [(.int zc)]))
  refine Go.s (XS.ifNo X1.here hx rfl (hb hby dsc_3) rfl (XT.i0_eq_f hcs)) ?_
  show Go p e below s _ _ _ (T1.setTop (mkF m 6 #[.val (.ref x)] []))
  refine Go.s (XS.aloadN X1.here hx rfl (hb hby dsc_6) rfl rfl) ?_
  obtain ⟨T2, X2, e2, st2⟩ := getF X1 hx hZ hown (host := "") (Or.inl (own_w hw 142 rfl)) Via.refl e1 F_x_coder (g := (mkF m 7 #[.val (.ref x)] [(.ref x)])) rfl rfl (hb hby dsc_7)
  refine Go.st st2 ?_
  show Go p e below s _ _ _ (T2.setTop (mkF m 10 #[.val (.ref x)] [(.int 0)]))
  refine Go.s (XS.goto X2.here hx rfl (pc0 := 10) (pc' := 14) rfl (hb hby dsc_10) (by decide) (by decide)) ?_
  exact Go.ret X2 hlk (some (.int (nar .byte (0 : Int32)))) (fun h => by rw [Bd.returns] at h; cases h) (by rw [e2]; exact ⟨rfl, N0, rfl⟩) (by decide) (by decide) (fun fs hr => retN X2 hx (t := .byte) Bd.returns (by simp) (hb hby dsc_14) hr)
 obtain ⟨s2, o2, st2, r2⟩ := G
 exact ⟨s2, o2, castTop (efsc m x) st2, r2⟩
theorem dsi_0 : decode jdk_42_method_154_code 0 = .ok (.getstatic 38, 3) := by decide +kernel
theorem dsi_3 : decode jdk_42_method_154_code 3 = .ok (.ifCond .eq 14, 3) := by decide +kernel
theorem dsi_6 : decode jdk_42_method_154_code 6 = .ok (.aload_n 0, 1) := by decide +kernel
theorem dsi_7 : decode jdk_42_method_154_code 7 = .ok (.getfield 15, 3) := by decide +kernel
theorem dsi_10 : decode jdk_42_method_154_code 10 = .ok (.ifCond .ne 7, 3) := by decide +kernel
theorem dsi_13 : decode jdk_42_method_154_code 13 = .ok (.iconst 1, 1) := by decide +kernel
theorem dsi_14 : decode jdk_42_method_154_code 14 = .ok (.goto 4, 3) := by decide +kernel
theorem dsi_18 : decode jdk_42_method_154_code 18 = .ok (.ireturn, 1) := by decide +kernel
theorem pnsi : plainName "java/lang/String" = true := by first | (simp [plainName, overriddenIn]; done) | decide +kernel
theorem efsi (m : MethodId) (x0 : Addr) : entryFrame m #[(.ref x0)] 1 = mkF m 0 #[.val (.ref x0)] [] := by first | (simp [entryFrame, mkF, argsToLocals, Value.category, maxLocals]; done) | rfl
def Qsi (Z : State) (x : Addr) (zc : Int32) (h0 : Heap) (n0 : Nat) (v : Option Value) (h : Heap) (L : List Loc) : Prop := v = some (.int 1) ∧ Fr n0 L ∧ h = h0
theorem rmsi (l : Launch) (Z : State) (a0 : Array Value) (hw : ∀ d ∈ tables_1, d.before a0 Z = true) (ws : List Jvm.Cond) (x : Addr) (zc : Int32) (h0 : Heap) (n0 : Nat) (O0 : Old Z n0 h0) (F_x_coder : Fld Z h0 x "java/lang/String" "coder" "B" (.int 0)) (SC : Sta Z Z.heap "java/lang/String" "COMPACT_STRINGS" "Z" (.int zc)) (hcs : ¬ zc = 0) :
  MetFree l mN30 (head1 (Jvm.Cond.code mN30 jdk_42_method_154_code 1 (some .boolean) :: ws) ({ frames := 0, cells := 0, slots := 0, locals := 0 } : Room)) (fun A_ U_ => A_ = #[(.ref x)] ∧ Z.Warmed39 U_.vm ∧ U_.heap = h0) (fun _ _ _ _ _ => True) (fun _ U o U' => ∃ v L, o = .returned v ∧ Qsi Z x zc h0 n0 v U'.heap L ∧ FrameEnd U o U' L ({ frames := 0, cells := 0, slots := 0, locals := 0 } : Room).cells ({ frames := 0, cells := 0, slots := 0, locals := 0 } : Room).slots) := by
 refine MetFree.of_bodySF (plainFor_of_name pnsi) hisR ?_
 intro p e s m args below meth cd s₁ Bd hml0 hP hK
 obtain ⟨rfl, hZ, hh⟩ := hP
 have hx := Bd.exec
 have hby := Bd.bytes
 have hlk : meth.locks = false := BodyLoose.notSynchronized Bd
 have hml : cd.maxLocals = 1 := hml0
 have hown : s.vm.findClass "java/lang/String" = some m.cls := findClass_of_methodNamed Bd.named
 have X0 : Stand p l e ({ frames := 0, cells := 0, slots := 0, locals := 0 } : Room) s m #[(.ref x)] below meth cd s₁ [] 0 0 := Stand.of_body Bd
 have e0 : s₁.heap = h0 := by rw [← hh, Bd.state]; rfl
 have N0 := Fr.nil n0
 have G : Go p e below s 0 0 (Qsi Z x zc h0 n0) (s₁.setTop (mkF m 0 #[.val (.ref x)] [])) := by
  obtain ⟨T1, X1, e1, st1⟩ := getS X0 hx hZ hown (host := "") (own_w hw 171 rfl) Via.refl e0 (SC.ext O0.2) (g := (mkF m 0 #[.val (.ref x)] [])) rfl (hb hby dsi_0)
  refine Go.st st1 ?_
  show Go p e below s _ _ _ (T1.setTop (mkF m 3 #[.val (.ref x)] [(.int zc)]))
  refine Go.s (XS.ifNo X1.here hx rfl (hb hby dsi_3) rfl (XT.i0_eq_f hcs)) ?_
  show Go p e below s _ _ _ (T1.setTop (mkF m 6 #[.val (.ref x)] []))
  refine Go.s (XS.aloadN X1.here hx rfl (hb hby dsi_6) rfl rfl) ?_
  obtain ⟨T2, X2, e2, st2⟩ := getF X1 hx hZ hown (host := "") (Or.inl (own_w hw 142 rfl)) Via.refl e1 F_x_coder (g := (mkF m 7 #[.val (.ref x)] [(.ref x)])) rfl rfl (hb hby dsi_7)
  refine Go.st st2 ?_
  show Go p e below s _ _ _ (T2.setTop (mkF m 10 #[.val (.ref x)] [(.int 0)]))
  refine Go.s (XS.ifNo X2.here hx rfl (hb hby dsi_10) rfl (by decide)) ?_
  show Go p e below s _ _ _ (T2.setTop (mkF m 13 #[.val (.ref x)] []))
  refine Go.s (XS.iconst X2.here hx rfl (hb hby dsi_13)) ?_
  refine Go.s (XS.goto X2.here hx rfl (pc0 := 14) (pc' := 18) rfl (hb hby dsi_14) (by decide) (by decide)) ?_
  exact Go.ret X2 hlk (some (.int (nar .boolean (1 : Int32)))) (fun h => by rw [Bd.returns] at h; cases h) (by rw [e2]; exact ⟨rfl, N0, rfl⟩) (by decide) (by decide) (fun fs hr => retN X2 hx (t := .boolean) Bd.returns (by simp) (hb hby dsi_18) hr)
 obtain ⟨s2, o2, st2, r2⟩ := G
 exact ⟨s2, o2, castTop (efsi m x) st2, r2⟩
theorem dsl_0 : decode jdk_42_method_54_code 0 = .ok (.aload_n 0, 1) := by decide +kernel
theorem dsl_1 : decode jdk_42_method_54_code 1 = .ok (.getfield 9, 3) := by decide +kernel
theorem dsl_4 : decode jdk_42_method_54_code 4 = .ok (.arraylength, 1) := by decide +kernel
theorem dsl_5 : decode jdk_42_method_54_code 5 = .ok (.aload_n 0, 1) := by decide +kernel
theorem dsl_6 : decode jdk_42_method_54_code 6 = .ok (.invokevirtual 335, 3) := by decide +kernel
theorem dsl_9 : decode jdk_42_method_54_code 9 = .ok (.ishr, 1) := by decide +kernel
theorem dsl_10 : decode jdk_42_method_54_code 10 = .ok (.ireturn, 1) := by decide +kernel
theorem pdsl_0 : parseMethodDescriptor "()B" = some ⟨[], some .byte⟩ := by decide +kernel
theorem pnsl : plainName "java/lang/String" = true := by first | (simp [plainName, overriddenIn]; done) | decide +kernel
theorem efsl (m : MethodId) (x0 : Addr) : entryFrame m #[(.ref x0)] 1 = mkF m 0 #[.val (.ref x0)] [] := by first | (simp [entryFrame, mkF, argsToLocals, Value.category, maxLocals]; done) | rfl
def Qsl (Z : State) (x : Addr) (t : Addr) (kt : ClassId) (cs : List Int32) (zc : Int32) (h0 : Heap) (n0 : Nat) (v : Option Value) (h : Heap) (L : List Loc) : Prop := v = some (.int (Int32.ofNat cs.length)) ∧ Fr n0 L ∧ h = h0
theorem rmsl (l : Launch) (Z : State) (a0 : Array Value) (hw : ∀ d ∈ tables_1, d.before a0 Z = true) (ws : List Jvm.Cond) (x : Addr) (t : Addr) (kt : ClassId) (cs : List Int32) (zc : Int32) (h0 : Heap) (n0 : Nat) (O0 : Old Z n0 h0) (E_x : Exa Z h0 x "java/lang/String") (F_x_coder : Fld Z h0 x "java/lang/String" "coder" "B" (.int 0)) (F_x_value : Fld Z h0 x "java/lang/String" "value" "[B" (.ref t)) (V_t : Arv Z h0 t kt .byte (Int32.ofNat cs.length) (oLat cs) (.int 0)) (SC : Sta Z Z.heap "java/lang/String" "COMPACT_STRINGS" "Z" (.int zc)) (hcs : ¬ zc = 0) :
  MetFree l mN31 (head1 (Jvm.Cond.code mN31 jdk_42_method_54_code 1 (some .int) :: ws) ({ frames := 1, cells := 0, slots := 0, locals := 13 } : Room)) (fun A_ U_ => A_ = #[(.ref x)] ∧ Z.Warmed39 U_.vm ∧ U_.heap = h0) (fun _ _ _ _ _ => True) (fun _ U o U' => ∃ v L, o = .returned v ∧ Qsl Z x t kt cs zc h0 n0 v U'.heap L ∧ FrameEnd U o U' L ({ frames := 1, cells := 0, slots := 0, locals := 13 } : Room).cells ({ frames := 1, cells := 0, slots := 0, locals := 13 } : Room).slots) := by
 refine MetFree.of_bodySF (plainFor_of_name pnsl) hisR ?_
 intro p e s m args below meth cd s₁ Bd hml0 hP hK
 obtain ⟨rfl, hZ, hh⟩ := hP
 have hx := Bd.exec
 have hby := Bd.bytes
 have hlk : meth.locks = false := BodyLoose.notSynchronized Bd
 have hml : cd.maxLocals = 1 := hml0
 have hown : s.vm.findClass "java/lang/String" = some m.cls := findClass_of_methodNamed Bd.named
 have X0 : Stand p l e ({ frames := 1, cells := 0, slots := 0, locals := 13 } : Room) s m #[(.ref x)] below meth cd s₁ [] 0 0 := Stand.of_body Bd
 have e0 : s₁.heap = h0 := by rw [← hh, Bd.state]; rfl
 have N0 := Fr.nil n0
 have G : Go p e below s 0 0 (Qsl Z x t kt cs zc h0 n0) (s₁.setTop (mkF m 0 #[.val (.ref x)] [])) := by
  refine Go.s (XS.aloadN X0.here hx rfl (hb hby dsl_0) rfl rfl) ?_
  obtain ⟨T1, X1, e1, st1⟩ := getF X0 hx hZ hown (host := "") (Or.inl (own_w hw 156 rfl)) Via.refl e0 F_x_value (g := (mkF m 1 #[.val (.ref x)] [(.ref x)])) rfl rfl (hb hby dsl_1)
  refine Go.st st1 ?_
  show Go p e below s _ _ _ (T1.setTop (mkF m 4 #[.val (.ref x)] [(.ref t)]))
  refine Go.s (own_len X1 hx hZ e1 V_t (g := (mkF m 4 #[.val (.ref x)] [(.ref t)])) rfl rfl (hb hby dsl_4) _) ?_
  show Go p e below s _ _ _ (T1.setTop (mkF m 5 #[.val (.ref x)] [(.int (Int32.ofNat cs.length))]))
  refine Go.s (XS.aloadN X1.here hx rfl (hb hby dsl_5) rfl rfl) ?_
  obtain ⟨cq2, kq2, qa2, qb2, qc2⟩ := isOf hZ e1 E_x
  obtain ⟨_, _, ⟨T2, L2, k2, n2⟩, -, X2, ⟨Lc2, hQ2, l2, y2, z2⟩, st2⟩ := X1.virtualBack hx (y := mN29) (z := mN29) hown (mvT hZ (own_w hw 166 rfl)) (mvT hZ (own_w hw 167 rfl)) (notFace_of_selects (args := #[]) (mvT hZ (own_w hw 169 rfl))) (mvT hZ (own_w hw 169 rfl)) (mvT hZ (own_w hw 168 rfl)) (by decide) (backOf (W := 1) (rmsc l Z a0 hw [] x zc h0 n0 O0 F_x_coder SC hcs) hZ (own_w hw 170 rfl) (own_w hw 6 rfl) (by decide) (by decide)) qa2 qc2 (g := (mkF m 6 #[.val (.ref x)] [(.ref x), (.int (Int32.ofNat cs.length))])) rfl (by rw [hml]; rfl) (Steps.refl _) (argsL := []) (rest := [(.int (Int32.ofNat cs.length))]) (lenOf pdsl_0 rfl) rfl (by show 2 * 0 + _ ≤ _; exact Nat.le_of_eq rfl) (hb hby dsl_6) (fun _ _ => ⟨rfl, e1, (by decide : 0 + 0 ≤ _), (by decide : 0 + 0 ≤ _)⟩)
  dsimp only [Pt.U, Pt.locs, Pt.cells, Pt.slots] at X2 l2 y2 z2 st2 hQ2
  subst y2 z2
  obtain ⟨rfl, Nc2, e2⟩ := hQ2
  have N2 : Fr n0 L2 := by rw [l2]; exact Fr.app N0 Nc2
  refine Go.tr st2 ?_
  show Go p e below s _ _ _ (T2.setTop (mkF m 9 #[.val (.ref x)] [(.int 0), (.int (Int32.ofNat cs.length))]))
  refine Go.s (XT.ishr X2.here hx rfl (hb hby dsl_9) rfl) ?_
  show Go p e below s _ _ _ (T2.setTop (mkF m 10 #[.val (.ref x)] [(.int ((Int32.ofNat cs.length) >>> ((0 : Int32) &&& 31)))]))
  rw [own_shr0]
  show Go p e below s _ _ _ (T2.setTop (mkF m 10 #[.val (.ref x)] [(.int (Int32.ofNat cs.length))]))
  exact Go.ret X2 hlk (some (.int (Int32.ofNat cs.length))) (fun h => by rw [Bd.returns] at h; cases h) (by rw [e2]; exact ⟨rfl, N2, rfl⟩) (by decide) (by decide) (fun fs hr => retI X2 hx Bd.returns (hb hby dsl_10) hr)
 obtain ⟨s2, o2, st2, r2⟩ := G
 exact ⟨s2, o2, castTop (efsl m x) st2, r2⟩
theorem dpk_0 : decode jdk_41_method_11_code 0 = .ok (.iload_n 0, 1) := by decide +kernel
theorem dpk_1 : decode jdk_41_method_11_code 1 = .ok (.ifCond .lt 8, 3) := by decide +kernel
theorem dpk_4 : decode jdk_41_method_11_code 4 = .ok (.iload_n 0, 1) := by decide +kernel
theorem dpk_5 : decode jdk_41_method_11_code 5 = .ok (.iload_n 1, 1) := by decide +kernel
theorem dpk_6 : decode jdk_41_method_11_code 6 = .ok (.if_icmp .lt 10, 3) := by decide +kernel
theorem dpk_16 : decode jdk_41_method_11_code 16 = .ok (.iload_n 0, 1) := by decide +kernel
theorem dpk_17 : decode jdk_41_method_11_code 17 = .ok (.ireturn, 1) := by decide +kernel
theorem pnpk : plainName "jdk/internal/util/Preconditions" = true := by first | (simp [plainName, overriddenIn]; done) | decide +kernel
theorem efpk (m : MethodId) (x0 : Int32) (x1 : Int32) (x2 : Value) (hr0 : Value.isRef x2 = true) : entryFrame m #[(.int x0), (.int x1), x2] 3 = mkF m 0 #[.val (.int x0), .val (.int x1), .val x2] [] := by rcases ref_cases hr0 with rfl | ⟨_, rfl⟩ <;> (first | (simp [entryFrame, mkF, argsToLocals, Value.category, maxLocals]; done) | rfl)
def Qpk (Z : State) (j : Int32) (m_ : Int32) (fm : Value) (h0 : Heap) (n0 : Nat) (v : Option Value) (h : Heap) (L : List Loc) : Prop := v = some (.int j) ∧ Fr n0 L ∧ h = h0
theorem rmpk (l : Launch) (Z : State) (a0 : Array Value) (hw : ∀ d ∈ tables_1, d.before a0 Z = true) (ws : List Jvm.Cond) (j : Int32) (m_ : Int32) (fm : Value) (h0 : Heap) (n0 : Nat) (O0 : Old Z n0 h0) (hj0 : ¬ j < 0) (hj1 : j < m_) (rf : fm.isRef = true) :
  MetFree l mN32 (head1 (Jvm.Cond.code mN32 jdk_41_method_11_code 3 (some .int) :: ws) ({ frames := 0, cells := 0, slots := 0, locals := 0 } : Room)) (fun A_ U_ => A_ = #[(.int j), (.int m_), fm] ∧ Z.Warmed39 U_.vm ∧ U_.heap = h0) (fun _ _ _ _ _ => True) (fun _ U o U' => ∃ v L, o = .returned v ∧ Qpk Z j m_ fm h0 n0 v U'.heap L ∧ FrameEnd U o U' L ({ frames := 0, cells := 0, slots := 0, locals := 0 } : Room).cells ({ frames := 0, cells := 0, slots := 0, locals := 0 } : Room).slots) := by
 refine MetFree.of_bodySF (plainFor_of_name pnpk) hisR ?_
 intro p e s m args below meth cd s₁ Bd hml0 hP hK
 obtain ⟨rfl, hZ, hh⟩ := hP
 have hx := Bd.exec
 have hby := Bd.bytes
 have hlk : meth.locks = false := BodyLoose.notSynchronized Bd
 have hml : cd.maxLocals = 3 := hml0
 have hown : s.vm.findClass "jdk/internal/util/Preconditions" = some m.cls := findClass_of_methodNamed Bd.named
 have X0 : Stand p l e ({ frames := 0, cells := 0, slots := 0, locals := 0 } : Room) s m #[(.int j), (.int m_), fm] below meth cd s₁ [] 0 0 := Stand.of_body Bd
 have e0 : s₁.heap = h0 := by rw [← hh, Bd.state]; rfl
 have N0 := Fr.nil n0
 have G : Go p e below s 0 0 (Qpk Z j m_ fm h0 n0) (s₁.setTop (mkF m 0 #[.val (.int j), .val (.int m_), .val fm] [])) := by
  refine Go.s (XS.iloadN X0.here hx rfl (hb hby dpk_0) rfl) ?_
  refine Go.s (XS.ifNo X0.here hx rfl (hb hby dpk_1) rfl (XT.i0_lt_f hj0)) ?_
  show Go p e below s _ _ _ (s₁.setTop (mkF m 4 #[.val (.int j), .val (.int m_), .val fm] []))
  refine Go.s (XS.iloadN X0.here hx rfl (hb hby dpk_4) rfl) ?_
  refine Go.s (XS.iloadN X0.here hx rfl (hb hby dpk_5) rfl) ?_
  refine Go.s (XS.icmpYes X0.here hx rfl (pc0 := 6) (pc' := 16) rfl (hb hby dpk_6) rfl (XT.ii_lt_t hj1) (by decide) (by decide)) ?_
  show Go p e below s _ _ _ (s₁.setTop (mkF m 16 #[.val (.int j), .val (.int m_), .val fm] []))
  refine Go.s (XS.iloadN X0.here hx rfl (hb hby dpk_16) rfl) ?_
  exact Go.ret X0 hlk (some (.int j)) (fun h => by rw [Bd.returns] at h; cases h) (by rw [e0]; exact ⟨rfl, N0, rfl⟩) (by decide) (by decide) (fun fs hr => retI X0 hx Bd.returns (hb hby dpk_17) hr)
 obtain ⟨s2, o2, st2, r2⟩ := G
 exact ⟨s2, o2, castTop (efpk m j m_ fm rf) st2, r2⟩
theorem dsk_0 : decode jdk_42_method_155_code 0 = .ok (.iload_n 0, 1) := by decide +kernel
theorem dsk_1 : decode jdk_42_method_155_code 1 = .ok (.iload_n 1, 1) := by decide +kernel
theorem dsk_2 : decode jdk_42_method_155_code 2 = .ok (.getstatic 1053, 3) := by decide +kernel
theorem dsk_5 : decode jdk_42_method_155_code 5 = .ok (.invokestatic 1059, 3) := by decide +kernel
theorem dsk_8 : decode jdk_42_method_155_code 8 = .ok (.pop, 1) := by decide +kernel
theorem dsk_9 : decode jdk_42_method_155_code 9 = .ok (.return_, 1) := by decide +kernel
theorem pdsk_0 : parseMethodDescriptor "(IILjava/util/function/BiFunction;)I" = some ⟨[.int, .int, (.object "java/util/function/BiFunction")], some .int⟩ := by decide +kernel
theorem pnsk : plainName "java/lang/String" = true := by first | (simp [plainName, overriddenIn]; done) | decide +kernel
theorem efsk (m : MethodId) (x0 : Int32) (x1 : Int32) : entryFrame m #[(.int x0), (.int x1)] 2 = mkF m 0 #[.val (.int x0), .val (.int x1)] [] := by first | (simp [entryFrame, mkF, argsToLocals, Value.category, maxLocals]; done) | rfl
def Qsk (Z : State) (j : Int32) (m_ : Int32) (fm : Value) (h0 : Heap) (n0 : Nat) (v : Option Value) (h : Heap) (L : List Loc) : Prop := v = none ∧ Fr n0 L ∧ h = h0
theorem rmsk (l : Launch) (Z : State) (a0 : Array Value) (hw : ∀ d ∈ tables_1, d.before a0 Z = true) (ws : List Jvm.Cond) (j : Int32) (m_ : Int32) (fm : Value) (h0 : Heap) (n0 : Nat) (O0 : Old Z n0 h0) (hj0 : ¬ j < 0) (hj1 : j < m_) (SF : Sta Z Z.heap "jdk/internal/util/Preconditions" "SIOOBE_FORMATTER" "Ljava/util/function/BiFunction;" fm) (rf : fm.isRef = true) :
  MetFree l mN33 (head1 (Jvm.Cond.code mN33 jdk_42_method_155_code 2 none :: ws) ({ frames := 1, cells := 0, slots := 0, locals := 14 } : Room)) (fun A_ U_ => A_ = #[(.int j), (.int m_)] ∧ Z.Warmed39 U_.vm ∧ U_.heap = h0) (fun _ _ _ _ _ => True) (fun _ U o U' => ∃ v L, o = .returned v ∧ Qsk Z j m_ fm h0 n0 v U'.heap L ∧ FrameEnd U o U' L ({ frames := 1, cells := 0, slots := 0, locals := 14 } : Room).cells ({ frames := 1, cells := 0, slots := 0, locals := 14 } : Room).slots) := by
 refine MetFree.of_bodySF (plainFor_of_name pnsk) hisR ?_
 intro p e s m args below meth cd s₁ Bd hml0 hP hK
 obtain ⟨rfl, hZ, hh⟩ := hP
 have hx := Bd.exec
 have hby := Bd.bytes
 have hlk : meth.locks = false := BodyLoose.notSynchronized Bd
 have hml : cd.maxLocals = 2 := hml0
 have hown : s.vm.findClass "java/lang/String" = some m.cls := findClass_of_methodNamed Bd.named
 have X0 : Stand p l e ({ frames := 1, cells := 0, slots := 0, locals := 14 } : Room) s m #[(.int j), (.int m_)] below meth cd s₁ [] 0 0 := Stand.of_body Bd
 have e0 : s₁.heap = h0 := by rw [← hh, Bd.state]; rfl
 have N0 := Fr.nil n0
 have G : Go p e below s 0 0 (Qsk Z j m_ fm h0 n0) (s₁.setTop (mkF m 0 #[.val (.int j), .val (.int m_)] [])) := by
  refine Go.s (XS.iloadN X0.here hx rfl (hb hby dsk_0) rfl) ?_
  refine Go.s (XS.iloadN X0.here hx rfl (hb hby dsk_1) rfl) ?_
  obtain ⟨T1, X1, e1, st1⟩ := getS X0 hx hZ hown (host := "") (own_w hw 235 rfl) Via.refl e0 (SF.ext O0.2) (g := (mkF m 2 #[.val (.int j), .val (.int m_)] [(.int m_), (.int j)])) rfl (hb hby dsk_2)
  refine Go.st st1 ?_
  show Go p e below s _ _ _ (T1.setTop (mkF m 5 #[.val (.int j), .val (.int m_)] [fm, (.int m_), (.int j)]))
  obtain ⟨_, _, ⟨T2, L2, k2, n2⟩, -, X2, ⟨Lc2, hQ2, l2, y2, z2⟩, st2⟩ := Jvm.LawKit.callS X1 hx (y := mN32) hown (mvT hZ (own_w hw 236 rfl)) (mvT hZ (own_w hw 237 rfl)) (mvT hZ (own_w hw 87 rfl)) (mvT hZ (own_w hw 238 rfl)) (by decide) (backOf (W := 0) (rmpk l Z a0 hw [] j m_ fm h0 n0 O0 hj0 hj1 rf) hZ (own_w hw 238 rfl) (own_w hw 87 rfl) (by decide) (by decide)) (g := (mkF m 5 #[.val (.int j), .val (.int m_)] [fm, (.int m_), (.int j)])) rfl (by rw [hml]; rfl) (argsL := [(.int j), (.int m_), fm]) (rest := []) (lenOf pdsk_0 rfl) rfl (by show 2 * 0 + _ ≤ _; exact Nat.le_of_eq rfl) (hb hby dsk_5) (fun _ _ => ⟨rfl, e1, (by decide : 0 + 0 ≤ _), (by decide : 0 + 0 ≤ _)⟩)
  dsimp only [Pt.U, Pt.locs, Pt.cells, Pt.slots] at X2 l2 y2 z2 st2 hQ2
  subst y2 z2
  obtain ⟨rfl, Nc2, e2⟩ := hQ2
  have N2 : Fr n0 L2 := by rw [l2]; exact Fr.app N0 Nc2
  refine Go.st st2 ?_
  show Go p e below s _ _ _ (T2.setTop (mkF m 8 #[.val (.int j), .val (.int m_)] [(.int j)]))
  refine Go.s (XT.pop X2.here hx rfl (hb hby dsk_8) rfl rfl) ?_
  show Go p e below s _ _ _ (T2.setTop (mkF m 9 #[.val (.int j), .val (.int m_)] []))
  exact Go.ret X2 hlk (none) (fun _ => rfl) (by rw [e2]; exact ⟨rfl, N2, rfl⟩) (by decide) (by decide) (fun fs hr => X2.returnOut hx Bd.returns (hb hby dsk_9) hr)
 obtain ⟨s2, o2, st2, r2⟩ := G
 exact ⟨s2, o2, castTop (efsk m j m_) st2, r2⟩
theorem own_latG {cs : List Int32} {i : Nat} (h : i < cs.length) : (oLat cs).getD i (.int 0) = .int (oLo (cs.getD i 0)) := by
  unfold oLat
  rw [List.getD_eq_getElem?_getD, List.getElem?_map, List.getElem?_eq_getElem h, List.getD_eq_getElem?_getD, List.getElem?_eq_getElem h]
  rfl
theorem own_n8D : ∀ n < 256, nar .char (Int32.ofNat n) = Int32.ofNat n := by decide +kernel
theorem own_n8 {c : Int32} (h : ¬ c < 0 ∧ ¬ (255 : Int32) < c) : nar .char c = c := by
  have e := own_nat h.1
  have hslB : c.toNatClampNeg < 256 := by
    have q := h.2
    rw [e, show (255 : Int32) = Int32.ofNat 255 from rfl, own_nlt (by decide) (by have := c.toInt_lt; simp only [Int32.toNatClampNeg]; omega)] at q
    omega
  rw [e]
  exact own_n8D _ hslB
theorem dlc_0 : decode jdk_43_method_2_code 0 = .ok (.iload_n 1, 1) := by decide +kernel
theorem dlc_1 : decode jdk_43_method_2_code 1 = .ok (.aload_n 0, 1) := by decide +kernel
theorem dlc_2 : decode jdk_43_method_2_code 2 = .ok (.arraylength, 1) := by decide +kernel
theorem dlc_3 : decode jdk_43_method_2_code 3 = .ok (.invokestatic 9, 3) := by decide +kernel
theorem dlc_6 : decode jdk_43_method_2_code 6 = .ok (.aload_n 0, 1) := by decide +kernel
theorem dlc_7 : decode jdk_43_method_2_code 7 = .ok (.iload_n 1, 1) := by decide +kernel
theorem dlc_8 : decode jdk_43_method_2_code 8 = .ok (.baload, 1) := by decide +kernel
theorem dlc_9 : decode jdk_43_method_2_code 9 = .ok (.sipush 255, 3) := by decide +kernel
theorem dlc_12 : decode jdk_43_method_2_code 12 = .ok (.iand, 1) := by decide +kernel
theorem dlc_13 : decode jdk_43_method_2_code 13 = .ok (.i2c, 1) := by decide +kernel
theorem dlc_14 : decode jdk_43_method_2_code 14 = .ok (.ireturn, 1) := by decide +kernel
theorem pnlc : plainName "java/lang/StringLatin1" = true := by first | (simp [plainName, overriddenIn]; done) | decide +kernel
theorem eflc (m : MethodId) (x0 : Addr) (x1 : Int32) : entryFrame m #[(.ref x0), (.int x1)] 2 = mkF m 0 #[.val (.ref x0), .val (.int x1)] [] := by first | (simp [entryFrame, mkF, argsToLocals, Value.category, maxLocals]; done) | rfl
def Qlc (Z : State) (t : Addr) (kt : ClassId) (cs : List Int32) (i_ : Nat) (fm : Value) (h0 : Heap) (n0 : Nat) (v : Option Value) (h : Heap) (L : List Loc) : Prop := v = some (.int (cs.getD i_ 0)) ∧ Fr n0 L ∧ h = h0
theorem rmlc (l : Launch) (Z : State) (a0 : Array Value) (hw : ∀ d ∈ tables_1, d.before a0 Z = true) (ws : List Jvm.Cond) (t : Addr) (kt : ClassId) (cs : List Int32) (i_ : Nat) (fm : Value) (h0 : Heap) (n0 : Nat) (O0 : Old Z n0 h0) (V_t : Arv Z h0 t kt .byte (Int32.ofNat cs.length) (oLat cs) (.int 0)) (hbc : ∀ c ∈ cs, ¬ c < 0 ∧ ¬ (255 : Int32) < c) (hi : i_ < cs.length) (hl8 : cs.length ≤ 8) (SF : Sta Z Z.heap "jdk/internal/util/Preconditions" "SIOOBE_FORMATTER" "Ljava/util/function/BiFunction;" fm) (rf : fm.isRef = true) :
  MetFree l mN34 (head1 (Jvm.Cond.code mN34 jdk_43_method_2_code 2 (some .char) :: ws) ({ frames := 2, cells := 0, slots := 0, locals := 27 } : Room)) (fun A_ U_ => A_ = #[(.ref t), (.int (Int32.ofNat i_))] ∧ Z.Warmed39 U_.vm ∧ U_.heap = h0) (fun _ _ _ _ _ => True) (fun _ U o U' => ∃ v L, o = .returned v ∧ Qlc Z t kt cs i_ fm h0 n0 v U'.heap L ∧ FrameEnd U o U' L ({ frames := 2, cells := 0, slots := 0, locals := 27 } : Room).cells ({ frames := 2, cells := 0, slots := 0, locals := 27 } : Room).slots) := by
 refine MetFree.of_bodySF (plainFor_of_name pnlc) hisR ?_
 intro p e s m args below meth cd s₁ Bd hml0 hP hK
 obtain ⟨rfl, hZ, hh⟩ := hP
 have hx := Bd.exec
 have hby := Bd.bytes
 have hlk : meth.locks = false := BodyLoose.notSynchronized Bd
 have hml : cd.maxLocals = 2 := hml0
 have hown : s.vm.findClass "java/lang/StringLatin1" = some m.cls := findClass_of_methodNamed Bd.named
 have X0 : Stand p l e ({ frames := 2, cells := 0, slots := 0, locals := 27 } : Room) s m #[(.ref t), (.int (Int32.ofNat i_))] below meth cd s₁ [] 0 0 := Stand.of_body Bd
 have e0 : s₁.heap = h0 := by rw [← hh, Bd.state]; rfl
 have N0 := Fr.nil n0
 have G : Go p e below s 0 0 (Qlc Z t kt cs i_ fm h0 n0) (s₁.setTop (mkF m 0 #[.val (.ref t), .val (.int (Int32.ofNat i_))] [])) := by
  refine Go.s (XS.iloadN X0.here hx rfl (hb hby dlc_0) rfl) ?_
  refine Go.s (XS.aloadN X0.here hx rfl (hb hby dlc_1) rfl rfl) ?_
  refine Go.s (own_len X0 hx hZ e0 V_t (g := (mkF m 2 #[.val (.ref t), .val (.int (Int32.ofNat i_))] [(.ref t), (.int (Int32.ofNat i_))])) rfl rfl (hb hby dlc_2) _) ?_
  show Go p e below s _ _ _ (s₁.setTop (mkF m 3 #[.val (.ref t), .val (.int (Int32.ofNat i_))] [(.int (Int32.ofNat cs.length)), (.int (Int32.ofNat i_))]))
  obtain ⟨_, _, ⟨T1, L1, k1, n1⟩, -, X1, ⟨Lc1, hQ1, l1, y1, z1⟩, st1⟩ := Jvm.LawKit.callS X0 hx (y := mN33) hown (mvT hZ (own_w hw 232 rfl)) (mvT hZ (own_w hw 233 rfl)) (mvT hZ (own_w hw 6 rfl)) (mvT hZ (own_w hw 234 rfl)) (by decide) (backOf (W := 0) (rmsk l Z a0 hw [] (Int32.ofNat i_) (Int32.ofNat cs.length) fm h0 n0 O0 (own_nn (by omega)) (by rw [own_nlt (by omega) (by omega)]; omega) SF rf) hZ (own_w hw 234 rfl) (own_w hw 6 rfl) (by decide) (by decide)) (g := (mkF m 3 #[.val (.ref t), .val (.int (Int32.ofNat i_))] [(.int (Int32.ofNat cs.length)), (.int (Int32.ofNat i_))])) rfl (by rw [hml]; rfl) (argsL := [(.int (Int32.ofNat i_)), (.int (Int32.ofNat cs.length))]) (rest := []) (lenOf pdcb_0 rfl) rfl (by show 2 * 0 + _ ≤ _; exact Nat.le_of_eq rfl) (hb hby dlc_3) (fun _ _ => ⟨rfl, e0, (by decide : 0 + 0 ≤ _), (by decide : 0 + 0 ≤ _)⟩)
  dsimp only [Pt.U, Pt.locs, Pt.cells, Pt.slots] at X1 l1 y1 z1 st1 hQ1
  subst y1 z1
  obtain ⟨rfl, Nc1, e1⟩ := hQ1
  have N1 : Fr n0 L1 := by rw [l1]; exact Fr.app N0 Nc1
  refine Go.st st1 ?_
  show Go p e below s _ _ _ (T1.setTop (mkF m 6 #[.val (.ref t), .val (.int (Int32.ofNat i_))] []))
  refine Go.s (XS.aloadN X1.here hx rfl (hb hby dlc_6) rfl rfl) ?_
  refine Go.s (XS.iloadN X1.here hx rfl (hb hby dlc_7) rfl) ?_
  refine Go.s (own_baloadB X1 hx hZ e1 V_t (own_nn (by omega)) (by rw [own_nlt (by omega) (by omega)]; omega) (v := .int (oLo (cs.getD i_ 0))) (by rw [own_tn (by omega)]; exact own_latG hi) (g := (mkF m 8 #[.val (.ref t), .val (.int (Int32.ofNat i_))] [(.int (Int32.ofNat i_)), (.ref t)])) rfl rfl (hb hby dlc_8) _) ?_
  show Go p e below s _ _ _ (T1.setTop (mkF m 9 #[.val (.ref t), .val (.int (Int32.ofNat i_))] [(.int (oLo (cs.getD i_ 0)))]))
  refine Go.s (XS.sipush X1.here hx rfl (hb hby dlc_9)) ?_
  refine Go.s (XS.iand X1.here hx rfl (hb hby dlc_12) rfl) ?_
  show Go p e below s _ _ _ (T1.setTop (mkF m 13 #[.val (.ref t), .val (.int (Int32.ofNat i_))] [(.int ((oLo (cs.getD i_ 0)) &&& (255 : Int32)))]))
  refine Go.s (XT.i2c X1.here hx rfl (hb hby dlc_13) rfl) ?_
  show Go p e below s _ _ _ (T1.setTop (mkF m 14 #[.val (.ref t), .val (.int (Int32.ofNat i_))] [(.int (((oLo (cs.getD i_ 0)) &&& (255 : Int32)).toUInt32.toUInt16.toUInt32.toInt32))]))
  exact Go.ret X1 hlk (some (.int (nar .char (((oLo (cs.getD i_ 0)) &&& (255 : Int32)).toUInt32.toUInt16.toUInt32.toInt32)))) (fun h => by rw [Bd.returns] at h; cases h) (by rw [e1]; exact ⟨congrArg some (congrArg Value.int (own_chv (own_getP hbc hi))), N1, rfl⟩) (by decide) (by decide) (fun fs hr => retN X1 hx (t := .char) Bd.returns (by simp) (hb hby dlc_14) hr)
 obtain ⟨s2, o2, st2, r2⟩ := G
 exact ⟨s2, o2, castTop (eflc m t (Int32.ofNat i_)) st2, r2⟩
theorem dca_0 : decode jdk_42_method_56_code 0 = .ok (.aload_n 0, 1) := by decide +kernel
theorem dca_1 : decode jdk_42_method_56_code 1 = .ok (.invokevirtual 492, 3) := by decide +kernel
theorem dca_4 : decode jdk_42_method_56_code 4 = .ok (.ifCond .eq 12, 3) := by decide +kernel
theorem dca_7 : decode jdk_42_method_56_code 7 = .ok (.aload_n 0, 1) := by decide +kernel
theorem dca_8 : decode jdk_42_method_56_code 8 = .ok (.getfield 9, 3) := by decide +kernel
theorem dca_11 : decode jdk_42_method_56_code 11 = .ok (.iload_n 1, 1) := by decide +kernel
theorem dca_12 : decode jdk_42_method_56_code 12 = .ok (.invokestatic 495, 3) := by decide +kernel
theorem dca_15 : decode jdk_42_method_56_code 15 = .ok (.ireturn, 1) := by decide +kernel
theorem pdca_0 : parseMethodDescriptor "([BI)C" = some ⟨[(.array .byte), .int], some .char⟩ := by decide +kernel
theorem pnca : plainName "java/lang/String" = true := by first | (simp [plainName, overriddenIn]; done) | decide +kernel
theorem efca (m : MethodId) (x0 : Addr) (x1 : Int32) : entryFrame m #[(.ref x0), (.int x1)] 2 = mkF m 0 #[.val (.ref x0), .val (.int x1)] [] := by first | (simp [entryFrame, mkF, argsToLocals, Value.category, maxLocals]; done) | rfl
def Qca (Z : State) (x : Addr) (t : Addr) (kt : ClassId) (cs : List Int32) (i_ : Nat) (fm : Value) (zc : Int32) (h0 : Heap) (n0 : Nat) (v : Option Value) (h : Heap) (L : List Loc) : Prop := v = some (.int (cs.getD i_ 0)) ∧ Fr n0 L ∧ h = h0
theorem rmca (l : Launch) (Z : State) (a0 : Array Value) (hw : ∀ d ∈ tables_1, d.before a0 Z = true) (ws : List Jvm.Cond) (x : Addr) (t : Addr) (kt : ClassId) (cs : List Int32) (i_ : Nat) (fm : Value) (zc : Int32) (h0 : Heap) (n0 : Nat) (O0 : Old Z n0 h0) (E_x : Exa Z h0 x "java/lang/String") (F_x_coder : Fld Z h0 x "java/lang/String" "coder" "B" (.int 0)) (F_x_value : Fld Z h0 x "java/lang/String" "value" "[B" (.ref t)) (V_t : Arv Z h0 t kt .byte (Int32.ofNat cs.length) (oLat cs) (.int 0)) (hbc : ∀ c ∈ cs, ¬ c < 0 ∧ ¬ (255 : Int32) < c) (hi : i_ < cs.length) (hl8 : cs.length ≤ 8) (SF : Sta Z Z.heap "jdk/internal/util/Preconditions" "SIOOBE_FORMATTER" "Ljava/util/function/BiFunction;" fm) (rf : fm.isRef = true) (SC : Sta Z Z.heap "java/lang/String" "COMPACT_STRINGS" "Z" (.int zc)) (hcs : ¬ zc = 0) :
  MetFree l mN35 (head1 (Jvm.Cond.code mN35 jdk_42_method_56_code 2 (some .char) :: ws) ({ frames := 3, cells := 0, slots := 0, locals := 40 } : Room)) (fun A_ U_ => A_ = #[(.ref x), (.int (Int32.ofNat i_))] ∧ Z.Warmed39 U_.vm ∧ U_.heap = h0) (fun _ _ _ _ _ => True) (fun _ U o U' => ∃ v L, o = .returned v ∧ Qca Z x t kt cs i_ fm zc h0 n0 v U'.heap L ∧ FrameEnd U o U' L ({ frames := 3, cells := 0, slots := 0, locals := 40 } : Room).cells ({ frames := 3, cells := 0, slots := 0, locals := 40 } : Room).slots) := by
 refine MetFree.of_bodySF (plainFor_of_name pnca) hisR ?_
 intro p e s m args below meth cd s₁ Bd hml0 hP hK
 obtain ⟨rfl, hZ, hh⟩ := hP
 have hx := Bd.exec
 have hby := Bd.bytes
 have hlk : meth.locks = false := BodyLoose.notSynchronized Bd
 have hml : cd.maxLocals = 2 := hml0
 have hown : s.vm.findClass "java/lang/String" = some m.cls := findClass_of_methodNamed Bd.named
 have X0 : Stand p l e ({ frames := 3, cells := 0, slots := 0, locals := 40 } : Room) s m #[(.ref x), (.int (Int32.ofNat i_))] below meth cd s₁ [] 0 0 := Stand.of_body Bd
 have e0 : s₁.heap = h0 := by rw [← hh, Bd.state]; rfl
 have N0 := Fr.nil n0
 have G : Go p e below s 0 0 (Qca Z x t kt cs i_ fm zc h0 n0) (s₁.setTop (mkF m 0 #[.val (.ref x), .val (.int (Int32.ofNat i_))] [])) := by
  refine Go.s (XS.aloadN X0.here hx rfl (hb hby dca_0) rfl rfl) ?_
  obtain ⟨cq1, kq1, qa1, qb1, qc1⟩ := isOf hZ e0 E_x
  obtain ⟨_, _, ⟨T1, L1, k1, n1⟩, -, X1, ⟨Lc1, hQ1, l1, y1, z1⟩, st1⟩ := X0.virtualBack hx (y := mN30) (z := mN30) hown (mvT hZ (own_w hw 224 rfl)) (mvT hZ (own_w hw 225 rfl)) (notFace_of_selects (args := #[]) (mvT hZ (own_w hw 227 rfl))) (mvT hZ (own_w hw 227 rfl)) (mvT hZ (own_w hw 226 rfl)) (by decide) (backOf (W := 0) (rmsi l Z a0 hw [] x zc h0 n0 O0 F_x_coder SC hcs) hZ (own_w hw 228 rfl) (own_w hw 6 rfl) (by decide) (by decide)) qa1 qc1 (g := (mkF m 1 #[.val (.ref x), .val (.int (Int32.ofNat i_))] [(.ref x)])) rfl (by rw [hml]; rfl) (Steps.refl _) (argsL := []) (rest := []) (lenOf pdch_0 rfl) rfl (by show 2 * 0 + _ ≤ _; exact Nat.le_of_eq rfl) (hb hby dca_1) (fun _ _ => ⟨rfl, e0, (by decide : 0 + 0 ≤ _), (by decide : 0 + 0 ≤ _)⟩)
  dsimp only [Pt.U, Pt.locs, Pt.cells, Pt.slots] at X1 l1 y1 z1 st1 hQ1
  subst y1 z1
  obtain ⟨rfl, Nc1, e1⟩ := hQ1
  have N1 : Fr n0 L1 := by rw [l1]; exact Fr.app N0 Nc1
  refine Go.tr st1 ?_
  show Go p e below s _ _ _ (T1.setTop (mkF m 4 #[.val (.ref x), .val (.int (Int32.ofNat i_))] [(.int 1)]))
  refine Go.s (XS.ifNo X1.here hx rfl (hb hby dca_4) rfl (by decide)) ?_
  show Go p e below s _ _ _ (T1.setTop (mkF m 7 #[.val (.ref x), .val (.int (Int32.ofNat i_))] []))
  refine Go.s (XS.aloadN X1.here hx rfl (hb hby dca_7) rfl rfl) ?_
  obtain ⟨T2, X2, e2, st2⟩ := getF X1 hx hZ hown (host := "") (Or.inl (own_w hw 156 rfl)) Via.refl e1 F_x_value (g := (mkF m 8 #[.val (.ref x), .val (.int (Int32.ofNat i_))] [(.ref x)])) rfl rfl (hb hby dca_8)
  refine Go.st st2 ?_
  show Go p e below s _ _ _ (T2.setTop (mkF m 11 #[.val (.ref x), .val (.int (Int32.ofNat i_))] [(.ref t)]))
  refine Go.s (XS.iloadN X2.here hx rfl (hb hby dca_11) rfl) ?_
  obtain ⟨_, _, ⟨T3, L3, k3, n3⟩, -, X3, ⟨Lc3, hQ3, l3, y3, z3⟩, st3⟩ := Jvm.LawKit.callS X2 hx (y := mN34) hown (mvT hZ (own_w hw 229 rfl)) (mvT hZ (own_w hw 230 rfl)) (mvT hZ (own_w hw 183 rfl)) (mvT hZ (own_w hw 231 rfl)) (by decide) (backOf (W := 0) (rmlc l Z a0 hw [] t kt cs i_ fm h0 n0 O0 V_t hbc hi hl8 SF rf) hZ (own_w hw 231 rfl) (own_w hw 183 rfl) (by decide) (by decide)) (g := (mkF m 12 #[.val (.ref x), .val (.int (Int32.ofNat i_))] [(.int (Int32.ofNat i_)), (.ref t)])) rfl (by rw [hml]; rfl) (argsL := [(.ref t), (.int (Int32.ofNat i_))]) (rest := []) (lenOf pdca_0 rfl) rfl (by show 2 * 0 + _ ≤ _; exact Nat.le_of_eq rfl) (hb hby dca_12) (fun _ _ => ⟨rfl, e2, (by decide : 0 + 0 ≤ _), (by decide : 0 + 0 ≤ _)⟩)
  dsimp only [Pt.U, Pt.locs, Pt.cells, Pt.slots] at X3 l3 y3 z3 st3 hQ3
  subst y3 z3
  obtain ⟨rfl, Nc3, e3⟩ := hQ3
  have N3 : Fr n0 L3 := by rw [l3]; exact Fr.app N1 Nc3
  refine Go.st st3 ?_
  show Go p e below s _ _ _ (T3.setTop (mkF m 15 #[.val (.ref x), .val (.int (Int32.ofNat i_))] [(.int (cs.getD i_ 0))]))
  exact Go.ret X3 hlk (some (.int (nar .char (cs.getD i_ 0)))) (fun h => by rw [Bd.returns] at h; cases h) (by rw [e3]; exact ⟨congrArg some (congrArg Value.int (own_n8 (own_getP hbc hi))), N3, rfl⟩) (by decide) (by decide) (fun fs hr => retN X3 hx (t := .char) Bd.returns (by simp) (hb hby dca_15) hr)
 obtain ⟨s2, o2, st2, r2⟩ := G
 exact ⟨s2, o2, castTop (efca m x (Int32.ofNat i_)) st2, r2⟩
theorem dle_0 : decode jdk_43_method_13_code 0 = .ok (.aload_n 0, 1) := by decide +kernel
theorem dle_1 : decode jdk_43_method_13_code 1 = .ok (.arraylength, 1) := by decide +kernel
theorem dle_2 : decode jdk_43_method_13_code 2 = .ok (.aload_n 1, 1) := by decide +kernel
theorem dle_3 : decode jdk_43_method_13_code 3 = .ok (.arraylength, 1) := by decide +kernel
theorem dle_4 : decode jdk_43_method_13_code 4 = .ok (.if_icmp .ne 30, 3) := by decide +kernel
theorem dle_7 : decode jdk_43_method_13_code 7 = .ok (.iconst 0, 1) := by decide +kernel
theorem dle_8 : decode jdk_43_method_13_code 8 = .ok (.istore_n 2, 1) := by decide +kernel
theorem dle_9 : decode jdk_43_method_13_code 9 = .ok (.iload_n 2, 1) := by decide +kernel
theorem dle_10 : decode jdk_43_method_13_code 10 = .ok (.aload_n 0, 1) := by decide +kernel
theorem dle_11 : decode jdk_43_method_13_code 11 = .ok (.arraylength, 1) := by decide +kernel
theorem dle_12 : decode jdk_43_method_13_code 12 = .ok (.if_icmp .ge 20, 3) := by decide +kernel
theorem dle_15 : decode jdk_43_method_13_code 15 = .ok (.aload_n 0, 1) := by decide +kernel
theorem dle_16 : decode jdk_43_method_13_code 16 = .ok (.iload_n 2, 1) := by decide +kernel
theorem dle_17 : decode jdk_43_method_13_code 17 = .ok (.baload, 1) := by decide +kernel
theorem dle_18 : decode jdk_43_method_13_code 18 = .ok (.aload_n 1, 1) := by decide +kernel
theorem dle_19 : decode jdk_43_method_13_code 19 = .ok (.iload_n 2, 1) := by decide +kernel
theorem dle_20 : decode jdk_43_method_13_code 20 = .ok (.baload, 1) := by decide +kernel
theorem dle_21 : decode jdk_43_method_13_code 21 = .ok (.if_icmp .eq 5, 3) := by decide +kernel
theorem dle_26 : decode jdk_43_method_13_code 26 = .ok (.iinc 2 1, 3) := by decide +kernel
theorem dle_29 : decode jdk_43_method_13_code 29 = .ok (.goto (-20), 3) := by decide +kernel
theorem dle_32 : decode jdk_43_method_13_code 32 = .ok (.iconst 1, 1) := by decide +kernel
theorem dle_33 : decode jdk_43_method_13_code 33 = .ok (.ireturn, 1) := by decide +kernel
theorem pnle : plainName "java/lang/StringLatin1" = true := by first | (simp [plainName, overriddenIn]; done) | decide +kernel
theorem efle (m : MethodId) (x0 : Addr) (x1 : Addr) : entryFrame m #[(.ref x0), (.ref x1)] 3 = mkF m 0 #[.val (.ref x0), .val (.ref x1), .unset] [] := by first | (simp [entryFrame, mkF, argsToLocals, Value.category, maxLocals]; done) | rfl
def Qle (Z : State) (t : Addr) (kt : ClassId) (cs : List Int32) (u : Addr) (ku : ClassId) (h0 : Heap) (n0 : Nat) (v : Option Value) (h : Heap) (L : List Loc) : Prop := v = some (.int 1) ∧ Fr n0 L ∧ h = h0
theorem rmle (l : Launch) (Z : State) (a0 : Array Value) (hw : ∀ d ∈ tables_1, d.before a0 Z = true) (ws : List Jvm.Cond) (t : Addr) (kt : ClassId) (cs : List Int32) (u : Addr) (ku : ClassId) (h0 : Heap) (n0 : Nat) (O0 : Old Z n0 h0) (V_t : Arv Z h0 t kt .byte (Int32.ofNat cs.length) (oLat cs) (.int 0)) (V_u : Arv Z h0 u ku .byte (Int32.ofNat cs.length) (oLat cs) (.int 0)) (hl8 : cs.length ≤ 8) :
  MetFree l mN36 (head1 (Jvm.Cond.code mN36 jdk_43_method_13_code 3 (some .boolean) :: ws) ({ frames := 0, cells := 0, slots := 0, locals := 0 } : Room)) (fun A_ U_ => A_ = #[(.ref t), (.ref u)] ∧ Z.Warmed39 U_.vm ∧ U_.heap = h0) (fun _ _ _ _ _ => True) (fun _ U o U' => ∃ v L, o = .returned v ∧ Qle Z t kt cs u ku h0 n0 v U'.heap L ∧ FrameEnd U o U' L ({ frames := 0, cells := 0, slots := 0, locals := 0 } : Room).cells ({ frames := 0, cells := 0, slots := 0, locals := 0 } : Room).slots) := by
 refine MetFree.of_bodySF (plainFor_of_name pnle) hisR ?_
 intro p e s m args below meth cd s₁ Bd hml0 hP hK
 obtain ⟨rfl, hZ, hh⟩ := hP
 have hx := Bd.exec
 have hby := Bd.bytes
 have hlk : meth.locks = false := BodyLoose.notSynchronized Bd
 have hml : cd.maxLocals = 3 := hml0
 have hown : s.vm.findClass "java/lang/StringLatin1" = some m.cls := findClass_of_methodNamed Bd.named
 have X0 : Stand p l e ({ frames := 0, cells := 0, slots := 0, locals := 0 } : Room) s m #[(.ref t), (.ref u)] below meth cd s₁ [] 0 0 := Stand.of_body Bd
 have e0 : s₁.heap = h0 := by rw [← hh, Bd.state]; rfl
 have N0 := Fr.nil n0
 have G : Go p e below s 0 0 (Qle Z t kt cs u ku h0 n0) (s₁.setTop (mkF m 0 #[.val (.ref t), .val (.ref u), .unset] [])) := by
  refine Go.s (XS.aloadN X0.here hx rfl (hb hby dle_0) rfl rfl) ?_
  refine Go.s (own_len X0 hx hZ e0 V_t (g := (mkF m 1 #[.val (.ref t), .val (.ref u), .unset] [(.ref t)])) rfl rfl (hb hby dle_1) _) ?_
  show Go p e below s _ _ _ (s₁.setTop (mkF m 2 #[.val (.ref t), .val (.ref u), .unset] [(.int (Int32.ofNat cs.length))]))
  refine Go.s (XS.aloadN X0.here hx rfl (hb hby dle_2) rfl rfl) ?_
  refine Go.s (own_len X0 hx hZ e0 V_u (g := (mkF m 3 #[.val (.ref t), .val (.ref u), .unset] [(.ref u), (.int (Int32.ofNat cs.length))])) rfl rfl (hb hby dle_3) _) ?_
  show Go p e below s _ _ _ (s₁.setTop (mkF m 4 #[.val (.ref t), .val (.ref u), .unset] [(.int (Int32.ofNat cs.length)), (.int (Int32.ofNat cs.length))]))
  refine Go.s (XS.icmpNo X0.here hx rfl (hb hby dle_4) rfl (XT.ii_ne_f rfl)) ?_
  show Go p e below s _ _ _ (s₁.setTop (mkF m 7 #[.val (.ref t), .val (.ref u), .unset] []))
  refine Go.s (XS.iconst X0.here hx rfl (hb hby dle_7)) ?_
  refine Go.s (XS.istoreN X0.here hx rfl (hb hby dle_8) rfl (l' := #[.val (.ref t), .val (.ref u), .val (.int 0)]) rfl) ?_
  refine Go.s (XS.iloadN X0.here hx rfl (hb hby dle_9) rfl) ?_
  refine Go.s (XS.aloadN X0.here hx rfl (hb hby dle_10) rfl rfl) ?_
  refine Go.s (own_len X0 hx hZ e0 V_t (g := (mkF m 11 #[.val (.ref t), .val (.ref u), .val (.int 0)] [(.ref t), (.int 0)])) rfl rfl (hb hby dle_11) _) ?_
  show Go p e below s _ _ _ (s₁.setTop (mkF m 12 #[.val (.ref t), .val (.ref u), .val (.int 0)] [(.int (Int32.ofNat cs.length)), (.int 0)]))
  by_cases c12_1 : (0 : Int32) < (Int32.ofNat cs.length)
  · refine Go.s (XS.icmpNo X0.here hx rfl (hb hby dle_12) rfl (XT.ii_ge_f c12_1)) ?_
    show Go p e below s _ _ _ (s₁.setTop (mkF m 15 #[.val (.ref t), .val (.ref u), .val (.int 0)] []))
    refine Go.s (XS.aloadN X0.here hx rfl (hb hby dle_15) rfl rfl) ?_
    refine Go.s (XS.iloadN X0.here hx rfl (hb hby dle_16) rfl) ?_
    refine Go.s (own_baloadB X0 hx hZ e0 V_t (by decide) c12_1 (v := .int (oLo (cs.getD 0 0))) (own_latG (i := 0) ((own_nlt (a := 0) (by decide) (by omega)).mp c12_1)) (g := (mkF m 17 #[.val (.ref t), .val (.ref u), .val (.int 0)] [(.int 0), (.ref t)])) rfl rfl (hb hby dle_17) _) ?_
    show Go p e below s _ _ _ (s₁.setTop (mkF m 18 #[.val (.ref t), .val (.ref u), .val (.int 0)] [(.int (oLo (cs.getD 0 0)))]))
    refine Go.s (XS.aloadN X0.here hx rfl (hb hby dle_18) rfl rfl) ?_
    refine Go.s (XS.iloadN X0.here hx rfl (hb hby dle_19) rfl) ?_
    refine Go.s (own_baloadB X0 hx hZ e0 V_u (by decide) c12_1 (v := .int (oLo (cs.getD 0 0))) (own_latG (i := 0) ((own_nlt (a := 0) (by decide) (by omega)).mp c12_1)) (g := (mkF m 20 #[.val (.ref t), .val (.ref u), .val (.int 0)] [(.int 0), (.ref u), (.int (oLo (cs.getD 0 0)))])) rfl rfl (hb hby dle_20) _) ?_
    show Go p e below s _ _ _ (s₁.setTop (mkF m 21 #[.val (.ref t), .val (.ref u), .val (.int 0)] [(.int (oLo (cs.getD 0 0))), (.int (oLo (cs.getD 0 0)))]))
    refine Go.s (XS.icmpYes X0.here hx rfl (pc0 := 21) (pc' := 26) rfl (hb hby dle_21) rfl (XT.ii_eq_t rfl) (by decide) (by decide)) ?_
    show Go p e below s _ _ _ (s₁.setTop (mkF m 26 #[.val (.ref t), .val (.ref u), .val (.int 0)] []))
    refine Go.s (XT.iincV X0.here hx rfl (1 : Int32) (hb hby dle_26) rfl rfl (l' := #[.val (.ref t), .val (.ref u), .val (.int 1)]) rfl) ?_
    refine Go.s (XS.goto X0.here hx rfl (pc0 := 29) (pc' := 9) rfl (hb hby dle_29) (by decide) (by decide)) ?_
    refine Go.s (XS.iloadN X0.here hx rfl (hb hby dle_9) rfl) ?_
    refine Go.s (XS.aloadN X0.here hx rfl (hb hby dle_10) rfl rfl) ?_
    refine Go.s (own_len X0 hx hZ e0 V_t (g := (mkF m 11 #[.val (.ref t), .val (.ref u), .val (.int 1)] [(.ref t), (.int 1)])) rfl rfl (hb hby dle_11) _) ?_
    show Go p e below s _ _ _ (s₁.setTop (mkF m 12 #[.val (.ref t), .val (.ref u), .val (.int 1)] [(.int (Int32.ofNat cs.length)), (.int 1)]))
    by_cases c12_2 : (1 : Int32) < (Int32.ofNat cs.length)
    · refine Go.s (XS.icmpNo X0.here hx rfl (hb hby dle_12) rfl (XT.ii_ge_f c12_2)) ?_
      show Go p e below s _ _ _ (s₁.setTop (mkF m 15 #[.val (.ref t), .val (.ref u), .val (.int 1)] []))
      refine Go.s (XS.aloadN X0.here hx rfl (hb hby dle_15) rfl rfl) ?_
      refine Go.s (XS.iloadN X0.here hx rfl (hb hby dle_16) rfl) ?_
      refine Go.s (own_baloadB X0 hx hZ e0 V_t (by decide) c12_2 (v := .int (oLo (cs.getD 1 0))) (own_latG (i := 1) ((own_nlt (a := 1) (by decide) (by omega)).mp c12_2)) (g := (mkF m 17 #[.val (.ref t), .val (.ref u), .val (.int 1)] [(.int 1), (.ref t)])) rfl rfl (hb hby dle_17) _) ?_
      show Go p e below s _ _ _ (s₁.setTop (mkF m 18 #[.val (.ref t), .val (.ref u), .val (.int 1)] [(.int (oLo (cs.getD 1 0)))]))
      refine Go.s (XS.aloadN X0.here hx rfl (hb hby dle_18) rfl rfl) ?_
      refine Go.s (XS.iloadN X0.here hx rfl (hb hby dle_19) rfl) ?_
      refine Go.s (own_baloadB X0 hx hZ e0 V_u (by decide) c12_2 (v := .int (oLo (cs.getD 1 0))) (own_latG (i := 1) ((own_nlt (a := 1) (by decide) (by omega)).mp c12_2)) (g := (mkF m 20 #[.val (.ref t), .val (.ref u), .val (.int 1)] [(.int 1), (.ref u), (.int (oLo (cs.getD 1 0)))])) rfl rfl (hb hby dle_20) _) ?_
      show Go p e below s _ _ _ (s₁.setTop (mkF m 21 #[.val (.ref t), .val (.ref u), .val (.int 1)] [(.int (oLo (cs.getD 1 0))), (.int (oLo (cs.getD 1 0)))]))
      refine Go.s (XS.icmpYes X0.here hx rfl (pc0 := 21) (pc' := 26) rfl (hb hby dle_21) rfl (XT.ii_eq_t rfl) (by decide) (by decide)) ?_
      show Go p e below s _ _ _ (s₁.setTop (mkF m 26 #[.val (.ref t), .val (.ref u), .val (.int 1)] []))
      refine Go.s (XT.iincV X0.here hx rfl (1 : Int32) (hb hby dle_26) rfl rfl (l' := #[.val (.ref t), .val (.ref u), .val (.int 2)]) rfl) ?_
      refine Go.s (XS.goto X0.here hx rfl (pc0 := 29) (pc' := 9) rfl (hb hby dle_29) (by decide) (by decide)) ?_
      refine Go.s (XS.iloadN X0.here hx rfl (hb hby dle_9) rfl) ?_
      refine Go.s (XS.aloadN X0.here hx rfl (hb hby dle_10) rfl rfl) ?_
      refine Go.s (own_len X0 hx hZ e0 V_t (g := (mkF m 11 #[.val (.ref t), .val (.ref u), .val (.int 2)] [(.ref t), (.int 2)])) rfl rfl (hb hby dle_11) _) ?_
      show Go p e below s _ _ _ (s₁.setTop (mkF m 12 #[.val (.ref t), .val (.ref u), .val (.int 2)] [(.int (Int32.ofNat cs.length)), (.int 2)]))
      by_cases c12_3 : (2 : Int32) < (Int32.ofNat cs.length)
      · refine Go.s (XS.icmpNo X0.here hx rfl (hb hby dle_12) rfl (XT.ii_ge_f c12_3)) ?_
        show Go p e below s _ _ _ (s₁.setTop (mkF m 15 #[.val (.ref t), .val (.ref u), .val (.int 2)] []))
        refine Go.s (XS.aloadN X0.here hx rfl (hb hby dle_15) rfl rfl) ?_
        refine Go.s (XS.iloadN X0.here hx rfl (hb hby dle_16) rfl) ?_
        refine Go.s (own_baloadB X0 hx hZ e0 V_t (by decide) c12_3 (v := .int (oLo (cs.getD 2 0))) (own_latG (i := 2) ((own_nlt (a := 2) (by decide) (by omega)).mp c12_3)) (g := (mkF m 17 #[.val (.ref t), .val (.ref u), .val (.int 2)] [(.int 2), (.ref t)])) rfl rfl (hb hby dle_17) _) ?_
        show Go p e below s _ _ _ (s₁.setTop (mkF m 18 #[.val (.ref t), .val (.ref u), .val (.int 2)] [(.int (oLo (cs.getD 2 0)))]))
        refine Go.s (XS.aloadN X0.here hx rfl (hb hby dle_18) rfl rfl) ?_
        refine Go.s (XS.iloadN X0.here hx rfl (hb hby dle_19) rfl) ?_
        refine Go.s (own_baloadB X0 hx hZ e0 V_u (by decide) c12_3 (v := .int (oLo (cs.getD 2 0))) (own_latG (i := 2) ((own_nlt (a := 2) (by decide) (by omega)).mp c12_3)) (g := (mkF m 20 #[.val (.ref t), .val (.ref u), .val (.int 2)] [(.int 2), (.ref u), (.int (oLo (cs.getD 2 0)))])) rfl rfl (hb hby dle_20) _) ?_
        show Go p e below s _ _ _ (s₁.setTop (mkF m 21 #[.val (.ref t), .val (.ref u), .val (.int 2)] [(.int (oLo (cs.getD 2 0))), (.int (oLo (cs.getD 2 0)))]))
        refine Go.s (XS.icmpYes X0.here hx rfl (pc0 := 21) (pc' := 26) rfl (hb hby dle_21) rfl (XT.ii_eq_t rfl) (by decide) (by decide)) ?_
        show Go p e below s _ _ _ (s₁.setTop (mkF m 26 #[.val (.ref t), .val (.ref u), .val (.int 2)] []))
        refine Go.s (XT.iincV X0.here hx rfl (1 : Int32) (hb hby dle_26) rfl rfl (l' := #[.val (.ref t), .val (.ref u), .val (.int 3)]) rfl) ?_
        refine Go.s (XS.goto X0.here hx rfl (pc0 := 29) (pc' := 9) rfl (hb hby dle_29) (by decide) (by decide)) ?_
        refine Go.s (XS.iloadN X0.here hx rfl (hb hby dle_9) rfl) ?_
        refine Go.s (XS.aloadN X0.here hx rfl (hb hby dle_10) rfl rfl) ?_
        refine Go.s (own_len X0 hx hZ e0 V_t (g := (mkF m 11 #[.val (.ref t), .val (.ref u), .val (.int 3)] [(.ref t), (.int 3)])) rfl rfl (hb hby dle_11) _) ?_
        show Go p e below s _ _ _ (s₁.setTop (mkF m 12 #[.val (.ref t), .val (.ref u), .val (.int 3)] [(.int (Int32.ofNat cs.length)), (.int 3)]))
        by_cases c12_4 : (3 : Int32) < (Int32.ofNat cs.length)
        · refine Go.s (XS.icmpNo X0.here hx rfl (hb hby dle_12) rfl (XT.ii_ge_f c12_4)) ?_
          show Go p e below s _ _ _ (s₁.setTop (mkF m 15 #[.val (.ref t), .val (.ref u), .val (.int 3)] []))
          refine Go.s (XS.aloadN X0.here hx rfl (hb hby dle_15) rfl rfl) ?_
          refine Go.s (XS.iloadN X0.here hx rfl (hb hby dle_16) rfl) ?_
          refine Go.s (own_baloadB X0 hx hZ e0 V_t (by decide) c12_4 (v := .int (oLo (cs.getD 3 0))) (own_latG (i := 3) ((own_nlt (a := 3) (by decide) (by omega)).mp c12_4)) (g := (mkF m 17 #[.val (.ref t), .val (.ref u), .val (.int 3)] [(.int 3), (.ref t)])) rfl rfl (hb hby dle_17) _) ?_
          show Go p e below s _ _ _ (s₁.setTop (mkF m 18 #[.val (.ref t), .val (.ref u), .val (.int 3)] [(.int (oLo (cs.getD 3 0)))]))
          refine Go.s (XS.aloadN X0.here hx rfl (hb hby dle_18) rfl rfl) ?_
          refine Go.s (XS.iloadN X0.here hx rfl (hb hby dle_19) rfl) ?_
          refine Go.s (own_baloadB X0 hx hZ e0 V_u (by decide) c12_4 (v := .int (oLo (cs.getD 3 0))) (own_latG (i := 3) ((own_nlt (a := 3) (by decide) (by omega)).mp c12_4)) (g := (mkF m 20 #[.val (.ref t), .val (.ref u), .val (.int 3)] [(.int 3), (.ref u), (.int (oLo (cs.getD 3 0)))])) rfl rfl (hb hby dle_20) _) ?_
          show Go p e below s _ _ _ (s₁.setTop (mkF m 21 #[.val (.ref t), .val (.ref u), .val (.int 3)] [(.int (oLo (cs.getD 3 0))), (.int (oLo (cs.getD 3 0)))]))
          refine Go.s (XS.icmpYes X0.here hx rfl (pc0 := 21) (pc' := 26) rfl (hb hby dle_21) rfl (XT.ii_eq_t rfl) (by decide) (by decide)) ?_
          show Go p e below s _ _ _ (s₁.setTop (mkF m 26 #[.val (.ref t), .val (.ref u), .val (.int 3)] []))
          refine Go.s (XT.iincV X0.here hx rfl (1 : Int32) (hb hby dle_26) rfl rfl (l' := #[.val (.ref t), .val (.ref u), .val (.int 4)]) rfl) ?_
          refine Go.s (XS.goto X0.here hx rfl (pc0 := 29) (pc' := 9) rfl (hb hby dle_29) (by decide) (by decide)) ?_
          refine Go.s (XS.iloadN X0.here hx rfl (hb hby dle_9) rfl) ?_
          refine Go.s (XS.aloadN X0.here hx rfl (hb hby dle_10) rfl rfl) ?_
          refine Go.s (own_len X0 hx hZ e0 V_t (g := (mkF m 11 #[.val (.ref t), .val (.ref u), .val (.int 4)] [(.ref t), (.int 4)])) rfl rfl (hb hby dle_11) _) ?_
          show Go p e below s _ _ _ (s₁.setTop (mkF m 12 #[.val (.ref t), .val (.ref u), .val (.int 4)] [(.int (Int32.ofNat cs.length)), (.int 4)]))
          by_cases c12_5 : (4 : Int32) < (Int32.ofNat cs.length)
          · refine Go.s (XS.icmpNo X0.here hx rfl (hb hby dle_12) rfl (XT.ii_ge_f c12_5)) ?_
            show Go p e below s _ _ _ (s₁.setTop (mkF m 15 #[.val (.ref t), .val (.ref u), .val (.int 4)] []))
            refine Go.s (XS.aloadN X0.here hx rfl (hb hby dle_15) rfl rfl) ?_
            refine Go.s (XS.iloadN X0.here hx rfl (hb hby dle_16) rfl) ?_
            refine Go.s (own_baloadB X0 hx hZ e0 V_t (by decide) c12_5 (v := .int (oLo (cs.getD 4 0))) (own_latG (i := 4) ((own_nlt (a := 4) (by decide) (by omega)).mp c12_5)) (g := (mkF m 17 #[.val (.ref t), .val (.ref u), .val (.int 4)] [(.int 4), (.ref t)])) rfl rfl (hb hby dle_17) _) ?_
            show Go p e below s _ _ _ (s₁.setTop (mkF m 18 #[.val (.ref t), .val (.ref u), .val (.int 4)] [(.int (oLo (cs.getD 4 0)))]))
            refine Go.s (XS.aloadN X0.here hx rfl (hb hby dle_18) rfl rfl) ?_
            refine Go.s (XS.iloadN X0.here hx rfl (hb hby dle_19) rfl) ?_
            refine Go.s (own_baloadB X0 hx hZ e0 V_u (by decide) c12_5 (v := .int (oLo (cs.getD 4 0))) (own_latG (i := 4) ((own_nlt (a := 4) (by decide) (by omega)).mp c12_5)) (g := (mkF m 20 #[.val (.ref t), .val (.ref u), .val (.int 4)] [(.int 4), (.ref u), (.int (oLo (cs.getD 4 0)))])) rfl rfl (hb hby dle_20) _) ?_
            show Go p e below s _ _ _ (s₁.setTop (mkF m 21 #[.val (.ref t), .val (.ref u), .val (.int 4)] [(.int (oLo (cs.getD 4 0))), (.int (oLo (cs.getD 4 0)))]))
            refine Go.s (XS.icmpYes X0.here hx rfl (pc0 := 21) (pc' := 26) rfl (hb hby dle_21) rfl (XT.ii_eq_t rfl) (by decide) (by decide)) ?_
            show Go p e below s _ _ _ (s₁.setTop (mkF m 26 #[.val (.ref t), .val (.ref u), .val (.int 4)] []))
            refine Go.s (XT.iincV X0.here hx rfl (1 : Int32) (hb hby dle_26) rfl rfl (l' := #[.val (.ref t), .val (.ref u), .val (.int 5)]) rfl) ?_
            refine Go.s (XS.goto X0.here hx rfl (pc0 := 29) (pc' := 9) rfl (hb hby dle_29) (by decide) (by decide)) ?_
            refine Go.s (XS.iloadN X0.here hx rfl (hb hby dle_9) rfl) ?_
            refine Go.s (XS.aloadN X0.here hx rfl (hb hby dle_10) rfl rfl) ?_
            refine Go.s (own_len X0 hx hZ e0 V_t (g := (mkF m 11 #[.val (.ref t), .val (.ref u), .val (.int 5)] [(.ref t), (.int 5)])) rfl rfl (hb hby dle_11) _) ?_
            show Go p e below s _ _ _ (s₁.setTop (mkF m 12 #[.val (.ref t), .val (.ref u), .val (.int 5)] [(.int (Int32.ofNat cs.length)), (.int 5)]))
            by_cases c12_6 : (5 : Int32) < (Int32.ofNat cs.length)
            · refine Go.s (XS.icmpNo X0.here hx rfl (hb hby dle_12) rfl (XT.ii_ge_f c12_6)) ?_
              show Go p e below s _ _ _ (s₁.setTop (mkF m 15 #[.val (.ref t), .val (.ref u), .val (.int 5)] []))
              refine Go.s (XS.aloadN X0.here hx rfl (hb hby dle_15) rfl rfl) ?_
              refine Go.s (XS.iloadN X0.here hx rfl (hb hby dle_16) rfl) ?_
              refine Go.s (own_baloadB X0 hx hZ e0 V_t (by decide) c12_6 (v := .int (oLo (cs.getD 5 0))) (own_latG (i := 5) ((own_nlt (a := 5) (by decide) (by omega)).mp c12_6)) (g := (mkF m 17 #[.val (.ref t), .val (.ref u), .val (.int 5)] [(.int 5), (.ref t)])) rfl rfl (hb hby dle_17) _) ?_
              show Go p e below s _ _ _ (s₁.setTop (mkF m 18 #[.val (.ref t), .val (.ref u), .val (.int 5)] [(.int (oLo (cs.getD 5 0)))]))
              refine Go.s (XS.aloadN X0.here hx rfl (hb hby dle_18) rfl rfl) ?_
              refine Go.s (XS.iloadN X0.here hx rfl (hb hby dle_19) rfl) ?_
              refine Go.s (own_baloadB X0 hx hZ e0 V_u (by decide) c12_6 (v := .int (oLo (cs.getD 5 0))) (own_latG (i := 5) ((own_nlt (a := 5) (by decide) (by omega)).mp c12_6)) (g := (mkF m 20 #[.val (.ref t), .val (.ref u), .val (.int 5)] [(.int 5), (.ref u), (.int (oLo (cs.getD 5 0)))])) rfl rfl (hb hby dle_20) _) ?_
              show Go p e below s _ _ _ (s₁.setTop (mkF m 21 #[.val (.ref t), .val (.ref u), .val (.int 5)] [(.int (oLo (cs.getD 5 0))), (.int (oLo (cs.getD 5 0)))]))
              refine Go.s (XS.icmpYes X0.here hx rfl (pc0 := 21) (pc' := 26) rfl (hb hby dle_21) rfl (XT.ii_eq_t rfl) (by decide) (by decide)) ?_
              show Go p e below s _ _ _ (s₁.setTop (mkF m 26 #[.val (.ref t), .val (.ref u), .val (.int 5)] []))
              refine Go.s (XT.iincV X0.here hx rfl (1 : Int32) (hb hby dle_26) rfl rfl (l' := #[.val (.ref t), .val (.ref u), .val (.int 6)]) rfl) ?_
              refine Go.s (XS.goto X0.here hx rfl (pc0 := 29) (pc' := 9) rfl (hb hby dle_29) (by decide) (by decide)) ?_
              refine Go.s (XS.iloadN X0.here hx rfl (hb hby dle_9) rfl) ?_
              refine Go.s (XS.aloadN X0.here hx rfl (hb hby dle_10) rfl rfl) ?_
              refine Go.s (own_len X0 hx hZ e0 V_t (g := (mkF m 11 #[.val (.ref t), .val (.ref u), .val (.int 6)] [(.ref t), (.int 6)])) rfl rfl (hb hby dle_11) _) ?_
              show Go p e below s _ _ _ (s₁.setTop (mkF m 12 #[.val (.ref t), .val (.ref u), .val (.int 6)] [(.int (Int32.ofNat cs.length)), (.int 6)]))
              by_cases c12_7 : (6 : Int32) < (Int32.ofNat cs.length)
              · refine Go.s (XS.icmpNo X0.here hx rfl (hb hby dle_12) rfl (XT.ii_ge_f c12_7)) ?_
                show Go p e below s _ _ _ (s₁.setTop (mkF m 15 #[.val (.ref t), .val (.ref u), .val (.int 6)] []))
                refine Go.s (XS.aloadN X0.here hx rfl (hb hby dle_15) rfl rfl) ?_
                refine Go.s (XS.iloadN X0.here hx rfl (hb hby dle_16) rfl) ?_
                refine Go.s (own_baloadB X0 hx hZ e0 V_t (by decide) c12_7 (v := .int (oLo (cs.getD 6 0))) (own_latG (i := 6) ((own_nlt (a := 6) (by decide) (by omega)).mp c12_7)) (g := (mkF m 17 #[.val (.ref t), .val (.ref u), .val (.int 6)] [(.int 6), (.ref t)])) rfl rfl (hb hby dle_17) _) ?_
                show Go p e below s _ _ _ (s₁.setTop (mkF m 18 #[.val (.ref t), .val (.ref u), .val (.int 6)] [(.int (oLo (cs.getD 6 0)))]))
                refine Go.s (XS.aloadN X0.here hx rfl (hb hby dle_18) rfl rfl) ?_
                refine Go.s (XS.iloadN X0.here hx rfl (hb hby dle_19) rfl) ?_
                refine Go.s (own_baloadB X0 hx hZ e0 V_u (by decide) c12_7 (v := .int (oLo (cs.getD 6 0))) (own_latG (i := 6) ((own_nlt (a := 6) (by decide) (by omega)).mp c12_7)) (g := (mkF m 20 #[.val (.ref t), .val (.ref u), .val (.int 6)] [(.int 6), (.ref u), (.int (oLo (cs.getD 6 0)))])) rfl rfl (hb hby dle_20) _) ?_
                show Go p e below s _ _ _ (s₁.setTop (mkF m 21 #[.val (.ref t), .val (.ref u), .val (.int 6)] [(.int (oLo (cs.getD 6 0))), (.int (oLo (cs.getD 6 0)))]))
                refine Go.s (XS.icmpYes X0.here hx rfl (pc0 := 21) (pc' := 26) rfl (hb hby dle_21) rfl (XT.ii_eq_t rfl) (by decide) (by decide)) ?_
                show Go p e below s _ _ _ (s₁.setTop (mkF m 26 #[.val (.ref t), .val (.ref u), .val (.int 6)] []))
                refine Go.s (XT.iincV X0.here hx rfl (1 : Int32) (hb hby dle_26) rfl rfl (l' := #[.val (.ref t), .val (.ref u), .val (.int 7)]) rfl) ?_
                refine Go.s (XS.goto X0.here hx rfl (pc0 := 29) (pc' := 9) rfl (hb hby dle_29) (by decide) (by decide)) ?_
                refine Go.s (XS.iloadN X0.here hx rfl (hb hby dle_9) rfl) ?_
                refine Go.s (XS.aloadN X0.here hx rfl (hb hby dle_10) rfl rfl) ?_
                refine Go.s (own_len X0 hx hZ e0 V_t (g := (mkF m 11 #[.val (.ref t), .val (.ref u), .val (.int 7)] [(.ref t), (.int 7)])) rfl rfl (hb hby dle_11) _) ?_
                show Go p e below s _ _ _ (s₁.setTop (mkF m 12 #[.val (.ref t), .val (.ref u), .val (.int 7)] [(.int (Int32.ofNat cs.length)), (.int 7)]))
                by_cases c12_8 : (7 : Int32) < (Int32.ofNat cs.length)
                · refine Go.s (XS.icmpNo X0.here hx rfl (hb hby dle_12) rfl (XT.ii_ge_f c12_8)) ?_
                  show Go p e below s _ _ _ (s₁.setTop (mkF m 15 #[.val (.ref t), .val (.ref u), .val (.int 7)] []))
                  refine Go.s (XS.aloadN X0.here hx rfl (hb hby dle_15) rfl rfl) ?_
                  refine Go.s (XS.iloadN X0.here hx rfl (hb hby dle_16) rfl) ?_
                  refine Go.s (own_baloadB X0 hx hZ e0 V_t (by decide) c12_8 (v := .int (oLo (cs.getD 7 0))) (own_latG (i := 7) ((own_nlt (a := 7) (by decide) (by omega)).mp c12_8)) (g := (mkF m 17 #[.val (.ref t), .val (.ref u), .val (.int 7)] [(.int 7), (.ref t)])) rfl rfl (hb hby dle_17) _) ?_
                  show Go p e below s _ _ _ (s₁.setTop (mkF m 18 #[.val (.ref t), .val (.ref u), .val (.int 7)] [(.int (oLo (cs.getD 7 0)))]))
                  refine Go.s (XS.aloadN X0.here hx rfl (hb hby dle_18) rfl rfl) ?_
                  refine Go.s (XS.iloadN X0.here hx rfl (hb hby dle_19) rfl) ?_
                  refine Go.s (own_baloadB X0 hx hZ e0 V_u (by decide) c12_8 (v := .int (oLo (cs.getD 7 0))) (own_latG (i := 7) ((own_nlt (a := 7) (by decide) (by omega)).mp c12_8)) (g := (mkF m 20 #[.val (.ref t), .val (.ref u), .val (.int 7)] [(.int 7), (.ref u), (.int (oLo (cs.getD 7 0)))])) rfl rfl (hb hby dle_20) _) ?_
                  show Go p e below s _ _ _ (s₁.setTop (mkF m 21 #[.val (.ref t), .val (.ref u), .val (.int 7)] [(.int (oLo (cs.getD 7 0))), (.int (oLo (cs.getD 7 0)))]))
                  refine Go.s (XS.icmpYes X0.here hx rfl (pc0 := 21) (pc' := 26) rfl (hb hby dle_21) rfl (XT.ii_eq_t rfl) (by decide) (by decide)) ?_
                  show Go p e below s _ _ _ (s₁.setTop (mkF m 26 #[.val (.ref t), .val (.ref u), .val (.int 7)] []))
                  refine Go.s (XT.iincV X0.here hx rfl (1 : Int32) (hb hby dle_26) rfl rfl (l' := #[.val (.ref t), .val (.ref u), .val (.int 8)]) rfl) ?_
                  refine Go.s (XS.goto X0.here hx rfl (pc0 := 29) (pc' := 9) rfl (hb hby dle_29) (by decide) (by decide)) ?_
                  refine Go.s (XS.iloadN X0.here hx rfl (hb hby dle_9) rfl) ?_
                  refine Go.s (XS.aloadN X0.here hx rfl (hb hby dle_10) rfl rfl) ?_
                  refine Go.s (own_len X0 hx hZ e0 V_t (g := (mkF m 11 #[.val (.ref t), .val (.ref u), .val (.int 8)] [(.ref t), (.int 8)])) rfl rfl (hb hby dle_11) _) ?_
                  show Go p e below s _ _ _ (s₁.setTop (mkF m 12 #[.val (.ref t), .val (.ref u), .val (.int 8)] [(.int (Int32.ofNat cs.length)), (.int 8)]))
                  refine Go.s (XS.icmpYes X0.here hx rfl (pc0 := 12) (pc' := 32) rfl (hb hby dle_12) rfl (XT.ii_ge_t (by rw [own_8lt (by omega)]; omega)) (by decide) (by decide)) ?_
                  show Go p e below s _ _ _ (s₁.setTop (mkF m 32 #[.val (.ref t), .val (.ref u), .val (.int 8)] []))
                  refine Go.s (XS.iconst X0.here hx rfl (hb hby dle_32)) ?_
                  exact Go.ret X0 hlk (some (.int (nar .boolean (1 : Int32)))) (fun h => by rw [Bd.returns] at h; cases h) (by rw [e0]; exact ⟨rfl, N0, rfl⟩) (by decide) (by decide) (fun fs hr => retN X0 hx (t := .boolean) Bd.returns (by simp) (hb hby dle_33) hr)
                · refine Go.s (XS.icmpYes X0.here hx rfl (pc0 := 12) (pc' := 32) rfl (hb hby dle_12) rfl (XT.ii_ge_t c12_8) (by decide) (by decide)) ?_
                  show Go p e below s _ _ _ (s₁.setTop (mkF m 32 #[.val (.ref t), .val (.ref u), .val (.int 7)] []))
                  refine Go.s (XS.iconst X0.here hx rfl (hb hby dle_32)) ?_
                  exact Go.ret X0 hlk (some (.int (nar .boolean (1 : Int32)))) (fun h => by rw [Bd.returns] at h; cases h) (by rw [e0]; exact ⟨rfl, N0, rfl⟩) (by decide) (by decide) (fun fs hr => retN X0 hx (t := .boolean) Bd.returns (by simp) (hb hby dle_33) hr)
              · refine Go.s (XS.icmpYes X0.here hx rfl (pc0 := 12) (pc' := 32) rfl (hb hby dle_12) rfl (XT.ii_ge_t c12_7) (by decide) (by decide)) ?_
                show Go p e below s _ _ _ (s₁.setTop (mkF m 32 #[.val (.ref t), .val (.ref u), .val (.int 6)] []))
                refine Go.s (XS.iconst X0.here hx rfl (hb hby dle_32)) ?_
                exact Go.ret X0 hlk (some (.int (nar .boolean (1 : Int32)))) (fun h => by rw [Bd.returns] at h; cases h) (by rw [e0]; exact ⟨rfl, N0, rfl⟩) (by decide) (by decide) (fun fs hr => retN X0 hx (t := .boolean) Bd.returns (by simp) (hb hby dle_33) hr)
            · refine Go.s (XS.icmpYes X0.here hx rfl (pc0 := 12) (pc' := 32) rfl (hb hby dle_12) rfl (XT.ii_ge_t c12_6) (by decide) (by decide)) ?_
              show Go p e below s _ _ _ (s₁.setTop (mkF m 32 #[.val (.ref t), .val (.ref u), .val (.int 5)] []))
              refine Go.s (XS.iconst X0.here hx rfl (hb hby dle_32)) ?_
              exact Go.ret X0 hlk (some (.int (nar .boolean (1 : Int32)))) (fun h => by rw [Bd.returns] at h; cases h) (by rw [e0]; exact ⟨rfl, N0, rfl⟩) (by decide) (by decide) (fun fs hr => retN X0 hx (t := .boolean) Bd.returns (by simp) (hb hby dle_33) hr)
          · refine Go.s (XS.icmpYes X0.here hx rfl (pc0 := 12) (pc' := 32) rfl (hb hby dle_12) rfl (XT.ii_ge_t c12_5) (by decide) (by decide)) ?_
            show Go p e below s _ _ _ (s₁.setTop (mkF m 32 #[.val (.ref t), .val (.ref u), .val (.int 4)] []))
            refine Go.s (XS.iconst X0.here hx rfl (hb hby dle_32)) ?_
            exact Go.ret X0 hlk (some (.int (nar .boolean (1 : Int32)))) (fun h => by rw [Bd.returns] at h; cases h) (by rw [e0]; exact ⟨rfl, N0, rfl⟩) (by decide) (by decide) (fun fs hr => retN X0 hx (t := .boolean) Bd.returns (by simp) (hb hby dle_33) hr)
        · refine Go.s (XS.icmpYes X0.here hx rfl (pc0 := 12) (pc' := 32) rfl (hb hby dle_12) rfl (XT.ii_ge_t c12_4) (by decide) (by decide)) ?_
          show Go p e below s _ _ _ (s₁.setTop (mkF m 32 #[.val (.ref t), .val (.ref u), .val (.int 3)] []))
          refine Go.s (XS.iconst X0.here hx rfl (hb hby dle_32)) ?_
          exact Go.ret X0 hlk (some (.int (nar .boolean (1 : Int32)))) (fun h => by rw [Bd.returns] at h; cases h) (by rw [e0]; exact ⟨rfl, N0, rfl⟩) (by decide) (by decide) (fun fs hr => retN X0 hx (t := .boolean) Bd.returns (by simp) (hb hby dle_33) hr)
      · refine Go.s (XS.icmpYes X0.here hx rfl (pc0 := 12) (pc' := 32) rfl (hb hby dle_12) rfl (XT.ii_ge_t c12_3) (by decide) (by decide)) ?_
        show Go p e below s _ _ _ (s₁.setTop (mkF m 32 #[.val (.ref t), .val (.ref u), .val (.int 2)] []))
        refine Go.s (XS.iconst X0.here hx rfl (hb hby dle_32)) ?_
        exact Go.ret X0 hlk (some (.int (nar .boolean (1 : Int32)))) (fun h => by rw [Bd.returns] at h; cases h) (by rw [e0]; exact ⟨rfl, N0, rfl⟩) (by decide) (by decide) (fun fs hr => retN X0 hx (t := .boolean) Bd.returns (by simp) (hb hby dle_33) hr)
    · refine Go.s (XS.icmpYes X0.here hx rfl (pc0 := 12) (pc' := 32) rfl (hb hby dle_12) rfl (XT.ii_ge_t c12_2) (by decide) (by decide)) ?_
      show Go p e below s _ _ _ (s₁.setTop (mkF m 32 #[.val (.ref t), .val (.ref u), .val (.int 1)] []))
      refine Go.s (XS.iconst X0.here hx rfl (hb hby dle_32)) ?_
      exact Go.ret X0 hlk (some (.int (nar .boolean (1 : Int32)))) (fun h => by rw [Bd.returns] at h; cases h) (by rw [e0]; exact ⟨rfl, N0, rfl⟩) (by decide) (by decide) (fun fs hr => retN X0 hx (t := .boolean) Bd.returns (by simp) (hb hby dle_33) hr)
  · refine Go.s (XS.icmpYes X0.here hx rfl (pc0 := 12) (pc' := 32) rfl (hb hby dle_12) rfl (XT.ii_ge_t c12_1) (by decide) (by decide)) ?_
    show Go p e below s _ _ _ (s₁.setTop (mkF m 32 #[.val (.ref t), .val (.ref u), .val (.int 0)] []))
    refine Go.s (XS.iconst X0.here hx rfl (hb hby dle_32)) ?_
    exact Go.ret X0 hlk (some (.int (nar .boolean (1 : Int32)))) (fun h => by rw [Bd.returns] at h; cases h) (by rw [e0]; exact ⟨rfl, N0, rfl⟩) (by decide) (by decide) (fun fs hr => retN X0 hx (t := .boolean) Bd.returns (by simp) (hb hby dle_33) hr)
 obtain ⟨s2, o2, st2, r2⟩ := G
 exact ⟨s2, o2, castTop (efle m t u) st2, r2⟩
theorem dse_0 : decode jdk_42_method_66_code 0 = .ok (.aload_n 0, 1) := by decide +kernel
theorem dse_1 : decode jdk_42_method_66_code 1 = .ok (.aload_n 1, 1) := by decide +kernel
theorem dse_2 : decode jdk_42_method_66_code 2 = .ok (.if_acmp .ne 5, 3) := by decide +kernel
theorem dse_5 : decode jdk_42_method_66_code 5 = .ok (.iconst 1, 1) := by decide +kernel
theorem dse_6 : decode jdk_42_method_66_code 6 = .ok (.ireturn, 1) := by decide +kernel
theorem dse_7 : decode jdk_42_method_66_code 7 = .ok (.aload_n 1, 1) := by decide +kernel
theorem dse_8 : decode jdk_42_method_66_code 8 = .ok (.instanceof 10, 3) := by decide +kernel
theorem dse_11 : decode jdk_42_method_66_code 11 = .ok (.ifCond .eq 43, 3) := by decide +kernel
theorem dse_14 : decode jdk_42_method_66_code 14 = .ok (.aload_n 1, 1) := by decide +kernel
theorem dse_15 : decode jdk_42_method_66_code 15 = .ok (.checkcast 10, 3) := by decide +kernel
theorem dse_18 : decode jdk_42_method_66_code 18 = .ok (.astore_n 2, 1) := by decide +kernel
theorem dse_19 : decode jdk_42_method_66_code 19 = .ok (.getstatic 38, 3) := by decide +kernel
theorem dse_22 : decode jdk_42_method_66_code 22 = .ok (.ifCond .eq 14, 3) := by decide +kernel
theorem dse_25 : decode jdk_42_method_66_code 25 = .ok (.aload_n 0, 1) := by decide +kernel
theorem dse_26 : decode jdk_42_method_66_code 26 = .ok (.getfield 15, 3) := by decide +kernel
theorem dse_29 : decode jdk_42_method_66_code 29 = .ok (.aload_n 2, 1) := by decide +kernel
theorem dse_30 : decode jdk_42_method_66_code 30 = .ok (.getfield 15, 3) := by decide +kernel
theorem dse_33 : decode jdk_42_method_66_code 33 = .ok (.if_icmp .ne 21, 3) := by decide +kernel
theorem dse_36 : decode jdk_42_method_66_code 36 = .ok (.aload_n 0, 1) := by decide +kernel
theorem dse_37 : decode jdk_42_method_66_code 37 = .ok (.getfield 9, 3) := by decide +kernel
theorem dse_40 : decode jdk_42_method_66_code 40 = .ok (.aload_n 2, 1) := by decide +kernel
theorem dse_41 : decode jdk_42_method_66_code 41 = .ok (.getfield 9, 3) := by decide +kernel
theorem dse_44 : decode jdk_42_method_66_code 44 = .ok (.invokestatic 541, 3) := by decide +kernel
theorem dse_47 : decode jdk_42_method_66_code 47 = .ok (.ifCond .eq 7, 3) := by decide +kernel
theorem dse_50 : decode jdk_42_method_66_code 50 = .ok (.iconst 1, 1) := by decide +kernel
theorem dse_51 : decode jdk_42_method_66_code 51 = .ok (.goto 4, 3) := by decide +kernel
theorem dse_55 : decode jdk_42_method_66_code 55 = .ok (.ireturn, 1) := by decide +kernel
theorem pdse_0 : parseMethodDescriptor "([B[B)Z" = some ⟨[(.array .byte), (.array .byte)], some .boolean⟩ := by decide +kernel
theorem pnse : plainName "java/lang/String" = true := by first | (simp [plainName, overriddenIn]; done) | decide +kernel
theorem efse (m : MethodId) (x0 : Addr) (x1 : Addr) : entryFrame m #[(.ref x0), (.ref x1)] 3 = mkF m 0 #[.val (.ref x0), .val (.ref x1), .unset] [] := by first | (simp [entryFrame, mkF, argsToLocals, Value.category, maxLocals]; done) | rfl
def Qse (Z : State) (x : Addr) (t : Addr) (kt : ClassId) (cs : List Int32) (y : Addr) (u : Addr) (ku : ClassId) (zc : Int32) (h0 : Heap) (n0 : Nat) (v : Option Value) (h : Heap) (L : List Loc) : Prop := v = some (.int 1) ∧ Fr n0 L ∧ h = h0
theorem rmse (l : Launch) (Z : State) (a0 : Array Value) (hw : ∀ d ∈ tables_1, d.before a0 Z = true) (ws : List Jvm.Cond) (x : Addr) (t : Addr) (kt : ClassId) (cs : List Int32) (y : Addr) (u : Addr) (ku : ClassId) (zc : Int32) (h0 : Heap) (n0 : Nat) (O0 : Old Z n0 h0) (E_x : Exa Z h0 x "java/lang/String") (F_x_coder : Fld Z h0 x "java/lang/String" "coder" "B" (.int 0)) (F_x_value : Fld Z h0 x "java/lang/String" "value" "[B" (.ref t)) (V_t : Arv Z h0 t kt .byte (Int32.ofNat cs.length) (oLat cs) (.int 0)) (E_y : Exa Z h0 y "java/lang/String") (F_y_coder : Fld Z h0 y "java/lang/String" "coder" "B" (.int 0)) (F_y_value : Fld Z h0 y "java/lang/String" "value" "[B" (.ref u)) (V_u : Arv Z h0 u ku .byte (Int32.ofNat cs.length) (oLat cs) (.int 0)) (hl8 : cs.length ≤ 8) (SC : Sta Z Z.heap "java/lang/String" "COMPACT_STRINGS" "Z" (.int zc)) (hcs : ¬ zc = 0) :
  MetFree l mN37 (head1 (Jvm.Cond.code mN37 jdk_42_method_66_code 3 (some .boolean) :: ws) ({ frames := 1, cells := 0, slots := 0, locals := 14 } : Room)) (fun A_ U_ => A_ = #[(.ref x), (.ref y)] ∧ Z.Warmed39 U_.vm ∧ U_.heap = h0) (fun _ _ _ _ _ => True) (fun _ U o U' => ∃ v L, o = .returned v ∧ Qse Z x t kt cs y u ku zc h0 n0 v U'.heap L ∧ FrameEnd U o U' L ({ frames := 1, cells := 0, slots := 0, locals := 14 } : Room).cells ({ frames := 1, cells := 0, slots := 0, locals := 14 } : Room).slots) := by
 refine MetFree.of_bodySF (plainFor_of_name pnse) hisR ?_
 intro p e s m args below meth cd s₁ Bd hml0 hP hK
 obtain ⟨rfl, hZ, hh⟩ := hP
 have hx := Bd.exec
 have hby := Bd.bytes
 have hlk : meth.locks = false := BodyLoose.notSynchronized Bd
 have hml : cd.maxLocals = 3 := hml0
 have hown : s.vm.findClass "java/lang/String" = some m.cls := findClass_of_methodNamed Bd.named
 have X0 : Stand p l e ({ frames := 1, cells := 0, slots := 0, locals := 14 } : Room) s m #[(.ref x), (.ref y)] below meth cd s₁ [] 0 0 := Stand.of_body Bd
 have e0 : s₁.heap = h0 := by rw [← hh, Bd.state]; rfl
 have N0 := Fr.nil n0
 have G : Go p e below s 0 0 (Qse Z x t kt cs y u ku zc h0 n0) (s₁.setTop (mkF m 0 #[.val (.ref x), .val (.ref y), .unset] [])) := by
  refine Go.s (XS.aloadN X0.here hx rfl (hb hby dse_0) rfl rfl) ?_
  refine Go.s (XS.aloadN X0.here hx rfl (hb hby dse_1) rfl rfl) ?_
  by_cases c2_1 : ((.ref x) : Value) = (.ref y)
  · refine Go.s (XT.acmpNo X0.here hx rfl (hb hby dse_2) rfl rfl rfl (XT.aa_ne_f c2_1)) ?_
    show Go p e below s _ _ _ (s₁.setTop (mkF m 5 #[.val (.ref x), .val (.ref y), .unset] []))
    refine Go.s (XS.iconst X0.here hx rfl (hb hby dse_5)) ?_
    exact Go.ret X0 hlk (some (.int (nar .boolean (1 : Int32)))) (fun h => by rw [Bd.returns] at h; cases h) (by rw [e0]; exact ⟨rfl, N0, rfl⟩) (by decide) (by decide) (fun fs hr => retN X0 hx (t := .boolean) Bd.returns (by simp) (hb hby dse_6) hr)
  · refine Go.s (XT.acmpYes X0.here hx rfl (pc0 := 2) (pc' := 7) rfl (hb hby dse_2) rfl rfl rfl (XT.aa_ne_t c2_1) (by decide) (by decide)) ?_
    show Go p e below s _ _ _ (s₁.setTop (mkF m 7 #[.val (.ref x), .val (.ref y), .unset] []))
    refine Go.s (XS.aloadN X0.here hx rfl (hb hby dse_7) rfl rfl) ?_
    obtain ⟨T2, X2, e2, st2⟩ := instY X0 hx hZ hown (own_w hw 180 rfl) e0 (Ins.self E_y) (g := (mkF m 8 #[.val (.ref x), .val (.ref y), .unset] [(.ref y)])) rfl rfl (hb hby dse_8)
    refine Go.st st2 ?_
    show Go p e below s _ _ _ (T2.setTop (mkF m 11 #[.val (.ref x), .val (.ref y), .unset] [(.int 1)]))
    refine Go.s (XS.ifNo X2.here hx rfl (hb hby dse_11) rfl (by decide)) ?_
    show Go p e below s _ _ _ (T2.setTop (mkF m 14 #[.val (.ref x), .val (.ref y), .unset] []))
    refine Go.s (XS.aloadN X2.here hx rfl (hb hby dse_14) rfl rfl) ?_
    obtain ⟨T3, X3, e3, st3⟩ := castY X2 hx hZ hown (own_w hw 180 rfl) e2 (Ins.self E_y) (g := (mkF m 15 #[.val (.ref x), .val (.ref y), .unset] [(.ref y)])) rfl rfl (hb hby dse_15)
    refine Go.st st3 ?_
    show Go p e below s _ _ _ (T3.setTop (mkF m 18 #[.val (.ref x), .val (.ref y), .unset] [(.ref y)]))
    refine Go.s (XS.astoreN X3.here hx rfl (hb hby dse_18) rfl rfl (l' := #[.val (.ref x), .val (.ref y), .val (.ref y)]) rfl) ?_
    obtain ⟨T4, X4, e4, st4⟩ := getS X3 hx hZ hown (host := "") (own_w hw 171 rfl) Via.refl e3 (SC.ext O0.2) (g := (mkF m 19 #[.val (.ref x), .val (.ref y), .val (.ref y)] [])) rfl (hb hby dse_19)
    refine Go.st st4 ?_
    show Go p e below s _ _ _ (T4.setTop (mkF m 22 #[.val (.ref x), .val (.ref y), .val (.ref y)] [(.int zc)]))
    refine Go.s (XS.ifNo X4.here hx rfl (hb hby dse_22) rfl (XT.i0_eq_f hcs)) ?_
    show Go p e below s _ _ _ (T4.setTop (mkF m 25 #[.val (.ref x), .val (.ref y), .val (.ref y)] []))
    refine Go.s (XS.aloadN X4.here hx rfl (hb hby dse_25) rfl rfl) ?_
    obtain ⟨T5, X5, e5, st5⟩ := getF X4 hx hZ hown (host := "") (Or.inl (own_w hw 142 rfl)) Via.refl e4 F_x_coder (g := (mkF m 26 #[.val (.ref x), .val (.ref y), .val (.ref y)] [(.ref x)])) rfl rfl (hb hby dse_26)
    refine Go.st st5 ?_
    show Go p e below s _ _ _ (T5.setTop (mkF m 29 #[.val (.ref x), .val (.ref y), .val (.ref y)] [(.int 0)]))
    refine Go.s (XS.aloadN X5.here hx rfl (hb hby dse_29) rfl rfl) ?_
    obtain ⟨T6, X6, e6, st6⟩ := getF X5 hx hZ hown (host := "") (Or.inl (own_w hw 142 rfl)) Via.refl e5 F_y_coder (g := (mkF m 30 #[.val (.ref x), .val (.ref y), .val (.ref y)] [(.ref y), (.int 0)])) rfl rfl (hb hby dse_30)
    refine Go.st st6 ?_
    show Go p e below s _ _ _ (T6.setTop (mkF m 33 #[.val (.ref x), .val (.ref y), .val (.ref y)] [(.int 0), (.int 0)]))
    refine Go.s (XS.icmpNo X6.here hx rfl (hb hby dse_33) rfl (by decide)) ?_
    show Go p e below s _ _ _ (T6.setTop (mkF m 36 #[.val (.ref x), .val (.ref y), .val (.ref y)] []))
    refine Go.s (XS.aloadN X6.here hx rfl (hb hby dse_36) rfl rfl) ?_
    obtain ⟨T7, X7, e7, st7⟩ := getF X6 hx hZ hown (host := "") (Or.inl (own_w hw 156 rfl)) Via.refl e6 F_x_value (g := (mkF m 37 #[.val (.ref x), .val (.ref y), .val (.ref y)] [(.ref x)])) rfl rfl (hb hby dse_37)
    refine Go.st st7 ?_
    show Go p e below s _ _ _ (T7.setTop (mkF m 40 #[.val (.ref x), .val (.ref y), .val (.ref y)] [(.ref t)]))
    refine Go.s (XS.aloadN X7.here hx rfl (hb hby dse_40) rfl rfl) ?_
    obtain ⟨T8, X8, e8, st8⟩ := getF X7 hx hZ hown (host := "") (Or.inl (own_w hw 156 rfl)) Via.refl e7 F_y_value (g := (mkF m 41 #[.val (.ref x), .val (.ref y), .val (.ref y)] [(.ref y), (.ref t)])) rfl rfl (hb hby dse_41)
    refine Go.st st8 ?_
    show Go p e below s _ _ _ (T8.setTop (mkF m 44 #[.val (.ref x), .val (.ref y), .val (.ref y)] [(.ref u), (.ref t)]))
    obtain ⟨_, _, ⟨T9, L9, k9, n9⟩, -, X9, ⟨Lc9, hQ9, l9, y9, z9⟩, st9⟩ := Jvm.LawKit.callS X8 hx (y := mN36) hown (mvT hZ (own_w hw 181 rfl)) (mvT hZ (own_w hw 182 rfl)) (mvT hZ (own_w hw 183 rfl)) (mvT hZ (own_w hw 184 rfl)) (by decide) (backOf (W := 0) (rmle l Z a0 hw [] t kt cs u ku h0 n0 O0 V_t V_u hl8) hZ (own_w hw 184 rfl) (own_w hw 183 rfl) (by decide) (by decide)) (g := (mkF m 44 #[.val (.ref x), .val (.ref y), .val (.ref y)] [(.ref u), (.ref t)])) rfl (by rw [hml]; rfl) (argsL := [(.ref t), (.ref u)]) (rest := []) (lenOf pdse_0 rfl) rfl (by show 2 * 0 + _ ≤ _; exact Nat.le_of_eq rfl) (hb hby dse_44) (fun _ _ => ⟨rfl, e8, (by decide : 0 + 0 ≤ _), (by decide : 0 + 0 ≤ _)⟩)
    dsimp only [Pt.U, Pt.locs, Pt.cells, Pt.slots] at X9 l9 y9 z9 st9 hQ9
    subst y9 z9
    obtain ⟨rfl, Nc9, e9⟩ := hQ9
    have N9 : Fr n0 L9 := by rw [l9]; exact Fr.app N0 Nc9
    refine Go.st st9 ?_
    show Go p e below s _ _ _ (T9.setTop (mkF m 47 #[.val (.ref x), .val (.ref y), .val (.ref y)] [(.int 1)]))
    refine Go.s (XS.ifNo X9.here hx rfl (hb hby dse_47) rfl (by decide)) ?_
    show Go p e below s _ _ _ (T9.setTop (mkF m 50 #[.val (.ref x), .val (.ref y), .val (.ref y)] []))
    refine Go.s (XS.iconst X9.here hx rfl (hb hby dse_50)) ?_
    refine Go.s (XS.goto X9.here hx rfl (pc0 := 51) (pc' := 55) rfl (hb hby dse_51) (by decide) (by decide)) ?_
    exact Go.ret X9 hlk (some (.int (nar .boolean (1 : Int32)))) (fun h => by rw [Bd.returns] at h; cases h) (by rw [e9]; exact ⟨rfl, N9, rfl⟩) (by decide) (by decide) (fun fs hr => retN X9 hx (t := .boolean) Bd.returns (by simp) (hb hby dse_55) hr)
 obtain ⟨s2, o2, st2, r2⟩ := G
 exact ⟨s2, o2, castTop (efse m x y) st2, r2⟩
theorem dat_0 : decode method_4_code 0 = .ok (.iload_n 2, 1) := by decide +kernel
theorem dat_1 : decode method_4_code 1 = .ok (.iload 4, 2) := by decide +kernel
theorem dat_3 : decode method_4_code 3 = .ok (.iload 6, 2) := by decide +kernel
theorem dat_5 : decode method_4_code 5 = .ok (.iadd, 1) := by decide +kernel
theorem dat_6 : decode method_4_code 6 = .ok (.if_icmp .lt 5, 3) := by decide +kernel
theorem dat_9 : decode method_4_code 9 = .ok (.iconst 1, 1) := by decide +kernel
theorem dat_10 : decode method_4_code 10 = .ok (.ireturn, 1) := by decide +kernel
theorem dat_11 : decode method_4_code 11 = .ok (.iload_n 2, 1) := by decide +kernel
theorem dat_12 : decode method_4_code 12 = .ok (.iload 4, 2) := by decide +kernel
theorem dat_14 : decode method_4_code 14 = .ok (.if_icmp .ge 11, 3) := by decide +kernel
theorem dat_17 : decode method_4_code 17 = .ok (.aload_n 1, 1) := by decide +kernel
theorem dat_18 : decode method_4_code 18 = .ok (.iload_n 3, 1) := by decide +kernel
theorem dat_19 : decode method_4_code 19 = .ok (.iload_n 2, 1) := by decide +kernel
theorem dat_20 : decode method_4_code 20 = .ok (.iadd, 1) := by decide +kernel
theorem dat_21 : decode method_4_code 21 = .ok (.caload, 1) := by decide +kernel
theorem dat_22 : decode method_4_code 22 = .ok (.goto 12, 3) := by decide +kernel
theorem dat_25 : decode method_4_code 25 = .ok (.aload_n 1, 1) := by decide +kernel
theorem dat_26 : decode method_4_code 26 = .ok (.iload 5, 2) := by decide +kernel
theorem dat_28 : decode method_4_code 28 = .ok (.iload_n 2, 1) := by decide +kernel
theorem dat_29 : decode method_4_code 29 = .ok (.iadd, 1) := by decide +kernel
theorem dat_30 : decode method_4_code 30 = .ok (.iload 4, 2) := by decide +kernel
theorem dat_32 : decode method_4_code 32 = .ok (.isub, 1) := by decide +kernel
theorem dat_33 : decode method_4_code 33 = .ok (.caload, 1) := by decide +kernel
theorem dat_34 : decode method_4_code 34 = .ok (.istore 7, 2) := by decide +kernel
theorem dat_36 : decode method_4_code 36 = .ok (.aload_n 0, 1) := by decide +kernel
theorem dat_37 : decode method_4_code 37 = .ok (.iload_n 2, 1) := by decide +kernel
theorem dat_38 : decode method_4_code 38 = .ok (.invokevirtual 43, 3) := by decide +kernel
theorem dat_41 : decode method_4_code 41 = .ok (.iload 7, 2) := by decide +kernel
theorem dat_43 : decode method_4_code 43 = .ok (.if_icmp .ne 7, 3) := by decide +kernel
theorem dat_46 : decode method_4_code 46 = .ok (.iconst 1, 1) := by decide +kernel
theorem dat_47 : decode method_4_code 47 = .ok (.goto 4, 3) := by decide +kernel
theorem dat_51 : decode method_4_code 51 = .ok (.ireturn, 1) := by decide +kernel
theorem pdat_0 : parseMethodDescriptor "(I)C" = some ⟨[.int], some .char⟩ := by decide +kernel
theorem pnat : plainName "com/example/pemmican/pemmican/XmlElementTextPinLaw" = true := by first | (simp [plainName, overriddenIn]; done) | decide +kernel
theorem efat (m : MethodId) (x0 : Addr) (x1 : Addr) (x2 : Int32) (x3 : Int32) (x4 : Int32) (x5 : Int32) (x6 : Int32) : entryFrame m #[(.ref x0), (.ref x1), (.int x2), (.int x3), (.int x4), (.int x5), (.int x6)] 8 = mkF m 0 #[.val (.ref x0), .val (.ref x1), .val (.int x2), .val (.int x3), .val (.int x4), .val (.int x5), .val (.int x6), .unset] [] := by first | (simp [entryFrame, mkF, argsToLocals, Value.category, maxLocals]; done) | rfl
def Qat (Z : State) (x : Addr) (t : Addr) (kt : ClassId) (cs : List Int32) (a : Addr) (ka : ClassId) (D : List Int32) (i_ : Nat) (sA : Nat) (nA : Nat) (sB : Nat) (nB : Nat) (fm : Value) (zc : Int32) (h0 : Heap) (n0 : Nat) (v : Option Value) (h : Heap) (L : List Loc) : Prop := v = some (.int 1) ∧ Fr n0 L ∧ h = h0
theorem rmat (l : Launch) (Z : State) (a0 : Array Value) (hw : ∀ d ∈ tables_1, d.before a0 Z = true) (ws : List Jvm.Cond) (x : Addr) (t : Addr) (kt : ClassId) (cs : List Int32) (a : Addr) (ka : ClassId) (D : List Int32) (i_ : Nat) (sA : Nat) (nA : Nat) (sB : Nat) (nB : Nat) (fm : Value) (zc : Int32) (h0 : Heap) (n0 : Nat) (O0 : Old Z n0 h0) (E_x : Exa Z h0 x "java/lang/String") (F_x_coder : Fld Z h0 x "java/lang/String" "coder" "B" (.int 0)) (F_x_value : Fld Z h0 x "java/lang/String" "value" "[B" (.ref t)) (V_t : Arv Z h0 t kt .byte (Int32.ofNat cs.length) (oLat cs) (.int 0)) (V_a : Arv Z h0 a ka .char (4 : Int32) (D.map Value.int) (.int 0)) (hi8 : i_ < 8) (hD : D.length = 4) (hbD : ∀ c ∈ D, ¬ c < 0 ∧ ¬ (255 : Int32) < c) (hslA : sA + nA ≤ 4) (hslB : sB + nB ≤ 4) (hq : cs = oSl D sA nA ++ oSl D sB nB) (SF : Sta Z Z.heap "jdk/internal/util/Preconditions" "SIOOBE_FORMATTER" "Ljava/util/function/BiFunction;" fm) (rf : fm.isRef = true) (SC : Sta Z Z.heap "java/lang/String" "COMPACT_STRINGS" "Z" (.int zc)) (hcs : ¬ zc = 0) :
  MetFree l mN38 (head1 (Jvm.Cond.code mN38 method_4_code 8 (some .boolean) :: ws) ({ frames := 4, cells := 0, slots := 0, locals := 53 } : Room)) (fun A_ U_ => A_ = #[(.ref x), (.ref a), (.int (Int32.ofNat i_)), (.int (Int32.ofNat sA)), (.int (Int32.ofNat nA)), (.int (Int32.ofNat sB)), (.int (Int32.ofNat nB))] ∧ Z.Warmed39 U_.vm ∧ U_.heap = h0) (fun _ _ _ _ _ => True) (fun _ U o U' => ∃ v L, o = .returned v ∧ Qat Z x t kt cs a ka D i_ sA nA sB nB fm zc h0 n0 v U'.heap L ∧ FrameEnd U o U' L ({ frames := 4, cells := 0, slots := 0, locals := 53 } : Room).cells ({ frames := 4, cells := 0, slots := 0, locals := 53 } : Room).slots) := by
 refine MetFree.of_bodySF (plainFor_of_name pnat) hisR ?_
 intro p e s m args below meth cd s₁ Bd hml0 hP hK
 obtain ⟨rfl, hZ, hh⟩ := hP
 have hx := Bd.exec
 have hby := Bd.bytes
 have hlk : meth.locks = false := BodyLoose.notSynchronized Bd
 have hml : cd.maxLocals = 8 := hml0
 have hown : s.vm.findClass "com/example/pemmican/pemmican/XmlElementTextPinLaw" = some m.cls := findClass_of_methodNamed Bd.named
 have X0 : Stand p l e ({ frames := 4, cells := 0, slots := 0, locals := 53 } : Room) s m #[(.ref x), (.ref a), (.int (Int32.ofNat i_)), (.int (Int32.ofNat sA)), (.int (Int32.ofNat nA)), (.int (Int32.ofNat sB)), (.int (Int32.ofNat nB))] below meth cd s₁ [] 0 0 := Stand.of_body Bd
 have e0 : s₁.heap = h0 := by rw [← hh, Bd.state]; rfl
 have N0 := Fr.nil n0
 have hcl : cs.length = nA + nB := by rw [hq, List.length_append, oSl_len (by omega), oSl_len (by omega)]
 have hbc : ∀ c ∈ cs, ¬ c < 0 ∧ ¬ (255 : Int32) < c := by rw [hq]; exact fun c hc => (List.mem_append.mp hc).elim (oSl_mem hbD c) (oSl_mem hbD c)
 have G : Go p e below s 0 0 (Qat Z x t kt cs a ka D i_ sA nA sB nB fm zc h0 n0) (s₁.setTop (mkF m 0 #[.val (.ref x), .val (.ref a), .val (.int (Int32.ofNat i_)), .val (.int (Int32.ofNat sA)), .val (.int (Int32.ofNat nA)), .val (.int (Int32.ofNat sB)), .val (.int (Int32.ofNat nB)), .unset] [])) := by
  refine Go.s (XS.iloadN X0.here hx rfl (hb hby dat_0) rfl) ?_
  refine Go.s (XS.iload X0.here hx rfl (hb hby dat_1) rfl) ?_
  refine Go.s (XS.iload X0.here hx rfl (hb hby dat_3) rfl) ?_
  refine Go.s (XS.iadd X0.here hx rfl (hb hby dat_5) rfl) ?_
  show Go p e below s _ _ _ (s₁.setTop (mkF m 6 #[.val (.ref x), .val (.ref a), .val (.int (Int32.ofNat i_)), .val (.int (Int32.ofNat sA)), .val (.int (Int32.ofNat nA)), .val (.int (Int32.ofNat sB)), .val (.int (Int32.ofNat nB)), .unset] [(.int ((Int32.ofNat nA) + (Int32.ofNat nB))), (.int (Int32.ofNat i_))]))
  rw [own_add]
  show Go p e below s _ _ _ (s₁.setTop (mkF m 6 #[.val (.ref x), .val (.ref a), .val (.int (Int32.ofNat i_)), .val (.int (Int32.ofNat sA)), .val (.int (Int32.ofNat nA)), .val (.int (Int32.ofNat sB)), .val (.int (Int32.ofNat nB)), .unset] [(.int (Int32.ofNat (nA + nB))), (.int (Int32.ofNat i_))]))
  by_cases c6_1 : (Int32.ofNat i_) < (Int32.ofNat (nA + nB))
  · refine Go.s (XS.icmpYes X0.here hx rfl (pc0 := 6) (pc' := 11) rfl (hb hby dat_6) rfl (XT.ii_lt_t c6_1) (by decide) (by decide)) ?_
    show Go p e below s _ _ _ (s₁.setTop (mkF m 11 #[.val (.ref x), .val (.ref a), .val (.int (Int32.ofNat i_)), .val (.int (Int32.ofNat sA)), .val (.int (Int32.ofNat nA)), .val (.int (Int32.ofNat sB)), .val (.int (Int32.ofNat nB)), .unset] []))
    have hA : i_ < nA + nB := by rw [own_nlt (by omega) (by omega)] at c6_1; exact c6_1
    refine Go.s (XS.iloadN X0.here hx rfl (hb hby dat_11) rfl) ?_
    refine Go.s (XS.iload X0.here hx rfl (hb hby dat_12) rfl) ?_
    by_cases c14_2 : (Int32.ofNat i_) < (Int32.ofNat nA)
    · refine Go.s (XS.icmpNo X0.here hx rfl (hb hby dat_14) rfl (XT.ii_ge_f c14_2)) ?_
      show Go p e below s _ _ _ (s₁.setTop (mkF m 17 #[.val (.ref x), .val (.ref a), .val (.int (Int32.ofNat i_)), .val (.int (Int32.ofNat sA)), .val (.int (Int32.ofNat nA)), .val (.int (Int32.ofNat sB)), .val (.int (Int32.ofNat nB)), .unset] []))
      have hB : i_ < nA := by rw [own_nlt (by omega) (by omega)] at c14_2; exact c14_2
      refine Go.s (XS.aloadN X0.here hx rfl (hb hby dat_17) rfl rfl) ?_
      refine Go.s (XS.iloadN X0.here hx rfl (hb hby dat_18) rfl) ?_
      refine Go.s (XS.iloadN X0.here hx rfl (hb hby dat_19) rfl) ?_
      refine Go.s (XS.iadd X0.here hx rfl (hb hby dat_20) rfl) ?_
      show Go p e below s _ _ _ (s₁.setTop (mkF m 21 #[.val (.ref x), .val (.ref a), .val (.int (Int32.ofNat i_)), .val (.int (Int32.ofNat sA)), .val (.int (Int32.ofNat nA)), .val (.int (Int32.ofNat sB)), .val (.int (Int32.ofNat nB)), .unset] [(.int ((Int32.ofNat sA) + (Int32.ofNat i_))), (.ref a)]))
      rw [own_add]
      show Go p e below s _ _ _ (s₁.setTop (mkF m 21 #[.val (.ref x), .val (.ref a), .val (.int (Int32.ofNat i_)), .val (.int (Int32.ofNat sA)), .val (.int (Int32.ofNat nA)), .val (.int (Int32.ofNat sB)), .val (.int (Int32.ofNat nB)), .unset] [(.int (Int32.ofNat (sA + i_))), (.ref a)]))
      refine Go.s (own_caload X0 hx hZ e0 V_a (own_nn (by omega)) (by rw [own_lt4 (by omega)]; omega) (v := .int (D.getD (sA + i_) 0)) (by rw [own_tn (by omega)]; exact own_getI D 0 _) (g := (mkF m 21 #[.val (.ref x), .val (.ref a), .val (.int (Int32.ofNat i_)), .val (.int (Int32.ofNat sA)), .val (.int (Int32.ofNat nA)), .val (.int (Int32.ofNat sB)), .val (.int (Int32.ofNat nB)), .unset] [(.int (Int32.ofNat (sA + i_))), (.ref a)])) rfl rfl (hb hby dat_21) _) ?_
      show Go p e below s _ _ _ (s₁.setTop (mkF m 22 #[.val (.ref x), .val (.ref a), .val (.int (Int32.ofNat i_)), .val (.int (Int32.ofNat sA)), .val (.int (Int32.ofNat nA)), .val (.int (Int32.ofNat sB)), .val (.int (Int32.ofNat nB)), .unset] [(.int (D.getD (sA + i_) 0))]))
      refine Go.s (XS.goto X0.here hx rfl (pc0 := 22) (pc' := 34) rfl (hb hby dat_22) (by decide) (by decide)) ?_
      refine Go.s (XS.istore X0.here hx rfl (hb hby dat_34) rfl (l' := #[.val (.ref x), .val (.ref a), .val (.int (Int32.ofNat i_)), .val (.int (Int32.ofNat sA)), .val (.int (Int32.ofNat nA)), .val (.int (Int32.ofNat sB)), .val (.int (Int32.ofNat nB)), .val (.int (D.getD (sA + i_) 0))]) rfl) ?_
      refine Go.s (XS.aloadN X0.here hx rfl (hb hby dat_36) rfl rfl) ?_
      refine Go.s (XS.iloadN X0.here hx rfl (hb hby dat_37) rfl) ?_
      obtain ⟨cq3, kq3, qa3, qb3, qc3⟩ := isOf hZ e0 E_x
      obtain ⟨_, _, ⟨T3, L3, k3, n3⟩, -, X3, ⟨Lc3, hQ3, l3, y3, z3⟩, st3⟩ := X0.virtualBack hx (y := mN35) (z := mN35) hown (mvT hZ (own_w hw 219 rfl)) (mvT hZ (own_w hw 220 rfl)) (notFace_of_selects (args := #[]) (mvT hZ (own_w hw 222 rfl))) (mvT hZ (own_w hw 222 rfl)) (mvT hZ (own_w hw 221 rfl)) (by decide) (backOf (W := 0) (rmca l Z a0 hw [] x t kt cs i_ fm zc h0 n0 O0 E_x F_x_coder F_x_value V_t hbc (by omega) (by omega) SF rf SC hcs) hZ (own_w hw 223 rfl) (own_w hw 6 rfl) (by decide) (by decide)) qa3 qc3 (g := (mkF m 38 #[.val (.ref x), .val (.ref a), .val (.int (Int32.ofNat i_)), .val (.int (Int32.ofNat sA)), .val (.int (Int32.ofNat nA)), .val (.int (Int32.ofNat sB)), .val (.int (Int32.ofNat nB)), .val (.int (D.getD (sA + i_) 0))] [(.int (Int32.ofNat i_)), (.ref x)])) rfl (by rw [hml]; rfl) (Steps.refl _) (argsL := [(.int (Int32.ofNat i_))]) (rest := []) (lenOf pdat_0 rfl) rfl (by show 2 * 0 + _ ≤ _; exact Nat.le_of_eq rfl) (hb hby dat_38) (fun _ _ => ⟨rfl, e0, (by decide : 0 + 0 ≤ _), (by decide : 0 + 0 ≤ _)⟩)
      dsimp only [Pt.U, Pt.locs, Pt.cells, Pt.slots] at X3 l3 y3 z3 st3 hQ3
      subst y3 z3
      obtain ⟨rfl, Nc3, e3⟩ := hQ3
      have N3 : Fr n0 L3 := by rw [l3]; exact Fr.app N0 Nc3
      refine Go.tr st3 ?_
      show Go p e below s _ _ _ (T3.setTop (mkF m 41 #[.val (.ref x), .val (.ref a), .val (.int (Int32.ofNat i_)), .val (.int (Int32.ofNat sA)), .val (.int (Int32.ofNat nA)), .val (.int (Int32.ofNat sB)), .val (.int (Int32.ofNat nB)), .val (.int (D.getD (sA + i_) 0))] [(.int (cs.getD i_ 0))]))
      refine Go.s (XS.iload X3.here hx rfl (hb hby dat_41) rfl) ?_
      refine Go.s (XS.icmpNo X3.here hx rfl (hb hby dat_43) rfl (XT.ii_ne_f (by rw [hq]; exact own_at1 hB (by omega)))) ?_
      show Go p e below s _ _ _ (T3.setTop (mkF m 46 #[.val (.ref x), .val (.ref a), .val (.int (Int32.ofNat i_)), .val (.int (Int32.ofNat sA)), .val (.int (Int32.ofNat nA)), .val (.int (Int32.ofNat sB)), .val (.int (Int32.ofNat nB)), .val (.int (D.getD (sA + i_) 0))] []))
      refine Go.s (XS.iconst X3.here hx rfl (hb hby dat_46)) ?_
      refine Go.s (XS.goto X3.here hx rfl (pc0 := 47) (pc' := 51) rfl (hb hby dat_47) (by decide) (by decide)) ?_
      exact Go.ret X3 hlk (some (.int (nar .boolean (1 : Int32)))) (fun h => by rw [Bd.returns] at h; cases h) (by rw [e3]; exact ⟨rfl, N3, rfl⟩) (by decide) (by decide) (fun fs hr => retN X3 hx (t := .boolean) Bd.returns (by simp) (hb hby dat_51) hr)
    · refine Go.s (XS.icmpYes X0.here hx rfl (pc0 := 14) (pc' := 25) rfl (hb hby dat_14) rfl (XT.ii_ge_t c14_2) (by decide) (by decide)) ?_
      show Go p e below s _ _ _ (s₁.setTop (mkF m 25 #[.val (.ref x), .val (.ref a), .val (.int (Int32.ofNat i_)), .val (.int (Int32.ofNat sA)), .val (.int (Int32.ofNat nA)), .val (.int (Int32.ofNat sB)), .val (.int (Int32.ofNat nB)), .unset] []))
      have hB : ¬ i_ < nA := by rw [own_nlt (by omega) (by omega)] at c14_2; exact c14_2
      refine Go.s (XS.aloadN X0.here hx rfl (hb hby dat_25) rfl rfl) ?_
      refine Go.s (XS.iload X0.here hx rfl (hb hby dat_26) rfl) ?_
      refine Go.s (XS.iloadN X0.here hx rfl (hb hby dat_28) rfl) ?_
      refine Go.s (XS.iadd X0.here hx rfl (hb hby dat_29) rfl) ?_
      show Go p e below s _ _ _ (s₁.setTop (mkF m 30 #[.val (.ref x), .val (.ref a), .val (.int (Int32.ofNat i_)), .val (.int (Int32.ofNat sA)), .val (.int (Int32.ofNat nA)), .val (.int (Int32.ofNat sB)), .val (.int (Int32.ofNat nB)), .unset] [(.int ((Int32.ofNat sB) + (Int32.ofNat i_))), (.ref a)]))
      rw [own_add]
      show Go p e below s _ _ _ (s₁.setTop (mkF m 30 #[.val (.ref x), .val (.ref a), .val (.int (Int32.ofNat i_)), .val (.int (Int32.ofNat sA)), .val (.int (Int32.ofNat nA)), .val (.int (Int32.ofNat sB)), .val (.int (Int32.ofNat nB)), .unset] [(.int (Int32.ofNat (sB + i_))), (.ref a)]))
      refine Go.s (XS.iload X0.here hx rfl (hb hby dat_30) rfl) ?_
      refine Go.s (XS.isub X0.here hx rfl (hb hby dat_32) rfl) ?_
      show Go p e below s _ _ _ (s₁.setTop (mkF m 33 #[.val (.ref x), .val (.ref a), .val (.int (Int32.ofNat i_)), .val (.int (Int32.ofNat sA)), .val (.int (Int32.ofNat nA)), .val (.int (Int32.ofNat sB)), .val (.int (Int32.ofNat nB)), .unset] [(.int ((Int32.ofNat (sB + i_)) - (Int32.ofNat nA))), (.ref a)]))
      rw [own_sub (by omega)]
      show Go p e below s _ _ _ (s₁.setTop (mkF m 33 #[.val (.ref x), .val (.ref a), .val (.int (Int32.ofNat i_)), .val (.int (Int32.ofNat sA)), .val (.int (Int32.ofNat nA)), .val (.int (Int32.ofNat sB)), .val (.int (Int32.ofNat nB)), .unset] [(.int (Int32.ofNat (sB + i_ - nA))), (.ref a)]))
      refine Go.s (own_caload X0 hx hZ e0 V_a (own_nn (by omega)) (by rw [own_lt4 (by omega)]; omega) (v := .int (D.getD (sB + i_ - nA) 0)) (by rw [own_tn (by omega)]; exact own_getI D 0 _) (g := (mkF m 33 #[.val (.ref x), .val (.ref a), .val (.int (Int32.ofNat i_)), .val (.int (Int32.ofNat sA)), .val (.int (Int32.ofNat nA)), .val (.int (Int32.ofNat sB)), .val (.int (Int32.ofNat nB)), .unset] [(.int (Int32.ofNat (sB + i_ - nA))), (.ref a)])) rfl rfl (hb hby dat_33) _) ?_
      show Go p e below s _ _ _ (s₁.setTop (mkF m 34 #[.val (.ref x), .val (.ref a), .val (.int (Int32.ofNat i_)), .val (.int (Int32.ofNat sA)), .val (.int (Int32.ofNat nA)), .val (.int (Int32.ofNat sB)), .val (.int (Int32.ofNat nB)), .unset] [(.int (D.getD (sB + i_ - nA) 0))]))
      refine Go.s (XS.istore X0.here hx rfl (hb hby dat_34) rfl (l' := #[.val (.ref x), .val (.ref a), .val (.int (Int32.ofNat i_)), .val (.int (Int32.ofNat sA)), .val (.int (Int32.ofNat nA)), .val (.int (Int32.ofNat sB)), .val (.int (Int32.ofNat nB)), .val (.int (D.getD (sB + i_ - nA) 0))]) rfl) ?_
      refine Go.s (XS.aloadN X0.here hx rfl (hb hby dat_36) rfl rfl) ?_
      refine Go.s (XS.iloadN X0.here hx rfl (hb hby dat_37) rfl) ?_
      obtain ⟨cq4, kq4, qa4, qb4, qc4⟩ := isOf hZ e0 E_x
      obtain ⟨_, _, ⟨T4, L4, k4, n4⟩, -, X4, ⟨Lc4, hQ4, l4, y4, z4⟩, st4⟩ := X0.virtualBack hx (y := mN35) (z := mN35) hown (mvT hZ (own_w hw 219 rfl)) (mvT hZ (own_w hw 220 rfl)) (notFace_of_selects (args := #[]) (mvT hZ (own_w hw 222 rfl))) (mvT hZ (own_w hw 222 rfl)) (mvT hZ (own_w hw 221 rfl)) (by decide) (backOf (W := 0) (rmca l Z a0 hw [] x t kt cs i_ fm zc h0 n0 O0 E_x F_x_coder F_x_value V_t hbc (by omega) (by omega) SF rf SC hcs) hZ (own_w hw 223 rfl) (own_w hw 6 rfl) (by decide) (by decide)) qa4 qc4 (g := (mkF m 38 #[.val (.ref x), .val (.ref a), .val (.int (Int32.ofNat i_)), .val (.int (Int32.ofNat sA)), .val (.int (Int32.ofNat nA)), .val (.int (Int32.ofNat sB)), .val (.int (Int32.ofNat nB)), .val (.int (D.getD (sB + i_ - nA) 0))] [(.int (Int32.ofNat i_)), (.ref x)])) rfl (by rw [hml]; rfl) (Steps.refl _) (argsL := [(.int (Int32.ofNat i_))]) (rest := []) (lenOf pdat_0 rfl) rfl (by show 2 * 0 + _ ≤ _; exact Nat.le_of_eq rfl) (hb hby dat_38) (fun _ _ => ⟨rfl, e0, (by decide : 0 + 0 ≤ _), (by decide : 0 + 0 ≤ _)⟩)
      dsimp only [Pt.U, Pt.locs, Pt.cells, Pt.slots] at X4 l4 y4 z4 st4 hQ4
      subst y4 z4
      obtain ⟨rfl, Nc4, e4⟩ := hQ4
      have N4 : Fr n0 L4 := by rw [l4]; exact Fr.app N0 Nc4
      refine Go.tr st4 ?_
      show Go p e below s _ _ _ (T4.setTop (mkF m 41 #[.val (.ref x), .val (.ref a), .val (.int (Int32.ofNat i_)), .val (.int (Int32.ofNat sA)), .val (.int (Int32.ofNat nA)), .val (.int (Int32.ofNat sB)), .val (.int (Int32.ofNat nB)), .val (.int (D.getD (sB + i_ - nA) 0))] [(.int (cs.getD i_ 0))]))
      refine Go.s (XS.iload X4.here hx rfl (hb hby dat_41) rfl) ?_
      refine Go.s (XS.icmpNo X4.here hx rfl (hb hby dat_43) rfl (XT.ii_ne_f (by rw [hq]; exact own_at2 hB (by omega) hA))) ?_
      show Go p e below s _ _ _ (T4.setTop (mkF m 46 #[.val (.ref x), .val (.ref a), .val (.int (Int32.ofNat i_)), .val (.int (Int32.ofNat sA)), .val (.int (Int32.ofNat nA)), .val (.int (Int32.ofNat sB)), .val (.int (Int32.ofNat nB)), .val (.int (D.getD (sB + i_ - nA) 0))] []))
      refine Go.s (XS.iconst X4.here hx rfl (hb hby dat_46)) ?_
      refine Go.s (XS.goto X4.here hx rfl (pc0 := 47) (pc' := 51) rfl (hb hby dat_47) (by decide) (by decide)) ?_
      exact Go.ret X4 hlk (some (.int (nar .boolean (1 : Int32)))) (fun h => by rw [Bd.returns] at h; cases h) (by rw [e4]; exact ⟨rfl, N4, rfl⟩) (by decide) (by decide) (fun fs hr => retN X4 hx (t := .boolean) Bd.returns (by simp) (hb hby dat_51) hr)
  · refine Go.s (XS.icmpNo X0.here hx rfl (hb hby dat_6) rfl (XT.ii_lt_f c6_1)) ?_
    show Go p e below s _ _ _ (s₁.setTop (mkF m 9 #[.val (.ref x), .val (.ref a), .val (.int (Int32.ofNat i_)), .val (.int (Int32.ofNat sA)), .val (.int (Int32.ofNat nA)), .val (.int (Int32.ofNat sB)), .val (.int (Int32.ofNat nB)), .unset] []))
    refine Go.s (XS.iconst X0.here hx rfl (hb hby dat_9)) ?_
    exact Go.ret X0 hlk (some (.int (nar .boolean (1 : Int32)))) (fun h => by rw [Bd.returns] at h; cases h) (by rw [e0]; exact ⟨rfl, N0, rfl⟩) (by decide) (by decide) (fun fs hr => retN X0 hx (t := .boolean) Bd.returns (by simp) (hb hby dat_10) hr)
 obtain ⟨s2, o2, st2, r2⟩ := G
 exact ⟨s2, o2, castTop (efat m x a (Int32.ofNat i_) (Int32.ofNat sA) (Int32.ofNat nA) (Int32.ofNat sB) (Int32.ofNat nB)) st2, r2⟩
theorem dmt_0 : decode method_3_code 0 = .ok (.aload_n 0, 1) := by decide +kernel
theorem dmt_1 : decode method_3_code 1 = .ok (.ifnonnull 5, 3) := by decide +kernel
theorem dmt_6 : decode method_3_code 6 = .ok (.aload_n 0, 1) := by decide +kernel
theorem dmt_7 : decode method_3_code 7 = .ok (.invokevirtual 35, 3) := by decide +kernel
theorem dmt_10 : decode method_3_code 10 = .ok (.iload_n 3, 1) := by decide +kernel
theorem dmt_11 : decode method_3_code 11 = .ok (.iload 5, 2) := by decide +kernel
theorem dmt_13 : decode method_3_code 13 = .ok (.iadd, 1) := by decide +kernel
theorem dmt_14 : decode method_3_code 14 = .ok (.if_icmp .eq 5, 3) := by decide +kernel
theorem dmt_19 : decode method_3_code 19 = .ok (.aload_n 0, 1) := by decide +kernel
theorem dmt_20 : decode method_3_code 20 = .ok (.aload_n 1, 1) := by decide +kernel
theorem dmt_21 : decode method_3_code 21 = .ok (.iconst 0, 1) := by decide +kernel
theorem dmt_22 : decode method_3_code 22 = .ok (.iload_n 2, 1) := by decide +kernel
theorem dmt_23 : decode method_3_code 23 = .ok (.iload_n 3, 1) := by decide +kernel
theorem dmt_24 : decode method_3_code 24 = .ok (.iload 4, 2) := by decide +kernel
theorem dmt_26 : decode method_3_code 26 = .ok (.iload 5, 2) := by decide +kernel
theorem dmt_28 : decode method_3_code 28 = .ok (.invokestatic 39, 3) := by decide +kernel
theorem dmt_31 : decode method_3_code 31 = .ok (.ifCond .eq 114, 3) := by decide +kernel
theorem dmt_34 : decode method_3_code 34 = .ok (.aload_n 0, 1) := by decide +kernel
theorem dmt_35 : decode method_3_code 35 = .ok (.aload_n 1, 1) := by decide +kernel
theorem dmt_36 : decode method_3_code 36 = .ok (.iconst 1, 1) := by decide +kernel
theorem dmt_37 : decode method_3_code 37 = .ok (.iload_n 2, 1) := by decide +kernel
theorem dmt_38 : decode method_3_code 38 = .ok (.iload_n 3, 1) := by decide +kernel
theorem dmt_39 : decode method_3_code 39 = .ok (.iload 4, 2) := by decide +kernel
theorem dmt_41 : decode method_3_code 41 = .ok (.iload 5, 2) := by decide +kernel
theorem dmt_43 : decode method_3_code 43 = .ok (.invokestatic 39, 3) := by decide +kernel
theorem dmt_46 : decode method_3_code 46 = .ok (.ifCond .eq 99, 3) := by decide +kernel
theorem dmt_49 : decode method_3_code 49 = .ok (.aload_n 0, 1) := by decide +kernel
theorem dmt_50 : decode method_3_code 50 = .ok (.aload_n 1, 1) := by decide +kernel
theorem dmt_51 : decode method_3_code 51 = .ok (.iconst 2, 1) := by decide +kernel
theorem dmt_52 : decode method_3_code 52 = .ok (.iload_n 2, 1) := by decide +kernel
theorem dmt_53 : decode method_3_code 53 = .ok (.iload_n 3, 1) := by decide +kernel
theorem dmt_54 : decode method_3_code 54 = .ok (.iload 4, 2) := by decide +kernel
theorem dmt_56 : decode method_3_code 56 = .ok (.iload 5, 2) := by decide +kernel
theorem dmt_58 : decode method_3_code 58 = .ok (.invokestatic 39, 3) := by decide +kernel
theorem dmt_61 : decode method_3_code 61 = .ok (.ifCond .eq 84, 3) := by decide +kernel
theorem dmt_64 : decode method_3_code 64 = .ok (.aload_n 0, 1) := by decide +kernel
theorem dmt_65 : decode method_3_code 65 = .ok (.aload_n 1, 1) := by decide +kernel
theorem dmt_66 : decode method_3_code 66 = .ok (.iconst 3, 1) := by decide +kernel
theorem dmt_67 : decode method_3_code 67 = .ok (.iload_n 2, 1) := by decide +kernel
theorem dmt_68 : decode method_3_code 68 = .ok (.iload_n 3, 1) := by decide +kernel
theorem dmt_69 : decode method_3_code 69 = .ok (.iload 4, 2) := by decide +kernel
theorem dmt_71 : decode method_3_code 71 = .ok (.iload 5, 2) := by decide +kernel
theorem dmt_73 : decode method_3_code 73 = .ok (.invokestatic 39, 3) := by decide +kernel
theorem dmt_76 : decode method_3_code 76 = .ok (.ifCond .eq 69, 3) := by decide +kernel
theorem dmt_79 : decode method_3_code 79 = .ok (.aload_n 0, 1) := by decide +kernel
theorem dmt_80 : decode method_3_code 80 = .ok (.aload_n 1, 1) := by decide +kernel
theorem dmt_81 : decode method_3_code 81 = .ok (.iconst 4, 1) := by decide +kernel
theorem dmt_82 : decode method_3_code 82 = .ok (.iload_n 2, 1) := by decide +kernel
theorem dmt_83 : decode method_3_code 83 = .ok (.iload_n 3, 1) := by decide +kernel
theorem dmt_84 : decode method_3_code 84 = .ok (.iload 4, 2) := by decide +kernel
theorem dmt_86 : decode method_3_code 86 = .ok (.iload 5, 2) := by decide +kernel
theorem dmt_88 : decode method_3_code 88 = .ok (.invokestatic 39, 3) := by decide +kernel
theorem dmt_91 : decode method_3_code 91 = .ok (.ifCond .eq 54, 3) := by decide +kernel
theorem dmt_94 : decode method_3_code 94 = .ok (.aload_n 0, 1) := by decide +kernel
theorem dmt_95 : decode method_3_code 95 = .ok (.aload_n 1, 1) := by decide +kernel
theorem dmt_96 : decode method_3_code 96 = .ok (.iconst 5, 1) := by decide +kernel
theorem dmt_97 : decode method_3_code 97 = .ok (.iload_n 2, 1) := by decide +kernel
theorem dmt_98 : decode method_3_code 98 = .ok (.iload_n 3, 1) := by decide +kernel
theorem dmt_99 : decode method_3_code 99 = .ok (.iload 4, 2) := by decide +kernel
theorem dmt_101 : decode method_3_code 101 = .ok (.iload 5, 2) := by decide +kernel
theorem dmt_103 : decode method_3_code 103 = .ok (.invokestatic 39, 3) := by decide +kernel
theorem dmt_106 : decode method_3_code 106 = .ok (.ifCond .eq 39, 3) := by decide +kernel
theorem dmt_109 : decode method_3_code 109 = .ok (.aload_n 0, 1) := by decide +kernel
theorem dmt_110 : decode method_3_code 110 = .ok (.aload_n 1, 1) := by decide +kernel
theorem dmt_111 : decode method_3_code 111 = .ok (.bipush 6, 2) := by decide +kernel
theorem dmt_113 : decode method_3_code 113 = .ok (.iload_n 2, 1) := by decide +kernel
theorem dmt_114 : decode method_3_code 114 = .ok (.iload_n 3, 1) := by decide +kernel
theorem dmt_115 : decode method_3_code 115 = .ok (.iload 4, 2) := by decide +kernel
theorem dmt_117 : decode method_3_code 117 = .ok (.iload 5, 2) := by decide +kernel
theorem dmt_119 : decode method_3_code 119 = .ok (.invokestatic 39, 3) := by decide +kernel
theorem dmt_122 : decode method_3_code 122 = .ok (.ifCond .eq 23, 3) := by decide +kernel
theorem dmt_125 : decode method_3_code 125 = .ok (.aload_n 0, 1) := by decide +kernel
theorem dmt_126 : decode method_3_code 126 = .ok (.aload_n 1, 1) := by decide +kernel
theorem dmt_127 : decode method_3_code 127 = .ok (.bipush 7, 2) := by decide +kernel
theorem dmt_129 : decode method_3_code 129 = .ok (.iload_n 2, 1) := by decide +kernel
theorem dmt_130 : decode method_3_code 130 = .ok (.iload_n 3, 1) := by decide +kernel
theorem dmt_131 : decode method_3_code 131 = .ok (.iload 4, 2) := by decide +kernel
theorem dmt_133 : decode method_3_code 133 = .ok (.iload 5, 2) := by decide +kernel
theorem dmt_135 : decode method_3_code 135 = .ok (.invokestatic 39, 3) := by decide +kernel
theorem dmt_138 : decode method_3_code 138 = .ok (.ifCond .eq 7, 3) := by decide +kernel
theorem dmt_141 : decode method_3_code 141 = .ok (.iconst 1, 1) := by decide +kernel
theorem dmt_142 : decode method_3_code 142 = .ok (.goto 4, 3) := by decide +kernel
theorem dmt_146 : decode method_3_code 146 = .ok (.ireturn, 1) := by decide +kernel
theorem pdmt_0 : parseMethodDescriptor "(Ljava/lang/String;[CIIIII)Z" = some ⟨[(.object "java/lang/String"), (.array .char), .int, .int, .int, .int, .int], some .boolean⟩ := by decide +kernel
theorem pnmt : plainName "com/example/pemmican/pemmican/XmlElementTextPinLaw" = true := by first | (simp [plainName, overriddenIn]; done) | decide +kernel
theorem efmt (m : MethodId) (x0 : Addr) (x1 : Addr) (x2 : Int32) (x3 : Int32) (x4 : Int32) (x5 : Int32) : entryFrame m #[(.ref x0), (.ref x1), (.int x2), (.int x3), (.int x4), (.int x5)] 6 = mkF m 0 #[.val (.ref x0), .val (.ref x1), .val (.int x2), .val (.int x3), .val (.int x4), .val (.int x5)] [] := by first | (simp [entryFrame, mkF, argsToLocals, Value.category, maxLocals]; done) | rfl
def Qmt (Z : State) (x : Addr) (t : Addr) (kt : ClassId) (cs : List Int32) (a : Addr) (ka : ClassId) (D : List Int32) (sA : Nat) (nA : Nat) (sB : Nat) (nB : Nat) (fm : Value) (zc : Int32) (h0 : Heap) (n0 : Nat) (v : Option Value) (h : Heap) (L : List Loc) : Prop := v = some (.int 1) ∧ Fr n0 L ∧ h = h0
theorem rmmt (l : Launch) (Z : State) (a0 : Array Value) (hw : ∀ d ∈ tables_1, d.before a0 Z = true) (ws : List Jvm.Cond) (x : Addr) (t : Addr) (kt : ClassId) (cs : List Int32) (a : Addr) (ka : ClassId) (D : List Int32) (sA : Nat) (nA : Nat) (sB : Nat) (nB : Nat) (fm : Value) (zc : Int32) (h0 : Heap) (n0 : Nat) (O0 : Old Z n0 h0) (E_x : Exa Z h0 x "java/lang/String") (F_x_coder : Fld Z h0 x "java/lang/String" "coder" "B" (.int 0)) (F_x_value : Fld Z h0 x "java/lang/String" "value" "[B" (.ref t)) (V_t : Arv Z h0 t kt .byte (Int32.ofNat cs.length) (oLat cs) (.int 0)) (V_a : Arv Z h0 a ka .char (4 : Int32) (D.map Value.int) (.int 0)) (hD : D.length = 4) (hbD : ∀ c ∈ D, ¬ c < 0 ∧ ¬ (255 : Int32) < c) (hslA : sA + nA ≤ 4) (hslB : sB + nB ≤ 4) (hq : cs = oSl D sA nA ++ oSl D sB nB) (SF : Sta Z Z.heap "jdk/internal/util/Preconditions" "SIOOBE_FORMATTER" "Ljava/util/function/BiFunction;" fm) (rf : fm.isRef = true) (SC : Sta Z Z.heap "java/lang/String" "COMPACT_STRINGS" "Z" (.int zc)) (hcs : ¬ zc = 0) :
  MetFree l mN39 (head1 (Jvm.Cond.code mN39 method_3_code 6 (some .boolean) :: ws) ({ frames := 5, cells := 0, slots := 0, locals := 72 } : Room)) (fun A_ U_ => A_ = #[(.ref x), (.ref a), (.int (Int32.ofNat sA)), (.int (Int32.ofNat nA)), (.int (Int32.ofNat sB)), (.int (Int32.ofNat nB))] ∧ Z.Warmed39 U_.vm ∧ U_.heap = h0) (fun _ _ _ _ _ => True) (fun _ U o U' => ∃ v L, o = .returned v ∧ Qmt Z x t kt cs a ka D sA nA sB nB fm zc h0 n0 v U'.heap L ∧ FrameEnd U o U' L ({ frames := 5, cells := 0, slots := 0, locals := 72 } : Room).cells ({ frames := 5, cells := 0, slots := 0, locals := 72 } : Room).slots) := by
 refine MetFree.of_bodySF (plainFor_of_name pnmt) hisR ?_
 intro p e s m args below meth cd s₁ Bd hml0 hP hK
 obtain ⟨rfl, hZ, hh⟩ := hP
 have hx := Bd.exec
 have hby := Bd.bytes
 have hlk : meth.locks = false := BodyLoose.notSynchronized Bd
 have hml : cd.maxLocals = 6 := hml0
 have hown : s.vm.findClass "com/example/pemmican/pemmican/XmlElementTextPinLaw" = some m.cls := findClass_of_methodNamed Bd.named
 have X0 : Stand p l e ({ frames := 5, cells := 0, slots := 0, locals := 72 } : Room) s m #[(.ref x), (.ref a), (.int (Int32.ofNat sA)), (.int (Int32.ofNat nA)), (.int (Int32.ofNat sB)), (.int (Int32.ofNat nB))] below meth cd s₁ [] 0 0 := Stand.of_body Bd
 have e0 : s₁.heap = h0 := by rw [← hh, Bd.state]; rfl
 have N0 := Fr.nil n0
 have hcl : cs.length = nA + nB := by rw [hq, List.length_append, oSl_len (by omega), oSl_len (by omega)]
 have hbc : ∀ c ∈ cs, ¬ c < 0 ∧ ¬ (255 : Int32) < c := by rw [hq]; exact fun c hc => (List.mem_append.mp hc).elim (oSl_mem hbD c) (oSl_mem hbD c)
 have G : Go p e below s 0 0 (Qmt Z x t kt cs a ka D sA nA sB nB fm zc h0 n0) (s₁.setTop (mkF m 0 #[.val (.ref x), .val (.ref a), .val (.int (Int32.ofNat sA)), .val (.int (Int32.ofNat nA)), .val (.int (Int32.ofNat sB)), .val (.int (Int32.ofNat nB))] [])) := by
  refine Go.s (XS.aloadN X0.here hx rfl (hb hby dmt_0) rfl rfl) ?_
  refine Go.s (XT.ifnonnullYes X0.here hx rfl (pc0 := 1) (pc' := 6) rfl (hb hby dmt_1) rfl (by decide) (by decide)) ?_
  show Go p e below s _ _ _ (s₁.setTop (mkF m 6 #[.val (.ref x), .val (.ref a), .val (.int (Int32.ofNat sA)), .val (.int (Int32.ofNat nA)), .val (.int (Int32.ofNat sB)), .val (.int (Int32.ofNat nB))] []))
  refine Go.s (XS.aloadN X0.here hx rfl (hb hby dmt_6) rfl rfl) ?_
  obtain ⟨cq1, kq1, qa1, qb1, qc1⟩ := isOf hZ e0 E_x
  obtain ⟨_, _, ⟨T1, L1, k1, n1⟩, -, X1, ⟨Lc1, hQ1, l1, y1, z1⟩, st1⟩ := X0.virtualBack hx (y := mN31) (z := mN31) hown (mvT hZ (own_w hw 161 rfl)) (mvT hZ (own_w hw 162 rfl)) (notFace_of_selects (args := #[]) (mvT hZ (own_w hw 164 rfl))) (mvT hZ (own_w hw 164 rfl)) (mvT hZ (own_w hw 163 rfl)) (by decide) (backOf (W := 0) (rmsl l Z a0 hw [] x t kt cs zc h0 n0 O0 E_x F_x_coder F_x_value V_t SC hcs) hZ (own_w hw 165 rfl) (own_w hw 6 rfl) (by decide) (by decide)) qa1 qc1 (g := (mkF m 7 #[.val (.ref x), .val (.ref a), .val (.int (Int32.ofNat sA)), .val (.int (Int32.ofNat nA)), .val (.int (Int32.ofNat sB)), .val (.int (Int32.ofNat nB))] [(.ref x)])) rfl (by rw [hml]; rfl) (Steps.refl _) (argsL := []) (rest := []) (lenOf pdbl_0 rfl) rfl (by show 2 * 0 + _ ≤ _; exact Nat.le_of_eq rfl) (hb hby dmt_7) (fun _ _ => ⟨rfl, e0, (by decide : 0 + 0 ≤ _), (by decide : 0 + 0 ≤ _)⟩)
  dsimp only [Pt.U, Pt.locs, Pt.cells, Pt.slots] at X1 l1 y1 z1 st1 hQ1
  subst y1 z1
  obtain ⟨rfl, Nc1, e1⟩ := hQ1
  have N1 : Fr n0 L1 := by rw [l1]; exact Fr.app N0 Nc1
  refine Go.tr st1 ?_
  show Go p e below s _ _ _ (T1.setTop (mkF m 10 #[.val (.ref x), .val (.ref a), .val (.int (Int32.ofNat sA)), .val (.int (Int32.ofNat nA)), .val (.int (Int32.ofNat sB)), .val (.int (Int32.ofNat nB))] [(.int (Int32.ofNat cs.length))]))
  refine Go.s (XS.iloadN X1.here hx rfl (hb hby dmt_10) rfl) ?_
  refine Go.s (XS.iload X1.here hx rfl (hb hby dmt_11) rfl) ?_
  refine Go.s (XS.iadd X1.here hx rfl (hb hby dmt_13) rfl) ?_
  show Go p e below s _ _ _ (T1.setTop (mkF m 14 #[.val (.ref x), .val (.ref a), .val (.int (Int32.ofNat sA)), .val (.int (Int32.ofNat nA)), .val (.int (Int32.ofNat sB)), .val (.int (Int32.ofNat nB))] [(.int ((Int32.ofNat nA) + (Int32.ofNat nB))), (.int (Int32.ofNat cs.length))]))
  rw [own_add]
  show Go p e below s _ _ _ (T1.setTop (mkF m 14 #[.val (.ref x), .val (.ref a), .val (.int (Int32.ofNat sA)), .val (.int (Int32.ofNat nA)), .val (.int (Int32.ofNat sB)), .val (.int (Int32.ofNat nB))] [(.int (Int32.ofNat (nA + nB))), (.int (Int32.ofNat cs.length))]))
  refine Go.s (XS.icmpYes X1.here hx rfl (pc0 := 14) (pc' := 19) rfl (hb hby dmt_14) rfl (XT.ii_eq_t (by rw [hcl])) (by decide) (by decide)) ?_
  show Go p e below s _ _ _ (T1.setTop (mkF m 19 #[.val (.ref x), .val (.ref a), .val (.int (Int32.ofNat sA)), .val (.int (Int32.ofNat nA)), .val (.int (Int32.ofNat sB)), .val (.int (Int32.ofNat nB))] []))
  refine Go.s (XS.aloadN X1.here hx rfl (hb hby dmt_19) rfl rfl) ?_
  refine Go.s (XS.aloadN X1.here hx rfl (hb hby dmt_20) rfl rfl) ?_
  refine Go.s (XS.iconst X1.here hx rfl (hb hby dmt_21)) ?_
  refine Go.s (XS.iloadN X1.here hx rfl (hb hby dmt_22) rfl) ?_
  refine Go.s (XS.iloadN X1.here hx rfl (hb hby dmt_23) rfl) ?_
  refine Go.s (XS.iload X1.here hx rfl (hb hby dmt_24) rfl) ?_
  refine Go.s (XS.iload X1.here hx rfl (hb hby dmt_26) rfl) ?_
  obtain ⟨_, _, ⟨T2, L2, k2, n2⟩, -, X2, ⟨Lc2, hQ2, l2, y2, z2⟩, st2⟩ := Jvm.LawKit.callS X1 hx (y := mN38) hown (mvT hZ (own_w hw 172 rfl)) (mvT hZ (own_w hw 173 rfl)) (mvT hZ (own_w hw 159 rfl)) (mvT hZ (own_w hw 174 rfl)) (by decide) (backOf (W := 0) (rmat l Z a0 hw [] x t kt cs a ka D 0 sA nA sB nB fm zc h0 n0 O0 E_x F_x_coder F_x_value V_t V_a (by decide) hD hbD hslA hslB hq SF rf SC hcs) hZ (own_w hw 174 rfl) (own_w hw 159 rfl) (by decide) (by decide)) (g := (mkF m 28 #[.val (.ref x), .val (.ref a), .val (.int (Int32.ofNat sA)), .val (.int (Int32.ofNat nA)), .val (.int (Int32.ofNat sB)), .val (.int (Int32.ofNat nB))] [(.int (Int32.ofNat nB)), (.int (Int32.ofNat sB)), (.int (Int32.ofNat nA)), (.int (Int32.ofNat sA)), (.int 0), (.ref a), (.ref x)])) rfl (by rw [hml]; rfl) (argsL := [(.ref x), (.ref a), (.int 0), (.int (Int32.ofNat sA)), (.int (Int32.ofNat nA)), (.int (Int32.ofNat sB)), (.int (Int32.ofNat nB))]) (rest := []) (lenOf pdmt_0 rfl) rfl (by show 2 * 0 + _ ≤ _; exact Nat.le_of_eq rfl) (hb hby dmt_28) (fun _ _ => ⟨rfl, e1, (by decide : 0 + 0 ≤ _), (by decide : 0 + 0 ≤ _)⟩)
  dsimp only [Pt.U, Pt.locs, Pt.cells, Pt.slots] at X2 l2 y2 z2 st2 hQ2
  subst y2 z2
  obtain ⟨rfl, Nc2, e2⟩ := hQ2
  have N2 : Fr n0 L2 := by rw [l2]; exact Fr.app N1 Nc2
  refine Go.st st2 ?_
  show Go p e below s _ _ _ (T2.setTop (mkF m 31 #[.val (.ref x), .val (.ref a), .val (.int (Int32.ofNat sA)), .val (.int (Int32.ofNat nA)), .val (.int (Int32.ofNat sB)), .val (.int (Int32.ofNat nB))] [(.int 1)]))
  refine Go.s (XS.ifNo X2.here hx rfl (hb hby dmt_31) rfl (by decide)) ?_
  show Go p e below s _ _ _ (T2.setTop (mkF m 34 #[.val (.ref x), .val (.ref a), .val (.int (Int32.ofNat sA)), .val (.int (Int32.ofNat nA)), .val (.int (Int32.ofNat sB)), .val (.int (Int32.ofNat nB))] []))
  refine Go.s (XS.aloadN X2.here hx rfl (hb hby dmt_34) rfl rfl) ?_
  refine Go.s (XS.aloadN X2.here hx rfl (hb hby dmt_35) rfl rfl) ?_
  refine Go.s (XS.iconst X2.here hx rfl (hb hby dmt_36)) ?_
  refine Go.s (XS.iloadN X2.here hx rfl (hb hby dmt_37) rfl) ?_
  refine Go.s (XS.iloadN X2.here hx rfl (hb hby dmt_38) rfl) ?_
  refine Go.s (XS.iload X2.here hx rfl (hb hby dmt_39) rfl) ?_
  refine Go.s (XS.iload X2.here hx rfl (hb hby dmt_41) rfl) ?_
  obtain ⟨_, _, ⟨T3, L3, k3, n3⟩, -, X3, ⟨Lc3, hQ3, l3, y3, z3⟩, st3⟩ := Jvm.LawKit.callS X2 hx (y := mN38) hown (mvT hZ (own_w hw 172 rfl)) (mvT hZ (own_w hw 173 rfl)) (mvT hZ (own_w hw 159 rfl)) (mvT hZ (own_w hw 174 rfl)) (by decide) (backOf (W := 0) (rmat l Z a0 hw [] x t kt cs a ka D 1 sA nA sB nB fm zc h0 n0 O0 E_x F_x_coder F_x_value V_t V_a (by decide) hD hbD hslA hslB hq SF rf SC hcs) hZ (own_w hw 174 rfl) (own_w hw 159 rfl) (by decide) (by decide)) (g := (mkF m 43 #[.val (.ref x), .val (.ref a), .val (.int (Int32.ofNat sA)), .val (.int (Int32.ofNat nA)), .val (.int (Int32.ofNat sB)), .val (.int (Int32.ofNat nB))] [(.int (Int32.ofNat nB)), (.int (Int32.ofNat sB)), (.int (Int32.ofNat nA)), (.int (Int32.ofNat sA)), (.int 1), (.ref a), (.ref x)])) rfl (by rw [hml]; rfl) (argsL := [(.ref x), (.ref a), (.int 1), (.int (Int32.ofNat sA)), (.int (Int32.ofNat nA)), (.int (Int32.ofNat sB)), (.int (Int32.ofNat nB))]) (rest := []) (lenOf pdmt_0 rfl) rfl (by show 2 * 0 + _ ≤ _; exact Nat.le_of_eq rfl) (hb hby dmt_43) (fun _ _ => ⟨rfl, e2, (by decide : 0 + 0 ≤ _), (by decide : 0 + 0 ≤ _)⟩)
  dsimp only [Pt.U, Pt.locs, Pt.cells, Pt.slots] at X3 l3 y3 z3 st3 hQ3
  subst y3 z3
  obtain ⟨rfl, Nc3, e3⟩ := hQ3
  have N3 : Fr n0 L3 := by rw [l3]; exact Fr.app N2 Nc3
  refine Go.st st3 ?_
  show Go p e below s _ _ _ (T3.setTop (mkF m 46 #[.val (.ref x), .val (.ref a), .val (.int (Int32.ofNat sA)), .val (.int (Int32.ofNat nA)), .val (.int (Int32.ofNat sB)), .val (.int (Int32.ofNat nB))] [(.int 1)]))
  refine Go.s (XS.ifNo X3.here hx rfl (hb hby dmt_46) rfl (by decide)) ?_
  show Go p e below s _ _ _ (T3.setTop (mkF m 49 #[.val (.ref x), .val (.ref a), .val (.int (Int32.ofNat sA)), .val (.int (Int32.ofNat nA)), .val (.int (Int32.ofNat sB)), .val (.int (Int32.ofNat nB))] []))
  refine Go.s (XS.aloadN X3.here hx rfl (hb hby dmt_49) rfl rfl) ?_
  refine Go.s (XS.aloadN X3.here hx rfl (hb hby dmt_50) rfl rfl) ?_
  refine Go.s (XS.iconst X3.here hx rfl (hb hby dmt_51)) ?_
  refine Go.s (XS.iloadN X3.here hx rfl (hb hby dmt_52) rfl) ?_
  refine Go.s (XS.iloadN X3.here hx rfl (hb hby dmt_53) rfl) ?_
  refine Go.s (XS.iload X3.here hx rfl (hb hby dmt_54) rfl) ?_
  refine Go.s (XS.iload X3.here hx rfl (hb hby dmt_56) rfl) ?_
  obtain ⟨_, _, ⟨T4, L4, k4, n4⟩, -, X4, ⟨Lc4, hQ4, l4, y4, z4⟩, st4⟩ := Jvm.LawKit.callS X3 hx (y := mN38) hown (mvT hZ (own_w hw 172 rfl)) (mvT hZ (own_w hw 173 rfl)) (mvT hZ (own_w hw 159 rfl)) (mvT hZ (own_w hw 174 rfl)) (by decide) (backOf (W := 0) (rmat l Z a0 hw [] x t kt cs a ka D 2 sA nA sB nB fm zc h0 n0 O0 E_x F_x_coder F_x_value V_t V_a (by decide) hD hbD hslA hslB hq SF rf SC hcs) hZ (own_w hw 174 rfl) (own_w hw 159 rfl) (by decide) (by decide)) (g := (mkF m 58 #[.val (.ref x), .val (.ref a), .val (.int (Int32.ofNat sA)), .val (.int (Int32.ofNat nA)), .val (.int (Int32.ofNat sB)), .val (.int (Int32.ofNat nB))] [(.int (Int32.ofNat nB)), (.int (Int32.ofNat sB)), (.int (Int32.ofNat nA)), (.int (Int32.ofNat sA)), (.int 2), (.ref a), (.ref x)])) rfl (by rw [hml]; rfl) (argsL := [(.ref x), (.ref a), (.int 2), (.int (Int32.ofNat sA)), (.int (Int32.ofNat nA)), (.int (Int32.ofNat sB)), (.int (Int32.ofNat nB))]) (rest := []) (lenOf pdmt_0 rfl) rfl (by show 2 * 0 + _ ≤ _; exact Nat.le_of_eq rfl) (hb hby dmt_58) (fun _ _ => ⟨rfl, e3, (by decide : 0 + 0 ≤ _), (by decide : 0 + 0 ≤ _)⟩)
  dsimp only [Pt.U, Pt.locs, Pt.cells, Pt.slots] at X4 l4 y4 z4 st4 hQ4
  subst y4 z4
  obtain ⟨rfl, Nc4, e4⟩ := hQ4
  have N4 : Fr n0 L4 := by rw [l4]; exact Fr.app N3 Nc4
  refine Go.st st4 ?_
  show Go p e below s _ _ _ (T4.setTop (mkF m 61 #[.val (.ref x), .val (.ref a), .val (.int (Int32.ofNat sA)), .val (.int (Int32.ofNat nA)), .val (.int (Int32.ofNat sB)), .val (.int (Int32.ofNat nB))] [(.int 1)]))
  refine Go.s (XS.ifNo X4.here hx rfl (hb hby dmt_61) rfl (by decide)) ?_
  show Go p e below s _ _ _ (T4.setTop (mkF m 64 #[.val (.ref x), .val (.ref a), .val (.int (Int32.ofNat sA)), .val (.int (Int32.ofNat nA)), .val (.int (Int32.ofNat sB)), .val (.int (Int32.ofNat nB))] []))
  refine Go.s (XS.aloadN X4.here hx rfl (hb hby dmt_64) rfl rfl) ?_
  refine Go.s (XS.aloadN X4.here hx rfl (hb hby dmt_65) rfl rfl) ?_
  refine Go.s (XS.iconst X4.here hx rfl (hb hby dmt_66)) ?_
  refine Go.s (XS.iloadN X4.here hx rfl (hb hby dmt_67) rfl) ?_
  refine Go.s (XS.iloadN X4.here hx rfl (hb hby dmt_68) rfl) ?_
  refine Go.s (XS.iload X4.here hx rfl (hb hby dmt_69) rfl) ?_
  refine Go.s (XS.iload X4.here hx rfl (hb hby dmt_71) rfl) ?_
  obtain ⟨_, _, ⟨T5, L5, k5, n5⟩, -, X5, ⟨Lc5, hQ5, l5, y5, z5⟩, st5⟩ := Jvm.LawKit.callS X4 hx (y := mN38) hown (mvT hZ (own_w hw 172 rfl)) (mvT hZ (own_w hw 173 rfl)) (mvT hZ (own_w hw 159 rfl)) (mvT hZ (own_w hw 174 rfl)) (by decide) (backOf (W := 0) (rmat l Z a0 hw [] x t kt cs a ka D 3 sA nA sB nB fm zc h0 n0 O0 E_x F_x_coder F_x_value V_t V_a (by decide) hD hbD hslA hslB hq SF rf SC hcs) hZ (own_w hw 174 rfl) (own_w hw 159 rfl) (by decide) (by decide)) (g := (mkF m 73 #[.val (.ref x), .val (.ref a), .val (.int (Int32.ofNat sA)), .val (.int (Int32.ofNat nA)), .val (.int (Int32.ofNat sB)), .val (.int (Int32.ofNat nB))] [(.int (Int32.ofNat nB)), (.int (Int32.ofNat sB)), (.int (Int32.ofNat nA)), (.int (Int32.ofNat sA)), (.int 3), (.ref a), (.ref x)])) rfl (by rw [hml]; rfl) (argsL := [(.ref x), (.ref a), (.int 3), (.int (Int32.ofNat sA)), (.int (Int32.ofNat nA)), (.int (Int32.ofNat sB)), (.int (Int32.ofNat nB))]) (rest := []) (lenOf pdmt_0 rfl) rfl (by show 2 * 0 + _ ≤ _; exact Nat.le_of_eq rfl) (hb hby dmt_73) (fun _ _ => ⟨rfl, e4, (by decide : 0 + 0 ≤ _), (by decide : 0 + 0 ≤ _)⟩)
  dsimp only [Pt.U, Pt.locs, Pt.cells, Pt.slots] at X5 l5 y5 z5 st5 hQ5
  subst y5 z5
  obtain ⟨rfl, Nc5, e5⟩ := hQ5
  have N5 : Fr n0 L5 := by rw [l5]; exact Fr.app N4 Nc5
  refine Go.st st5 ?_
  show Go p e below s _ _ _ (T5.setTop (mkF m 76 #[.val (.ref x), .val (.ref a), .val (.int (Int32.ofNat sA)), .val (.int (Int32.ofNat nA)), .val (.int (Int32.ofNat sB)), .val (.int (Int32.ofNat nB))] [(.int 1)]))
  refine Go.s (XS.ifNo X5.here hx rfl (hb hby dmt_76) rfl (by decide)) ?_
  show Go p e below s _ _ _ (T5.setTop (mkF m 79 #[.val (.ref x), .val (.ref a), .val (.int (Int32.ofNat sA)), .val (.int (Int32.ofNat nA)), .val (.int (Int32.ofNat sB)), .val (.int (Int32.ofNat nB))] []))
  refine Go.s (XS.aloadN X5.here hx rfl (hb hby dmt_79) rfl rfl) ?_
  refine Go.s (XS.aloadN X5.here hx rfl (hb hby dmt_80) rfl rfl) ?_
  refine Go.s (XS.iconst X5.here hx rfl (hb hby dmt_81)) ?_
  refine Go.s (XS.iloadN X5.here hx rfl (hb hby dmt_82) rfl) ?_
  refine Go.s (XS.iloadN X5.here hx rfl (hb hby dmt_83) rfl) ?_
  refine Go.s (XS.iload X5.here hx rfl (hb hby dmt_84) rfl) ?_
  refine Go.s (XS.iload X5.here hx rfl (hb hby dmt_86) rfl) ?_
  obtain ⟨_, _, ⟨T6, L6, k6, n6⟩, -, X6, ⟨Lc6, hQ6, l6, y6, z6⟩, st6⟩ := Jvm.LawKit.callS X5 hx (y := mN38) hown (mvT hZ (own_w hw 172 rfl)) (mvT hZ (own_w hw 173 rfl)) (mvT hZ (own_w hw 159 rfl)) (mvT hZ (own_w hw 174 rfl)) (by decide) (backOf (W := 0) (rmat l Z a0 hw [] x t kt cs a ka D 4 sA nA sB nB fm zc h0 n0 O0 E_x F_x_coder F_x_value V_t V_a (by decide) hD hbD hslA hslB hq SF rf SC hcs) hZ (own_w hw 174 rfl) (own_w hw 159 rfl) (by decide) (by decide)) (g := (mkF m 88 #[.val (.ref x), .val (.ref a), .val (.int (Int32.ofNat sA)), .val (.int (Int32.ofNat nA)), .val (.int (Int32.ofNat sB)), .val (.int (Int32.ofNat nB))] [(.int (Int32.ofNat nB)), (.int (Int32.ofNat sB)), (.int (Int32.ofNat nA)), (.int (Int32.ofNat sA)), (.int 4), (.ref a), (.ref x)])) rfl (by rw [hml]; rfl) (argsL := [(.ref x), (.ref a), (.int 4), (.int (Int32.ofNat sA)), (.int (Int32.ofNat nA)), (.int (Int32.ofNat sB)), (.int (Int32.ofNat nB))]) (rest := []) (lenOf pdmt_0 rfl) rfl (by show 2 * 0 + _ ≤ _; exact Nat.le_of_eq rfl) (hb hby dmt_88) (fun _ _ => ⟨rfl, e5, (by decide : 0 + 0 ≤ _), (by decide : 0 + 0 ≤ _)⟩)
  dsimp only [Pt.U, Pt.locs, Pt.cells, Pt.slots] at X6 l6 y6 z6 st6 hQ6
  subst y6 z6
  obtain ⟨rfl, Nc6, e6⟩ := hQ6
  have N6 : Fr n0 L6 := by rw [l6]; exact Fr.app N5 Nc6
  refine Go.st st6 ?_
  show Go p e below s _ _ _ (T6.setTop (mkF m 91 #[.val (.ref x), .val (.ref a), .val (.int (Int32.ofNat sA)), .val (.int (Int32.ofNat nA)), .val (.int (Int32.ofNat sB)), .val (.int (Int32.ofNat nB))] [(.int 1)]))
  refine Go.s (XS.ifNo X6.here hx rfl (hb hby dmt_91) rfl (by decide)) ?_
  show Go p e below s _ _ _ (T6.setTop (mkF m 94 #[.val (.ref x), .val (.ref a), .val (.int (Int32.ofNat sA)), .val (.int (Int32.ofNat nA)), .val (.int (Int32.ofNat sB)), .val (.int (Int32.ofNat nB))] []))
  refine Go.s (XS.aloadN X6.here hx rfl (hb hby dmt_94) rfl rfl) ?_
  refine Go.s (XS.aloadN X6.here hx rfl (hb hby dmt_95) rfl rfl) ?_
  refine Go.s (XS.iconst X6.here hx rfl (hb hby dmt_96)) ?_
  refine Go.s (XS.iloadN X6.here hx rfl (hb hby dmt_97) rfl) ?_
  refine Go.s (XS.iloadN X6.here hx rfl (hb hby dmt_98) rfl) ?_
  refine Go.s (XS.iload X6.here hx rfl (hb hby dmt_99) rfl) ?_
  refine Go.s (XS.iload X6.here hx rfl (hb hby dmt_101) rfl) ?_
  obtain ⟨_, _, ⟨T7, L7, k7, n7⟩, -, X7, ⟨Lc7, hQ7, l7, y7, z7⟩, st7⟩ := Jvm.LawKit.callS X6 hx (y := mN38) hown (mvT hZ (own_w hw 172 rfl)) (mvT hZ (own_w hw 173 rfl)) (mvT hZ (own_w hw 159 rfl)) (mvT hZ (own_w hw 174 rfl)) (by decide) (backOf (W := 0) (rmat l Z a0 hw [] x t kt cs a ka D 5 sA nA sB nB fm zc h0 n0 O0 E_x F_x_coder F_x_value V_t V_a (by decide) hD hbD hslA hslB hq SF rf SC hcs) hZ (own_w hw 174 rfl) (own_w hw 159 rfl) (by decide) (by decide)) (g := (mkF m 103 #[.val (.ref x), .val (.ref a), .val (.int (Int32.ofNat sA)), .val (.int (Int32.ofNat nA)), .val (.int (Int32.ofNat sB)), .val (.int (Int32.ofNat nB))] [(.int (Int32.ofNat nB)), (.int (Int32.ofNat sB)), (.int (Int32.ofNat nA)), (.int (Int32.ofNat sA)), (.int 5), (.ref a), (.ref x)])) rfl (by rw [hml]; rfl) (argsL := [(.ref x), (.ref a), (.int 5), (.int (Int32.ofNat sA)), (.int (Int32.ofNat nA)), (.int (Int32.ofNat sB)), (.int (Int32.ofNat nB))]) (rest := []) (lenOf pdmt_0 rfl) rfl (by show 2 * 0 + _ ≤ _; exact Nat.le_of_eq rfl) (hb hby dmt_103) (fun _ _ => ⟨rfl, e6, (by decide : 0 + 0 ≤ _), (by decide : 0 + 0 ≤ _)⟩)
  dsimp only [Pt.U, Pt.locs, Pt.cells, Pt.slots] at X7 l7 y7 z7 st7 hQ7
  subst y7 z7
  obtain ⟨rfl, Nc7, e7⟩ := hQ7
  have N7 : Fr n0 L7 := by rw [l7]; exact Fr.app N6 Nc7
  refine Go.st st7 ?_
  show Go p e below s _ _ _ (T7.setTop (mkF m 106 #[.val (.ref x), .val (.ref a), .val (.int (Int32.ofNat sA)), .val (.int (Int32.ofNat nA)), .val (.int (Int32.ofNat sB)), .val (.int (Int32.ofNat nB))] [(.int 1)]))
  refine Go.s (XS.ifNo X7.here hx rfl (hb hby dmt_106) rfl (by decide)) ?_
  show Go p e below s _ _ _ (T7.setTop (mkF m 109 #[.val (.ref x), .val (.ref a), .val (.int (Int32.ofNat sA)), .val (.int (Int32.ofNat nA)), .val (.int (Int32.ofNat sB)), .val (.int (Int32.ofNat nB))] []))
  refine Go.s (XS.aloadN X7.here hx rfl (hb hby dmt_109) rfl rfl) ?_
  refine Go.s (XS.aloadN X7.here hx rfl (hb hby dmt_110) rfl rfl) ?_
  refine Go.s (XS.bipush X7.here hx rfl (hb hby dmt_111)) ?_
  refine Go.s (XS.iloadN X7.here hx rfl (hb hby dmt_113) rfl) ?_
  refine Go.s (XS.iloadN X7.here hx rfl (hb hby dmt_114) rfl) ?_
  refine Go.s (XS.iload X7.here hx rfl (hb hby dmt_115) rfl) ?_
  refine Go.s (XS.iload X7.here hx rfl (hb hby dmt_117) rfl) ?_
  obtain ⟨_, _, ⟨T8, L8, k8, n8⟩, -, X8, ⟨Lc8, hQ8, l8, y8, z8⟩, st8⟩ := Jvm.LawKit.callS X7 hx (y := mN38) hown (mvT hZ (own_w hw 172 rfl)) (mvT hZ (own_w hw 173 rfl)) (mvT hZ (own_w hw 159 rfl)) (mvT hZ (own_w hw 174 rfl)) (by decide) (backOf (W := 0) (rmat l Z a0 hw [] x t kt cs a ka D 6 sA nA sB nB fm zc h0 n0 O0 E_x F_x_coder F_x_value V_t V_a (by decide) hD hbD hslA hslB hq SF rf SC hcs) hZ (own_w hw 174 rfl) (own_w hw 159 rfl) (by decide) (by decide)) (g := (mkF m 119 #[.val (.ref x), .val (.ref a), .val (.int (Int32.ofNat sA)), .val (.int (Int32.ofNat nA)), .val (.int (Int32.ofNat sB)), .val (.int (Int32.ofNat nB))] [(.int (Int32.ofNat nB)), (.int (Int32.ofNat sB)), (.int (Int32.ofNat nA)), (.int (Int32.ofNat sA)), (.int 6), (.ref a), (.ref x)])) rfl (by rw [hml]; rfl) (argsL := [(.ref x), (.ref a), (.int 6), (.int (Int32.ofNat sA)), (.int (Int32.ofNat nA)), (.int (Int32.ofNat sB)), (.int (Int32.ofNat nB))]) (rest := []) (lenOf pdmt_0 rfl) rfl (by show 2 * 0 + _ ≤ _; exact Nat.le_of_eq rfl) (hb hby dmt_119) (fun _ _ => ⟨rfl, e7, (by decide : 0 + 0 ≤ _), (by decide : 0 + 0 ≤ _)⟩)
  dsimp only [Pt.U, Pt.locs, Pt.cells, Pt.slots] at X8 l8 y8 z8 st8 hQ8
  subst y8 z8
  obtain ⟨rfl, Nc8, e8⟩ := hQ8
  have N8 : Fr n0 L8 := by rw [l8]; exact Fr.app N7 Nc8
  refine Go.st st8 ?_
  show Go p e below s _ _ _ (T8.setTop (mkF m 122 #[.val (.ref x), .val (.ref a), .val (.int (Int32.ofNat sA)), .val (.int (Int32.ofNat nA)), .val (.int (Int32.ofNat sB)), .val (.int (Int32.ofNat nB))] [(.int 1)]))
  refine Go.s (XS.ifNo X8.here hx rfl (hb hby dmt_122) rfl (by decide)) ?_
  show Go p e below s _ _ _ (T8.setTop (mkF m 125 #[.val (.ref x), .val (.ref a), .val (.int (Int32.ofNat sA)), .val (.int (Int32.ofNat nA)), .val (.int (Int32.ofNat sB)), .val (.int (Int32.ofNat nB))] []))
  refine Go.s (XS.aloadN X8.here hx rfl (hb hby dmt_125) rfl rfl) ?_
  refine Go.s (XS.aloadN X8.here hx rfl (hb hby dmt_126) rfl rfl) ?_
  refine Go.s (XS.bipush X8.here hx rfl (hb hby dmt_127)) ?_
  refine Go.s (XS.iloadN X8.here hx rfl (hb hby dmt_129) rfl) ?_
  refine Go.s (XS.iloadN X8.here hx rfl (hb hby dmt_130) rfl) ?_
  refine Go.s (XS.iload X8.here hx rfl (hb hby dmt_131) rfl) ?_
  refine Go.s (XS.iload X8.here hx rfl (hb hby dmt_133) rfl) ?_
  obtain ⟨_, _, ⟨T9, L9, k9, n9⟩, -, X9, ⟨Lc9, hQ9, l9, y9, z9⟩, st9⟩ := Jvm.LawKit.callS X8 hx (y := mN38) hown (mvT hZ (own_w hw 172 rfl)) (mvT hZ (own_w hw 173 rfl)) (mvT hZ (own_w hw 159 rfl)) (mvT hZ (own_w hw 174 rfl)) (by decide) (backOf (W := 0) (rmat l Z a0 hw [] x t kt cs a ka D 7 sA nA sB nB fm zc h0 n0 O0 E_x F_x_coder F_x_value V_t V_a (by decide) hD hbD hslA hslB hq SF rf SC hcs) hZ (own_w hw 174 rfl) (own_w hw 159 rfl) (by decide) (by decide)) (g := (mkF m 135 #[.val (.ref x), .val (.ref a), .val (.int (Int32.ofNat sA)), .val (.int (Int32.ofNat nA)), .val (.int (Int32.ofNat sB)), .val (.int (Int32.ofNat nB))] [(.int (Int32.ofNat nB)), (.int (Int32.ofNat sB)), (.int (Int32.ofNat nA)), (.int (Int32.ofNat sA)), (.int 7), (.ref a), (.ref x)])) rfl (by rw [hml]; rfl) (argsL := [(.ref x), (.ref a), (.int 7), (.int (Int32.ofNat sA)), (.int (Int32.ofNat nA)), (.int (Int32.ofNat sB)), (.int (Int32.ofNat nB))]) (rest := []) (lenOf pdmt_0 rfl) rfl (by show 2 * 0 + _ ≤ _; exact Nat.le_of_eq rfl) (hb hby dmt_135) (fun _ _ => ⟨rfl, e8, (by decide : 0 + 0 ≤ _), (by decide : 0 + 0 ≤ _)⟩)
  dsimp only [Pt.U, Pt.locs, Pt.cells, Pt.slots] at X9 l9 y9 z9 st9 hQ9
  subst y9 z9
  obtain ⟨rfl, Nc9, e9⟩ := hQ9
  have N9 : Fr n0 L9 := by rw [l9]; exact Fr.app N8 Nc9
  refine Go.st st9 ?_
  show Go p e below s _ _ _ (T9.setTop (mkF m 138 #[.val (.ref x), .val (.ref a), .val (.int (Int32.ofNat sA)), .val (.int (Int32.ofNat nA)), .val (.int (Int32.ofNat sB)), .val (.int (Int32.ofNat nB))] [(.int 1)]))
  refine Go.s (XS.ifNo X9.here hx rfl (hb hby dmt_138) rfl (by decide)) ?_
  show Go p e below s _ _ _ (T9.setTop (mkF m 141 #[.val (.ref x), .val (.ref a), .val (.int (Int32.ofNat sA)), .val (.int (Int32.ofNat nA)), .val (.int (Int32.ofNat sB)), .val (.int (Int32.ofNat nB))] []))
  refine Go.s (XS.iconst X9.here hx rfl (hb hby dmt_141)) ?_
  refine Go.s (XS.goto X9.here hx rfl (pc0 := 142) (pc' := 146) rfl (hb hby dmt_142) (by decide) (by decide)) ?_
  exact Go.ret X9 hlk (some (.int (nar .boolean (1 : Int32)))) (fun h => by rw [Bd.returns] at h; cases h) (by rw [e9]; exact ⟨rfl, N9, rfl⟩) (by decide) (by decide) (fun fs hr => retN X9 hx (t := .boolean) Bd.returns (by simp) (hb hby dmt_146) hr)
 obtain ⟨s2, o2, st2, r2⟩ := G
 exact ⟨s2, o2, castTop (efmt m x a (Int32.ofNat sA) (Int32.ofNat nA) (Int32.ofNat sB) (Int32.ofNat nB)) st2, r2⟩
theorem dt0_7 : decode prog_78_method_17_code 7 = .ok (.ldc 80, 2) := by decide +kernel
theorem dt0_9 : decode prog_78_method_17_code 9 = .ok (.goto 10, 3) := by decide +kernel
theorem pnt0 : plainName "com/example/pemmican/pemmican/XmlElement" = true := by first | (simp [plainName, overriddenIn]; done) | decide +kernel
theorem eft0 (m : MethodId) (x0 : Addr) : entryFrame m #[(.ref x0)] 1 = mkF m 0 #[.val (.ref x0)] [] := by first | (simp [entryFrame, mkF, argsToLocals, Value.category, maxLocals]; done) | rfl
def Qt0 (Z : State) (e_ : Addr) (Ps : List (Array UInt16 × Addr)) (h0 : Heap) (n0 : Nat) (v : Option Value) (vm : Vm) (h : Heap) (L : List Loc) : Prop := ∃ (x u : Addr) (ku : ClassId) (P2 : List (Array UInt16 × Addr)), v = some (.ref x) ∧ Fr n0 L ∧ Keep h0 h [] ∧ Exa Z h x "java/lang/String" ∧ Fld Z h x "java/lang/String" "coder" "B" (.int 0) ∧ Fld Z h x "java/lang/String" "value" "[B" (.ref u) ∧ Arv Z h u ku .byte (Int32.ofNat ([] : List Int32).length) (oLat ([] : List Int32)) (.int 0) ∧ OwnI Z vm P2 ∧ (∀ U : State, Z.Warmed39 U.vm → U.heap = h → OwnI Z U.vm P2 → (∀ q ∈ Ps, utf16ToString? q.1 = some "" → SlOf U q.2 q.1) → ConstHeldL U "com/example/pemmican/pemmican/XmlElement" 80)
theorem rmt0 (l : Launch) (Z : State) (a0 : Array Value) (hw : ∀ d ∈ tables_1, d.before a0 Z = true) (ws : List Jvm.Cond) (e_ : Addr) (Ps : List (Array UInt16 × Addr)) (h0 : Heap) (n0 : Nat) (O0 : Old Z n0 h0) (E_e_ : Exa Z h0 e_ "com/example/pemmican/pemmican/XmlElement") (F_e__text : Fld Z h0 e_ "com/example/pemmican/pemmican/XmlElement" "text" "Ljava/lang/StringBuilder;" .null) (hHZ : ConstHeldL Z "com/example/pemmican/pemmican/XmlElement" 80) :
  MetFree l mN28 (head1 (Jvm.Cond.code mN28 prog_78_method_17_code 1 (some (.object "java/lang/String")) :: ws) ({ frames := 0, cells := 2, slots := 4, locals := 0 } : Room)) (fun A_ U_ => A_ = #[(.ref e_)] ∧ Z.Warmed39 U_.vm ∧ U_.heap = h0 ∧ OwnI Z U_.vm Ps ∧ ∀ c ∈ ([("com/example/pemmican/pemmican/XmlElement", 80)] : List (String × Nat)), ConstHeldL U_ c.1 c.2) (fun _ _ _ _ _ => True) (fun _ U o U' => ∃ v L, o = .returned v ∧ Qt0 Z e_ Ps h0 n0 v U'.vm U'.heap L ∧ ReturnedEndW U o U' L ({ frames := 0, cells := 2, slots := 4, locals := 0 } : Room).cells ({ frames := 0, cells := 2, slots := 4, locals := 0 } : Room).slots) := by
 refine MetFree.of_bodySF (plainFor_of_name pnt0) hisR ?_
 intro p e s m args below meth cd s₁ Bd hml0 hP hK
 obtain ⟨rfl, hZ, hh, I0, hHC⟩ := hP
 have hZs := hZ
 have J0 : IB s s.vm [] := IB.start
 have M0 : Fr s.heap.size [] := Fr.nil _
 have hS0 : s.Since s.vm h0.size := State.WarmedH.since (State.WarmedH.refl s) _
 have hk0 : h0.size ≤ h0.size := Nat.le_refl _
 have hx := Bd.exec
 have hby := Bd.bytes
 have hlk : meth.locks = false := BodyLoose.notSynchronized Bd
 have hml : cd.maxLocals = 1 := hml0
 have hown : s.vm.findClass "com/example/pemmican/pemmican/XmlElement" = some m.cls := findClass_of_methodNamed Bd.named
 have X0 : Stand p l e ({ frames := 0, cells := 2, slots := 4, locals := 0 } : Room) s m #[(.ref e_)] below meth cd s₁ [] 0 0 := Stand.of_body Bd
 have e0 : s₁.heap = h0 := by rw [← hh, Bd.state]; rfl
 have N0 := Fr.nil n0
 have K0 : Keep h0 h0 [] := Keep.refl _ _
 have wS : ∀ a ∈ Bundle.stringAtoms, a.before a0 Z = true := fun d hd => hw d ((by decide +kernel : ∀ d ∈ Bundle.stringAtoms, d ∈ tables_1) d hd)
 have G : GoV p e below s 2 4 (Qt0 Z e_ Ps h0 n0) (s₁.setTop (mkF m 0 #[.val (.ref e_)] [])) := by
  refine GoV.s (XS.aloadN X0.here hx rfl (hb hby dtx_0) rfl rfl) ?_
  obtain ⟨T1, X1, e1, st1⟩ := getF X0 hx hZ hown (host := "") (Or.inl (own_w hw 56 rfl)) Via.refl e0 F_e__text (g := (mkF m 1 #[.val (.ref e_)] [(.ref e_)])) rfl rfl (hb hby dtx_1)
  refine GoV.st st1 ?_
  show GoV p e below s _ _ _ (T1.setTop (mkF m 4 #[.val (.ref e_)] [.null]))
  refine GoV.s (XT.ifnonnullNo X1.here hx rfl (hb hby dtx_4) rfl) ?_
  show GoV p e below s _ _ _ (T1.setTop (mkF m 7 #[.val (.ref e_)] []))
  obtain ⟨u2, T2, h2, kk2, ub2, kb2, ca2, cb2, un2, X2, e2, E2, hS2, hk2, hZ2, hown2, NE, NC, NV, NB, NCa, NCb, Sk2, tx2, I2, hJ2, LT2, st2⟩ := own_ldcH (vm0 := s.vm) X1 hx hZ hown (own_w hw 239 rfl) wS e1 hS0 hk0 M0 (hHC ("com/example/pemmican/pemmican/XmlElement", 80) (by decide)) I0 (vs := []) (z := (0 : Int32)) (by decide) (by decide) rfl (g := (mkF m 7 #[.val (.ref e_)] [])) rfl (hb hby dt0_7) (n := 0) (by decide) (by decide) (by decide) (by decide)
  have J2 := hJ2 _ J0
  have E_e_ := E_e_.ext E2
  have F_e__text := F_e__text.ext E2
  have O2 := O0.ext E2
  have K2 := K0.ext E2
  have E_u2 : Exa Z h2 u2 "java/lang/String" := NE
  have F_u2_coder : Fld Z h2 u2 "java/lang/String" "coder" "B" (.int 0) := NC
  have F_u2_value : Fld Z h2 u2 "java/lang/String" "value" "[B" (.ref ub2) := NV
  have V_ub2 : Arv Z h2 ub2 kb2 .byte (0 : Int32) [] (.int 0) := NB
  have C_u2 : Cel h2 u2 ca2 := NCa
  have C_ub2 : Cel h2 ub2 cb2 := NCb
  refine GoV.st st2 ?_
  show GoV p e below s _ _ _ (T2.setTop (mkF m 9 #[.val (.ref e_)] [(.ref u2)]))
  refine GoV.s (XS.goto X2.here hx rfl (pc0 := 9) (pc' := 19) rfl (hb hby dt0_9) (by decide) (by decide)) ?_
  exact GoV.ret (vm1 := T2.vm) X2 hlk hS2 (by rw [e2]; exact hk2) (some (.ref u2)) (fun h => by rw [Bd.returns] at h; cases h) (by rw [e2]; exact ⟨u2, ub2, _, _, rfl, N0, K2, E_u2, F_u2_coder, F_u2_value, V_ub2, own_iH (s := s.setVm T2.vm) I2 X2.warmed, (fun U hU1 hU2 hU3 hP => own_held hU1 (own_w hw 239 rfl) hU3 (fun b cl q => by rw [hU2]; exact O2.2.2 b cl q) hHZ (fun q hq ht => (List.mem_cons.mp hq).elim (fun e => by subst e; exact Sk2 U hU1.alike (by rw [hU2]; exact C_u2) (by rw [hU2]; exact C_ub2)) (fun z => hP q z ht)))⟩) (by decide) (by decide) (fun fs hr => retOut X2 hx Bd.returns rfl (Or.inr (Or.inr (Or.inr (Or.inr ⟨rfl, rfl, rfl⟩)))) (hb hby dtx_19) hr)
 obtain ⟨s2, o2, st2, r2⟩ := G
 exact ⟨s2, o2, castTop (eft0 m e_) st2, r2⟩
theorem own_c8 (y : Int32) : ¬ nar .char ((y &&& (255 : Int32)).toUInt32.toUInt16.toUInt32.toInt32) < 0 ∧ ¬ (255 : Int32) < nar .char ((y &&& (255 : Int32)).toUInt32.toUInt16.toUInt32.toInt32) := by
  rw [show nar .char ((y &&& (255 : Int32)).toUInt32.toUInt16.toUInt32.toInt32) = (y &&& (255 : Int32)).toUInt32.toUInt16.toUInt32.toInt32 from Value.int.inj (XT.narrow_c _)]
  have hslA := c_i2c (y &&& (255 : Int32))
  have hslB := c_mask y 255 8 (by decide) (by decide)
  simp only [own_lt, Int32.reduceToInt]
  omega
theorem own_rem5 (x : Int32) : ∃ n : Nat, n ≤ 4 ∧ (x &&& (2147483647 : Int32)) % (5 : Int32) = Int32.ofNat n := by
  have h := own_rem x 5 (by decide)
  refine ⟨_, ?_, own_nat h.1⟩
  have q := h.2
  simp only [own_lt, Int32.reduceToInt] at q
  simp only [Int32.toNatClampNeg]
  omega
theorem own_rem3 (x : Int32) : (x &&& (2147483647 : Int32)) % (3 : Int32) = 0 ∨ (x &&& (2147483647 : Int32)) % (3 : Int32) = 1 ∨ (x &&& (2147483647 : Int32)) % (3 : Int32) = 2 := by
  have h := own_rem x 3 (by decide)
  simp only [own_lt, own_eq, Int32.reduceToInt] at h ⊢
  omega
theorem own_nz5 {s : Nat} (h : s ≤ 4) : ¬ (5 : Int32) - Int32.ofNat s = (0 : Int32) := by
  rw [show (5 : Int32) - Int32.ofNat s = Int32.ofNat (5 - s) from own_sub (a := 5) (by omega), show (0 : Int32) = Int32.ofNat 0 from rfl, own_neq (by omega) (by decide)]
  omega
theorem own_rl (x : Int32) {s : Nat} (h : s ≤ 4) : ∃ l : Nat, s + l ≤ 4 ∧ (XT.ushr x (8 : Int32)) % ((5 : Int32) - (Int32.ofNat s)) = Int32.ofNat l := by
  rw [show (5 : Int32) - Int32.ofNat s = Int32.ofNat (5 - s) from own_sub (a := 5) (by omega)]
  have hslA : (XT.ushr x (8 : Int32)).toInt = (x.toInt % 4294967296) / 256 := c_iushr x 8 8 (by decide) (by decide)
  have hslB := (c_iremV (XT.ushr x (8 : Int32)) (Int32.ofNat (5 - s))).1 (by omega) (by rw [Int32.toInt_ofNat_of_lt (by omega)]; omega)
  rw [Int32.toInt_ofNat_of_lt (by omega)] at hslB
  have h3 : ¬ (XT.ushr x (8 : Int32)) % (Int32.ofNat (5 - s)) < 0 := by rw [own_lt]; simp only [Int32.reduceToInt]; omega
  refine ⟨_, ?_, own_nat h3⟩
  simp only [Int32.toNatClampNeg]
  omega
theorem own_D4 {c0 c1 c2 c3 : Int32} (h0 : ¬ c0 < 0 ∧ ¬ (255 : Int32) < c0) (hslA : ¬ c1 < 0 ∧ ¬ (255 : Int32) < c1) (hslB : ¬ c2 < 0 ∧ ¬ (255 : Int32) < c2) (h3 : ¬ c3 < 0 ∧ ¬ (255 : Int32) < c3) : ∀ c ∈ [c0, c1, c2, c3], ¬ c < 0 ∧ ¬ (255 : Int32) < c := by
  intro c hc
  simp only [List.mem_cons, List.not_mem_nil, or_false] at hc
  rcases hc with rfl | rfl | rfl | rfl
  · exact h0
  · exact hslA
  · exact hslB
  · exact h3
theorem pd0_0 : parseMethodDescriptor "(Ljava/lang/String;ILjava/util/Map;)V" = some ⟨[(.object "java/lang/String"), .int, (.object "java/util/Map")], none⟩ := by decide +kernel
theorem pd0_1 : parseMethodDescriptor "(Ljava/lang/String;[CIIII)Z" = some ⟨[(.object "java/lang/String"), (.array .char), .int, .int, .int, .int], some .boolean⟩ := by decide +kernel
theorem pd0_2 : parseMethodDescriptor "(Ljava/lang/Object;)Z" = some ⟨[(.object "java/lang/Object")], some .boolean⟩ := by decide +kernel
theorem pn0 : plainName "com/example/pemmican/pemmican/XmlElementTextPinLaw" = true := by first | (simp [plainName, overriddenIn]; done) | decide +kernel
theorem ef0 (m : MethodId) (x0 : Int32) (x1 : Int32) (x2 : Int32) (x3 : Int32) : entryFrame m #[(.int x0), (.int x1), (.int x2), (.int x3)] maxLocals = mkF m 0 #[.val (.int x0), .val (.int x1), .val (.int x2), .val (.int x3), .unset, .unset, .unset, .unset, .unset, .unset, .unset, .unset, .unset, .unset] [] := by first | (simp [entryFrame, mkF, argsToLocals, Value.category, maxLocals]; done) | rfl
def Q0 (Z : State) (p0 : Int32) (p1 : Int32) (p2 : Int32) (p3 : Int32) (zc : Int32) (fm : Value) (gm : Value) (ad : Addr) (h0 : Heap) (n0 : Nat) (v : Option Value) (vm : Vm) (h : Heap) (L : List Loc) : Prop := v = some (.int 1) ∧ Fr n0 L
theorem rm0 (l : Launch) (Z : State) (a0 : Array Value) (hw : ∀ d ∈ tables_1, d.before a0 Z = true) (ws : List Jvm.Cond) (p0 : Int32) (p1 : Int32) (p2 : Int32) (p3 : Int32) (zc : Int32) (fm : Value) (gm : Value) (ad : Addr) (h0 : Heap) (n0 : Nat) (O0 : Old Z n0 h0) (hz0 : Z.heap = h0) (SC : Sta Z Z.heap "java/lang/String" "COMPACT_STRINGS" "Z" (.int zc)) (hcs : ¬ zc = 0) (SF : Sta Z Z.heap "jdk/internal/util/Preconditions" "SIOOBE_FORMATTER" "Ljava/util/function/BiFunction;" fm) (rf : fm.isRef = true) (SG : Sta Z Z.heap "jdk/internal/util/Preconditions" "IOOBE_FORMATTER" "Ljava/util/function/BiFunction;" gm) (rg : gm.isRef = true) (SD : Sta Z Z.heap "java/util/ArrayList" "DEFAULTCAPACITY_EMPTY_ELEMENTDATA" "[Ljava/lang/Object;" (.ref ad)) (hcw : Jvm.Lit.compactW.before a0 Z = true) (hcon : Jvm.Lit.constsHeld consts_1 Z) :
  MetFree l x (head1 (Jvm.Cond.code x code maxLocals ret :: ws) room_1) (fun A_ U_ => A_ = #[(.int p0), (.int p1), (.int p2), (.int p3)] ∧ U_ = Z) (fun _ _ _ _ _ => True) (fun _ U o U' => ∃ v L, o = .returned v ∧ Q0 Z p0 p1 p2 p3 zc fm gm ad h0 n0 v U'.vm U'.heap L ∧ ReturnedEndW U o U' L room_1.cells room_1.slots) := by
 refine MetFree.of_bodySF (plainFor_of_name pn0) hisR ?_
 intro p e s m args below meth cd s₁ Bd hml0 hP hK
 obtain ⟨rfl, hU⟩ := hP
 have hZ : Z.Warmed39 s.vm := by rw [hU]; exact State.Warmed39.refl Z
 have hZs := hZ
 have hh : s.heap = h0 := by rw [hU]; exact hz0
 have I0 : OwnI Z s.vm [] := by rw [hU]; exact OwnI.start
 have J0 : IB s s.vm [] := IB.start
 have hs0 : s.heap.size = n0 := by rw [hU]; exact O0.1
 have hS0 : s.Since s.vm h0.size := State.WarmedH.since (State.WarmedH.refl s) _
 have hk0 : h0.size ≤ h0.size := Nat.le_refl _
 have wa : (Jvm.Cond.arrayClass .byte).before a0 Z = true := hw _ (List.mem_of_getElem? (i := 8) rfl)
 have wi : (Jvm.Cond.instantiable "java/lang/String" 4).before a0 Z = true := hw _ (List.mem_of_getElem? (i := 7) rfl)
 have hHZ_0 : ConstHeldL Z "com/example/pemmican/pemmican/XmlElementTextPinLaw" 10 := heldStart (hcon ("com/example/pemmican/pemmican/XmlElementTextPinLaw", 10) (by decide)) (own_w hw 5 rfl) (by decide) hcw wa wi
 have hHS_0 : ConstHeldL s "com/example/pemmican/pemmican/XmlElementTextPinLaw" 10 := by rw [hU]; exact hHZ_0
 have hHZ_1 : ConstHeldL Z "com/example/pemmican/pemmican/XmlElement" 80 := heldStart (hcon ("com/example/pemmican/pemmican/XmlElement", 80) (by decide)) (own_w hw 239 rfl) (by decide) hcw wa wi
 have hHS_1 : ConstHeldL s "com/example/pemmican/pemmican/XmlElement" 80 := by rw [hU]; exact hHZ_1
 have hx := Bd.exec
 have hby := Bd.bytes
 have hlk : meth.locks = false := BodyLoose.notSynchronized Bd
 have hml : cd.maxLocals = 14 := hml0
 have hown : s.vm.findClass "com/example/pemmican/pemmican/XmlElementTextPinLaw" = some m.cls := findClass_of_methodNamed Bd.named
 have X0 : Stand p l e room_1 s m #[(.int p0), (.int p1), (.int p2), (.int p3)] below meth cd s₁ [] 0 0 := Stand.of_body Bd
 have e0 : s₁.heap = h0 := by rw [← hh, Bd.state]; rfl
 have N0 := Fr.nil n0
 have wS : ∀ a ∈ Bundle.stringAtoms, a.before a0 Z = true := fun d hd => hw d ((by decide +kernel : ∀ d ∈ Bundle.stringAtoms, d ∈ tables_1) d hd)
 have G : GoV p e below s room_1.cells room_1.slots (Q0 Z p0 p1 p2 p3 zc fm gm ad h0 n0) (s₁.setTop (mkF m 0 #[.val (.int p0), .val (.int p1), .val (.int p2), .val (.int p3), .unset, .unset, .unset, .unset, .unset, .unset, .unset, .unset, .unset, .unset] [])) := by
  refine GoV.s (XS.iconst X0.here hx rfl (hb hby at_0)) ?_
  obtain ⟨T1, h1, k1, X1, e1, E1, A1, st1⟩ := newP X0 hx hZ (own_w hw 0 rfl) e0 (g := (mkF m 1 #[.val (.int p0), .val (.int p1), .val (.int p2), .val (.int p3), .unset, .unset, .unset, .unset, .unset, .unset, .unset, .unset, .unset, .unset] [(.int 4)])) rfl (hb hby at_1) rfl (by decide) (cap := 4) (by decide) (by decide) (by decide) (by decide)
  obtain ⟨b1, g1⟩ : ∃ z, z = h0.size := ⟨_, rfl⟩
  rw [← g1] at A1 st1
  have g_b1 : n0 ≤ b1 := Nat.le_trans (own_old O0) (Nat.le_of_eq g1.symm)
  have hk1 := Nat.le_trans hk0 E1.1
  have O1 := O0.ext E1
  have V_b1 : Arv Z h1 b1 k1 .char (4 : Int32) [(.int 0), (.int 0), (.int 0), (.int 0)] (.int 0) := (Arv.new A1 (by decide)).pad (pad_rep [] (.int 0) 4)
  refine GoV.st st1 ?_
  show GoV p e below s _ _ _ (T1.setTop (mkF m 3 #[.val (.int p0), .val (.int p1), .val (.int p2), .val (.int p3), .unset, .unset, .unset, .unset, .unset, .unset, .unset, .unset, .unset, .unset] [(.ref b1)]))
  refine GoV.s (XS.astore X1.here hx rfl (hb hby at_3) rfl rfl (l' := #[.val (.int p0), .val (.int p1), .val (.int p2), .val (.int p3), .val (.ref b1), .unset, .unset, .unset, .unset, .unset, .unset, .unset, .unset, .unset]) rfl) ?_
  refine GoV.s (XS.aload X1.here hx rfl (hb hby at_5) rfl rfl) ?_
  refine GoV.s (XS.iconst X1.here hx rfl (hb hby at_7)) ?_
  refine GoV.s (XS.iloadN X1.here hx rfl (hb hby at_8) rfl) ?_
  refine GoV.s (XS.sipush X1.here hx rfl (hb hby at_9)) ?_
  refine GoV.s (XS.iand X1.here hx rfl (hb hby at_12) rfl) ?_
  show GoV p e below s _ _ _ (T1.setTop (mkF m 13 #[.val (.int p0), .val (.int p1), .val (.int p2), .val (.int p3), .val (.ref b1), .unset, .unset, .unset, .unset, .unset, .unset, .unset, .unset, .unset] [(.int (p0 &&& (255 : Int32))), (.int 0), (.ref b1)]))
  refine GoV.s (XT.i2c X1.here hx rfl (hb hby at_13) rfl) ?_
  show GoV p e below s _ _ _ (T1.setTop (mkF m 14 #[.val (.int p0), .val (.int p1), .val (.int p2), .val (.int p3), .val (.ref b1), .unset, .unset, .unset, .unset, .unset, .unset, .unset, .unset, .unset] [(.int ((p0 &&& (255 : Int32)).toUInt32.toUInt16.toUInt32.toInt32)), (.int 0), (.ref b1)]))
  obtain ⟨T2, h2, X2, e2, W2, V2, st2⟩ := own_stC X1 hx hZ e1 V_b1 (j := (0 : Int32)) (by decide) (by decide) 0 rfl (Nat.le_of_ble_eq_true rfl) (g := (mkF m 14 #[.val (.int p0), .val (.int p1), .val (.int p2), .val (.int p3), .val (.ref b1), .unset, .unset, .unset, .unset, .unset, .unset, .unset, .unset, .unset] [(.int ((p0 &&& (255 : Int32)).toUInt32.toUInt16.toUInt32.toInt32)), (.int 0), (.ref b1)])) rfl rfl (hb hby at_14)
  obtain ⟨lc2, X2, N2⟩ := own_gen X2 (Fr.snoc X2 N0 g_b1)
  have O2 := O1.wr W2 g_b1
  have hk2 := Nat.le_trans hk1 (Nat.le_of_eq W2.size.symm)
  have V_b1 : Arv Z h2 b1 k1 .char (4 : Int32) [(.int (nar .char ((p0 &&& (255 : Int32)).toUInt32.toUInt16.toUInt32.toInt32))), (.int 0), (.int 0), (.int 0)] (.int 0) := V2
  refine GoV.st st2 ?_
  show GoV p e below s _ _ _ (T2.setTop (mkF m 15 #[.val (.int p0), .val (.int p1), .val (.int p2), .val (.int p3), .val (.ref b1), .unset, .unset, .unset, .unset, .unset, .unset, .unset, .unset, .unset] []))
  refine GoV.s (XS.aload X2.here hx rfl (hb hby at_15) rfl rfl) ?_
  refine GoV.s (XS.iconst X2.here hx rfl (hb hby at_17)) ?_
  refine GoV.s (XS.iloadN X2.here hx rfl (hb hby at_18) rfl) ?_
  refine GoV.s (XS.bipush X2.here hx rfl (hb hby at_19)) ?_
  refine GoV.s (XT.iushr X2.here hx rfl (hb hby at_21) rfl) ?_
  show GoV p e below s _ _ _ (T2.setTop (mkF m 22 #[.val (.int p0), .val (.int p1), .val (.int p2), .val (.int p3), .val (.ref b1), .unset, .unset, .unset, .unset, .unset, .unset, .unset, .unset, .unset] [(.int (XT.ushr p0 (8 : Int32))), (.int 1), (.ref b1)]))
  refine GoV.s (XS.sipush X2.here hx rfl (hb hby at_22)) ?_
  refine GoV.s (XS.iand X2.here hx rfl (hb hby at_25) rfl) ?_
  show GoV p e below s _ _ _ (T2.setTop (mkF m 26 #[.val (.int p0), .val (.int p1), .val (.int p2), .val (.int p3), .val (.ref b1), .unset, .unset, .unset, .unset, .unset, .unset, .unset, .unset, .unset] [(.int ((XT.ushr p0 (8 : Int32)) &&& (255 : Int32))), (.int 1), (.ref b1)]))
  refine GoV.s (XT.i2c X2.here hx rfl (hb hby at_26) rfl) ?_
  show GoV p e below s _ _ _ (T2.setTop (mkF m 27 #[.val (.int p0), .val (.int p1), .val (.int p2), .val (.int p3), .val (.ref b1), .unset, .unset, .unset, .unset, .unset, .unset, .unset, .unset, .unset] [(.int (((XT.ushr p0 (8 : Int32)) &&& (255 : Int32)).toUInt32.toUInt16.toUInt32.toInt32)), (.int 1), (.ref b1)]))
  obtain ⟨T3, h3, X3, e3, W3, V3, st3⟩ := own_stC X2 hx hZ e2 V_b1 (j := (1 : Int32)) (by decide) (by decide) 1 rfl (Nat.le_of_ble_eq_true rfl) (g := (mkF m 27 #[.val (.int p0), .val (.int p1), .val (.int p2), .val (.int p3), .val (.ref b1), .unset, .unset, .unset, .unset, .unset, .unset, .unset, .unset, .unset] [(.int (((XT.ushr p0 (8 : Int32)) &&& (255 : Int32)).toUInt32.toUInt16.toUInt32.toInt32)), (.int 1), (.ref b1)])) rfl rfl (hb hby at_27)
  obtain ⟨lc3, X3, N3⟩ := own_gen X3 (Fr.snoc X3 N2 g_b1)
  have O3 := O2.wr W3 g_b1
  have hk3 := Nat.le_trans hk2 (Nat.le_of_eq W3.size.symm)
  have V_b1 : Arv Z h3 b1 k1 .char (4 : Int32) [(.int (nar .char ((p0 &&& (255 : Int32)).toUInt32.toUInt16.toUInt32.toInt32))), (.int (nar .char (((XT.ushr p0 (8 : Int32)) &&& (255 : Int32)).toUInt32.toUInt16.toUInt32.toInt32))), (.int 0), (.int 0)] (.int 0) := V3
  refine GoV.st st3 ?_
  show GoV p e below s _ _ _ (T3.setTop (mkF m 28 #[.val (.int p0), .val (.int p1), .val (.int p2), .val (.int p3), .val (.ref b1), .unset, .unset, .unset, .unset, .unset, .unset, .unset, .unset, .unset] []))
  refine GoV.s (XS.aload X3.here hx rfl (hb hby at_28) rfl rfl) ?_
  refine GoV.s (XS.iconst X3.here hx rfl (hb hby at_30)) ?_
  refine GoV.s (XS.iloadN X3.here hx rfl (hb hby at_31) rfl) ?_
  refine GoV.s (XS.bipush X3.here hx rfl (hb hby at_32)) ?_
  refine GoV.s (XT.iushr X3.here hx rfl (hb hby at_34) rfl) ?_
  show GoV p e below s _ _ _ (T3.setTop (mkF m 35 #[.val (.int p0), .val (.int p1), .val (.int p2), .val (.int p3), .val (.ref b1), .unset, .unset, .unset, .unset, .unset, .unset, .unset, .unset, .unset] [(.int (XT.ushr p0 (16 : Int32))), (.int 2), (.ref b1)]))
  refine GoV.s (XS.sipush X3.here hx rfl (hb hby at_35)) ?_
  refine GoV.s (XS.iand X3.here hx rfl (hb hby at_38) rfl) ?_
  show GoV p e below s _ _ _ (T3.setTop (mkF m 39 #[.val (.int p0), .val (.int p1), .val (.int p2), .val (.int p3), .val (.ref b1), .unset, .unset, .unset, .unset, .unset, .unset, .unset, .unset, .unset] [(.int ((XT.ushr p0 (16 : Int32)) &&& (255 : Int32))), (.int 2), (.ref b1)]))
  refine GoV.s (XT.i2c X3.here hx rfl (hb hby at_39) rfl) ?_
  show GoV p e below s _ _ _ (T3.setTop (mkF m 40 #[.val (.int p0), .val (.int p1), .val (.int p2), .val (.int p3), .val (.ref b1), .unset, .unset, .unset, .unset, .unset, .unset, .unset, .unset, .unset] [(.int (((XT.ushr p0 (16 : Int32)) &&& (255 : Int32)).toUInt32.toUInt16.toUInt32.toInt32)), (.int 2), (.ref b1)]))
  obtain ⟨T4, h4, X4, e4, W4, V4, st4⟩ := own_stC X3 hx hZ e3 V_b1 (j := (2 : Int32)) (by decide) (by decide) 2 rfl (Nat.le_of_ble_eq_true rfl) (g := (mkF m 40 #[.val (.int p0), .val (.int p1), .val (.int p2), .val (.int p3), .val (.ref b1), .unset, .unset, .unset, .unset, .unset, .unset, .unset, .unset, .unset] [(.int (((XT.ushr p0 (16 : Int32)) &&& (255 : Int32)).toUInt32.toUInt16.toUInt32.toInt32)), (.int 2), (.ref b1)])) rfl rfl (hb hby at_40)
  obtain ⟨lc4, X4, N4⟩ := own_gen X4 (Fr.snoc X4 N3 g_b1)
  have O4 := O3.wr W4 g_b1
  have hk4 := Nat.le_trans hk3 (Nat.le_of_eq W4.size.symm)
  have V_b1 : Arv Z h4 b1 k1 .char (4 : Int32) [(.int (nar .char ((p0 &&& (255 : Int32)).toUInt32.toUInt16.toUInt32.toInt32))), (.int (nar .char (((XT.ushr p0 (8 : Int32)) &&& (255 : Int32)).toUInt32.toUInt16.toUInt32.toInt32))), (.int (nar .char (((XT.ushr p0 (16 : Int32)) &&& (255 : Int32)).toUInt32.toUInt16.toUInt32.toInt32))), (.int 0)] (.int 0) := V4
  refine GoV.st st4 ?_
  show GoV p e below s _ _ _ (T4.setTop (mkF m 41 #[.val (.int p0), .val (.int p1), .val (.int p2), .val (.int p3), .val (.ref b1), .unset, .unset, .unset, .unset, .unset, .unset, .unset, .unset, .unset] []))
  refine GoV.s (XS.aload X4.here hx rfl (hb hby at_41) rfl rfl) ?_
  refine GoV.s (XS.iconst X4.here hx rfl (hb hby at_43)) ?_
  refine GoV.s (XS.iloadN X4.here hx rfl (hb hby at_44) rfl) ?_
  refine GoV.s (XS.bipush X4.here hx rfl (hb hby at_45)) ?_
  refine GoV.s (XT.iushr X4.here hx rfl (hb hby at_47) rfl) ?_
  show GoV p e below s _ _ _ (T4.setTop (mkF m 48 #[.val (.int p0), .val (.int p1), .val (.int p2), .val (.int p3), .val (.ref b1), .unset, .unset, .unset, .unset, .unset, .unset, .unset, .unset, .unset] [(.int (XT.ushr p0 (24 : Int32))), (.int 3), (.ref b1)]))
  refine GoV.s (XS.sipush X4.here hx rfl (hb hby at_48)) ?_
  refine GoV.s (XS.iand X4.here hx rfl (hb hby at_51) rfl) ?_
  show GoV p e below s _ _ _ (T4.setTop (mkF m 52 #[.val (.int p0), .val (.int p1), .val (.int p2), .val (.int p3), .val (.ref b1), .unset, .unset, .unset, .unset, .unset, .unset, .unset, .unset, .unset] [(.int ((XT.ushr p0 (24 : Int32)) &&& (255 : Int32))), (.int 3), (.ref b1)]))
  refine GoV.s (XT.i2c X4.here hx rfl (hb hby at_52) rfl) ?_
  show GoV p e below s _ _ _ (T4.setTop (mkF m 53 #[.val (.int p0), .val (.int p1), .val (.int p2), .val (.int p3), .val (.ref b1), .unset, .unset, .unset, .unset, .unset, .unset, .unset, .unset, .unset] [(.int (((XT.ushr p0 (24 : Int32)) &&& (255 : Int32)).toUInt32.toUInt16.toUInt32.toInt32)), (.int 3), (.ref b1)]))
  obtain ⟨T5, h5, X5, e5, W5, V5, st5⟩ := own_stC X4 hx hZ e4 V_b1 (j := (3 : Int32)) (by decide) (by decide) 3 rfl (Nat.le_of_ble_eq_true rfl) (g := (mkF m 53 #[.val (.int p0), .val (.int p1), .val (.int p2), .val (.int p3), .val (.ref b1), .unset, .unset, .unset, .unset, .unset, .unset, .unset, .unset, .unset] [(.int (((XT.ushr p0 (24 : Int32)) &&& (255 : Int32)).toUInt32.toUInt16.toUInt32.toInt32)), (.int 3), (.ref b1)])) rfl rfl (hb hby at_53)
  obtain ⟨lc5, X5, N5⟩ := own_gen X5 (Fr.snoc X5 N4 g_b1)
  have O5 := O4.wr W5 g_b1
  have hk5 := Nat.le_trans hk4 (Nat.le_of_eq W5.size.symm)
  have V_b1 : Arv Z h5 b1 k1 .char (4 : Int32) [(.int (nar .char ((p0 &&& (255 : Int32)).toUInt32.toUInt16.toUInt32.toInt32))), (.int (nar .char (((XT.ushr p0 (8 : Int32)) &&& (255 : Int32)).toUInt32.toUInt16.toUInt32.toInt32))), (.int (nar .char (((XT.ushr p0 (16 : Int32)) &&& (255 : Int32)).toUInt32.toUInt16.toUInt32.toInt32))), (.int (nar .char (((XT.ushr p0 (24 : Int32)) &&& (255 : Int32)).toUInt32.toUInt16.toUInt32.toInt32)))] (.int 0) := V5
  refine GoV.st st5 ?_
  show GoV p e below s _ _ _ (T5.setTop (mkF m 54 #[.val (.int p0), .val (.int p1), .val (.int p2), .val (.int p3), .val (.ref b1), .unset, .unset, .unset, .unset, .unset, .unset, .unset, .unset, .unset] []))
  obtain ⟨D, hDe⟩ : ∃ D : List Int32, D = [(nar .char ((p0 &&& (255 : Int32)).toUInt32.toUInt16.toUInt32.toInt32)), (nar .char (((XT.ushr p0 (8 : Int32)) &&& (255 : Int32)).toUInt32.toUInt16.toUInt32.toInt32)), (nar .char (((XT.ushr p0 (16 : Int32)) &&& (255 : Int32)).toUInt32.toUInt16.toUInt32.toInt32)), (nar .char (((XT.ushr p0 (24 : Int32)) &&& (255 : Int32)).toUInt32.toUInt16.toUInt32.toInt32))] := ⟨_, rfl⟩
  have hD : D.length = 4 := by rw [hDe]; rfl
  have hbD : ∀ c ∈ D, ¬ c < 0 ∧ ¬ (255 : Int32) < c := by rw [hDe]; exact own_D4 (own_c8 _) (own_c8 _) (own_c8 _) (own_c8 _)
  have V_b1 : Arv Z h5 b1 k1 .char (4 : Int32) (D.map Value.int) (.int 0) := by rw [hDe]; exact V_b1
  refine GoV.s (XS.iloadN X5.here hx rfl (hb hby at_54) rfl) ?_
  refine GoV.s (X5.ldcI hx hown (mvT hZ (own_w hw 1 rfl)) rfl (hb hby at_55)) ?_
  show GoV p e below s _ _ _ (T5.setTop (mkF m 57 #[.val (.int p0), .val (.int p1), .val (.int p2), .val (.int p3), .val (.ref b1), .unset, .unset, .unset, .unset, .unset, .unset, .unset, .unset, .unset] [(.int 2147483647), (.int p1)]))
  refine GoV.s (XS.iand X5.here hx rfl (hb hby at_57) rfl) ?_
  show GoV p e below s _ _ _ (T5.setTop (mkF m 58 #[.val (.int p0), .val (.int p1), .val (.int p2), .val (.int p3), .val (.ref b1), .unset, .unset, .unset, .unset, .unset, .unset, .unset, .unset, .unset] [(.int (p1 &&& (2147483647 : Int32)))]))
  refine GoV.s (XS.iconst X5.here hx rfl (hb hby at_58)) ?_
  refine GoV.s (iremM X5 hx rfl (hb hby at_59) rfl (by decide)) ?_
  show GoV p e below s _ _ _ (T5.setTop (mkF m 60 #[.val (.int p0), .val (.int p1), .val (.int p2), .val (.int p3), .val (.ref b1), .unset, .unset, .unset, .unset, .unset, .unset, .unset, .unset, .unset] [(.int ((p1 &&& (2147483647 : Int32)) % (5 : Int32)))]))
  obtain ⟨sA, hsA, esA⟩ := own_rem5 p1
  rw [esA]
  show GoV p e below s _ _ _ (T5.setTop (mkF m 60 #[.val (.int p0), .val (.int p1), .val (.int p2), .val (.int p3), .val (.ref b1), .unset, .unset, .unset, .unset, .unset, .unset, .unset, .unset, .unset] [(.int (Int32.ofNat sA))]))
  refine GoV.s (XS.istore X5.here hx rfl (hb hby at_60) rfl (l' := #[.val (.int p0), .val (.int p1), .val (.int p2), .val (.int p3), .val (.ref b1), .val (.int (Int32.ofNat sA)), .unset, .unset, .unset, .unset, .unset, .unset, .unset, .unset]) rfl) ?_
  refine GoV.s (XS.iloadN X5.here hx rfl (hb hby at_62) rfl) ?_
  refine GoV.s (XS.bipush X5.here hx rfl (hb hby at_63)) ?_
  refine GoV.s (XT.iushr X5.here hx rfl (hb hby at_65) rfl) ?_
  show GoV p e below s _ _ _ (T5.setTop (mkF m 66 #[.val (.int p0), .val (.int p1), .val (.int p2), .val (.int p3), .val (.ref b1), .val (.int (Int32.ofNat sA)), .unset, .unset, .unset, .unset, .unset, .unset, .unset, .unset] [(.int (XT.ushr p1 (8 : Int32)))]))
  refine GoV.s (XS.iconst X5.here hx rfl (hb hby at_66)) ?_
  refine GoV.s (XS.iload X5.here hx rfl (hb hby at_67) rfl) ?_
  refine GoV.s (XS.isub X5.here hx rfl (hb hby at_69) rfl) ?_
  show GoV p e below s _ _ _ (T5.setTop (mkF m 70 #[.val (.int p0), .val (.int p1), .val (.int p2), .val (.int p3), .val (.ref b1), .val (.int (Int32.ofNat sA)), .unset, .unset, .unset, .unset, .unset, .unset, .unset, .unset] [(.int ((5 : Int32) - (Int32.ofNat sA))), (.int (XT.ushr p1 (8 : Int32)))]))
  refine GoV.s (iremM X5 hx rfl (hb hby at_70) rfl (own_nz5 hsA)) ?_
  show GoV p e below s _ _ _ (T5.setTop (mkF m 71 #[.val (.int p0), .val (.int p1), .val (.int p2), .val (.int p3), .val (.ref b1), .val (.int (Int32.ofNat sA)), .unset, .unset, .unset, .unset, .unset, .unset, .unset, .unset] [(.int ((XT.ushr p1 (8 : Int32)) % ((5 : Int32) - (Int32.ofNat sA))))]))
  obtain ⟨nA, hnA, enA⟩ := own_rl p1 hsA
  rw [enA]
  show GoV p e below s _ _ _ (T5.setTop (mkF m 71 #[.val (.int p0), .val (.int p1), .val (.int p2), .val (.int p3), .val (.ref b1), .val (.int (Int32.ofNat sA)), .unset, .unset, .unset, .unset, .unset, .unset, .unset, .unset] [(.int (Int32.ofNat nA))]))
  refine GoV.s (XS.istore X5.here hx rfl (hb hby at_71) rfl (l' := #[.val (.int p0), .val (.int p1), .val (.int p2), .val (.int p3), .val (.ref b1), .val (.int (Int32.ofNat sA)), .val (.int (Int32.ofNat nA)), .unset, .unset, .unset, .unset, .unset, .unset, .unset]) rfl) ?_
  refine GoV.s (XS.iloadN X5.here hx rfl (hb hby at_73) rfl) ?_
  refine GoV.s (X5.ldcI hx hown (mvT hZ (own_w hw 1 rfl)) rfl (hb hby at_74)) ?_
  show GoV p e below s _ _ _ (T5.setTop (mkF m 76 #[.val (.int p0), .val (.int p1), .val (.int p2), .val (.int p3), .val (.ref b1), .val (.int (Int32.ofNat sA)), .val (.int (Int32.ofNat nA)), .unset, .unset, .unset, .unset, .unset, .unset, .unset] [(.int 2147483647), (.int p2)]))
  refine GoV.s (XS.iand X5.here hx rfl (hb hby at_76) rfl) ?_
  show GoV p e below s _ _ _ (T5.setTop (mkF m 77 #[.val (.int p0), .val (.int p1), .val (.int p2), .val (.int p3), .val (.ref b1), .val (.int (Int32.ofNat sA)), .val (.int (Int32.ofNat nA)), .unset, .unset, .unset, .unset, .unset, .unset, .unset] [(.int (p2 &&& (2147483647 : Int32)))]))
  refine GoV.s (XS.iconst X5.here hx rfl (hb hby at_77)) ?_
  refine GoV.s (iremM X5 hx rfl (hb hby at_78) rfl (by decide)) ?_
  show GoV p e below s _ _ _ (T5.setTop (mkF m 79 #[.val (.int p0), .val (.int p1), .val (.int p2), .val (.int p3), .val (.ref b1), .val (.int (Int32.ofNat sA)), .val (.int (Int32.ofNat nA)), .unset, .unset, .unset, .unset, .unset, .unset, .unset] [(.int ((p2 &&& (2147483647 : Int32)) % (5 : Int32)))]))
  obtain ⟨sB, hsB, esB⟩ := own_rem5 p2
  rw [esB]
  show GoV p e below s _ _ _ (T5.setTop (mkF m 79 #[.val (.int p0), .val (.int p1), .val (.int p2), .val (.int p3), .val (.ref b1), .val (.int (Int32.ofNat sA)), .val (.int (Int32.ofNat nA)), .unset, .unset, .unset, .unset, .unset, .unset, .unset] [(.int (Int32.ofNat sB))]))
  refine GoV.s (XS.istore X5.here hx rfl (hb hby at_79) rfl (l' := #[.val (.int p0), .val (.int p1), .val (.int p2), .val (.int p3), .val (.ref b1), .val (.int (Int32.ofNat sA)), .val (.int (Int32.ofNat nA)), .val (.int (Int32.ofNat sB)), .unset, .unset, .unset, .unset, .unset, .unset]) rfl) ?_
  refine GoV.s (XS.iloadN X5.here hx rfl (hb hby at_81) rfl) ?_
  refine GoV.s (XS.bipush X5.here hx rfl (hb hby at_82)) ?_
  refine GoV.s (XT.iushr X5.here hx rfl (hb hby at_84) rfl) ?_
  show GoV p e below s _ _ _ (T5.setTop (mkF m 85 #[.val (.int p0), .val (.int p1), .val (.int p2), .val (.int p3), .val (.ref b1), .val (.int (Int32.ofNat sA)), .val (.int (Int32.ofNat nA)), .val (.int (Int32.ofNat sB)), .unset, .unset, .unset, .unset, .unset, .unset] [(.int (XT.ushr p2 (8 : Int32)))]))
  refine GoV.s (XS.iconst X5.here hx rfl (hb hby at_85)) ?_
  refine GoV.s (XS.iload X5.here hx rfl (hb hby at_86) rfl) ?_
  refine GoV.s (XS.isub X5.here hx rfl (hb hby at_88) rfl) ?_
  show GoV p e below s _ _ _ (T5.setTop (mkF m 89 #[.val (.int p0), .val (.int p1), .val (.int p2), .val (.int p3), .val (.ref b1), .val (.int (Int32.ofNat sA)), .val (.int (Int32.ofNat nA)), .val (.int (Int32.ofNat sB)), .unset, .unset, .unset, .unset, .unset, .unset] [(.int ((5 : Int32) - (Int32.ofNat sB))), (.int (XT.ushr p2 (8 : Int32)))]))
  refine GoV.s (iremM X5 hx rfl (hb hby at_89) rfl (own_nz5 hsB)) ?_
  show GoV p e below s _ _ _ (T5.setTop (mkF m 90 #[.val (.int p0), .val (.int p1), .val (.int p2), .val (.int p3), .val (.ref b1), .val (.int (Int32.ofNat sA)), .val (.int (Int32.ofNat nA)), .val (.int (Int32.ofNat sB)), .unset, .unset, .unset, .unset, .unset, .unset] [(.int ((XT.ushr p2 (8 : Int32)) % ((5 : Int32) - (Int32.ofNat sB))))]))
  obtain ⟨nB, hnB, enB⟩ := own_rl p2 hsB
  rw [enB]
  show GoV p e below s _ _ _ (T5.setTop (mkF m 90 #[.val (.int p0), .val (.int p1), .val (.int p2), .val (.int p3), .val (.ref b1), .val (.int (Int32.ofNat sA)), .val (.int (Int32.ofNat nA)), .val (.int (Int32.ofNat sB)), .unset, .unset, .unset, .unset, .unset, .unset] [(.int (Int32.ofNat nB))]))
  refine GoV.s (XS.istore X5.here hx rfl (hb hby at_90) rfl (l' := #[.val (.int p0), .val (.int p1), .val (.int p2), .val (.int p3), .val (.ref b1), .val (.int (Int32.ofNat sA)), .val (.int (Int32.ofNat nA)), .val (.int (Int32.ofNat sB)), .val (.int (Int32.ofNat nB)), .unset, .unset, .unset, .unset, .unset]) rfl) ?_
  refine GoV.s (XS.iloadN X5.here hx rfl (hb hby at_92) rfl) ?_
  refine GoV.s (X5.ldcI hx hown (mvT hZ (own_w hw 1 rfl)) rfl (hb hby at_93)) ?_
  show GoV p e below s _ _ _ (T5.setTop (mkF m 95 #[.val (.int p0), .val (.int p1), .val (.int p2), .val (.int p3), .val (.ref b1), .val (.int (Int32.ofNat sA)), .val (.int (Int32.ofNat nA)), .val (.int (Int32.ofNat sB)), .val (.int (Int32.ofNat nB)), .unset, .unset, .unset, .unset, .unset] [(.int 2147483647), (.int p3)]))
  refine GoV.s (XS.iand X5.here hx rfl (hb hby at_95) rfl) ?_
  show GoV p e below s _ _ _ (T5.setTop (mkF m 96 #[.val (.int p0), .val (.int p1), .val (.int p2), .val (.int p3), .val (.ref b1), .val (.int (Int32.ofNat sA)), .val (.int (Int32.ofNat nA)), .val (.int (Int32.ofNat sB)), .val (.int (Int32.ofNat nB)), .unset, .unset, .unset, .unset, .unset] [(.int (p3 &&& (2147483647 : Int32)))]))
  refine GoV.s (XS.iconst X5.here hx rfl (hb hby at_96)) ?_
  refine GoV.s (iremM X5 hx rfl (hb hby at_97) rfl (by decide)) ?_
  show GoV p e below s _ _ _ (T5.setTop (mkF m 98 #[.val (.int p0), .val (.int p1), .val (.int p2), .val (.int p3), .val (.ref b1), .val (.int (Int32.ofNat sA)), .val (.int (Int32.ofNat nA)), .val (.int (Int32.ofNat sB)), .val (.int (Int32.ofNat nB)), .unset, .unset, .unset, .unset, .unset] [(.int ((p3 &&& (2147483647 : Int32)) % (3 : Int32)))]))
  rcases own_rem3 p3 with ec | ec | ec
  · rw [ec]
    show GoV p e below s _ _ _ (T5.setTop (mkF m 98 #[.val (.int p0), .val (.int p1), .val (.int p2), .val (.int p3), .val (.ref b1), .val (.int (Int32.ofNat sA)), .val (.int (Int32.ofNat nA)), .val (.int (Int32.ofNat sB)), .val (.int (Int32.ofNat nB)), .unset, .unset, .unset, .unset, .unset] [(.int 0)]))
    refine GoV.s (XS.istore X5.here hx rfl (hb hby at_98) rfl (l' := #[.val (.int p0), .val (.int p1), .val (.int p2), .val (.int p3), .val (.ref b1), .val (.int (Int32.ofNat sA)), .val (.int (Int32.ofNat nA)), .val (.int (Int32.ofNat sB)), .val (.int (Int32.ofNat nB)), .val (.int 0), .unset, .unset, .unset, .unset]) rfl) ?_
    refine GoV.s (XS.iload X5.here hx rfl (hb hby at_100) rfl) ?_
    refine GoV.s (XS.iconst X5.here hx rfl (hb hby at_102)) ?_
    refine GoV.s (XS.icmpNo X5.here hx rfl (hb hby at_103) rfl (by decide)) ?_
    show GoV p e below s _ _ _ (T5.setTop (mkF m 106 #[.val (.int p0), .val (.int p1), .val (.int p2), .val (.int p3), .val (.ref b1), .val (.int (Int32.ofNat sA)), .val (.int (Int32.ofNat nA)), .val (.int (Int32.ofNat sB)), .val (.int (Int32.ofNat nB)), .val (.int 0), .unset, .unset, .unset, .unset] []))
    refine GoV.s (XS.iconst X5.here hx rfl (hb hby at_106)) ?_
    refine GoV.s (XS.istore X5.here hx rfl (hb hby at_107) rfl (l' := #[.val (.int p0), .val (.int p1), .val (.int p2), .val (.int p3), .val (.ref b1), .val (.int (Int32.ofNat sA)), .val (.int (Int32.ofNat nA)), .val (.int (Int32.ofNat sB)), .val (.int 0), .val (.int 0), .unset, .unset, .unset, .unset]) rfl) ?_
    show GoV p e below s _ _ _ (T5.setTop (mkF m 109 #[.val (.int p0), .val (.int p1), .val (.int p2), .val (.int p3), .val (.ref b1), .val (.int (Int32.ofNat sA)), .val (.int (Int32.ofNat nA)), .val (.int (Int32.ofNat sB)), .val (.int 0), .val (.int 0), .unset, .unset, .unset, .unset] []))
    show GoV p e below s _ _ _ (T5.setTop (mkF m 109 #[.val (.int p0), .val (.int p1), .val (.int p2), .val (.int p3), .val (.ref b1), .val (.int (Int32.ofNat sA)), .val (.int (Int32.ofNat nA)), .val (.int (Int32.ofNat sB)), .val (.int (Int32.ofNat 0)), .val (.int 0), .unset, .unset, .unset, .unset] []))
    refine GoV.s (XS.iload X5.here hx rfl (hb hby at_109) rfl) ?_
    refine GoV.s (XS.iconst X5.here hx rfl (hb hby at_111)) ?_
    refine GoV.s (XS.icmpNo X5.here hx rfl (hb hby at_112) rfl (by decide)) ?_
    show GoV p e below s _ _ _ (T5.setTop (mkF m 115 #[.val (.int p0), .val (.int p1), .val (.int p2), .val (.int p3), .val (.ref b1), .val (.int (Int32.ofNat sA)), .val (.int (Int32.ofNat nA)), .val (.int (Int32.ofNat sB)), .val (.int (Int32.ofNat 0)), .val (.int 0), .unset, .unset, .unset, .unset] []))
    refine GoV.s (XS.iconst X5.here hx rfl (hb hby at_115)) ?_
    refine GoV.s (XS.istore X5.here hx rfl (hb hby at_116) rfl (l' := #[.val (.int p0), .val (.int p1), .val (.int p2), .val (.int p3), .val (.ref b1), .val (.int (Int32.ofNat sA)), .val (.int 0), .val (.int (Int32.ofNat sB)), .val (.int (Int32.ofNat 0)), .val (.int 0), .unset, .unset, .unset, .unset]) rfl) ?_
    show GoV p e below s _ _ _ (T5.setTop (mkF m 118 #[.val (.int p0), .val (.int p1), .val (.int p2), .val (.int p3), .val (.ref b1), .val (.int (Int32.ofNat sA)), .val (.int 0), .val (.int (Int32.ofNat sB)), .val (.int (Int32.ofNat 0)), .val (.int 0), .unset, .unset, .unset, .unset] []))
    show GoV p e below s _ _ _ (T5.setTop (mkF m 118 #[.val (.int p0), .val (.int p1), .val (.int p2), .val (.int p3), .val (.ref b1), .val (.int (Int32.ofNat sA)), .val (.int (Int32.ofNat 0)), .val (.int (Int32.ofNat sB)), .val (.int (Int32.ofNat 0)), .val (.int 0), .unset, .unset, .unset, .unset] []))
    obtain ⟨T6, h6, X6, e6, E6, A6, D6, -, st6⟩ := newO X5 hx hZ hown (own_w hw 2 rfl) (own_w hw 3 rfl) (own_w hw 4 rfl) e5 (g := (mkF m 118 #[.val (.int p0), .val (.int p1), .val (.int p2), .val (.int p3), .val (.ref b1), .val (.int (Int32.ofNat sA)), .val (.int (Int32.ofNat 0)), .val (.int (Int32.ofNat sB)), .val (.int (Int32.ofNat 0)), .val (.int 0), .unset, .unset, .unset, .unset] [])) rfl (hb hby at_118) (by decide) (by decide)
    obtain ⟨a6, g6⟩ : ∃ z, z = h5.size := ⟨_, rfl⟩
    rw [← g6] at A6 D6 st6
    have g_a6 : n0 ≤ a6 := Nat.le_trans (own_old O5) (Nat.le_of_eq g6.symm)
    have ne_b1_a6 : b1 ≠ a6 := by rw [g6]; exact Nat.ne_of_lt V_b1.lt
    have V_b1 := V_b1.ext E6
    have hk6 := Nat.le_trans hk5 E6.1
    have O6 := O5.ext E6
    have E_a6 : Exa Z h6 a6 "com/example/pemmican/pemmican/XmlElement" := A6
    have F_a6_children : Fld Z h6 a6 "com/example/pemmican/pemmican/XmlElement" "children" "Ljava/util/List;" .null := D6 (Or.inr (own_w hw 44 rfl)) (ty := (.object "java/util/List")) (by decide)
    have F_a6_name : Fld Z h6 a6 "com/example/pemmican/pemmican/XmlElement" "name" "Ljava/lang/String;" .null := D6 (Or.inr (own_w hw 46 rfl)) (ty := (.object "java/lang/String")) (by decide)
    have F_a6_line : Fld Z h6 a6 "com/example/pemmican/pemmican/XmlElement" "line" "I" (.int 0) := D6 (Or.inr (own_w hw 48 rfl)) (ty := .int) (by decide)
    have F_a6_attributes : Fld Z h6 a6 "com/example/pemmican/pemmican/XmlElement" "attributes" "Ljava/util/Map;" .null := D6 (Or.inr (own_w hw 50 rfl)) (ty := (.object "java/util/Map")) (by decide)
    have F_a6_text : Fld Z h6 a6 "com/example/pemmican/pemmican/XmlElement" "text" "Ljava/lang/StringBuilder;" .null := D6 (Or.inl (own_w hw 57 rfl)) (ty := (.object "java/lang/StringBuilder")) (by decide)
    refine GoV.st st6 ?_
    show GoV p e below s _ _ _ (T6.setTop (mkF m 121 #[.val (.int p0), .val (.int p1), .val (.int p2), .val (.int p3), .val (.ref b1), .val (.int (Int32.ofNat sA)), .val (.int (Int32.ofNat 0)), .val (.int (Int32.ofNat sB)), .val (.int (Int32.ofNat 0)), .val (.int 0), .unset, .unset, .unset, .unset] [(.ref a6)]))
    refine GoV.s (XS.dup X6.here hx rfl (hb hby at_121) rfl rfl) ?_
    obtain ⟨u7, T7, h7, kk7, ub7, kb7, ca7, cb7, un7, X7, e7, E7, hS7, hk7, hZ7, hown7, NE, NC, NV, NB, NCa, NCb, Sk7, tx7, I7, hJ7, LT7, st7⟩ := own_ldcH (vm0 := s.vm) X6 hx hZ hown (own_w hw 5 rfl) wS e6 hS0 hk6 (by rw [hs0]; exact N5) hHS_0 I0 (vs := [(.int 101)]) (z := (1 : Int32)) (by decide) (by decide) rfl (g := (mkF m 122 #[.val (.int p0), .val (.int p1), .val (.int p2), .val (.int p3), .val (.ref b1), .val (.int (Int32.ofNat sA)), .val (.int (Int32.ofNat 0)), .val (.int (Int32.ofNat sB)), .val (.int (Int32.ofNat 0)), .val (.int 0), .unset, .unset, .unset, .unset] [(.ref a6), (.ref a6)])) rfl (hb hby at_122) (n := 4) (by decide) (by decide) (by decide) (by decide)
    have J7 := hJ7 _ J0
    have V_b1 := V_b1.ext E7
    have E_a6 := E_a6.ext E7
    have F_a6_children := F_a6_children.ext E7
    have F_a6_name := F_a6_name.ext E7
    have F_a6_line := F_a6_line.ext E7
    have F_a6_attributes := F_a6_attributes.ext E7
    have F_a6_text := F_a6_text.ext E7
    have O7 := O6.ext E7
    have E_u7 : Exa Z h7 u7 "java/lang/String" := NE
    have F_u7_coder : Fld Z h7 u7 "java/lang/String" "coder" "B" (.int 0) := NC
    have F_u7_value : Fld Z h7 u7 "java/lang/String" "value" "[B" (.ref ub7) := NV
    have V_ub7 : Arv Z h7 ub7 kb7 .byte (1 : Int32) [(.int 101)] (.int 0) := NB
    have C_u7 : Cel h7 u7 ca7 := NCa
    have C_ub7 : Cel h7 ub7 cb7 := NCb
    refine GoV.st st7 ?_
    show GoV p e below s _ _ _ (T7.setTop (mkF m 124 #[.val (.int p0), .val (.int p1), .val (.int p2), .val (.int p3), .val (.ref b1), .val (.int (Int32.ofNat sA)), .val (.int (Int32.ofNat 0)), .val (.int (Int32.ofNat sB)), .val (.int (Int32.ofNat 0)), .val (.int 0), .unset, .unset, .unset, .unset] [(.ref u7), (.ref a6), (.ref a6)]))
    refine GoV.s (XS.iconst X7.here hx rfl (hb hby at_124)) ?_
    refine GoV.s (XS.aconstNull X7.here hx rfl (hb hby at_125)) ?_
    obtain ⟨_, _, ⟨T8, L8, k8, n8⟩, -, X8, ⟨Lc8, hQ8, l8, y8, z8⟩, st8⟩ := X7.specialBack hx (y := mN3) rfl hown7 (mvT hZ7 (own_w hw 13 rfl)) (mvT hZ7 (own_w hw 14 rfl)) (mvT hZ7 (own_w hw 15 rfl)) (by decide) (backOf (W := 1) (rmxi l Z a0 hw [] a6 u7 ad h7 n0 O7 E_a6 F_a6_children F_a6_name F_a6_line F_a6_attributes F_a6_text g_a6 SD) hZ7 (own_w hw 15 rfl) (own_w hw 4 rfl) (by decide) (by decide)) (g := (mkF m 126 #[.val (.int p0), .val (.int p1), .val (.int p2), .val (.int p3), .val (.ref b1), .val (.int (Int32.ofNat sA)), .val (.int (Int32.ofNat 0)), .val (.int (Int32.ofNat sB)), .val (.int (Int32.ofNat 0)), .val (.int 0), .unset, .unset, .unset, .unset] [.null, (.int 1), (.ref u7), (.ref a6), (.ref a6)])) rfl (by rw [hml]; rfl) (Steps.refl _) (a := a6) (argsL := [(.ref u7), (.int 1), .null]) (rest := [(.ref a6)]) (lenOf pd0_0 rfl) rfl (by show 2 * 0 + _ ≤ _; exact Nat.le_of_eq rfl) (hb hby at_126) (fun _ _ => ⟨rfl, e7, (by decide : 4 + 1 ≤ _), (by decide : 17 + 3 ≤ _)⟩)
    dsimp only [Pt.U, Pt.locs, Pt.cells, Pt.slots] at X8 l8 y8 z8 st8 hQ8
    subst y8 z8
    obtain ⟨rfl, Nc8, Kc8, NA, NB⟩ := hQ8
    have N8 : Fr n0 L8 := by rw [l8]; exact Fr.app N5 Nc8
    have V_b1 := V_b1.keep Kc8 (ninS ne_b1_a6 nin0)
    have hk8 := Nat.le_trans hk7 Kc8.1
    have O8 := O7.keep Kc8 (allS g_a6 all0)
    have E_a6 : Exa Z T8.heap a6 "com/example/pemmican/pemmican/XmlElement" := NA
    have F_a6_text : Fld Z T8.heap a6 "com/example/pemmican/pemmican/XmlElement" "text" "Ljava/lang/StringBuilder;" .null := NB
    refine GoV.tr st8 ?_
    show GoV p e below s _ _ _ (T8.setTop (mkF m 129 #[.val (.int p0), .val (.int p1), .val (.int p2), .val (.int p3), .val (.ref b1), .val (.int (Int32.ofNat sA)), .val (.int (Int32.ofNat 0)), .val (.int (Int32.ofNat sB)), .val (.int (Int32.ofNat 0)), .val (.int 0), .unset, .unset, .unset, .unset] [(.ref a6)]))
    refine GoV.s (XS.astore X8.here hx rfl (hb hby at_129) rfl rfl (l' := #[.val (.int p0), .val (.int p1), .val (.int p2), .val (.int p3), .val (.ref b1), .val (.int (Int32.ofNat sA)), .val (.int (Int32.ofNat 0)), .val (.int (Int32.ofNat sB)), .val (.int (Int32.ofNat 0)), .val (.int 0), .val (.ref a6), .unset, .unset, .unset]) rfl) ?_
    refine GoV.s (XS.iconst X8.here hx rfl (hb hby at_131)) ?_
    refine GoV.s (XS.istore X8.here hx rfl (hb hby at_132) rfl (l' := #[.val (.int p0), .val (.int p1), .val (.int p2), .val (.int p3), .val (.ref b1), .val (.int (Int32.ofNat sA)), .val (.int (Int32.ofNat 0)), .val (.int (Int32.ofNat sB)), .val (.int (Int32.ofNat 0)), .val (.int 0), .val (.ref a6), .val (.int 1), .unset, .unset]) rfl) ?_
    refine GoV.s (XS.iload X8.here hx rfl (hb hby at_134) rfl) ?_
    refine GoV.s (XS.iconst X8.here hx rfl (hb hby at_136)) ?_
    refine GoV.s (XS.icmpYes X8.here hx rfl (pc0 := 137) (pc' := 183) rfl (hb hby at_137) rfl (by decide) (by decide) (by decide)) ?_
    show GoV p e below s _ _ _ (T8.setTop (mkF m 183 #[.val (.int p0), .val (.int p1), .val (.int p2), .val (.int p3), .val (.ref b1), .val (.int (Int32.ofNat sA)), .val (.int (Int32.ofNat 0)), .val (.int (Int32.ofNat sB)), .val (.int (Int32.ofNat 0)), .val (.int 0), .val (.ref a6), .val (.int 1), .unset, .unset] []))
    refine GoV.s (XS.iload X8.here hx rfl (hb hby at_183) rfl) ?_
    refine GoV.s (XS.iconst X8.here hx rfl (hb hby at_185)) ?_
    refine GoV.s (XS.icmpYes X8.here hx rfl (pc0 := 186) (pc' := 200) rfl (hb hby at_186) rfl (by decide) (by decide) (by decide)) ?_
    show GoV p e below s _ _ _ (T8.setTop (mkF m 200 #[.val (.int p0), .val (.int p1), .val (.int p2), .val (.int p3), .val (.ref b1), .val (.int (Int32.ofNat sA)), .val (.int (Int32.ofNat 0)), .val (.int (Int32.ofNat sB)), .val (.int (Int32.ofNat 0)), .val (.int 0), .val (.ref a6), .val (.int 1), .unset, .unset] []))
    refine GoV.s (XS.aload X8.here hx rfl (hb hby at_200) rfl rfl) ?_
    have hC9 : ∀ U : State, Z.Warmed39 U.vm → (s.setVm T7.vm).WarmedH U.vm → U.heap = T8.heap → ∀ c ∈ ([("com/example/pemmican/pemmican/XmlElement", 80)] : List (String × Nat)), ConstHeldL U c.1 c.2 := by
      intro U hU1 hU2 hU3 c hc
      have hIU := own_iH (s := (s.setVm T7.vm)) I7 hU2
      have hkU : ∀ (b : Addr) (cl : Cell), Z.heap[b]? = some cl → U.heap[b]? = some cl := fun b cl q => by rw [hU3]; exact O8.2.2 b cl q
      simp only [List.mem_cons, List.not_mem_nil, or_false] at hc
      rcases hc with rfl
      · exact own_held hU1 (own_w hw 239 rfl) hIU hkU hHZ_1 (fun q hq ht => by rw [List.mem_singleton] at hq; subst hq; exact absurd (Option.some.inj (tx7.symm.trans ht)) (by decide))
    obtain ⟨cq10, kq10, qa10, qb10, qc10⟩ := isOf hZ7 rfl E_a6
    obtain ⟨_, _, ⟨T10, L10, k10, n10⟩, -, X10, hSn10, gr10, ⟨Lc10, hQ10, l10, y10, z10⟩, st10⟩ := X8.virtualBackS hx (y := mN28) (z := mN28) hown7 (mvT hZ7 (own_w hw 109 rfl)) (mvT hZ7 (own_w hw 110 rfl)) (notFace_of_selects (args := #[]) (mvT hZ7 (own_w hw 112 rfl))) (mvT hZ7 (own_w hw 112 rfl)) (mvT hZ7 (own_w hw 111 rfl)) (by decide) (own_backHC (W := 0) (rmt0 l Z a0 hw [] a6 ((un7, u7) :: []) T8.heap n0 O8 E_a6 F_a6_text hHZ_1) hZ7 I7 hC9 (own_w hw 113 rfl) (own_w hw 4 rfl) (by decide) (by decide)) qa10 qc10 (g := (mkF m 202 #[.val (.int p0), .val (.int p1), .val (.int p2), .val (.int p3), .val (.ref b1), .val (.int (Int32.ofNat sA)), .val (.int (Int32.ofNat 0)), .val (.int (Int32.ofNat sB)), .val (.int (Int32.ofNat 0)), .val (.int 0), .val (.ref a6), .val (.int 1), .unset, .unset] [(.ref a6)])) rfl (by rw [hml]; rfl) (Steps.refl _) (argsL := []) (rest := []) (lenOf pdtx_0 rfl) rfl (by show 2 * 0 + _ ≤ _; exact Nat.le_of_eq rfl) (hb hby at_202) (fun _ _ => ⟨rfl, rfl, (by decide : 5 + 2 ≤ _), (by decide : 20 + 4 ≤ _)⟩)
    dsimp only [Pt.U, Pt.locs, Pt.cells, Pt.slots] at X10 l10 y10 z10 st10 hQ10
    subst y10 z10
    dsimp only [Pt.U, Pt.locs, Pt.cells, Pt.slots] at hSn10 gr10
    obtain ⟨X10, hS10, hZ10, hown10⟩ := rebS (vm0 := T7.vm) hS7 hk8 X10 hSn10 gr10 hZ7 hown7
    have hk10 : T10.heap.size ≤ T10.heap.size := Nat.le_refl _
    obtain ⟨x0_, y0_, k0_, P0_, rfl, Nc10, Kc10, NA, NB, NC, ND, I10, hX⟩ := hQ10
    have N10 : Fr n0 L10 := by rw [l10]; exact Fr.app N8 Nc10
    have V_b1 := V_b1.keep Kc10 nin0
    have E_a6 := E_a6.keep Kc10
    have F_a6_text := F_a6_text.keep Kc10 nin0
    have O10 := O8.keep Kc10 all0
    have E_x0_ : Exa Z T10.heap x0_ "java/lang/String" := NA
    have F_x0__coder : Fld Z T10.heap x0_ "java/lang/String" "coder" "B" (.int 0) := NB
    have F_x0__value : Fld Z T10.heap x0_ "java/lang/String" "value" "[B" (.ref y0_) := NC
    have V_y0_ : Arv Z T10.heap y0_ k0_ .byte (Int32.ofNat ([] : List Int32).length) (oLat ([] : List Int32)) (.int 0) := ND
    refine GoV.tr st10 ?_
    show GoV p e below s _ _ _ (T10.setTop (mkF m 205 #[.val (.int p0), .val (.int p1), .val (.int p2), .val (.int p3), .val (.ref b1), .val (.int (Int32.ofNat sA)), .val (.int (Int32.ofNat 0)), .val (.int (Int32.ofNat sB)), .val (.int (Int32.ofNat 0)), .val (.int 0), .val (.ref a6), .val (.int 1), .unset, .unset] [(.ref x0_)]))
    refine GoV.s (XS.astore X10.here hx rfl (hb hby at_205) rfl rfl (l' := #[.val (.int p0), .val (.int p1), .val (.int p2), .val (.int p3), .val (.ref b1), .val (.int (Int32.ofNat sA)), .val (.int (Int32.ofNat 0)), .val (.int (Int32.ofNat sB)), .val (.int (Int32.ofNat 0)), .val (.int 0), .val (.ref a6), .val (.int 1), .val (.ref x0_), .unset]) rfl) ?_
    refine GoV.s (XS.iload X10.here hx rfl (hb hby at_207) rfl) ?_
    refine GoV.s (XS.ifNo X10.here hx rfl (hb hby at_209) rfl (by decide)) ?_
    show GoV p e below s _ _ _ (T10.setTop (mkF m 212 #[.val (.int p0), .val (.int p1), .val (.int p2), .val (.int p3), .val (.ref b1), .val (.int (Int32.ofNat sA)), .val (.int (Int32.ofNat 0)), .val (.int (Int32.ofNat sB)), .val (.int (Int32.ofNat 0)), .val (.int 0), .val (.ref a6), .val (.int 1), .val (.ref x0_), .unset] []))
    refine GoV.s (XS.aload X10.here hx rfl (hb hby at_212) rfl rfl) ?_
    refine GoV.s (XS.aload X10.here hx rfl (hb hby at_214) rfl rfl) ?_
    refine GoV.s (XS.iload X10.here hx rfl (hb hby at_216) rfl) ?_
    refine GoV.s (XS.iload X10.here hx rfl (hb hby at_218) rfl) ?_
    refine GoV.s (XS.iload X10.here hx rfl (hb hby at_220) rfl) ?_
    refine GoV.s (XS.iload X10.here hx rfl (hb hby at_222) rfl) ?_
    obtain ⟨_, _, ⟨T11, L11, k11, n11⟩, -, X11, ⟨Lc11, hQ11, l11, y11, z11⟩, st11⟩ := Jvm.LawKit.callS X10 hx (y := mN39) hown10 (mvT hZ10 (own_w hw 157 rfl)) (mvT hZ10 (own_w hw 158 rfl)) (mvT hZ10 (own_w hw 159 rfl)) (mvT hZ10 (own_w hw 160 rfl)) (by decide) (backOf (W := 0) (rmmt l Z a0 hw [] x0_ y0_ k0_ ([] : List Int32) b1 k1 D sA 0 sB 0 fm zc T10.heap n0 O10 E_x0_ F_x0__coder F_x0__value V_y0_ V_b1 hD hbD (by omega) (by omega) (by rw [own_s0, own_s0]; rfl) SF rf SC hcs) hZ10 (own_w hw 160 rfl) (own_w hw 159 rfl) (by decide) (by decide)) (g := (mkF m 224 #[.val (.int p0), .val (.int p1), .val (.int p2), .val (.int p3), .val (.ref b1), .val (.int (Int32.ofNat sA)), .val (.int (Int32.ofNat 0)), .val (.int (Int32.ofNat sB)), .val (.int (Int32.ofNat 0)), .val (.int 0), .val (.ref a6), .val (.int 1), .val (.ref x0_), .unset] [(.int (Int32.ofNat 0)), (.int (Int32.ofNat sB)), (.int (Int32.ofNat 0)), (.int (Int32.ofNat sA)), (.ref b1), (.ref x0_)])) rfl (by rw [hml]; rfl) (argsL := [(.ref x0_), (.ref b1), (.int (Int32.ofNat sA)), (.int (Int32.ofNat 0)), (.int (Int32.ofNat sB)), (.int (Int32.ofNat 0))]) (rest := []) (lenOf pd0_1 rfl) rfl (by show 2 * 0 + _ ≤ _; exact Nat.le_of_eq rfl) (hb hby at_224) (fun _ _ => ⟨rfl, rfl, (by decide : 7 + 0 ≤ _), (by decide : 24 + 0 ≤ _)⟩)
    dsimp only [Pt.U, Pt.locs, Pt.cells, Pt.slots] at X11 l11 y11 z11 st11 hQ11
    subst y11 z11
    obtain ⟨rfl, Nc11, e11⟩ := hQ11
    have N11 : Fr n0 L11 := by rw [l11]; exact Fr.app N10 Nc11
    refine GoV.st st11 ?_
    show GoV p e below s _ _ _ (T11.setTop (mkF m 227 #[.val (.int p0), .val (.int p1), .val (.int p2), .val (.int p3), .val (.ref b1), .val (.int (Int32.ofNat sA)), .val (.int (Int32.ofNat 0)), .val (.int (Int32.ofNat sB)), .val (.int (Int32.ofNat 0)), .val (.int 0), .val (.ref a6), .val (.int 1), .val (.ref x0_), .unset] [(.int 1)]))
    refine GoV.s (XS.ifNo X11.here hx rfl (hb hby at_227) rfl (by decide)) ?_
    show GoV p e below s _ _ _ (T11.setTop (mkF m 230 #[.val (.int p0), .val (.int p1), .val (.int p2), .val (.int p3), .val (.ref b1), .val (.int (Int32.ofNat sA)), .val (.int (Int32.ofNat 0)), .val (.int (Int32.ofNat sB)), .val (.int (Int32.ofNat 0)), .val (.int 0), .val (.ref a6), .val (.int 1), .val (.ref x0_), .unset] []))
    refine GoV.s (XS.iconst X11.here hx rfl (hb hby at_230)) ?_
    refine GoV.s (XS.goto X11.here hx rfl (pc0 := 231) (pc' := 235) rfl (hb hby at_231) (by decide) (by decide)) ?_
    refine GoV.s (XS.istore X11.here hx rfl (hb hby at_235) rfl (l' := #[.val (.int p0), .val (.int p1), .val (.int p2), .val (.int p3), .val (.ref b1), .val (.int (Int32.ofNat sA)), .val (.int (Int32.ofNat 0)), .val (.int (Int32.ofNat sB)), .val (.int (Int32.ofNat 0)), .val (.int 0), .val (.ref a6), .val (.int 1), .val (.ref x0_), .unset]) rfl) ?_
    refine GoV.s (XS.aload X11.here hx rfl (hb hby at_237) rfl rfl) ?_
    have hC12 : ∀ U : State, Z.Warmed39 U.vm → (s.setVm T10.vm).WarmedH U.vm → U.heap = T10.heap → ∀ c ∈ ([("com/example/pemmican/pemmican/XmlElement", 80)] : List (String × Nat)), ConstHeldL U c.1 c.2 := fun U hU1 hU2 hU3 c hc => by
      rw [List.mem_singleton] at hc
      subst hc
      exact hX U hU1 hU3 (own_iH (s := s.setVm T10.vm) I10 hU2) (fun q hq ht => by rw [List.mem_singleton] at hq; subst hq; exact absurd (Option.some.inj (tx7.symm.trans ht)) (by decide))
    obtain ⟨cq13, kq13, qa13, qb13, qc13⟩ := isOf hZ10 e11 E_a6
    obtain ⟨_, _, ⟨T13, L13, k13, n13⟩, -, X13, hSn13, gr13, ⟨Lc13, hQ13, l13, y13, z13⟩, st13⟩ := X11.virtualBackS hx (y := mN28) (z := mN28) hown10 (mvT hZ10 (own_w hw 109 rfl)) (mvT hZ10 (own_w hw 110 rfl)) (notFace_of_selects (args := #[]) (mvT hZ10 (own_w hw 112 rfl))) (mvT hZ10 (own_w hw 112 rfl)) (mvT hZ10 (own_w hw 111 rfl)) (by decide) (own_backHC (W := 0) (rmt0 l Z a0 hw [] a6 P0_ T10.heap n0 O10 E_a6 F_a6_text hHZ_1) hZ10 I10 hC12 (own_w hw 113 rfl) (own_w hw 4 rfl) (by decide) (by decide)) qa13 qc13 (g := (mkF m 239 #[.val (.int p0), .val (.int p1), .val (.int p2), .val (.int p3), .val (.ref b1), .val (.int (Int32.ofNat sA)), .val (.int (Int32.ofNat 0)), .val (.int (Int32.ofNat sB)), .val (.int (Int32.ofNat 0)), .val (.int 0), .val (.ref a6), .val (.int 1), .val (.ref x0_), .unset] [(.ref a6)])) rfl (by rw [hml]; rfl) (Steps.refl _) (argsL := []) (rest := []) (lenOf pdtx_0 rfl) rfl (by show 2 * 0 + _ ≤ _; exact Nat.le_of_eq rfl) (hb hby at_239) (fun _ _ => ⟨rfl, e11, (by decide : 7 + 2 ≤ _), (by decide : 24 + 4 ≤ _)⟩)
    dsimp only [Pt.U, Pt.locs, Pt.cells, Pt.slots] at X13 l13 y13 z13 st13 hQ13
    subst y13 z13
    dsimp only [Pt.U, Pt.locs, Pt.cells, Pt.slots] at hSn13 gr13
    obtain ⟨X13, hS13, hZ13, hown13⟩ := rebS (vm0 := T10.vm) hS10 (by rw [e11]; exact hk10) X13 hSn13 gr13 hZ10 hown10
    have hk13 : T13.heap.size ≤ T13.heap.size := Nat.le_refl _
    obtain ⟨x1_, y1_, k1_, P1_, rfl, Nc13, Kc13, NA, NB, NC, ND, I13, hX⟩ := hQ13
    have N13 : Fr n0 L13 := by rw [l13]; exact Fr.app N11 Nc13
    have V_b1 := V_b1.keep Kc13 nin0
    have E_a6 := E_a6.keep Kc13
    have F_a6_text := F_a6_text.keep Kc13 nin0
    have E_x0_ := E_x0_.keep Kc13
    have F_x0__coder := F_x0__coder.keep Kc13 nin0
    have F_x0__value := F_x0__value.keep Kc13 nin0
    have V_y0_ := V_y0_.keep Kc13 nin0
    have O13 := O10.keep Kc13 all0
    have E_x1_ : Exa Z T13.heap x1_ "java/lang/String" := NA
    have F_x1__coder : Fld Z T13.heap x1_ "java/lang/String" "coder" "B" (.int 0) := NB
    have F_x1__value : Fld Z T13.heap x1_ "java/lang/String" "value" "[B" (.ref y1_) := NC
    have V_y1_ : Arv Z T13.heap y1_ k1_ .byte (Int32.ofNat ([] : List Int32).length) (oLat ([] : List Int32)) (.int 0) := ND
    refine GoV.tr st13 ?_
    show GoV p e below s _ _ _ (T13.setTop (mkF m 242 #[.val (.int p0), .val (.int p1), .val (.int p2), .val (.int p3), .val (.ref b1), .val (.int (Int32.ofNat sA)), .val (.int (Int32.ofNat 0)), .val (.int (Int32.ofNat sB)), .val (.int (Int32.ofNat 0)), .val (.int 0), .val (.ref a6), .val (.int 1), .val (.ref x0_), .unset] [(.ref x1_)]))
    refine GoV.s (XS.astore X13.here hx rfl (hb hby at_242) rfl rfl (l' := #[.val (.int p0), .val (.int p1), .val (.int p2), .val (.int p3), .val (.ref b1), .val (.int (Int32.ofNat sA)), .val (.int (Int32.ofNat 0)), .val (.int (Int32.ofNat sB)), .val (.int (Int32.ofNat 0)), .val (.int 0), .val (.ref a6), .val (.int 1), .val (.ref x0_), .val (.ref x1_)]) rfl) ?_
    refine GoV.s (XS.iload X13.here hx rfl (hb hby at_244) rfl) ?_
    refine GoV.s (XS.ifNo X13.here hx rfl (hb hby at_246) rfl (by decide)) ?_
    show GoV p e below s _ _ _ (T13.setTop (mkF m 249 #[.val (.int p0), .val (.int p1), .val (.int p2), .val (.int p3), .val (.ref b1), .val (.int (Int32.ofNat sA)), .val (.int (Int32.ofNat 0)), .val (.int (Int32.ofNat sB)), .val (.int (Int32.ofNat 0)), .val (.int 0), .val (.ref a6), .val (.int 1), .val (.ref x0_), .val (.ref x1_)] []))
    refine GoV.s (XS.aload X13.here hx rfl (hb hby at_249) rfl rfl) ?_
    refine GoV.s (XS.ifnullNo X13.here hx rfl (hb hby at_251) rfl) ?_
    show GoV p e below s _ _ _ (T13.setTop (mkF m 254 #[.val (.int p0), .val (.int p1), .val (.int p2), .val (.int p3), .val (.ref b1), .val (.int (Int32.ofNat sA)), .val (.int (Int32.ofNat 0)), .val (.int (Int32.ofNat sB)), .val (.int (Int32.ofNat 0)), .val (.int 0), .val (.ref a6), .val (.int 1), .val (.ref x0_), .val (.ref x1_)] []))
    refine GoV.s (XS.aload X13.here hx rfl (hb hby at_254) rfl rfl) ?_
    refine GoV.s (XS.ifnullNo X13.here hx rfl (hb hby at_256) rfl) ?_
    show GoV p e below s _ _ _ (T13.setTop (mkF m 259 #[.val (.int p0), .val (.int p1), .val (.int p2), .val (.int p3), .val (.ref b1), .val (.int (Int32.ofNat sA)), .val (.int (Int32.ofNat 0)), .val (.int (Int32.ofNat sB)), .val (.int (Int32.ofNat 0)), .val (.int 0), .val (.ref a6), .val (.int 1), .val (.ref x0_), .val (.ref x1_)] []))
    refine GoV.s (XS.aload X13.here hx rfl (hb hby at_259) rfl rfl) ?_
    refine GoV.s (XS.aload X13.here hx rfl (hb hby at_261) rfl rfl) ?_
    obtain ⟨cq14, kq14, qa14, qb14, qc14⟩ := isOf hZ13 rfl E_x0_
    obtain ⟨_, _, ⟨T14, L14, k14, n14⟩, -, X14, ⟨Lc14, hQ14, l14, y14, z14⟩, st14⟩ := X13.virtualBack hx (y := mN37) (z := mN37) hown13 (mvT hZ13 (own_w hw 175 rfl)) (mvT hZ13 (own_w hw 176 rfl)) (notFace_of_selects (args := #[]) (mvT hZ13 (own_w hw 178 rfl))) (mvT hZ13 (own_w hw 178 rfl)) (mvT hZ13 (own_w hw 177 rfl)) (by decide) (backOf (W := 0) (rmse l Z a0 hw [] x0_ y0_ k0_ ([] : List Int32) x1_ y1_ k1_ zc T13.heap n0 O13 E_x0_ F_x0__coder F_x0__value V_y0_ E_x1_ F_x1__coder F_x1__value V_y1_ (by decide) SC hcs) hZ13 (own_w hw 179 rfl) (own_w hw 6 rfl) (by decide) (by decide)) qa14 qc14 (g := (mkF m 263 #[.val (.int p0), .val (.int p1), .val (.int p2), .val (.int p3), .val (.ref b1), .val (.int (Int32.ofNat sA)), .val (.int (Int32.ofNat 0)), .val (.int (Int32.ofNat sB)), .val (.int (Int32.ofNat 0)), .val (.int 0), .val (.ref a6), .val (.int 1), .val (.ref x0_), .val (.ref x1_)] [(.ref x1_), (.ref x0_)])) rfl (by rw [hml]; rfl) (Steps.refl _) (argsL := [(.ref x1_)]) (rest := []) (lenOf pd0_2 rfl) rfl (by show 2 * 0 + _ ≤ _; exact Nat.le_of_eq rfl) (hb hby at_263) (fun _ _ => ⟨rfl, rfl, (by decide : 9 + 0 ≤ _), (by decide : 28 + 0 ≤ _)⟩)
    dsimp only [Pt.U, Pt.locs, Pt.cells, Pt.slots] at X14 l14 y14 z14 st14 hQ14
    subst y14 z14
    obtain ⟨rfl, Nc14, e14⟩ := hQ14
    have N14 : Fr n0 L14 := by rw [l14]; exact Fr.app N13 Nc14
    refine GoV.tr st14 ?_
    show GoV p e below s _ _ _ (T14.setTop (mkF m 266 #[.val (.int p0), .val (.int p1), .val (.int p2), .val (.int p3), .val (.ref b1), .val (.int (Int32.ofNat sA)), .val (.int (Int32.ofNat 0)), .val (.int (Int32.ofNat sB)), .val (.int (Int32.ofNat 0)), .val (.int 0), .val (.ref a6), .val (.int 1), .val (.ref x0_), .val (.ref x1_)] [(.int 1)]))
    refine GoV.s (XS.ifNo X14.here hx rfl (hb hby at_266) rfl (by decide)) ?_
    show GoV p e below s _ _ _ (T14.setTop (mkF m 269 #[.val (.int p0), .val (.int p1), .val (.int p2), .val (.int p3), .val (.ref b1), .val (.int (Int32.ofNat sA)), .val (.int (Int32.ofNat 0)), .val (.int (Int32.ofNat sB)), .val (.int (Int32.ofNat 0)), .val (.int 0), .val (.ref a6), .val (.int 1), .val (.ref x0_), .val (.ref x1_)] []))
    refine GoV.s (XS.iconst X14.here hx rfl (hb hby at_269)) ?_
    refine GoV.s (XS.goto X14.here hx rfl (pc0 := 270) (pc' := 274) rfl (hb hby at_270) (by decide) (by decide)) ?_
    refine GoV.s (XS.istore X14.here hx rfl (hb hby at_274) rfl (l' := #[.val (.int p0), .val (.int p1), .val (.int p2), .val (.int p3), .val (.ref b1), .val (.int (Int32.ofNat sA)), .val (.int (Int32.ofNat 0)), .val (.int (Int32.ofNat sB)), .val (.int (Int32.ofNat 0)), .val (.int 0), .val (.ref a6), .val (.int 1), .val (.ref x0_), .val (.ref x1_)]) rfl) ?_
    refine GoV.s (XS.iload X14.here hx rfl (hb hby at_276) rfl) ?_
    exact GoV.ret (vm1 := T13.vm) X14 hlk hS13 (by rw [e14]; exact hk13) (some (.int (nar .boolean (1 : Int32)))) (fun h => by rw [Bd.returns] at h; cases h) (by rw [e14]; exact ⟨rfl, N14⟩) (by decide) (by decide) (fun fs hr => retN X14 hx (t := .boolean) Bd.returns (by simp) (hb hby at_278) hr)
  · rw [ec]
    show GoV p e below s _ _ _ (T5.setTop (mkF m 98 #[.val (.int p0), .val (.int p1), .val (.int p2), .val (.int p3), .val (.ref b1), .val (.int (Int32.ofNat sA)), .val (.int (Int32.ofNat nA)), .val (.int (Int32.ofNat sB)), .val (.int (Int32.ofNat nB)), .unset, .unset, .unset, .unset, .unset] [(.int 1)]))
    refine GoV.s (XS.istore X5.here hx rfl (hb hby at_98) rfl (l' := #[.val (.int p0), .val (.int p1), .val (.int p2), .val (.int p3), .val (.ref b1), .val (.int (Int32.ofNat sA)), .val (.int (Int32.ofNat nA)), .val (.int (Int32.ofNat sB)), .val (.int (Int32.ofNat nB)), .val (.int 1), .unset, .unset, .unset, .unset]) rfl) ?_
    refine GoV.s (XS.iload X5.here hx rfl (hb hby at_100) rfl) ?_
    refine GoV.s (XS.iconst X5.here hx rfl (hb hby at_102)) ?_
    refine GoV.s (XS.icmpNo X5.here hx rfl (hb hby at_103) rfl (by decide)) ?_
    show GoV p e below s _ _ _ (T5.setTop (mkF m 106 #[.val (.int p0), .val (.int p1), .val (.int p2), .val (.int p3), .val (.ref b1), .val (.int (Int32.ofNat sA)), .val (.int (Int32.ofNat nA)), .val (.int (Int32.ofNat sB)), .val (.int (Int32.ofNat nB)), .val (.int 1), .unset, .unset, .unset, .unset] []))
    refine GoV.s (XS.iconst X5.here hx rfl (hb hby at_106)) ?_
    refine GoV.s (XS.istore X5.here hx rfl (hb hby at_107) rfl (l' := #[.val (.int p0), .val (.int p1), .val (.int p2), .val (.int p3), .val (.ref b1), .val (.int (Int32.ofNat sA)), .val (.int (Int32.ofNat nA)), .val (.int (Int32.ofNat sB)), .val (.int 0), .val (.int 1), .unset, .unset, .unset, .unset]) rfl) ?_
    show GoV p e below s _ _ _ (T5.setTop (mkF m 109 #[.val (.int p0), .val (.int p1), .val (.int p2), .val (.int p3), .val (.ref b1), .val (.int (Int32.ofNat sA)), .val (.int (Int32.ofNat nA)), .val (.int (Int32.ofNat sB)), .val (.int 0), .val (.int 1), .unset, .unset, .unset, .unset] []))
    show GoV p e below s _ _ _ (T5.setTop (mkF m 109 #[.val (.int p0), .val (.int p1), .val (.int p2), .val (.int p3), .val (.ref b1), .val (.int (Int32.ofNat sA)), .val (.int (Int32.ofNat nA)), .val (.int (Int32.ofNat sB)), .val (.int (Int32.ofNat 0)), .val (.int 1), .unset, .unset, .unset, .unset] []))
    refine GoV.s (XS.iload X5.here hx rfl (hb hby at_109) rfl) ?_
    refine GoV.s (XS.iconst X5.here hx rfl (hb hby at_111)) ?_
    refine GoV.s (XS.icmpYes X5.here hx rfl (pc0 := 112) (pc' := 118) rfl (hb hby at_112) rfl (by decide) (by decide) (by decide)) ?_
    show GoV p e below s _ _ _ (T5.setTop (mkF m 118 #[.val (.int p0), .val (.int p1), .val (.int p2), .val (.int p3), .val (.ref b1), .val (.int (Int32.ofNat sA)), .val (.int (Int32.ofNat nA)), .val (.int (Int32.ofNat sB)), .val (.int (Int32.ofNat 0)), .val (.int 1), .unset, .unset, .unset, .unset] []))
    obtain ⟨T15, h15, X15, e15, E15, A15, D15, -, st15⟩ := newO X5 hx hZ hown (own_w hw 2 rfl) (own_w hw 3 rfl) (own_w hw 4 rfl) e5 (g := (mkF m 118 #[.val (.int p0), .val (.int p1), .val (.int p2), .val (.int p3), .val (.ref b1), .val (.int (Int32.ofNat sA)), .val (.int (Int32.ofNat nA)), .val (.int (Int32.ofNat sB)), .val (.int (Int32.ofNat 0)), .val (.int 1), .unset, .unset, .unset, .unset] [])) rfl (hb hby at_118) (by decide) (by decide)
    obtain ⟨a15, g15⟩ : ∃ z, z = h5.size := ⟨_, rfl⟩
    rw [← g15] at A15 D15 st15
    have g_a15 : n0 ≤ a15 := Nat.le_trans (own_old O5) (Nat.le_of_eq g15.symm)
    have ne_b1_a15 : b1 ≠ a15 := by rw [g15]; exact Nat.ne_of_lt V_b1.lt
    have V_b1 := V_b1.ext E15
    have hk15 := Nat.le_trans hk5 E15.1
    have O15 := O5.ext E15
    have E_a15 : Exa Z h15 a15 "com/example/pemmican/pemmican/XmlElement" := A15
    have F_a15_children : Fld Z h15 a15 "com/example/pemmican/pemmican/XmlElement" "children" "Ljava/util/List;" .null := D15 (Or.inr (own_w hw 44 rfl)) (ty := (.object "java/util/List")) (by decide)
    have F_a15_name : Fld Z h15 a15 "com/example/pemmican/pemmican/XmlElement" "name" "Ljava/lang/String;" .null := D15 (Or.inr (own_w hw 46 rfl)) (ty := (.object "java/lang/String")) (by decide)
    have F_a15_line : Fld Z h15 a15 "com/example/pemmican/pemmican/XmlElement" "line" "I" (.int 0) := D15 (Or.inr (own_w hw 48 rfl)) (ty := .int) (by decide)
    have F_a15_attributes : Fld Z h15 a15 "com/example/pemmican/pemmican/XmlElement" "attributes" "Ljava/util/Map;" .null := D15 (Or.inr (own_w hw 50 rfl)) (ty := (.object "java/util/Map")) (by decide)
    have F_a15_text : Fld Z h15 a15 "com/example/pemmican/pemmican/XmlElement" "text" "Ljava/lang/StringBuilder;" .null := D15 (Or.inl (own_w hw 57 rfl)) (ty := (.object "java/lang/StringBuilder")) (by decide)
    refine GoV.st st15 ?_
    show GoV p e below s _ _ _ (T15.setTop (mkF m 121 #[.val (.int p0), .val (.int p1), .val (.int p2), .val (.int p3), .val (.ref b1), .val (.int (Int32.ofNat sA)), .val (.int (Int32.ofNat nA)), .val (.int (Int32.ofNat sB)), .val (.int (Int32.ofNat 0)), .val (.int 1), .unset, .unset, .unset, .unset] [(.ref a15)]))
    refine GoV.s (XS.dup X15.here hx rfl (hb hby at_121) rfl rfl) ?_
    obtain ⟨u16, T16, h16, kk16, ub16, kb16, ca16, cb16, un16, X16, e16, E16, hS16, hk16, hZ16, hown16, NE, NC, NV, NB, NCa, NCb, Sk16, tx16, I16, hJ16, LT16, st16⟩ := own_ldcH (vm0 := s.vm) X15 hx hZ hown (own_w hw 5 rfl) wS e15 hS0 hk15 (by rw [hs0]; exact N5) hHS_0 I0 (vs := [(.int 101)]) (z := (1 : Int32)) (by decide) (by decide) rfl (g := (mkF m 122 #[.val (.int p0), .val (.int p1), .val (.int p2), .val (.int p3), .val (.ref b1), .val (.int (Int32.ofNat sA)), .val (.int (Int32.ofNat nA)), .val (.int (Int32.ofNat sB)), .val (.int (Int32.ofNat 0)), .val (.int 1), .unset, .unset, .unset, .unset] [(.ref a15), (.ref a15)])) rfl (hb hby at_122) (n := 4) (by decide) (by decide) (by decide) (by decide)
    have J16 := hJ16 _ J0
    have V_b1 := V_b1.ext E16
    have E_a15 := E_a15.ext E16
    have F_a15_children := F_a15_children.ext E16
    have F_a15_name := F_a15_name.ext E16
    have F_a15_line := F_a15_line.ext E16
    have F_a15_attributes := F_a15_attributes.ext E16
    have F_a15_text := F_a15_text.ext E16
    have O16 := O15.ext E16
    have E_u16 : Exa Z h16 u16 "java/lang/String" := NE
    have F_u16_coder : Fld Z h16 u16 "java/lang/String" "coder" "B" (.int 0) := NC
    have F_u16_value : Fld Z h16 u16 "java/lang/String" "value" "[B" (.ref ub16) := NV
    have V_ub16 : Arv Z h16 ub16 kb16 .byte (1 : Int32) [(.int 101)] (.int 0) := NB
    have C_u16 : Cel h16 u16 ca16 := NCa
    have C_ub16 : Cel h16 ub16 cb16 := NCb
    refine GoV.st st16 ?_
    show GoV p e below s _ _ _ (T16.setTop (mkF m 124 #[.val (.int p0), .val (.int p1), .val (.int p2), .val (.int p3), .val (.ref b1), .val (.int (Int32.ofNat sA)), .val (.int (Int32.ofNat nA)), .val (.int (Int32.ofNat sB)), .val (.int (Int32.ofNat 0)), .val (.int 1), .unset, .unset, .unset, .unset] [(.ref u16), (.ref a15), (.ref a15)]))
    refine GoV.s (XS.iconst X16.here hx rfl (hb hby at_124)) ?_
    refine GoV.s (XS.aconstNull X16.here hx rfl (hb hby at_125)) ?_
    obtain ⟨_, _, ⟨T17, L17, k17, n17⟩, -, X17, ⟨Lc17, hQ17, l17, y17, z17⟩, st17⟩ := X16.specialBack hx (y := mN3) rfl hown16 (mvT hZ16 (own_w hw 13 rfl)) (mvT hZ16 (own_w hw 14 rfl)) (mvT hZ16 (own_w hw 15 rfl)) (by decide) (backOf (W := 1) (rmxi l Z a0 hw [] a15 u16 ad h16 n0 O16 E_a15 F_a15_children F_a15_name F_a15_line F_a15_attributes F_a15_text g_a15 SD) hZ16 (own_w hw 15 rfl) (own_w hw 4 rfl) (by decide) (by decide)) (g := (mkF m 126 #[.val (.int p0), .val (.int p1), .val (.int p2), .val (.int p3), .val (.ref b1), .val (.int (Int32.ofNat sA)), .val (.int (Int32.ofNat nA)), .val (.int (Int32.ofNat sB)), .val (.int (Int32.ofNat 0)), .val (.int 1), .unset, .unset, .unset, .unset] [.null, (.int 1), (.ref u16), (.ref a15), (.ref a15)])) rfl (by rw [hml]; rfl) (Steps.refl _) (a := a15) (argsL := [(.ref u16), (.int 1), .null]) (rest := [(.ref a15)]) (lenOf pd0_0 rfl) rfl (by show 2 * 0 + _ ≤ _; exact Nat.le_of_eq rfl) (hb hby at_126) (fun _ _ => ⟨rfl, e16, (by decide : 4 + 1 ≤ _), (by decide : 17 + 3 ≤ _)⟩)
    dsimp only [Pt.U, Pt.locs, Pt.cells, Pt.slots] at X17 l17 y17 z17 st17 hQ17
    subst y17 z17
    obtain ⟨rfl, Nc17, Kc17, NA, NB⟩ := hQ17
    have N17 : Fr n0 L17 := by rw [l17]; exact Fr.app N5 Nc17
    have V_b1 := V_b1.keep Kc17 (ninS ne_b1_a15 nin0)
    have hk17 := Nat.le_trans hk16 Kc17.1
    have O17 := O16.keep Kc17 (allS g_a15 all0)
    have E_a15 : Exa Z T17.heap a15 "com/example/pemmican/pemmican/XmlElement" := NA
    have F_a15_text : Fld Z T17.heap a15 "com/example/pemmican/pemmican/XmlElement" "text" "Ljava/lang/StringBuilder;" .null := NB
    refine GoV.tr st17 ?_
    show GoV p e below s _ _ _ (T17.setTop (mkF m 129 #[.val (.int p0), .val (.int p1), .val (.int p2), .val (.int p3), .val (.ref b1), .val (.int (Int32.ofNat sA)), .val (.int (Int32.ofNat nA)), .val (.int (Int32.ofNat sB)), .val (.int (Int32.ofNat 0)), .val (.int 1), .unset, .unset, .unset, .unset] [(.ref a15)]))
    refine GoV.s (XS.astore X17.here hx rfl (hb hby at_129) rfl rfl (l' := #[.val (.int p0), .val (.int p1), .val (.int p2), .val (.int p3), .val (.ref b1), .val (.int (Int32.ofNat sA)), .val (.int (Int32.ofNat nA)), .val (.int (Int32.ofNat sB)), .val (.int (Int32.ofNat 0)), .val (.int 1), .val (.ref a15), .unset, .unset, .unset]) rfl) ?_
    refine GoV.s (XS.iconst X17.here hx rfl (hb hby at_131)) ?_
    refine GoV.s (XS.istore X17.here hx rfl (hb hby at_132) rfl (l' := #[.val (.int p0), .val (.int p1), .val (.int p2), .val (.int p3), .val (.ref b1), .val (.int (Int32.ofNat sA)), .val (.int (Int32.ofNat nA)), .val (.int (Int32.ofNat sB)), .val (.int (Int32.ofNat 0)), .val (.int 1), .val (.ref a15), .val (.int 1), .unset, .unset]) rfl) ?_
    refine GoV.s (XS.iload X17.here hx rfl (hb hby at_134) rfl) ?_
    refine GoV.s (XS.iconst X17.here hx rfl (hb hby at_136)) ?_
    refine GoV.s (XS.icmpNo X17.here hx rfl (hb hby at_137) rfl (by decide)) ?_
    show GoV p e below s _ _ _ (T17.setTop (mkF m 140 #[.val (.int p0), .val (.int p1), .val (.int p2), .val (.int p3), .val (.ref b1), .val (.int (Int32.ofNat sA)), .val (.int (Int32.ofNat nA)), .val (.int (Int32.ofNat sB)), .val (.int (Int32.ofNat 0)), .val (.int 1), .val (.ref a15), .val (.int 1), .unset, .unset] []))
    refine GoV.s (XS.aload X17.here hx rfl (hb hby at_140) rfl rfl) ?_
    refine GoV.s (XS.aload X17.here hx rfl (hb hby at_142) rfl rfl) ?_
    refine GoV.s (XS.iload X17.here hx rfl (hb hby at_144) rfl) ?_
    refine GoV.s (XS.iload X17.here hx rfl (hb hby at_146) rfl) ?_
    obtain ⟨cq18, kq18, qa18, qb18, qc18⟩ := isOf hZ16 rfl E_a15
    obtain ⟨_, _, ⟨T18, L18, k18, n18⟩, -, X18, ⟨Lc18, hQ18, l18, y18, z18⟩, st18⟩ := X17.virtualBack hx (y := mN18) (z := mN18) hown16 (mvT hZ16 (own_w hw 51 rfl)) (mvT hZ16 (own_w hw 52 rfl)) (notFace_of_selects (args := #[]) (mvT hZ16 (own_w hw 54 rfl))) (mvT hZ16 (own_w hw 54 rfl)) (mvT hZ16 (own_w hw 53 rfl)) (by decide) (backOf (W := 0) (rmta l Z a0 hw [] a15 b1 k1 D sA nA zc gm T17.heap n0 O17 E_a15 F_a15_text V_b1 g_a15 hD hbD hnA SC hcs SG rg) hZ16 (own_w hw 55 rfl) (own_w hw 4 rfl) (by decide) (by decide)) qa18 qc18 (g := (mkF m 148 #[.val (.int p0), .val (.int p1), .val (.int p2), .val (.int p3), .val (.ref b1), .val (.int (Int32.ofNat sA)), .val (.int (Int32.ofNat nA)), .val (.int (Int32.ofNat sB)), .val (.int (Int32.ofNat 0)), .val (.int 1), .val (.ref a15), .val (.int 1), .unset, .unset] [(.int (Int32.ofNat nA)), (.int (Int32.ofNat sA)), (.ref b1), (.ref a15)])) rfl (by rw [hml]; rfl) (Steps.refl _) (argsL := [(.ref b1), (.int (Int32.ofNat sA)), (.int (Int32.ofNat nA))]) (rest := []) (lenOf pdap_1 rfl) rfl (by show 2 * 0 + _ ≤ _; exact Nat.le_of_eq rfl) (hb hby at_148) (fun _ _ => ⟨rfl, rfl, (by decide : 5 + 3 ≤ _), (by decide : 20 + 24 ≤ _)⟩)
    dsimp only [Pt.U, Pt.locs, Pt.cells, Pt.slots] at X18 l18 y18 z18 st18 hQ18
    subst y18 z18
    obtain ⟨b, u, ku, M, rfl, Nc18, Kc18, gb, szb, gu, szu, NA, NB, NC, ND, NE, NF, NG, NH, hM, hML⟩ := hQ18
    have N18 : Fr n0 L18 := by rw [l18]; exact Fr.app N17 Nc18
    have g_b : n0 ≤ b := gb
    have ne_b1_b : b1 ≠ b := Nat.ne_of_lt (Nat.lt_of_lt_of_le V_b1.lt szb)
    have ne_a15_b : a15 ≠ b := Nat.ne_of_lt (Nat.lt_of_lt_of_le E_a15.lt szb)
    have g_u : n0 ≤ u := gu
    have ne_b1_u : b1 ≠ u := Nat.ne_of_lt (Nat.lt_of_lt_of_le V_b1.lt szu)
    have ne_a15_u : a15 ≠ u := Nat.ne_of_lt (Nat.lt_of_lt_of_le E_a15.lt szu)
    have V_b1 := V_b1.keep Kc18 (ninS ne_b1_a15 nin0)
    have hk18 := Nat.le_trans hk17 Kc18.1
    have O18 := O17.keep Kc18 (allS g_a15 all0)
    have E_a15 : Exa Z T18.heap a15 "com/example/pemmican/pemmican/XmlElement" := NA
    have F_a15_text : Fld Z T18.heap a15 "com/example/pemmican/pemmican/XmlElement" "text" "Ljava/lang/StringBuilder;" (.ref b) := NB
    have E_b : Exa Z T18.heap b "java/lang/StringBuilder" := NC
    have F_b_value : Fld Z T18.heap b "java/lang/AbstractStringBuilder" "value" "[B" (.ref u) := ND
    have F_b_coder : Fld Z T18.heap b "java/lang/AbstractStringBuilder" "coder" "B" (.int 0) := NE
    have F_b_count : Fld Z T18.heap b "java/lang/AbstractStringBuilder" "count" "I" (.int (Int32.ofNat (oSl D sA nA).length)) := NF
    have V_u : Arv Z T18.heap u ku .byte (Int32.ofNat M) (oLat (oSl D sA nA)) (.int 0) := NG
    have E_u : Exa Z T18.heap u "[B" := NH
    refine GoV.tr st18 ?_
    show GoV p e below s _ _ _ (T18.setTop (mkF m 151 #[.val (.int p0), .val (.int p1), .val (.int p2), .val (.int p3), .val (.ref b1), .val (.int (Int32.ofNat sA)), .val (.int (Int32.ofNat nA)), .val (.int (Int32.ofNat sB)), .val (.int (Int32.ofNat 0)), .val (.int 1), .val (.ref a15), .val (.int 1), .unset, .unset] []))
    refine GoV.s (XS.iload X18.here hx rfl (hb hby at_151) rfl) ?_
    refine GoV.s (XS.ifNo X18.here hx rfl (hb hby at_153) rfl (by decide)) ?_
    show GoV p e below s _ _ _ (T18.setTop (mkF m 156 #[.val (.int p0), .val (.int p1), .val (.int p2), .val (.int p3), .val (.ref b1), .val (.int (Int32.ofNat sA)), .val (.int (Int32.ofNat nA)), .val (.int (Int32.ofNat sB)), .val (.int (Int32.ofNat 0)), .val (.int 1), .val (.ref a15), .val (.int 1), .unset, .unset] []))
    refine GoV.s (XS.aload X18.here hx rfl (hb hby at_156) rfl rfl) ?_
    obtain ⟨cq19, kq19, qa19, qb19, qc19⟩ := isOf hZ16 rfl E_a15
    obtain ⟨_, _, ⟨T19, L19, k19, n19⟩, -, X19, ⟨Lc19, hQ19, l19, y19, z19⟩, st19⟩ := X18.virtualBack hx (y := mN28) (z := mN28) hown16 (mvT hZ16 (own_w hw 109 rfl)) (mvT hZ16 (own_w hw 110 rfl)) (notFace_of_selects (args := #[]) (mvT hZ16 (own_w hw 112 rfl))) (mvT hZ16 (own_w hw 112 rfl)) (mvT hZ16 (own_w hw 111 rfl)) (by decide) (backOf (W := 0) (rmtx l Z a0 hw [] a15 b u ku M (oSl D sA nA) zc T18.heap n0 O18 E_a15 F_a15_text E_b F_b_value F_b_coder F_b_count V_u E_u hM hML SC hcs) hZ16 (own_w hw 113 rfl) (own_w hw 4 rfl) (by decide) (by decide)) qa19 qc19 (g := (mkF m 158 #[.val (.int p0), .val (.int p1), .val (.int p2), .val (.int p3), .val (.ref b1), .val (.int (Int32.ofNat sA)), .val (.int (Int32.ofNat nA)), .val (.int (Int32.ofNat sB)), .val (.int (Int32.ofNat 0)), .val (.int 1), .val (.ref a15), .val (.int 1), .unset, .unset] [(.ref a15)])) rfl (by rw [hml]; rfl) (Steps.refl _) (argsL := []) (rest := []) (lenOf pdtx_0 rfl) rfl (by show 2 * 0 + _ ≤ _; exact Nat.le_of_eq rfl) (hb hby at_158) (fun _ _ => ⟨rfl, rfl, (by decide : 8 + 2 ≤ _), (by decide : 44 + 20 ≤ _)⟩)
    dsimp only [Pt.U, Pt.locs, Pt.cells, Pt.slots] at X19 l19 y19 z19 st19 hQ19
    subst y19 z19
    obtain ⟨x0_, y0_, k0_, rfl, Nc19, Kc19, gx, szx, NA, NB, NC, ND⟩ := hQ19
    have N19 : Fr n0 L19 := by rw [l19]; exact Fr.app N18 Nc19
    have g_x0_ : n0 ≤ x0_ := gx
    have ne_b1_x0_ : b1 ≠ x0_ := Nat.ne_of_lt (Nat.lt_of_lt_of_le V_b1.lt szx)
    have ne_a15_x0_ : a15 ≠ x0_ := Nat.ne_of_lt (Nat.lt_of_lt_of_le E_a15.lt szx)
    have ne_b_x0_ : b ≠ x0_ := Nat.ne_of_lt (Nat.lt_of_lt_of_le E_b.lt szx)
    have ne_u_x0_ : u ≠ x0_ := Nat.ne_of_lt (Nat.lt_of_lt_of_le V_u.lt szx)
    have V_b1 := V_b1.keep Kc19 nin0
    have E_a15 := E_a15.keep Kc19
    have F_a15_text := F_a15_text.keep Kc19 nin0
    have E_b := E_b.keep Kc19
    have F_b_value := F_b_value.keep Kc19 nin0
    have F_b_coder := F_b_coder.keep Kc19 nin0
    have F_b_count := F_b_count.keep Kc19 nin0
    have V_u := V_u.keep Kc19 nin0
    have E_u := E_u.keep Kc19
    have hk19 := Nat.le_trans hk18 Kc19.1
    have O19 := O18.keep Kc19 all0
    have E_x0_ : Exa Z T19.heap x0_ "java/lang/String" := NA
    have F_x0__coder : Fld Z T19.heap x0_ "java/lang/String" "coder" "B" (.int 0) := NB
    have F_x0__value : Fld Z T19.heap x0_ "java/lang/String" "value" "[B" (.ref y0_) := NC
    have V_y0_ : Arv Z T19.heap y0_ k0_ .byte (Int32.ofNat (oSl D sA nA).length) (oLat (oSl D sA nA)) (.int 0) := ND
    refine GoV.tr st19 ?_
    show GoV p e below s _ _ _ (T19.setTop (mkF m 161 #[.val (.int p0), .val (.int p1), .val (.int p2), .val (.int p3), .val (.ref b1), .val (.int (Int32.ofNat sA)), .val (.int (Int32.ofNat nA)), .val (.int (Int32.ofNat sB)), .val (.int (Int32.ofNat 0)), .val (.int 1), .val (.ref a15), .val (.int 1), .unset, .unset] [(.ref x0_)]))
    refine GoV.s (XS.aload X19.here hx rfl (hb hby at_161) rfl rfl) ?_
    refine GoV.s (XS.iload X19.here hx rfl (hb hby at_163) rfl) ?_
    refine GoV.s (XS.iload X19.here hx rfl (hb hby at_165) rfl) ?_
    refine GoV.s (XS.iload X19.here hx rfl (hb hby at_167) rfl) ?_
    refine GoV.s (XS.iconst X19.here hx rfl (hb hby at_169)) ?_
    show GoV p e below s _ _ _ (T19.setTop (mkF m 170 #[.val (.int p0), .val (.int p1), .val (.int p2), .val (.int p3), .val (.ref b1), .val (.int (Int32.ofNat sA)), .val (.int (Int32.ofNat nA)), .val (.int (Int32.ofNat sB)), .val (.int (Int32.ofNat 0)), .val (.int 1), .val (.ref a15), .val (.int 1), .unset, .unset] [(.int 0), (.int (Int32.ofNat sB)), (.int (Int32.ofNat nA)), (.int (Int32.ofNat sA)), (.ref b1), (.ref x0_)]))
    show GoV p e below s _ _ _ (T19.setTop (mkF m 170 #[.val (.int p0), .val (.int p1), .val (.int p2), .val (.int p3), .val (.ref b1), .val (.int (Int32.ofNat sA)), .val (.int (Int32.ofNat nA)), .val (.int (Int32.ofNat sB)), .val (.int (Int32.ofNat 0)), .val (.int 1), .val (.ref a15), .val (.int 1), .unset, .unset] [(.int (Int32.ofNat 0)), (.int (Int32.ofNat sB)), (.int (Int32.ofNat nA)), (.int (Int32.ofNat sA)), (.ref b1), (.ref x0_)]))
    obtain ⟨_, _, ⟨T20, L20, k20, n20⟩, -, X20, ⟨Lc20, hQ20, l20, y20, z20⟩, st20⟩ := Jvm.LawKit.callS X19 hx (y := mN39) hown16 (mvT hZ16 (own_w hw 157 rfl)) (mvT hZ16 (own_w hw 158 rfl)) (mvT hZ16 (own_w hw 159 rfl)) (mvT hZ16 (own_w hw 160 rfl)) (by decide) (backOf (W := 0) (rmmt l Z a0 hw [] x0_ y0_ k0_ (oSl D sA nA) b1 k1 D sA nA sB 0 fm zc T19.heap n0 O19 E_x0_ F_x0__coder F_x0__value V_y0_ V_b1 hD hbD hnA (by omega) (by rw [own_s0, List.append_nil]) SF rf SC hcs) hZ16 (own_w hw 160 rfl) (own_w hw 159 rfl) (by decide) (by decide)) (g := (mkF m 170 #[.val (.int p0), .val (.int p1), .val (.int p2), .val (.int p3), .val (.ref b1), .val (.int (Int32.ofNat sA)), .val (.int (Int32.ofNat nA)), .val (.int (Int32.ofNat sB)), .val (.int (Int32.ofNat 0)), .val (.int 1), .val (.ref a15), .val (.int 1), .unset, .unset] [(.int (Int32.ofNat 0)), (.int (Int32.ofNat sB)), (.int (Int32.ofNat nA)), (.int (Int32.ofNat sA)), (.ref b1), (.ref x0_)])) rfl (by rw [hml]; rfl) (argsL := [(.ref x0_), (.ref b1), (.int (Int32.ofNat sA)), (.int (Int32.ofNat nA)), (.int (Int32.ofNat sB)), (.int (Int32.ofNat 0))]) (rest := []) (lenOf pd0_1 rfl) rfl (by show 2 * 0 + _ ≤ _; exact Nat.le_of_eq rfl) (hb hby at_170) (fun _ _ => ⟨rfl, rfl, (by decide : 10 + 0 ≤ _), (by decide : 64 + 0 ≤ _)⟩)
    dsimp only [Pt.U, Pt.locs, Pt.cells, Pt.slots] at X20 l20 y20 z20 st20 hQ20
    subst y20 z20
    obtain ⟨rfl, Nc20, e20⟩ := hQ20
    have N20 : Fr n0 L20 := by rw [l20]; exact Fr.app N19 Nc20
    refine GoV.st st20 ?_
    show GoV p e below s _ _ _ (T20.setTop (mkF m 173 #[.val (.int p0), .val (.int p1), .val (.int p2), .val (.int p3), .val (.ref b1), .val (.int (Int32.ofNat sA)), .val (.int (Int32.ofNat nA)), .val (.int (Int32.ofNat sB)), .val (.int (Int32.ofNat 0)), .val (.int 1), .val (.ref a15), .val (.int 1), .unset, .unset] [(.int 1)]))
    refine GoV.s (XS.ifNo X20.here hx rfl (hb hby at_173) rfl (by decide)) ?_
    show GoV p e below s _ _ _ (T20.setTop (mkF m 176 #[.val (.int p0), .val (.int p1), .val (.int p2), .val (.int p3), .val (.ref b1), .val (.int (Int32.ofNat sA)), .val (.int (Int32.ofNat nA)), .val (.int (Int32.ofNat sB)), .val (.int (Int32.ofNat 0)), .val (.int 1), .val (.ref a15), .val (.int 1), .unset, .unset] []))
    refine GoV.s (XS.iconst X20.here hx rfl (hb hby at_176)) ?_
    refine GoV.s (XS.goto X20.here hx rfl (pc0 := 177) (pc' := 181) rfl (hb hby at_177) (by decide) (by decide)) ?_
    show GoV p e below s _ _ _ (T20.setTop (mkF m 181 #[.val (.int p0), .val (.int p1), .val (.int p2), .val (.int p3), .val (.ref b1), .val (.int (Int32.ofNat sA)), .val (.int (Int32.ofNat nA)), .val (.int (Int32.ofNat sB)), .val (.int (Int32.ofNat 0)), .val (.int 1), .val (.ref a15), .val (.int 1), .unset, .unset] [(.int 1)]))
    refine GoV.s (XS.istore X20.here hx rfl (hb hby at_181) rfl (l' := #[.val (.int p0), .val (.int p1), .val (.int p2), .val (.int p3), .val (.ref b1), .val (.int (Int32.ofNat sA)), .val (.int (Int32.ofNat nA)), .val (.int (Int32.ofNat sB)), .val (.int (Int32.ofNat 0)), .val (.int 1), .val (.ref a15), .val (.int 1), .unset, .unset]) rfl) ?_
    refine GoV.s (XS.iload X20.here hx rfl (hb hby at_183) rfl) ?_
    refine GoV.s (XS.iconst X20.here hx rfl (hb hby at_185)) ?_
    refine GoV.s (XS.icmpYes X20.here hx rfl (pc0 := 186) (pc' := 200) rfl (hb hby at_186) rfl (by decide) (by decide) (by decide)) ?_
    show GoV p e below s _ _ _ (T20.setTop (mkF m 200 #[.val (.int p0), .val (.int p1), .val (.int p2), .val (.int p3), .val (.ref b1), .val (.int (Int32.ofNat sA)), .val (.int (Int32.ofNat nA)), .val (.int (Int32.ofNat sB)), .val (.int (Int32.ofNat 0)), .val (.int 1), .val (.ref a15), .val (.int 1), .unset, .unset] []))
    refine GoV.s (XS.aload X20.here hx rfl (hb hby at_200) rfl rfl) ?_
    obtain ⟨cq21, kq21, qa21, qb21, qc21⟩ := isOf hZ16 e20 E_a15
    obtain ⟨_, _, ⟨T21, L21, k21, n21⟩, -, X21, ⟨Lc21, hQ21, l21, y21, z21⟩, st21⟩ := X20.virtualBack hx (y := mN28) (z := mN28) hown16 (mvT hZ16 (own_w hw 109 rfl)) (mvT hZ16 (own_w hw 110 rfl)) (notFace_of_selects (args := #[]) (mvT hZ16 (own_w hw 112 rfl))) (mvT hZ16 (own_w hw 112 rfl)) (mvT hZ16 (own_w hw 111 rfl)) (by decide) (backOf (W := 0) (rmtx l Z a0 hw [] a15 b u ku M (oSl D sA nA) zc T19.heap n0 O19 E_a15 F_a15_text E_b F_b_value F_b_coder F_b_count V_u E_u hM hML SC hcs) hZ16 (own_w hw 113 rfl) (own_w hw 4 rfl) (by decide) (by decide)) qa21 qc21 (g := (mkF m 202 #[.val (.int p0), .val (.int p1), .val (.int p2), .val (.int p3), .val (.ref b1), .val (.int (Int32.ofNat sA)), .val (.int (Int32.ofNat nA)), .val (.int (Int32.ofNat sB)), .val (.int (Int32.ofNat 0)), .val (.int 1), .val (.ref a15), .val (.int 1), .unset, .unset] [(.ref a15)])) rfl (by rw [hml]; rfl) (Steps.refl _) (argsL := []) (rest := []) (lenOf pdtx_0 rfl) rfl (by show 2 * 0 + _ ≤ _; exact Nat.le_of_eq rfl) (hb hby at_202) (fun _ _ => ⟨rfl, e20, (by decide : 10 + 2 ≤ _), (by decide : 64 + 20 ≤ _)⟩)
    dsimp only [Pt.U, Pt.locs, Pt.cells, Pt.slots] at X21 l21 y21 z21 st21 hQ21
    subst y21 z21
    obtain ⟨x1_, y1_, k1_, rfl, Nc21, Kc21, gx, szx, NA, NB, NC, ND⟩ := hQ21
    have N21 : Fr n0 L21 := by rw [l21]; exact Fr.app N20 Nc21
    have g_x1_ : n0 ≤ x1_ := gx
    have ne_b1_x1_ : b1 ≠ x1_ := Nat.ne_of_lt (Nat.lt_of_lt_of_le V_b1.lt szx)
    have ne_a15_x1_ : a15 ≠ x1_ := Nat.ne_of_lt (Nat.lt_of_lt_of_le E_a15.lt szx)
    have ne_b_x1_ : b ≠ x1_ := Nat.ne_of_lt (Nat.lt_of_lt_of_le E_b.lt szx)
    have ne_u_x1_ : u ≠ x1_ := Nat.ne_of_lt (Nat.lt_of_lt_of_le V_u.lt szx)
    have V_b1 := V_b1.keep Kc21 nin0
    have E_a15 := E_a15.keep Kc21
    have F_a15_text := F_a15_text.keep Kc21 nin0
    have E_b := E_b.keep Kc21
    have F_b_value := F_b_value.keep Kc21 nin0
    have F_b_coder := F_b_coder.keep Kc21 nin0
    have F_b_count := F_b_count.keep Kc21 nin0
    have V_u := V_u.keep Kc21 nin0
    have E_u := E_u.keep Kc21
    have hk21 := Nat.le_trans hk19 Kc21.1
    have O21 := O19.keep Kc21 all0
    have E_x1_ : Exa Z T21.heap x1_ "java/lang/String" := NA
    have F_x1__coder : Fld Z T21.heap x1_ "java/lang/String" "coder" "B" (.int 0) := NB
    have F_x1__value : Fld Z T21.heap x1_ "java/lang/String" "value" "[B" (.ref y1_) := NC
    have V_y1_ : Arv Z T21.heap y1_ k1_ .byte (Int32.ofNat (oSl D sA nA).length) (oLat (oSl D sA nA)) (.int 0) := ND
    refine GoV.tr st21 ?_
    show GoV p e below s _ _ _ (T21.setTop (mkF m 205 #[.val (.int p0), .val (.int p1), .val (.int p2), .val (.int p3), .val (.ref b1), .val (.int (Int32.ofNat sA)), .val (.int (Int32.ofNat nA)), .val (.int (Int32.ofNat sB)), .val (.int (Int32.ofNat 0)), .val (.int 1), .val (.ref a15), .val (.int 1), .unset, .unset] [(.ref x1_)]))
    refine GoV.s (XS.astore X21.here hx rfl (hb hby at_205) rfl rfl (l' := #[.val (.int p0), .val (.int p1), .val (.int p2), .val (.int p3), .val (.ref b1), .val (.int (Int32.ofNat sA)), .val (.int (Int32.ofNat nA)), .val (.int (Int32.ofNat sB)), .val (.int (Int32.ofNat 0)), .val (.int 1), .val (.ref a15), .val (.int 1), .val (.ref x1_), .unset]) rfl) ?_
    refine GoV.s (XS.iload X21.here hx rfl (hb hby at_207) rfl) ?_
    refine GoV.s (XS.ifNo X21.here hx rfl (hb hby at_209) rfl (by decide)) ?_
    show GoV p e below s _ _ _ (T21.setTop (mkF m 212 #[.val (.int p0), .val (.int p1), .val (.int p2), .val (.int p3), .val (.ref b1), .val (.int (Int32.ofNat sA)), .val (.int (Int32.ofNat nA)), .val (.int (Int32.ofNat sB)), .val (.int (Int32.ofNat 0)), .val (.int 1), .val (.ref a15), .val (.int 1), .val (.ref x1_), .unset] []))
    refine GoV.s (XS.aload X21.here hx rfl (hb hby at_212) rfl rfl) ?_
    refine GoV.s (XS.aload X21.here hx rfl (hb hby at_214) rfl rfl) ?_
    refine GoV.s (XS.iload X21.here hx rfl (hb hby at_216) rfl) ?_
    refine GoV.s (XS.iload X21.here hx rfl (hb hby at_218) rfl) ?_
    refine GoV.s (XS.iload X21.here hx rfl (hb hby at_220) rfl) ?_
    refine GoV.s (XS.iload X21.here hx rfl (hb hby at_222) rfl) ?_
    obtain ⟨_, _, ⟨T22, L22, k22, n22⟩, -, X22, ⟨Lc22, hQ22, l22, y22, z22⟩, st22⟩ := Jvm.LawKit.callS X21 hx (y := mN39) hown16 (mvT hZ16 (own_w hw 157 rfl)) (mvT hZ16 (own_w hw 158 rfl)) (mvT hZ16 (own_w hw 159 rfl)) (mvT hZ16 (own_w hw 160 rfl)) (by decide) (backOf (W := 0) (rmmt l Z a0 hw [] x1_ y1_ k1_ (oSl D sA nA) b1 k1 D sA nA sB 0 fm zc T21.heap n0 O21 E_x1_ F_x1__coder F_x1__value V_y1_ V_b1 hD hbD hnA (by omega) (by rw [own_s0, List.append_nil]) SF rf SC hcs) hZ16 (own_w hw 160 rfl) (own_w hw 159 rfl) (by decide) (by decide)) (g := (mkF m 224 #[.val (.int p0), .val (.int p1), .val (.int p2), .val (.int p3), .val (.ref b1), .val (.int (Int32.ofNat sA)), .val (.int (Int32.ofNat nA)), .val (.int (Int32.ofNat sB)), .val (.int (Int32.ofNat 0)), .val (.int 1), .val (.ref a15), .val (.int 1), .val (.ref x1_), .unset] [(.int (Int32.ofNat 0)), (.int (Int32.ofNat sB)), (.int (Int32.ofNat nA)), (.int (Int32.ofNat sA)), (.ref b1), (.ref x1_)])) rfl (by rw [hml]; rfl) (argsL := [(.ref x1_), (.ref b1), (.int (Int32.ofNat sA)), (.int (Int32.ofNat nA)), (.int (Int32.ofNat sB)), (.int (Int32.ofNat 0))]) (rest := []) (lenOf pd0_1 rfl) rfl (by show 2 * 0 + _ ≤ _; exact Nat.le_of_eq rfl) (hb hby at_224) (fun _ _ => ⟨rfl, rfl, (by decide : 12 + 0 ≤ _), (by decide : 84 + 0 ≤ _)⟩)
    dsimp only [Pt.U, Pt.locs, Pt.cells, Pt.slots] at X22 l22 y22 z22 st22 hQ22
    subst y22 z22
    obtain ⟨rfl, Nc22, e22⟩ := hQ22
    have N22 : Fr n0 L22 := by rw [l22]; exact Fr.app N21 Nc22
    refine GoV.st st22 ?_
    show GoV p e below s _ _ _ (T22.setTop (mkF m 227 #[.val (.int p0), .val (.int p1), .val (.int p2), .val (.int p3), .val (.ref b1), .val (.int (Int32.ofNat sA)), .val (.int (Int32.ofNat nA)), .val (.int (Int32.ofNat sB)), .val (.int (Int32.ofNat 0)), .val (.int 1), .val (.ref a15), .val (.int 1), .val (.ref x1_), .unset] [(.int 1)]))
    refine GoV.s (XS.ifNo X22.here hx rfl (hb hby at_227) rfl (by decide)) ?_
    show GoV p e below s _ _ _ (T22.setTop (mkF m 230 #[.val (.int p0), .val (.int p1), .val (.int p2), .val (.int p3), .val (.ref b1), .val (.int (Int32.ofNat sA)), .val (.int (Int32.ofNat nA)), .val (.int (Int32.ofNat sB)), .val (.int (Int32.ofNat 0)), .val (.int 1), .val (.ref a15), .val (.int 1), .val (.ref x1_), .unset] []))
    refine GoV.s (XS.iconst X22.here hx rfl (hb hby at_230)) ?_
    refine GoV.s (XS.goto X22.here hx rfl (pc0 := 231) (pc' := 235) rfl (hb hby at_231) (by decide) (by decide)) ?_
    refine GoV.s (XS.istore X22.here hx rfl (hb hby at_235) rfl (l' := #[.val (.int p0), .val (.int p1), .val (.int p2), .val (.int p3), .val (.ref b1), .val (.int (Int32.ofNat sA)), .val (.int (Int32.ofNat nA)), .val (.int (Int32.ofNat sB)), .val (.int (Int32.ofNat 0)), .val (.int 1), .val (.ref a15), .val (.int 1), .val (.ref x1_), .unset]) rfl) ?_
    refine GoV.s (XS.aload X22.here hx rfl (hb hby at_237) rfl rfl) ?_
    obtain ⟨cq23, kq23, qa23, qb23, qc23⟩ := isOf hZ16 e22 E_a15
    obtain ⟨_, _, ⟨T23, L23, k23, n23⟩, -, X23, ⟨Lc23, hQ23, l23, y23, z23⟩, st23⟩ := X22.virtualBack hx (y := mN28) (z := mN28) hown16 (mvT hZ16 (own_w hw 109 rfl)) (mvT hZ16 (own_w hw 110 rfl)) (notFace_of_selects (args := #[]) (mvT hZ16 (own_w hw 112 rfl))) (mvT hZ16 (own_w hw 112 rfl)) (mvT hZ16 (own_w hw 111 rfl)) (by decide) (backOf (W := 0) (rmtx l Z a0 hw [] a15 b u ku M (oSl D sA nA) zc T21.heap n0 O21 E_a15 F_a15_text E_b F_b_value F_b_coder F_b_count V_u E_u hM hML SC hcs) hZ16 (own_w hw 113 rfl) (own_w hw 4 rfl) (by decide) (by decide)) qa23 qc23 (g := (mkF m 239 #[.val (.int p0), .val (.int p1), .val (.int p2), .val (.int p3), .val (.ref b1), .val (.int (Int32.ofNat sA)), .val (.int (Int32.ofNat nA)), .val (.int (Int32.ofNat sB)), .val (.int (Int32.ofNat 0)), .val (.int 1), .val (.ref a15), .val (.int 1), .val (.ref x1_), .unset] [(.ref a15)])) rfl (by rw [hml]; rfl) (Steps.refl _) (argsL := []) (rest := []) (lenOf pdtx_0 rfl) rfl (by show 2 * 0 + _ ≤ _; exact Nat.le_of_eq rfl) (hb hby at_239) (fun _ _ => ⟨rfl, e22, (by decide : 12 + 2 ≤ _), (by decide : 84 + 20 ≤ _)⟩)
    dsimp only [Pt.U, Pt.locs, Pt.cells, Pt.slots] at X23 l23 y23 z23 st23 hQ23
    subst y23 z23
    obtain ⟨x2_, y2_, k2_, rfl, Nc23, Kc23, gx, szx, NA, NB, NC, ND⟩ := hQ23
    have N23 : Fr n0 L23 := by rw [l23]; exact Fr.app N22 Nc23
    have g_x2_ : n0 ≤ x2_ := gx
    have ne_b1_x2_ : b1 ≠ x2_ := Nat.ne_of_lt (Nat.lt_of_lt_of_le V_b1.lt szx)
    have ne_a15_x2_ : a15 ≠ x2_ := Nat.ne_of_lt (Nat.lt_of_lt_of_le E_a15.lt szx)
    have ne_b_x2_ : b ≠ x2_ := Nat.ne_of_lt (Nat.lt_of_lt_of_le E_b.lt szx)
    have ne_u_x2_ : u ≠ x2_ := Nat.ne_of_lt (Nat.lt_of_lt_of_le V_u.lt szx)
    have ne_x1__x2_ : x1_ ≠ x2_ := Nat.ne_of_lt (Nat.lt_of_lt_of_le E_x1_.lt szx)
    have ne_y1__x2_ : y1_ ≠ x2_ := Nat.ne_of_lt (Nat.lt_of_lt_of_le V_y1_.lt szx)
    have V_b1 := V_b1.keep Kc23 nin0
    have E_a15 := E_a15.keep Kc23
    have F_a15_text := F_a15_text.keep Kc23 nin0
    have E_b := E_b.keep Kc23
    have F_b_value := F_b_value.keep Kc23 nin0
    have F_b_coder := F_b_coder.keep Kc23 nin0
    have F_b_count := F_b_count.keep Kc23 nin0
    have V_u := V_u.keep Kc23 nin0
    have E_u := E_u.keep Kc23
    have E_x1_ := E_x1_.keep Kc23
    have F_x1__coder := F_x1__coder.keep Kc23 nin0
    have F_x1__value := F_x1__value.keep Kc23 nin0
    have V_y1_ := V_y1_.keep Kc23 nin0
    have hk23 := Nat.le_trans hk21 Kc23.1
    have O23 := O21.keep Kc23 all0
    have E_x2_ : Exa Z T23.heap x2_ "java/lang/String" := NA
    have F_x2__coder : Fld Z T23.heap x2_ "java/lang/String" "coder" "B" (.int 0) := NB
    have F_x2__value : Fld Z T23.heap x2_ "java/lang/String" "value" "[B" (.ref y2_) := NC
    have V_y2_ : Arv Z T23.heap y2_ k2_ .byte (Int32.ofNat (oSl D sA nA).length) (oLat (oSl D sA nA)) (.int 0) := ND
    refine GoV.tr st23 ?_
    show GoV p e below s _ _ _ (T23.setTop (mkF m 242 #[.val (.int p0), .val (.int p1), .val (.int p2), .val (.int p3), .val (.ref b1), .val (.int (Int32.ofNat sA)), .val (.int (Int32.ofNat nA)), .val (.int (Int32.ofNat sB)), .val (.int (Int32.ofNat 0)), .val (.int 1), .val (.ref a15), .val (.int 1), .val (.ref x1_), .unset] [(.ref x2_)]))
    refine GoV.s (XS.astore X23.here hx rfl (hb hby at_242) rfl rfl (l' := #[.val (.int p0), .val (.int p1), .val (.int p2), .val (.int p3), .val (.ref b1), .val (.int (Int32.ofNat sA)), .val (.int (Int32.ofNat nA)), .val (.int (Int32.ofNat sB)), .val (.int (Int32.ofNat 0)), .val (.int 1), .val (.ref a15), .val (.int 1), .val (.ref x1_), .val (.ref x2_)]) rfl) ?_
    refine GoV.s (XS.iload X23.here hx rfl (hb hby at_244) rfl) ?_
    refine GoV.s (XS.ifNo X23.here hx rfl (hb hby at_246) rfl (by decide)) ?_
    show GoV p e below s _ _ _ (T23.setTop (mkF m 249 #[.val (.int p0), .val (.int p1), .val (.int p2), .val (.int p3), .val (.ref b1), .val (.int (Int32.ofNat sA)), .val (.int (Int32.ofNat nA)), .val (.int (Int32.ofNat sB)), .val (.int (Int32.ofNat 0)), .val (.int 1), .val (.ref a15), .val (.int 1), .val (.ref x1_), .val (.ref x2_)] []))
    refine GoV.s (XS.aload X23.here hx rfl (hb hby at_249) rfl rfl) ?_
    refine GoV.s (XS.ifnullNo X23.here hx rfl (hb hby at_251) rfl) ?_
    show GoV p e below s _ _ _ (T23.setTop (mkF m 254 #[.val (.int p0), .val (.int p1), .val (.int p2), .val (.int p3), .val (.ref b1), .val (.int (Int32.ofNat sA)), .val (.int (Int32.ofNat nA)), .val (.int (Int32.ofNat sB)), .val (.int (Int32.ofNat 0)), .val (.int 1), .val (.ref a15), .val (.int 1), .val (.ref x1_), .val (.ref x2_)] []))
    refine GoV.s (XS.aload X23.here hx rfl (hb hby at_254) rfl rfl) ?_
    refine GoV.s (XS.ifnullNo X23.here hx rfl (hb hby at_256) rfl) ?_
    show GoV p e below s _ _ _ (T23.setTop (mkF m 259 #[.val (.int p0), .val (.int p1), .val (.int p2), .val (.int p3), .val (.ref b1), .val (.int (Int32.ofNat sA)), .val (.int (Int32.ofNat nA)), .val (.int (Int32.ofNat sB)), .val (.int (Int32.ofNat 0)), .val (.int 1), .val (.ref a15), .val (.int 1), .val (.ref x1_), .val (.ref x2_)] []))
    refine GoV.s (XS.aload X23.here hx rfl (hb hby at_259) rfl rfl) ?_
    refine GoV.s (XS.aload X23.here hx rfl (hb hby at_261) rfl rfl) ?_
    obtain ⟨cq24, kq24, qa24, qb24, qc24⟩ := isOf hZ16 rfl E_x1_
    obtain ⟨_, _, ⟨T24, L24, k24, n24⟩, -, X24, ⟨Lc24, hQ24, l24, y24, z24⟩, st24⟩ := X23.virtualBack hx (y := mN37) (z := mN37) hown16 (mvT hZ16 (own_w hw 175 rfl)) (mvT hZ16 (own_w hw 176 rfl)) (notFace_of_selects (args := #[]) (mvT hZ16 (own_w hw 178 rfl))) (mvT hZ16 (own_w hw 178 rfl)) (mvT hZ16 (own_w hw 177 rfl)) (by decide) (backOf (W := 0) (rmse l Z a0 hw [] x1_ y1_ k1_ (oSl D sA nA) x2_ y2_ k2_ zc T23.heap n0 O23 E_x1_ F_x1__coder F_x1__value V_y1_ E_x2_ F_x2__coder F_x2__value V_y2_ (by rw [oSl_len (by omega)]; omega) SC hcs) hZ16 (own_w hw 179 rfl) (own_w hw 6 rfl) (by decide) (by decide)) qa24 qc24 (g := (mkF m 263 #[.val (.int p0), .val (.int p1), .val (.int p2), .val (.int p3), .val (.ref b1), .val (.int (Int32.ofNat sA)), .val (.int (Int32.ofNat nA)), .val (.int (Int32.ofNat sB)), .val (.int (Int32.ofNat 0)), .val (.int 1), .val (.ref a15), .val (.int 1), .val (.ref x1_), .val (.ref x2_)] [(.ref x2_), (.ref x1_)])) rfl (by rw [hml]; rfl) (Steps.refl _) (argsL := [(.ref x2_)]) (rest := []) (lenOf pd0_2 rfl) rfl (by show 2 * 0 + _ ≤ _; exact Nat.le_of_eq rfl) (hb hby at_263) (fun _ _ => ⟨rfl, rfl, (by decide : 14 + 0 ≤ _), (by decide : 104 + 0 ≤ _)⟩)
    dsimp only [Pt.U, Pt.locs, Pt.cells, Pt.slots] at X24 l24 y24 z24 st24 hQ24
    subst y24 z24
    obtain ⟨rfl, Nc24, e24⟩ := hQ24
    have N24 : Fr n0 L24 := by rw [l24]; exact Fr.app N23 Nc24
    refine GoV.tr st24 ?_
    show GoV p e below s _ _ _ (T24.setTop (mkF m 266 #[.val (.int p0), .val (.int p1), .val (.int p2), .val (.int p3), .val (.ref b1), .val (.int (Int32.ofNat sA)), .val (.int (Int32.ofNat nA)), .val (.int (Int32.ofNat sB)), .val (.int (Int32.ofNat 0)), .val (.int 1), .val (.ref a15), .val (.int 1), .val (.ref x1_), .val (.ref x2_)] [(.int 1)]))
    refine GoV.s (XS.ifNo X24.here hx rfl (hb hby at_266) rfl (by decide)) ?_
    show GoV p e below s _ _ _ (T24.setTop (mkF m 269 #[.val (.int p0), .val (.int p1), .val (.int p2), .val (.int p3), .val (.ref b1), .val (.int (Int32.ofNat sA)), .val (.int (Int32.ofNat nA)), .val (.int (Int32.ofNat sB)), .val (.int (Int32.ofNat 0)), .val (.int 1), .val (.ref a15), .val (.int 1), .val (.ref x1_), .val (.ref x2_)] []))
    refine GoV.s (XS.iconst X24.here hx rfl (hb hby at_269)) ?_
    refine GoV.s (XS.goto X24.here hx rfl (pc0 := 270) (pc' := 274) rfl (hb hby at_270) (by decide) (by decide)) ?_
    refine GoV.s (XS.istore X24.here hx rfl (hb hby at_274) rfl (l' := #[.val (.int p0), .val (.int p1), .val (.int p2), .val (.int p3), .val (.ref b1), .val (.int (Int32.ofNat sA)), .val (.int (Int32.ofNat nA)), .val (.int (Int32.ofNat sB)), .val (.int (Int32.ofNat 0)), .val (.int 1), .val (.ref a15), .val (.int 1), .val (.ref x1_), .val (.ref x2_)]) rfl) ?_
    refine GoV.s (XS.iload X24.here hx rfl (hb hby at_276) rfl) ?_
    exact GoV.ret (vm1 := T16.vm) X24 hlk hS16 (by rw [e24]; exact hk23) (some (.int (nar .boolean (1 : Int32)))) (fun h => by rw [Bd.returns] at h; cases h) (by rw [e24]; exact ⟨rfl, N24⟩) (by decide) (by decide) (fun fs hr => retN X24 hx (t := .boolean) Bd.returns (by simp) (hb hby at_278) hr)
  · rw [ec]
    show GoV p e below s _ _ _ (T5.setTop (mkF m 98 #[.val (.int p0), .val (.int p1), .val (.int p2), .val (.int p3), .val (.ref b1), .val (.int (Int32.ofNat sA)), .val (.int (Int32.ofNat nA)), .val (.int (Int32.ofNat sB)), .val (.int (Int32.ofNat nB)), .unset, .unset, .unset, .unset, .unset] [(.int 2)]))
    refine GoV.s (XS.istore X5.here hx rfl (hb hby at_98) rfl (l' := #[.val (.int p0), .val (.int p1), .val (.int p2), .val (.int p3), .val (.ref b1), .val (.int (Int32.ofNat sA)), .val (.int (Int32.ofNat nA)), .val (.int (Int32.ofNat sB)), .val (.int (Int32.ofNat nB)), .val (.int 2), .unset, .unset, .unset, .unset]) rfl) ?_
    refine GoV.s (XS.iload X5.here hx rfl (hb hby at_100) rfl) ?_
    refine GoV.s (XS.iconst X5.here hx rfl (hb hby at_102)) ?_
    refine GoV.s (XS.icmpYes X5.here hx rfl (pc0 := 103) (pc' := 109) rfl (hb hby at_103) rfl (by decide) (by decide) (by decide)) ?_
    show GoV p e below s _ _ _ (T5.setTop (mkF m 109 #[.val (.int p0), .val (.int p1), .val (.int p2), .val (.int p3), .val (.ref b1), .val (.int (Int32.ofNat sA)), .val (.int (Int32.ofNat nA)), .val (.int (Int32.ofNat sB)), .val (.int (Int32.ofNat nB)), .val (.int 2), .unset, .unset, .unset, .unset] []))
    refine GoV.s (XS.iload X5.here hx rfl (hb hby at_109) rfl) ?_
    refine GoV.s (XS.iconst X5.here hx rfl (hb hby at_111)) ?_
    refine GoV.s (XS.icmpYes X5.here hx rfl (pc0 := 112) (pc' := 118) rfl (hb hby at_112) rfl (by decide) (by decide) (by decide)) ?_
    show GoV p e below s _ _ _ (T5.setTop (mkF m 118 #[.val (.int p0), .val (.int p1), .val (.int p2), .val (.int p3), .val (.ref b1), .val (.int (Int32.ofNat sA)), .val (.int (Int32.ofNat nA)), .val (.int (Int32.ofNat sB)), .val (.int (Int32.ofNat nB)), .val (.int 2), .unset, .unset, .unset, .unset] []))
    obtain ⟨T25, h25, X25, e25, E25, A25, D25, -, st25⟩ := newO X5 hx hZ hown (own_w hw 2 rfl) (own_w hw 3 rfl) (own_w hw 4 rfl) e5 (g := (mkF m 118 #[.val (.int p0), .val (.int p1), .val (.int p2), .val (.int p3), .val (.ref b1), .val (.int (Int32.ofNat sA)), .val (.int (Int32.ofNat nA)), .val (.int (Int32.ofNat sB)), .val (.int (Int32.ofNat nB)), .val (.int 2), .unset, .unset, .unset, .unset] [])) rfl (hb hby at_118) (by decide) (by decide)
    obtain ⟨a25, g25⟩ : ∃ z, z = h5.size := ⟨_, rfl⟩
    rw [← g25] at A25 D25 st25
    have g_a25 : n0 ≤ a25 := Nat.le_trans (own_old O5) (Nat.le_of_eq g25.symm)
    have ne_b1_a25 : b1 ≠ a25 := by rw [g25]; exact Nat.ne_of_lt V_b1.lt
    have V_b1 := V_b1.ext E25
    have hk25 := Nat.le_trans hk5 E25.1
    have O25 := O5.ext E25
    have E_a25 : Exa Z h25 a25 "com/example/pemmican/pemmican/XmlElement" := A25
    have F_a25_children : Fld Z h25 a25 "com/example/pemmican/pemmican/XmlElement" "children" "Ljava/util/List;" .null := D25 (Or.inr (own_w hw 44 rfl)) (ty := (.object "java/util/List")) (by decide)
    have F_a25_name : Fld Z h25 a25 "com/example/pemmican/pemmican/XmlElement" "name" "Ljava/lang/String;" .null := D25 (Or.inr (own_w hw 46 rfl)) (ty := (.object "java/lang/String")) (by decide)
    have F_a25_line : Fld Z h25 a25 "com/example/pemmican/pemmican/XmlElement" "line" "I" (.int 0) := D25 (Or.inr (own_w hw 48 rfl)) (ty := .int) (by decide)
    have F_a25_attributes : Fld Z h25 a25 "com/example/pemmican/pemmican/XmlElement" "attributes" "Ljava/util/Map;" .null := D25 (Or.inr (own_w hw 50 rfl)) (ty := (.object "java/util/Map")) (by decide)
    have F_a25_text : Fld Z h25 a25 "com/example/pemmican/pemmican/XmlElement" "text" "Ljava/lang/StringBuilder;" .null := D25 (Or.inl (own_w hw 57 rfl)) (ty := (.object "java/lang/StringBuilder")) (by decide)
    refine GoV.st st25 ?_
    show GoV p e below s _ _ _ (T25.setTop (mkF m 121 #[.val (.int p0), .val (.int p1), .val (.int p2), .val (.int p3), .val (.ref b1), .val (.int (Int32.ofNat sA)), .val (.int (Int32.ofNat nA)), .val (.int (Int32.ofNat sB)), .val (.int (Int32.ofNat nB)), .val (.int 2), .unset, .unset, .unset, .unset] [(.ref a25)]))
    refine GoV.s (XS.dup X25.here hx rfl (hb hby at_121) rfl rfl) ?_
    obtain ⟨u26, T26, h26, kk26, ub26, kb26, ca26, cb26, un26, X26, e26, E26, hS26, hk26, hZ26, hown26, NE, NC, NV, NB, NCa, NCb, Sk26, tx26, I26, hJ26, LT26, st26⟩ := own_ldcH (vm0 := s.vm) X25 hx hZ hown (own_w hw 5 rfl) wS e25 hS0 hk25 (by rw [hs0]; exact N5) hHS_0 I0 (vs := [(.int 101)]) (z := (1 : Int32)) (by decide) (by decide) rfl (g := (mkF m 122 #[.val (.int p0), .val (.int p1), .val (.int p2), .val (.int p3), .val (.ref b1), .val (.int (Int32.ofNat sA)), .val (.int (Int32.ofNat nA)), .val (.int (Int32.ofNat sB)), .val (.int (Int32.ofNat nB)), .val (.int 2), .unset, .unset, .unset, .unset] [(.ref a25), (.ref a25)])) rfl (hb hby at_122) (n := 4) (by decide) (by decide) (by decide) (by decide)
    have J26 := hJ26 _ J0
    have V_b1 := V_b1.ext E26
    have E_a25 := E_a25.ext E26
    have F_a25_children := F_a25_children.ext E26
    have F_a25_name := F_a25_name.ext E26
    have F_a25_line := F_a25_line.ext E26
    have F_a25_attributes := F_a25_attributes.ext E26
    have F_a25_text := F_a25_text.ext E26
    have O26 := O25.ext E26
    have E_u26 : Exa Z h26 u26 "java/lang/String" := NE
    have F_u26_coder : Fld Z h26 u26 "java/lang/String" "coder" "B" (.int 0) := NC
    have F_u26_value : Fld Z h26 u26 "java/lang/String" "value" "[B" (.ref ub26) := NV
    have V_ub26 : Arv Z h26 ub26 kb26 .byte (1 : Int32) [(.int 101)] (.int 0) := NB
    have C_u26 : Cel h26 u26 ca26 := NCa
    have C_ub26 : Cel h26 ub26 cb26 := NCb
    refine GoV.st st26 ?_
    show GoV p e below s _ _ _ (T26.setTop (mkF m 124 #[.val (.int p0), .val (.int p1), .val (.int p2), .val (.int p3), .val (.ref b1), .val (.int (Int32.ofNat sA)), .val (.int (Int32.ofNat nA)), .val (.int (Int32.ofNat sB)), .val (.int (Int32.ofNat nB)), .val (.int 2), .unset, .unset, .unset, .unset] [(.ref u26), (.ref a25), (.ref a25)]))
    refine GoV.s (XS.iconst X26.here hx rfl (hb hby at_124)) ?_
    refine GoV.s (XS.aconstNull X26.here hx rfl (hb hby at_125)) ?_
    obtain ⟨_, _, ⟨T27, L27, k27, n27⟩, -, X27, ⟨Lc27, hQ27, l27, y27, z27⟩, st27⟩ := X26.specialBack hx (y := mN3) rfl hown26 (mvT hZ26 (own_w hw 13 rfl)) (mvT hZ26 (own_w hw 14 rfl)) (mvT hZ26 (own_w hw 15 rfl)) (by decide) (backOf (W := 1) (rmxi l Z a0 hw [] a25 u26 ad h26 n0 O26 E_a25 F_a25_children F_a25_name F_a25_line F_a25_attributes F_a25_text g_a25 SD) hZ26 (own_w hw 15 rfl) (own_w hw 4 rfl) (by decide) (by decide)) (g := (mkF m 126 #[.val (.int p0), .val (.int p1), .val (.int p2), .val (.int p3), .val (.ref b1), .val (.int (Int32.ofNat sA)), .val (.int (Int32.ofNat nA)), .val (.int (Int32.ofNat sB)), .val (.int (Int32.ofNat nB)), .val (.int 2), .unset, .unset, .unset, .unset] [.null, (.int 1), (.ref u26), (.ref a25), (.ref a25)])) rfl (by rw [hml]; rfl) (Steps.refl _) (a := a25) (argsL := [(.ref u26), (.int 1), .null]) (rest := [(.ref a25)]) (lenOf pd0_0 rfl) rfl (by show 2 * 0 + _ ≤ _; exact Nat.le_of_eq rfl) (hb hby at_126) (fun _ _ => ⟨rfl, e26, (by decide : 4 + 1 ≤ _), (by decide : 17 + 3 ≤ _)⟩)
    dsimp only [Pt.U, Pt.locs, Pt.cells, Pt.slots] at X27 l27 y27 z27 st27 hQ27
    subst y27 z27
    obtain ⟨rfl, Nc27, Kc27, NA, NB⟩ := hQ27
    have N27 : Fr n0 L27 := by rw [l27]; exact Fr.app N5 Nc27
    have V_b1 := V_b1.keep Kc27 (ninS ne_b1_a25 nin0)
    have hk27 := Nat.le_trans hk26 Kc27.1
    have O27 := O26.keep Kc27 (allS g_a25 all0)
    have E_a25 : Exa Z T27.heap a25 "com/example/pemmican/pemmican/XmlElement" := NA
    have F_a25_text : Fld Z T27.heap a25 "com/example/pemmican/pemmican/XmlElement" "text" "Ljava/lang/StringBuilder;" .null := NB
    refine GoV.tr st27 ?_
    show GoV p e below s _ _ _ (T27.setTop (mkF m 129 #[.val (.int p0), .val (.int p1), .val (.int p2), .val (.int p3), .val (.ref b1), .val (.int (Int32.ofNat sA)), .val (.int (Int32.ofNat nA)), .val (.int (Int32.ofNat sB)), .val (.int (Int32.ofNat nB)), .val (.int 2), .unset, .unset, .unset, .unset] [(.ref a25)]))
    refine GoV.s (XS.astore X27.here hx rfl (hb hby at_129) rfl rfl (l' := #[.val (.int p0), .val (.int p1), .val (.int p2), .val (.int p3), .val (.ref b1), .val (.int (Int32.ofNat sA)), .val (.int (Int32.ofNat nA)), .val (.int (Int32.ofNat sB)), .val (.int (Int32.ofNat nB)), .val (.int 2), .val (.ref a25), .unset, .unset, .unset]) rfl) ?_
    refine GoV.s (XS.iconst X27.here hx rfl (hb hby at_131)) ?_
    refine GoV.s (XS.istore X27.here hx rfl (hb hby at_132) rfl (l' := #[.val (.int p0), .val (.int p1), .val (.int p2), .val (.int p3), .val (.ref b1), .val (.int (Int32.ofNat sA)), .val (.int (Int32.ofNat nA)), .val (.int (Int32.ofNat sB)), .val (.int (Int32.ofNat nB)), .val (.int 2), .val (.ref a25), .val (.int 1), .unset, .unset]) rfl) ?_
    refine GoV.s (XS.iload X27.here hx rfl (hb hby at_134) rfl) ?_
    refine GoV.s (XS.iconst X27.here hx rfl (hb hby at_136)) ?_
    refine GoV.s (XS.icmpNo X27.here hx rfl (hb hby at_137) rfl (by decide)) ?_
    show GoV p e below s _ _ _ (T27.setTop (mkF m 140 #[.val (.int p0), .val (.int p1), .val (.int p2), .val (.int p3), .val (.ref b1), .val (.int (Int32.ofNat sA)), .val (.int (Int32.ofNat nA)), .val (.int (Int32.ofNat sB)), .val (.int (Int32.ofNat nB)), .val (.int 2), .val (.ref a25), .val (.int 1), .unset, .unset] []))
    refine GoV.s (XS.aload X27.here hx rfl (hb hby at_140) rfl rfl) ?_
    refine GoV.s (XS.aload X27.here hx rfl (hb hby at_142) rfl rfl) ?_
    refine GoV.s (XS.iload X27.here hx rfl (hb hby at_144) rfl) ?_
    refine GoV.s (XS.iload X27.here hx rfl (hb hby at_146) rfl) ?_
    obtain ⟨cq28, kq28, qa28, qb28, qc28⟩ := isOf hZ26 rfl E_a25
    obtain ⟨_, _, ⟨T28, L28, k28, n28⟩, -, X28, ⟨Lc28, hQ28, l28, y28, z28⟩, st28⟩ := X27.virtualBack hx (y := mN18) (z := mN18) hown26 (mvT hZ26 (own_w hw 51 rfl)) (mvT hZ26 (own_w hw 52 rfl)) (notFace_of_selects (args := #[]) (mvT hZ26 (own_w hw 54 rfl))) (mvT hZ26 (own_w hw 54 rfl)) (mvT hZ26 (own_w hw 53 rfl)) (by decide) (backOf (W := 0) (rmta l Z a0 hw [] a25 b1 k1 D sA nA zc gm T27.heap n0 O27 E_a25 F_a25_text V_b1 g_a25 hD hbD hnA SC hcs SG rg) hZ26 (own_w hw 55 rfl) (own_w hw 4 rfl) (by decide) (by decide)) qa28 qc28 (g := (mkF m 148 #[.val (.int p0), .val (.int p1), .val (.int p2), .val (.int p3), .val (.ref b1), .val (.int (Int32.ofNat sA)), .val (.int (Int32.ofNat nA)), .val (.int (Int32.ofNat sB)), .val (.int (Int32.ofNat nB)), .val (.int 2), .val (.ref a25), .val (.int 1), .unset, .unset] [(.int (Int32.ofNat nA)), (.int (Int32.ofNat sA)), (.ref b1), (.ref a25)])) rfl (by rw [hml]; rfl) (Steps.refl _) (argsL := [(.ref b1), (.int (Int32.ofNat sA)), (.int (Int32.ofNat nA))]) (rest := []) (lenOf pdap_1 rfl) rfl (by show 2 * 0 + _ ≤ _; exact Nat.le_of_eq rfl) (hb hby at_148) (fun _ _ => ⟨rfl, rfl, (by decide : 5 + 3 ≤ _), (by decide : 20 + 24 ≤ _)⟩)
    dsimp only [Pt.U, Pt.locs, Pt.cells, Pt.slots] at X28 l28 y28 z28 st28 hQ28
    subst y28 z28
    obtain ⟨b, u, ku, M, rfl, Nc28, Kc28, gb, szb, gu, szu, NA, NB, NC, ND, NE, NF, NG, NH, hM, hML⟩ := hQ28
    have N28 : Fr n0 L28 := by rw [l28]; exact Fr.app N27 Nc28
    have g_b : n0 ≤ b := gb
    have ne_b1_b : b1 ≠ b := Nat.ne_of_lt (Nat.lt_of_lt_of_le V_b1.lt szb)
    have ne_a25_b : a25 ≠ b := Nat.ne_of_lt (Nat.lt_of_lt_of_le E_a25.lt szb)
    have g_u : n0 ≤ u := gu
    have ne_b1_u : b1 ≠ u := Nat.ne_of_lt (Nat.lt_of_lt_of_le V_b1.lt szu)
    have ne_a25_u : a25 ≠ u := Nat.ne_of_lt (Nat.lt_of_lt_of_le E_a25.lt szu)
    have V_b1 := V_b1.keep Kc28 (ninS ne_b1_a25 nin0)
    have hk28 := Nat.le_trans hk27 Kc28.1
    have O28 := O27.keep Kc28 (allS g_a25 all0)
    have E_a25 : Exa Z T28.heap a25 "com/example/pemmican/pemmican/XmlElement" := NA
    have F_a25_text : Fld Z T28.heap a25 "com/example/pemmican/pemmican/XmlElement" "text" "Ljava/lang/StringBuilder;" (.ref b) := NB
    have E_b : Exa Z T28.heap b "java/lang/StringBuilder" := NC
    have F_b_value : Fld Z T28.heap b "java/lang/AbstractStringBuilder" "value" "[B" (.ref u) := ND
    have F_b_coder : Fld Z T28.heap b "java/lang/AbstractStringBuilder" "coder" "B" (.int 0) := NE
    have F_b_count : Fld Z T28.heap b "java/lang/AbstractStringBuilder" "count" "I" (.int (Int32.ofNat (oSl D sA nA).length)) := NF
    have V_u : Arv Z T28.heap u ku .byte (Int32.ofNat M) (oLat (oSl D sA nA)) (.int 0) := NG
    have E_u : Exa Z T28.heap u "[B" := NH
    refine GoV.tr st28 ?_
    show GoV p e below s _ _ _ (T28.setTop (mkF m 151 #[.val (.int p0), .val (.int p1), .val (.int p2), .val (.int p3), .val (.ref b1), .val (.int (Int32.ofNat sA)), .val (.int (Int32.ofNat nA)), .val (.int (Int32.ofNat sB)), .val (.int (Int32.ofNat nB)), .val (.int 2), .val (.ref a25), .val (.int 1), .unset, .unset] []))
    refine GoV.s (XS.iload X28.here hx rfl (hb hby at_151) rfl) ?_
    refine GoV.s (XS.ifNo X28.here hx rfl (hb hby at_153) rfl (by decide)) ?_
    show GoV p e below s _ _ _ (T28.setTop (mkF m 156 #[.val (.int p0), .val (.int p1), .val (.int p2), .val (.int p3), .val (.ref b1), .val (.int (Int32.ofNat sA)), .val (.int (Int32.ofNat nA)), .val (.int (Int32.ofNat sB)), .val (.int (Int32.ofNat nB)), .val (.int 2), .val (.ref a25), .val (.int 1), .unset, .unset] []))
    refine GoV.s (XS.aload X28.here hx rfl (hb hby at_156) rfl rfl) ?_
    obtain ⟨cq29, kq29, qa29, qb29, qc29⟩ := isOf hZ26 rfl E_a25
    obtain ⟨_, _, ⟨T29, L29, k29, n29⟩, -, X29, ⟨Lc29, hQ29, l29, y29, z29⟩, st29⟩ := X28.virtualBack hx (y := mN28) (z := mN28) hown26 (mvT hZ26 (own_w hw 109 rfl)) (mvT hZ26 (own_w hw 110 rfl)) (notFace_of_selects (args := #[]) (mvT hZ26 (own_w hw 112 rfl))) (mvT hZ26 (own_w hw 112 rfl)) (mvT hZ26 (own_w hw 111 rfl)) (by decide) (backOf (W := 0) (rmtx l Z a0 hw [] a25 b u ku M (oSl D sA nA) zc T28.heap n0 O28 E_a25 F_a25_text E_b F_b_value F_b_coder F_b_count V_u E_u hM hML SC hcs) hZ26 (own_w hw 113 rfl) (own_w hw 4 rfl) (by decide) (by decide)) qa29 qc29 (g := (mkF m 158 #[.val (.int p0), .val (.int p1), .val (.int p2), .val (.int p3), .val (.ref b1), .val (.int (Int32.ofNat sA)), .val (.int (Int32.ofNat nA)), .val (.int (Int32.ofNat sB)), .val (.int (Int32.ofNat nB)), .val (.int 2), .val (.ref a25), .val (.int 1), .unset, .unset] [(.ref a25)])) rfl (by rw [hml]; rfl) (Steps.refl _) (argsL := []) (rest := []) (lenOf pdtx_0 rfl) rfl (by show 2 * 0 + _ ≤ _; exact Nat.le_of_eq rfl) (hb hby at_158) (fun _ _ => ⟨rfl, rfl, (by decide : 8 + 2 ≤ _), (by decide : 44 + 20 ≤ _)⟩)
    dsimp only [Pt.U, Pt.locs, Pt.cells, Pt.slots] at X29 l29 y29 z29 st29 hQ29
    subst y29 z29
    obtain ⟨x0_, y0_, k0_, rfl, Nc29, Kc29, gx, szx, NA, NB, NC, ND⟩ := hQ29
    have N29 : Fr n0 L29 := by rw [l29]; exact Fr.app N28 Nc29
    have g_x0_ : n0 ≤ x0_ := gx
    have ne_b1_x0_ : b1 ≠ x0_ := Nat.ne_of_lt (Nat.lt_of_lt_of_le V_b1.lt szx)
    have ne_a25_x0_ : a25 ≠ x0_ := Nat.ne_of_lt (Nat.lt_of_lt_of_le E_a25.lt szx)
    have ne_b_x0_ : b ≠ x0_ := Nat.ne_of_lt (Nat.lt_of_lt_of_le E_b.lt szx)
    have ne_u_x0_ : u ≠ x0_ := Nat.ne_of_lt (Nat.lt_of_lt_of_le V_u.lt szx)
    have V_b1 := V_b1.keep Kc29 nin0
    have E_a25 := E_a25.keep Kc29
    have F_a25_text := F_a25_text.keep Kc29 nin0
    have E_b := E_b.keep Kc29
    have F_b_value := F_b_value.keep Kc29 nin0
    have F_b_coder := F_b_coder.keep Kc29 nin0
    have F_b_count := F_b_count.keep Kc29 nin0
    have V_u := V_u.keep Kc29 nin0
    have E_u := E_u.keep Kc29
    have hk29 := Nat.le_trans hk28 Kc29.1
    have O29 := O28.keep Kc29 all0
    have E_x0_ : Exa Z T29.heap x0_ "java/lang/String" := NA
    have F_x0__coder : Fld Z T29.heap x0_ "java/lang/String" "coder" "B" (.int 0) := NB
    have F_x0__value : Fld Z T29.heap x0_ "java/lang/String" "value" "[B" (.ref y0_) := NC
    have V_y0_ : Arv Z T29.heap y0_ k0_ .byte (Int32.ofNat (oSl D sA nA).length) (oLat (oSl D sA nA)) (.int 0) := ND
    refine GoV.tr st29 ?_
    show GoV p e below s _ _ _ (T29.setTop (mkF m 161 #[.val (.int p0), .val (.int p1), .val (.int p2), .val (.int p3), .val (.ref b1), .val (.int (Int32.ofNat sA)), .val (.int (Int32.ofNat nA)), .val (.int (Int32.ofNat sB)), .val (.int (Int32.ofNat nB)), .val (.int 2), .val (.ref a25), .val (.int 1), .unset, .unset] [(.ref x0_)]))
    refine GoV.s (XS.aload X29.here hx rfl (hb hby at_161) rfl rfl) ?_
    refine GoV.s (XS.iload X29.here hx rfl (hb hby at_163) rfl) ?_
    refine GoV.s (XS.iload X29.here hx rfl (hb hby at_165) rfl) ?_
    refine GoV.s (XS.iload X29.here hx rfl (hb hby at_167) rfl) ?_
    refine GoV.s (XS.iconst X29.here hx rfl (hb hby at_169)) ?_
    show GoV p e below s _ _ _ (T29.setTop (mkF m 170 #[.val (.int p0), .val (.int p1), .val (.int p2), .val (.int p3), .val (.ref b1), .val (.int (Int32.ofNat sA)), .val (.int (Int32.ofNat nA)), .val (.int (Int32.ofNat sB)), .val (.int (Int32.ofNat nB)), .val (.int 2), .val (.ref a25), .val (.int 1), .unset, .unset] [(.int 0), (.int (Int32.ofNat sB)), (.int (Int32.ofNat nA)), (.int (Int32.ofNat sA)), (.ref b1), (.ref x0_)]))
    show GoV p e below s _ _ _ (T29.setTop (mkF m 170 #[.val (.int p0), .val (.int p1), .val (.int p2), .val (.int p3), .val (.ref b1), .val (.int (Int32.ofNat sA)), .val (.int (Int32.ofNat nA)), .val (.int (Int32.ofNat sB)), .val (.int (Int32.ofNat nB)), .val (.int 2), .val (.ref a25), .val (.int 1), .unset, .unset] [(.int (Int32.ofNat 0)), (.int (Int32.ofNat sB)), (.int (Int32.ofNat nA)), (.int (Int32.ofNat sA)), (.ref b1), (.ref x0_)]))
    obtain ⟨_, _, ⟨T30, L30, k30, n30⟩, -, X30, ⟨Lc30, hQ30, l30, y30, z30⟩, st30⟩ := Jvm.LawKit.callS X29 hx (y := mN39) hown26 (mvT hZ26 (own_w hw 157 rfl)) (mvT hZ26 (own_w hw 158 rfl)) (mvT hZ26 (own_w hw 159 rfl)) (mvT hZ26 (own_w hw 160 rfl)) (by decide) (backOf (W := 0) (rmmt l Z a0 hw [] x0_ y0_ k0_ (oSl D sA nA) b1 k1 D sA nA sB 0 fm zc T29.heap n0 O29 E_x0_ F_x0__coder F_x0__value V_y0_ V_b1 hD hbD hnA (by omega) (by rw [own_s0, List.append_nil]) SF rf SC hcs) hZ26 (own_w hw 160 rfl) (own_w hw 159 rfl) (by decide) (by decide)) (g := (mkF m 170 #[.val (.int p0), .val (.int p1), .val (.int p2), .val (.int p3), .val (.ref b1), .val (.int (Int32.ofNat sA)), .val (.int (Int32.ofNat nA)), .val (.int (Int32.ofNat sB)), .val (.int (Int32.ofNat nB)), .val (.int 2), .val (.ref a25), .val (.int 1), .unset, .unset] [(.int (Int32.ofNat 0)), (.int (Int32.ofNat sB)), (.int (Int32.ofNat nA)), (.int (Int32.ofNat sA)), (.ref b1), (.ref x0_)])) rfl (by rw [hml]; rfl) (argsL := [(.ref x0_), (.ref b1), (.int (Int32.ofNat sA)), (.int (Int32.ofNat nA)), (.int (Int32.ofNat sB)), (.int (Int32.ofNat 0))]) (rest := []) (lenOf pd0_1 rfl) rfl (by show 2 * 0 + _ ≤ _; exact Nat.le_of_eq rfl) (hb hby at_170) (fun _ _ => ⟨rfl, rfl, (by decide : 10 + 0 ≤ _), (by decide : 64 + 0 ≤ _)⟩)
    dsimp only [Pt.U, Pt.locs, Pt.cells, Pt.slots] at X30 l30 y30 z30 st30 hQ30
    subst y30 z30
    obtain ⟨rfl, Nc30, e30⟩ := hQ30
    have N30 : Fr n0 L30 := by rw [l30]; exact Fr.app N29 Nc30
    refine GoV.st st30 ?_
    show GoV p e below s _ _ _ (T30.setTop (mkF m 173 #[.val (.int p0), .val (.int p1), .val (.int p2), .val (.int p3), .val (.ref b1), .val (.int (Int32.ofNat sA)), .val (.int (Int32.ofNat nA)), .val (.int (Int32.ofNat sB)), .val (.int (Int32.ofNat nB)), .val (.int 2), .val (.ref a25), .val (.int 1), .unset, .unset] [(.int 1)]))
    refine GoV.s (XS.ifNo X30.here hx rfl (hb hby at_173) rfl (by decide)) ?_
    show GoV p e below s _ _ _ (T30.setTop (mkF m 176 #[.val (.int p0), .val (.int p1), .val (.int p2), .val (.int p3), .val (.ref b1), .val (.int (Int32.ofNat sA)), .val (.int (Int32.ofNat nA)), .val (.int (Int32.ofNat sB)), .val (.int (Int32.ofNat nB)), .val (.int 2), .val (.ref a25), .val (.int 1), .unset, .unset] []))
    refine GoV.s (XS.iconst X30.here hx rfl (hb hby at_176)) ?_
    refine GoV.s (XS.goto X30.here hx rfl (pc0 := 177) (pc' := 181) rfl (hb hby at_177) (by decide) (by decide)) ?_
    show GoV p e below s _ _ _ (T30.setTop (mkF m 181 #[.val (.int p0), .val (.int p1), .val (.int p2), .val (.int p3), .val (.ref b1), .val (.int (Int32.ofNat sA)), .val (.int (Int32.ofNat nA)), .val (.int (Int32.ofNat sB)), .val (.int (Int32.ofNat nB)), .val (.int 2), .val (.ref a25), .val (.int 1), .unset, .unset] [(.int 1)]))
    refine GoV.s (XS.istore X30.here hx rfl (hb hby at_181) rfl (l' := #[.val (.int p0), .val (.int p1), .val (.int p2), .val (.int p3), .val (.ref b1), .val (.int (Int32.ofNat sA)), .val (.int (Int32.ofNat nA)), .val (.int (Int32.ofNat sB)), .val (.int (Int32.ofNat nB)), .val (.int 2), .val (.ref a25), .val (.int 1), .unset, .unset]) rfl) ?_
    refine GoV.s (XS.iload X30.here hx rfl (hb hby at_183) rfl) ?_
    refine GoV.s (XS.iconst X30.here hx rfl (hb hby at_185)) ?_
    refine GoV.s (XS.icmpNo X30.here hx rfl (hb hby at_186) rfl (by decide)) ?_
    show GoV p e below s _ _ _ (T30.setTop (mkF m 189 #[.val (.int p0), .val (.int p1), .val (.int p2), .val (.int p3), .val (.ref b1), .val (.int (Int32.ofNat sA)), .val (.int (Int32.ofNat nA)), .val (.int (Int32.ofNat sB)), .val (.int (Int32.ofNat nB)), .val (.int 2), .val (.ref a25), .val (.int 1), .unset, .unset] []))
    refine GoV.s (XS.aload X30.here hx rfl (hb hby at_189) rfl rfl) ?_
    refine GoV.s (XS.aload X30.here hx rfl (hb hby at_191) rfl rfl) ?_
    refine GoV.s (XS.iload X30.here hx rfl (hb hby at_193) rfl) ?_
    refine GoV.s (XS.iload X30.here hx rfl (hb hby at_195) rfl) ?_
    obtain ⟨cq31, kq31, qa31, qb31, qc31⟩ := isOf hZ26 e30 E_a25
    obtain ⟨_, _, ⟨T31, L31, k31, n31⟩, -, X31, ⟨Lc31, hQ31, l31, y31, z31⟩, st31⟩ := X30.virtualBack hx (y := mN18) (z := mN18) hown26 (mvT hZ26 (own_w hw 51 rfl)) (mvT hZ26 (own_w hw 52 rfl)) (notFace_of_selects (args := #[]) (mvT hZ26 (own_w hw 54 rfl))) (mvT hZ26 (own_w hw 54 rfl)) (mvT hZ26 (own_w hw 53 rfl)) (by decide) (backOf (W := 0) (rmtb l Z a0 hw [] a25 b u ku M (oSl D sA nA) b1 k1 D sB nB zc gm T29.heap n0 O29 E_a25 F_a25_text E_b F_b_value F_b_coder F_b_count V_u E_u V_b1 ne_a25_b g_b g_u hM hML (by rw [oSl_len (by omega)]; omega) hD hbD hnB SC hcs SG rg) hZ26 (own_w hw 55 rfl) (own_w hw 4 rfl) (by decide) (by decide)) qa31 qc31 (g := (mkF m 197 #[.val (.int p0), .val (.int p1), .val (.int p2), .val (.int p3), .val (.ref b1), .val (.int (Int32.ofNat sA)), .val (.int (Int32.ofNat nA)), .val (.int (Int32.ofNat sB)), .val (.int (Int32.ofNat nB)), .val (.int 2), .val (.ref a25), .val (.int 1), .unset, .unset] [(.int (Int32.ofNat nB)), (.int (Int32.ofNat sB)), (.ref b1), (.ref a25)])) rfl (by rw [hml]; rfl) (Steps.refl _) (argsL := [(.ref b1), (.int (Int32.ofNat sB)), (.int (Int32.ofNat nB))]) (rest := []) (lenOf pdap_1 rfl) rfl (by show 2 * 0 + _ ≤ _; exact Nat.le_of_eq rfl) (hb hby at_197) (fun _ _ => ⟨rfl, e30, (by decide : 10 + 1 ≤ _), (by decide : 64 + 16 ≤ _)⟩)
    dsimp only [Pt.U, Pt.locs, Pt.cells, Pt.slots] at X31 l31 y31 z31 st31 hQ31
    subst y31 z31
    obtain ⟨u2, ku2, M2, rfl, Nc31, Kc31, gu2, huo, NA, NB, NC, ND, NE, NF, NG, NH, hM2, hML2⟩ := hQ31
    have N31 : Fr n0 L31 := by rw [l31]; exact Fr.app N30 Nc31
    have V_b1 := V_b1.keep Kc31 (ninS ne_b1_b (ninS ne_b1_u nin0))
    have hk31 := Nat.le_trans hk29 Kc31.1
    have O31 := O29.keep Kc31 (allS g_b (allS g_u all0))
    have E_a25 : Exa Z T31.heap a25 "com/example/pemmican/pemmican/XmlElement" := NA
    have F_a25_text : Fld Z T31.heap a25 "com/example/pemmican/pemmican/XmlElement" "text" "Ljava/lang/StringBuilder;" (.ref b) := NB
    have E_b : Exa Z T31.heap b "java/lang/StringBuilder" := NC
    have F_b_value : Fld Z T31.heap b "java/lang/AbstractStringBuilder" "value" "[B" (.ref u2) := ND
    have F_b_coder : Fld Z T31.heap b "java/lang/AbstractStringBuilder" "coder" "B" (.int 0) := NE
    have F_b_count : Fld Z T31.heap b "java/lang/AbstractStringBuilder" "count" "I" (.int (Int32.ofNat ((oSl D sA nA) ++ oSl D sB nB).length)) := NF
    have V_u2 : Arv Z T31.heap u2 ku2 .byte (Int32.ofNat M2) (oLat ((oSl D sA nA) ++ oSl D sB nB)) (.int 0) := NG
    have E_u2 : Exa Z T31.heap u2 "[B" := NH
    refine GoV.tr st31 ?_
    show GoV p e below s _ _ _ (T31.setTop (mkF m 200 #[.val (.int p0), .val (.int p1), .val (.int p2), .val (.int p3), .val (.ref b1), .val (.int (Int32.ofNat sA)), .val (.int (Int32.ofNat nA)), .val (.int (Int32.ofNat sB)), .val (.int (Int32.ofNat nB)), .val (.int 2), .val (.ref a25), .val (.int 1), .unset, .unset] []))
    refine GoV.s (XS.aload X31.here hx rfl (hb hby at_200) rfl rfl) ?_
    obtain ⟨cq32, kq32, qa32, qb32, qc32⟩ := isOf hZ26 rfl E_a25
    obtain ⟨_, _, ⟨T32, L32, k32, n32⟩, -, X32, ⟨Lc32, hQ32, l32, y32, z32⟩, st32⟩ := X31.virtualBack hx (y := mN28) (z := mN28) hown26 (mvT hZ26 (own_w hw 109 rfl)) (mvT hZ26 (own_w hw 110 rfl)) (notFace_of_selects (args := #[]) (mvT hZ26 (own_w hw 112 rfl))) (mvT hZ26 (own_w hw 112 rfl)) (mvT hZ26 (own_w hw 111 rfl)) (by decide) (backOf (W := 0) (rmtx l Z a0 hw [] a25 b u2 ku2 M2 ((oSl D sA nA) ++ oSl D sB nB) zc T31.heap n0 O31 E_a25 F_a25_text E_b F_b_value F_b_coder F_b_count V_u2 E_u2 hM2 hML2 SC hcs) hZ26 (own_w hw 113 rfl) (own_w hw 4 rfl) (by decide) (by decide)) qa32 qc32 (g := (mkF m 202 #[.val (.int p0), .val (.int p1), .val (.int p2), .val (.int p3), .val (.ref b1), .val (.int (Int32.ofNat sA)), .val (.int (Int32.ofNat nA)), .val (.int (Int32.ofNat sB)), .val (.int (Int32.ofNat nB)), .val (.int 2), .val (.ref a25), .val (.int 1), .unset, .unset] [(.ref a25)])) rfl (by rw [hml]; rfl) (Steps.refl _) (argsL := []) (rest := []) (lenOf pdtx_0 rfl) rfl (by show 2 * 0 + _ ≤ _; exact Nat.le_of_eq rfl) (hb hby at_202) (fun _ _ => ⟨rfl, rfl, (by decide : 11 + 2 ≤ _), (by decide : 80 + 20 ≤ _)⟩)
    dsimp only [Pt.U, Pt.locs, Pt.cells, Pt.slots] at X32 l32 y32 z32 st32 hQ32
    subst y32 z32
    obtain ⟨x1_, y1_, k1_, rfl, Nc32, Kc32, gx, szx, NA, NB, NC, ND⟩ := hQ32
    have N32 : Fr n0 L32 := by rw [l32]; exact Fr.app N31 Nc32
    have g_x1_ : n0 ≤ x1_ := gx
    have ne_b1_x1_ : b1 ≠ x1_ := Nat.ne_of_lt (Nat.lt_of_lt_of_le V_b1.lt szx)
    have ne_a25_x1_ : a25 ≠ x1_ := Nat.ne_of_lt (Nat.lt_of_lt_of_le E_a25.lt szx)
    have ne_b_x1_ : b ≠ x1_ := Nat.ne_of_lt (Nat.lt_of_lt_of_le E_b.lt szx)
    have ne_u2_x1_ : u2 ≠ x1_ := Nat.ne_of_lt (Nat.lt_of_lt_of_le V_u2.lt szx)
    have V_b1 := V_b1.keep Kc32 nin0
    have E_a25 := E_a25.keep Kc32
    have F_a25_text := F_a25_text.keep Kc32 nin0
    have E_b := E_b.keep Kc32
    have F_b_value := F_b_value.keep Kc32 nin0
    have F_b_coder := F_b_coder.keep Kc32 nin0
    have F_b_count := F_b_count.keep Kc32 nin0
    have V_u2 := V_u2.keep Kc32 nin0
    have E_u2 := E_u2.keep Kc32
    have hk32 := Nat.le_trans hk31 Kc32.1
    have O32 := O31.keep Kc32 all0
    have E_x1_ : Exa Z T32.heap x1_ "java/lang/String" := NA
    have F_x1__coder : Fld Z T32.heap x1_ "java/lang/String" "coder" "B" (.int 0) := NB
    have F_x1__value : Fld Z T32.heap x1_ "java/lang/String" "value" "[B" (.ref y1_) := NC
    have V_y1_ : Arv Z T32.heap y1_ k1_ .byte (Int32.ofNat ((oSl D sA nA) ++ oSl D sB nB).length) (oLat ((oSl D sA nA) ++ oSl D sB nB)) (.int 0) := ND
    refine GoV.tr st32 ?_
    show GoV p e below s _ _ _ (T32.setTop (mkF m 205 #[.val (.int p0), .val (.int p1), .val (.int p2), .val (.int p3), .val (.ref b1), .val (.int (Int32.ofNat sA)), .val (.int (Int32.ofNat nA)), .val (.int (Int32.ofNat sB)), .val (.int (Int32.ofNat nB)), .val (.int 2), .val (.ref a25), .val (.int 1), .unset, .unset] [(.ref x1_)]))
    refine GoV.s (XS.astore X32.here hx rfl (hb hby at_205) rfl rfl (l' := #[.val (.int p0), .val (.int p1), .val (.int p2), .val (.int p3), .val (.ref b1), .val (.int (Int32.ofNat sA)), .val (.int (Int32.ofNat nA)), .val (.int (Int32.ofNat sB)), .val (.int (Int32.ofNat nB)), .val (.int 2), .val (.ref a25), .val (.int 1), .val (.ref x1_), .unset]) rfl) ?_
    refine GoV.s (XS.iload X32.here hx rfl (hb hby at_207) rfl) ?_
    refine GoV.s (XS.ifNo X32.here hx rfl (hb hby at_209) rfl (by decide)) ?_
    show GoV p e below s _ _ _ (T32.setTop (mkF m 212 #[.val (.int p0), .val (.int p1), .val (.int p2), .val (.int p3), .val (.ref b1), .val (.int (Int32.ofNat sA)), .val (.int (Int32.ofNat nA)), .val (.int (Int32.ofNat sB)), .val (.int (Int32.ofNat nB)), .val (.int 2), .val (.ref a25), .val (.int 1), .val (.ref x1_), .unset] []))
    refine GoV.s (XS.aload X32.here hx rfl (hb hby at_212) rfl rfl) ?_
    refine GoV.s (XS.aload X32.here hx rfl (hb hby at_214) rfl rfl) ?_
    refine GoV.s (XS.iload X32.here hx rfl (hb hby at_216) rfl) ?_
    refine GoV.s (XS.iload X32.here hx rfl (hb hby at_218) rfl) ?_
    refine GoV.s (XS.iload X32.here hx rfl (hb hby at_220) rfl) ?_
    refine GoV.s (XS.iload X32.here hx rfl (hb hby at_222) rfl) ?_
    obtain ⟨_, _, ⟨T33, L33, k33, n33⟩, -, X33, ⟨Lc33, hQ33, l33, y33, z33⟩, st33⟩ := Jvm.LawKit.callS X32 hx (y := mN39) hown26 (mvT hZ26 (own_w hw 157 rfl)) (mvT hZ26 (own_w hw 158 rfl)) (mvT hZ26 (own_w hw 159 rfl)) (mvT hZ26 (own_w hw 160 rfl)) (by decide) (backOf (W := 0) (rmmt l Z a0 hw [] x1_ y1_ k1_ ((oSl D sA nA) ++ oSl D sB nB) b1 k1 D sA nA sB nB fm zc T32.heap n0 O32 E_x1_ F_x1__coder F_x1__value V_y1_ V_b1 hD hbD hnA hnB rfl SF rf SC hcs) hZ26 (own_w hw 160 rfl) (own_w hw 159 rfl) (by decide) (by decide)) (g := (mkF m 224 #[.val (.int p0), .val (.int p1), .val (.int p2), .val (.int p3), .val (.ref b1), .val (.int (Int32.ofNat sA)), .val (.int (Int32.ofNat nA)), .val (.int (Int32.ofNat sB)), .val (.int (Int32.ofNat nB)), .val (.int 2), .val (.ref a25), .val (.int 1), .val (.ref x1_), .unset] [(.int (Int32.ofNat nB)), (.int (Int32.ofNat sB)), (.int (Int32.ofNat nA)), (.int (Int32.ofNat sA)), (.ref b1), (.ref x1_)])) rfl (by rw [hml]; rfl) (argsL := [(.ref x1_), (.ref b1), (.int (Int32.ofNat sA)), (.int (Int32.ofNat nA)), (.int (Int32.ofNat sB)), (.int (Int32.ofNat nB))]) (rest := []) (lenOf pd0_1 rfl) rfl (by show 2 * 0 + _ ≤ _; exact Nat.le_of_eq rfl) (hb hby at_224) (fun _ _ => ⟨rfl, rfl, (by decide : 13 + 0 ≤ _), (by decide : 100 + 0 ≤ _)⟩)
    dsimp only [Pt.U, Pt.locs, Pt.cells, Pt.slots] at X33 l33 y33 z33 st33 hQ33
    subst y33 z33
    obtain ⟨rfl, Nc33, e33⟩ := hQ33
    have N33 : Fr n0 L33 := by rw [l33]; exact Fr.app N32 Nc33
    refine GoV.st st33 ?_
    show GoV p e below s _ _ _ (T33.setTop (mkF m 227 #[.val (.int p0), .val (.int p1), .val (.int p2), .val (.int p3), .val (.ref b1), .val (.int (Int32.ofNat sA)), .val (.int (Int32.ofNat nA)), .val (.int (Int32.ofNat sB)), .val (.int (Int32.ofNat nB)), .val (.int 2), .val (.ref a25), .val (.int 1), .val (.ref x1_), .unset] [(.int 1)]))
    refine GoV.s (XS.ifNo X33.here hx rfl (hb hby at_227) rfl (by decide)) ?_
    show GoV p e below s _ _ _ (T33.setTop (mkF m 230 #[.val (.int p0), .val (.int p1), .val (.int p2), .val (.int p3), .val (.ref b1), .val (.int (Int32.ofNat sA)), .val (.int (Int32.ofNat nA)), .val (.int (Int32.ofNat sB)), .val (.int (Int32.ofNat nB)), .val (.int 2), .val (.ref a25), .val (.int 1), .val (.ref x1_), .unset] []))
    refine GoV.s (XS.iconst X33.here hx rfl (hb hby at_230)) ?_
    refine GoV.s (XS.goto X33.here hx rfl (pc0 := 231) (pc' := 235) rfl (hb hby at_231) (by decide) (by decide)) ?_
    refine GoV.s (XS.istore X33.here hx rfl (hb hby at_235) rfl (l' := #[.val (.int p0), .val (.int p1), .val (.int p2), .val (.int p3), .val (.ref b1), .val (.int (Int32.ofNat sA)), .val (.int (Int32.ofNat nA)), .val (.int (Int32.ofNat sB)), .val (.int (Int32.ofNat nB)), .val (.int 2), .val (.ref a25), .val (.int 1), .val (.ref x1_), .unset]) rfl) ?_
    refine GoV.s (XS.aload X33.here hx rfl (hb hby at_237) rfl rfl) ?_
    obtain ⟨cq34, kq34, qa34, qb34, qc34⟩ := isOf hZ26 e33 E_a25
    obtain ⟨_, _, ⟨T34, L34, k34, n34⟩, -, X34, ⟨Lc34, hQ34, l34, y34, z34⟩, st34⟩ := X33.virtualBack hx (y := mN28) (z := mN28) hown26 (mvT hZ26 (own_w hw 109 rfl)) (mvT hZ26 (own_w hw 110 rfl)) (notFace_of_selects (args := #[]) (mvT hZ26 (own_w hw 112 rfl))) (mvT hZ26 (own_w hw 112 rfl)) (mvT hZ26 (own_w hw 111 rfl)) (by decide) (backOf (W := 0) (rmtx l Z a0 hw [] a25 b u2 ku2 M2 ((oSl D sA nA) ++ oSl D sB nB) zc T32.heap n0 O32 E_a25 F_a25_text E_b F_b_value F_b_coder F_b_count V_u2 E_u2 hM2 hML2 SC hcs) hZ26 (own_w hw 113 rfl) (own_w hw 4 rfl) (by decide) (by decide)) qa34 qc34 (g := (mkF m 239 #[.val (.int p0), .val (.int p1), .val (.int p2), .val (.int p3), .val (.ref b1), .val (.int (Int32.ofNat sA)), .val (.int (Int32.ofNat nA)), .val (.int (Int32.ofNat sB)), .val (.int (Int32.ofNat nB)), .val (.int 2), .val (.ref a25), .val (.int 1), .val (.ref x1_), .unset] [(.ref a25)])) rfl (by rw [hml]; rfl) (Steps.refl _) (argsL := []) (rest := []) (lenOf pdtx_0 rfl) rfl (by show 2 * 0 + _ ≤ _; exact Nat.le_of_eq rfl) (hb hby at_239) (fun _ _ => ⟨rfl, e33, (by decide : 13 + 2 ≤ _), (by decide : 100 + 20 ≤ _)⟩)
    dsimp only [Pt.U, Pt.locs, Pt.cells, Pt.slots] at X34 l34 y34 z34 st34 hQ34
    subst y34 z34
    obtain ⟨x2_, y2_, k2_, rfl, Nc34, Kc34, gx, szx, NA, NB, NC, ND⟩ := hQ34
    have N34 : Fr n0 L34 := by rw [l34]; exact Fr.app N33 Nc34
    have g_x2_ : n0 ≤ x2_ := gx
    have ne_b1_x2_ : b1 ≠ x2_ := Nat.ne_of_lt (Nat.lt_of_lt_of_le V_b1.lt szx)
    have ne_a25_x2_ : a25 ≠ x2_ := Nat.ne_of_lt (Nat.lt_of_lt_of_le E_a25.lt szx)
    have ne_b_x2_ : b ≠ x2_ := Nat.ne_of_lt (Nat.lt_of_lt_of_le E_b.lt szx)
    have ne_u2_x2_ : u2 ≠ x2_ := Nat.ne_of_lt (Nat.lt_of_lt_of_le V_u2.lt szx)
    have ne_x1__x2_ : x1_ ≠ x2_ := Nat.ne_of_lt (Nat.lt_of_lt_of_le E_x1_.lt szx)
    have ne_y1__x2_ : y1_ ≠ x2_ := Nat.ne_of_lt (Nat.lt_of_lt_of_le V_y1_.lt szx)
    have V_b1 := V_b1.keep Kc34 nin0
    have E_a25 := E_a25.keep Kc34
    have F_a25_text := F_a25_text.keep Kc34 nin0
    have E_b := E_b.keep Kc34
    have F_b_value := F_b_value.keep Kc34 nin0
    have F_b_coder := F_b_coder.keep Kc34 nin0
    have F_b_count := F_b_count.keep Kc34 nin0
    have V_u2 := V_u2.keep Kc34 nin0
    have E_u2 := E_u2.keep Kc34
    have E_x1_ := E_x1_.keep Kc34
    have F_x1__coder := F_x1__coder.keep Kc34 nin0
    have F_x1__value := F_x1__value.keep Kc34 nin0
    have V_y1_ := V_y1_.keep Kc34 nin0
    have hk34 := Nat.le_trans hk32 Kc34.1
    have O34 := O32.keep Kc34 all0
    have E_x2_ : Exa Z T34.heap x2_ "java/lang/String" := NA
    have F_x2__coder : Fld Z T34.heap x2_ "java/lang/String" "coder" "B" (.int 0) := NB
    have F_x2__value : Fld Z T34.heap x2_ "java/lang/String" "value" "[B" (.ref y2_) := NC
    have V_y2_ : Arv Z T34.heap y2_ k2_ .byte (Int32.ofNat ((oSl D sA nA) ++ oSl D sB nB).length) (oLat ((oSl D sA nA) ++ oSl D sB nB)) (.int 0) := ND
    refine GoV.tr st34 ?_
    show GoV p e below s _ _ _ (T34.setTop (mkF m 242 #[.val (.int p0), .val (.int p1), .val (.int p2), .val (.int p3), .val (.ref b1), .val (.int (Int32.ofNat sA)), .val (.int (Int32.ofNat nA)), .val (.int (Int32.ofNat sB)), .val (.int (Int32.ofNat nB)), .val (.int 2), .val (.ref a25), .val (.int 1), .val (.ref x1_), .unset] [(.ref x2_)]))
    refine GoV.s (XS.astore X34.here hx rfl (hb hby at_242) rfl rfl (l' := #[.val (.int p0), .val (.int p1), .val (.int p2), .val (.int p3), .val (.ref b1), .val (.int (Int32.ofNat sA)), .val (.int (Int32.ofNat nA)), .val (.int (Int32.ofNat sB)), .val (.int (Int32.ofNat nB)), .val (.int 2), .val (.ref a25), .val (.int 1), .val (.ref x1_), .val (.ref x2_)]) rfl) ?_
    refine GoV.s (XS.iload X34.here hx rfl (hb hby at_244) rfl) ?_
    refine GoV.s (XS.ifNo X34.here hx rfl (hb hby at_246) rfl (by decide)) ?_
    show GoV p e below s _ _ _ (T34.setTop (mkF m 249 #[.val (.int p0), .val (.int p1), .val (.int p2), .val (.int p3), .val (.ref b1), .val (.int (Int32.ofNat sA)), .val (.int (Int32.ofNat nA)), .val (.int (Int32.ofNat sB)), .val (.int (Int32.ofNat nB)), .val (.int 2), .val (.ref a25), .val (.int 1), .val (.ref x1_), .val (.ref x2_)] []))
    refine GoV.s (XS.aload X34.here hx rfl (hb hby at_249) rfl rfl) ?_
    refine GoV.s (XS.ifnullNo X34.here hx rfl (hb hby at_251) rfl) ?_
    show GoV p e below s _ _ _ (T34.setTop (mkF m 254 #[.val (.int p0), .val (.int p1), .val (.int p2), .val (.int p3), .val (.ref b1), .val (.int (Int32.ofNat sA)), .val (.int (Int32.ofNat nA)), .val (.int (Int32.ofNat sB)), .val (.int (Int32.ofNat nB)), .val (.int 2), .val (.ref a25), .val (.int 1), .val (.ref x1_), .val (.ref x2_)] []))
    refine GoV.s (XS.aload X34.here hx rfl (hb hby at_254) rfl rfl) ?_
    refine GoV.s (XS.ifnullNo X34.here hx rfl (hb hby at_256) rfl) ?_
    show GoV p e below s _ _ _ (T34.setTop (mkF m 259 #[.val (.int p0), .val (.int p1), .val (.int p2), .val (.int p3), .val (.ref b1), .val (.int (Int32.ofNat sA)), .val (.int (Int32.ofNat nA)), .val (.int (Int32.ofNat sB)), .val (.int (Int32.ofNat nB)), .val (.int 2), .val (.ref a25), .val (.int 1), .val (.ref x1_), .val (.ref x2_)] []))
    refine GoV.s (XS.aload X34.here hx rfl (hb hby at_259) rfl rfl) ?_
    refine GoV.s (XS.aload X34.here hx rfl (hb hby at_261) rfl rfl) ?_
    obtain ⟨cq35, kq35, qa35, qb35, qc35⟩ := isOf hZ26 rfl E_x1_
    obtain ⟨_, _, ⟨T35, L35, k35, n35⟩, -, X35, ⟨Lc35, hQ35, l35, y35, z35⟩, st35⟩ := X34.virtualBack hx (y := mN37) (z := mN37) hown26 (mvT hZ26 (own_w hw 175 rfl)) (mvT hZ26 (own_w hw 176 rfl)) (notFace_of_selects (args := #[]) (mvT hZ26 (own_w hw 178 rfl))) (mvT hZ26 (own_w hw 178 rfl)) (mvT hZ26 (own_w hw 177 rfl)) (by decide) (backOf (W := 0) (rmse l Z a0 hw [] x1_ y1_ k1_ ((oSl D sA nA) ++ oSl D sB nB) x2_ y2_ k2_ zc T34.heap n0 O34 E_x1_ F_x1__coder F_x1__value V_y1_ E_x2_ F_x2__coder F_x2__value V_y2_ (by rw [List.length_append, oSl_len (by omega), oSl_len (by omega)]; omega) SC hcs) hZ26 (own_w hw 179 rfl) (own_w hw 6 rfl) (by decide) (by decide)) qa35 qc35 (g := (mkF m 263 #[.val (.int p0), .val (.int p1), .val (.int p2), .val (.int p3), .val (.ref b1), .val (.int (Int32.ofNat sA)), .val (.int (Int32.ofNat nA)), .val (.int (Int32.ofNat sB)), .val (.int (Int32.ofNat nB)), .val (.int 2), .val (.ref a25), .val (.int 1), .val (.ref x1_), .val (.ref x2_)] [(.ref x2_), (.ref x1_)])) rfl (by rw [hml]; rfl) (Steps.refl _) (argsL := [(.ref x2_)]) (rest := []) (lenOf pd0_2 rfl) rfl (by show 2 * 0 + _ ≤ _; exact Nat.le_of_eq rfl) (hb hby at_263) (fun _ _ => ⟨rfl, rfl, (by decide : 15 + 0 ≤ _), (by decide : 120 + 0 ≤ _)⟩)
    dsimp only [Pt.U, Pt.locs, Pt.cells, Pt.slots] at X35 l35 y35 z35 st35 hQ35
    subst y35 z35
    obtain ⟨rfl, Nc35, e35⟩ := hQ35
    have N35 : Fr n0 L35 := by rw [l35]; exact Fr.app N34 Nc35
    refine GoV.tr st35 ?_
    show GoV p e below s _ _ _ (T35.setTop (mkF m 266 #[.val (.int p0), .val (.int p1), .val (.int p2), .val (.int p3), .val (.ref b1), .val (.int (Int32.ofNat sA)), .val (.int (Int32.ofNat nA)), .val (.int (Int32.ofNat sB)), .val (.int (Int32.ofNat nB)), .val (.int 2), .val (.ref a25), .val (.int 1), .val (.ref x1_), .val (.ref x2_)] [(.int 1)]))
    refine GoV.s (XS.ifNo X35.here hx rfl (hb hby at_266) rfl (by decide)) ?_
    show GoV p e below s _ _ _ (T35.setTop (mkF m 269 #[.val (.int p0), .val (.int p1), .val (.int p2), .val (.int p3), .val (.ref b1), .val (.int (Int32.ofNat sA)), .val (.int (Int32.ofNat nA)), .val (.int (Int32.ofNat sB)), .val (.int (Int32.ofNat nB)), .val (.int 2), .val (.ref a25), .val (.int 1), .val (.ref x1_), .val (.ref x2_)] []))
    refine GoV.s (XS.iconst X35.here hx rfl (hb hby at_269)) ?_
    refine GoV.s (XS.goto X35.here hx rfl (pc0 := 270) (pc' := 274) rfl (hb hby at_270) (by decide) (by decide)) ?_
    refine GoV.s (XS.istore X35.here hx rfl (hb hby at_274) rfl (l' := #[.val (.int p0), .val (.int p1), .val (.int p2), .val (.int p3), .val (.ref b1), .val (.int (Int32.ofNat sA)), .val (.int (Int32.ofNat nA)), .val (.int (Int32.ofNat sB)), .val (.int (Int32.ofNat nB)), .val (.int 2), .val (.ref a25), .val (.int 1), .val (.ref x1_), .val (.ref x2_)]) rfl) ?_
    refine GoV.s (XS.iload X35.here hx rfl (hb hby at_276) rfl) ?_
    exact GoV.ret (vm1 := T26.vm) X35 hlk hS26 (by rw [e35]; exact hk34) (some (.int (nar .boolean (1 : Int32)))) (fun h => by rw [Bd.returns] at h; cases h) (by rw [e35]; exact ⟨rfl, N35⟩) (by decide) (by decide) (fun fs hr => retN X35 hx (t := .boolean) Bd.returns (by simp) (hb hby at_278) hr)
 obtain ⟨s2, o2, st2, r2⟩ := G
 exact ⟨s2, o2, castTop (ef0 m p0 p1 p2 p3) st2, r2⟩
theorem own_fitO {c : String} {v : Value} (h : fits (.object c) v = true) : v.isRef = true := by cases v <;> simp_all [fits, Value.isRef]
theorem comes_1 {Post : Tables → Env → Array Value → State → Outcome → State → Prop} (hpost : ∀ tb e args s v u, (limb_1_1.after args s (.returned v) u = true ∧ limb_1_2.after args s (.returned v) u = true ∧ True) → ReturnedEndW s (.returned v) u (Jvm.fieldLocs frame_1_writes args s ++ Jvm.arrayLocs frame_1_arrays args s ++ Jvm.staticLocs frame_1_statics s) 40 2240 → Post tb e args s (.returned v) u) :
    ArmFor flags0 classFile x code maxLocals ret World_1 tables_1 room_1 Calls_1 rest_1 Pre_1 Post := by
  intro l hfl _ _ p e ha hc hk s m args below hf hA hF happ hP
  obtain ⟨hcalls, hrest, hpre⟩ := hP
  obtain ⟨-, -, -, hnamed, -, -, -, hat⟩ := (Spec.applies_iff hf).mp happ
  obtain ⟨hg, hn⟩ := and_e (Cond.before_iff.mp (show (Jvm.Cond.and given_1 narrow_1).before args s = true from hpre))
  obtain ⟨h1, r1⟩ := and_e hg
  obtain ⟨a0, r2⟩ := and_e r1
  obtain ⟨a1, r3⟩ := and_e r2
  obtain ⟨a2, r4⟩ := and_e r3
  obtain ⟨w0, w1, w2, w3, rfl⟩ : ∃ w0 w1 w2 w3 : Value, args = #[w0, w1, w2, w3] := by
    have hs : args.size = 4 := by simpa [Cond.value, given_1] using h1
    obtain ⟨L⟩ := args
    match L, hs with
    | [w0, w1, w2, w3], _ => exact ⟨w0, w1, w2, w3, rfl⟩
  have hw := fun d (hd : d ∈ tables_1) => atoms_spec (ws := Jvm.Cond.code x code maxLocals ret :: tables_1) hat d (List.mem_cons_of_mem _ hd)
  obtain ⟨hsets, hown0⟩ := atoms_of _ (rest_1_c_eq ▸ (show rest_1_c.before _ s = true from hrest))
  have hfit : Fit s := fun {y c} hc i hi => by
    obtain ⟨ha, rfl⟩ := Array.getElem?_eq_some_iff.mp hc
    have q := List.all_eq_true.mp ((Array.all_eq_true_iff_forall_mem.mp hF) _ (Array.getElem_mem ha)) i (List.mem_range.mpr hi)
    simpa [Array.getElem?_eq_getElem hi] using q
  obtain ⟨i0, ei0⟩ := is_v a0
  obtain rfl : w0 = (.int i0) := Option.some.inj ei0
  obtain ⟨i1, ei1⟩ := is_v a1
  obtain rfl : w1 = (.int i1) := Option.some.inj ei1
  obtain ⟨i2, ei2⟩ := is_v a2
  obtain rfl : w2 = (.int i2) := Option.some.inj ei2
  obtain ⟨i3, ei3⟩ := is_v r4
  obtain rfl : w3 = (.int i3) := Option.some.inj ei3
  have hcw := hsets _ (List.mem_of_getElem? (i := 11) rfl)
  have n5 := not_v (Cond.before_iff.mp hcw)
  obtain ⟨zc, e10⟩ := is_v (Cond.before_iff.mp (hsets _ (List.mem_of_getElem? (i := 10) rfl)))
  have SC : Sta s s.heap "java/lang/String" "COMPACT_STRINGS" "Z" (.int zc) := Sta.start e10 (Or.inl (hsets _ (List.mem_of_getElem? (i := 9) rfl)))
  have hcs : ¬ (zc = (0 : Int32)) := gotF (Cond.eq_ints e10 (Term.int_eval (0))) n5
  obtain ⟨fm, e11, rf⟩ := isR_v (Cond.before_iff.mp (hsets _ (List.mem_of_getElem? (i := 17) rfl)))
  have SF : Sta s s.heap "jdk/internal/util/Preconditions" "SIOOBE_FORMATTER" "Ljava/util/function/BiFunction;" fm := Sta.start e11 (Or.inl (hsets _ (List.mem_of_getElem? (i := 16) rfl)))
  obtain ⟨gm, e12, fg⟩ := static_fit hfit (own_w hw 88 rfl) (by decide : parseFieldDescriptor "Ljava/util/function/BiFunction;" = some (.object "java/util/function/BiFunction"))
  have rg : gm.isRef = true := own_fitO fg
  have SG : Sta s s.heap "jdk/internal/util/Preconditions" "IOOBE_FORMATTER" "Ljava/util/function/BiFunction;" gm := Sta.start e12 (Or.inr ⟨(own_w hw 87 rfl), own_w hw 88 rfl⟩)
  obtain ⟨ad, e13⟩ := arr_v (Cond.before_iff.mp (hsets _ (List.mem_of_getElem? (i := 6) rfl)))
  have SD : Sta s s.heap "java/util/ArrayList" "DEFAULTCAPACITY_EMPTY_ELEMENTDATA" "[Ljava/lang/Object;" (.ref ad) := Sta.start e13 (Or.inr ⟨(own_w hw 21 rfl), (hsets _ (List.mem_of_getElem? (i := 2) rfl))⟩)
  obtain ⟨n, o, h1, h2, h3, _, L, rfl, ⟨rfl, N⟩, hq⟩ := rm0 l s _ hw tables_1 i0 i1 i2 i3 zc fm gm ad s.heap s.heap.size (Old.start s) rfl SC hcs SF rf SG rg SD hcw hcalls.1 p e ha hc hk s m _ below hf ((Spec.applies_iff_loose hf).mp happ).1 ⟨rfl, rfl⟩ trivial
  refine ⟨n, _, h1, h2, h3, hpost _ _ _ _ _ _ ⟨Cond.after_iff.mpr rfl, Cond.after_iff.mpr (eq_i res_at (Term.int_eval (1)) rfl), trivial⟩ ⟨hq.1, hq.2.1, hq.2.2.1, (hq.2.2.2.sift fun y hy => Or.inr (N y hy)).mono (by decide) (by decide)⟩⟩
theorem main_1_1 : Claimed_1_1 := comes_1 fun _ _ _ _ _ _ h hF => ⟨h.1, hF⟩
theorem main_1_2 : Claimed_1_2 := comes_1 fun _ _ _ _ _ _ h hF => ⟨h.2.1, hF⟩
end Jvm.Pilot.@@N@@
namespace Jvm.Pilot.@@N@@
open Jvm Jvm.ClassFile Sem Op Lib Jvm.Free Jvm.Stand Jvm.Pilot.@@N@@.Jvm.D
/-! MADE BY PROGRAM (witnessworld.py) out of the Statement's table words and the real class files: 34 classes; the members and pool entries that the words name. The judged class is class 1, her method 1. -/
namespace start1
open Jvm.ClassFile
def u (s : String) : CpInfo := .utf8 (stringToUtf16 s)
/-- a pool by its gaps: so many unusable entries, then the entry; so many at the end -/
def gap : Nat → List CpInfo → List CpInfo
  | 0, r => r
  | n + 1, r => .unusable :: gap n r
def poolList (es : List (Nat × CpInfo)) (last : Nat) : List CpInfo := es.foldr (fun e r => gap e.1 (e.2 :: r)) (gap last [])
def pool (es : List (Nat × CpInfo)) (last : Nat) : Array CpInfo := ⟨poolList es last⟩
def fileOf (pool : Array CpInfo) (this : Nat) (attrs : Array Attribute := #[]) (ms : Array MethodInfo := #[]) (fl : Nat := 33) (sup : Nat := 0) (ifs : Array Nat := #[]) (fds : Array FieldInfo := #[]) : ClassFile where
  minorVersion := 0
  majorVersion := 65
  constantPool := pool
  accessFlags := fl
  thisClass := this
  superClass := sup
  interfaces := ifs
  fields := fds
  methods := ms
  attributes := attrs
def plain (name : String) (sup : Option ClassId) : Class where
  name := name
  kind := .ordinary
  loader := none
  accessFlags := 33
  super := sup
  interfaces := #[]
  cf := none
  fields := #[]
  methods := #[]
  instanceTypes := #[]
  staticTypes := #[]
  resolved := #[]
  callSites := []
  init := .initialized
  statics := none
  mirror := none

def pool0 : Array CpInfo := pool [(5, u "<init>"), (0, u "()V"), (1, .class_ 10), (1, u "java/lang/Object"), (85, u "clone"), (0, u "()Ljava/lang/Object;")] 26

def k0c0 : Code := { maxStack := 0, maxLocals := 1, code := object_method_1_code, exceptionTable := #[], attributes := #[] }
def k0m0 : Method := { name := "<init>", desc := "()V", sig := { parameters := [], returnType := none }, accessFlags := 1, code := some k0c0 }
def k0m1 : Method := { name := "clone", desc := "()Ljava/lang/Object;", sig := { parameters := [], returnType := some (.object "java/lang/Object") }, accessFlags := 260, code := none }
/-- java/lang/Object -/
def k0 : Class := { plain "java/lang/Object" none with
  accessFlags := 33
  interfaces := #[]
  cf := some (fileOf pool0 8 #[] #[{ accessFlags := 1, nameIndex := 5, descriptorIndex := 6, attributes := #[] }, { accessFlags := 260, nameIndex := 96, descriptorIndex := 97, attributes := #[] }] 33 0 #[] #[])
  fields := #[]
  methods := #[k0m0, k0m1]
  instanceTypes := #[]
  staticTypes := #[]
  resolved := Array.replicate 124 none
  statics := none }

def pool1 : Array CpInfo := pool [(2, .class_ 4), (1, u "java/lang/Object"), (0, u "<init>"), (0, u "()V"), (0, .integer 2147483647), (0, .class_ 9), (0, u "com/example/pemmican/pemmican/XmlElement"), (0, .string 11), (0, u "e"), (0, .methodref 8 13), (0, .nameAndType 5 14), (0, u "(Ljava/lang/String;ILjava/util/Map;)V"), (0, .methodref 8 16), (0, .nameAndType 17 18), (0, u "appendText"), (0, u "([CII)V"), (0, .methodref 8 20), (0, .nameAndType 21 22), (0, u "text"), (0, u "()Ljava/lang/String;"), (0, .methodref 24 25), (0, .class_ 26), (0, .nameAndType 27 28), (0, u "com/example/pemmican/pemmican/XmlElementTextPinLaw"), (0, u "matches"), (0, u "(Ljava/lang/String;[CIIII)Z"), (0, .methodref 30 31), (0, .class_ 32), (0, .nameAndType 33 34), (0, u "java/lang/String"), (0, u "equals"), (0, u "(Ljava/lang/Object;)Z"), (0, .methodref 30 36), (0, .nameAndType 37 38), (0, u "length"), (0, u "()I"), (0, .methodref 24 40), (0, .nameAndType 41 42), (0, u "at"), (0, u "(Ljava/lang/String;[CIIIII)Z"), (0, .methodref 30 44), (0, .nameAndType 45 46), (0, u "charAt"), (0, u "(I)C"), (2, u "law"), (0, u "(IIII)Z")] 5

def k1m0 : Method := { name := "<init>", desc := "()V", sig := { parameters := [], returnType := none }, accessFlags := 1, code := none }
def k1c1 : Code := { maxStack := 6, maxLocals := 14, code := code, exceptionTable := #[], attributes := #[] }
def k1m1 : Method := { name := "law", desc := "(IIII)Z", sig := { parameters := [.int, .int, .int, .int], returnType := some .boolean }, accessFlags := 9, code := some k1c1 }
def k1c2 : Code := { maxStack := 7, maxLocals := 6, code := method_3_code, exceptionTable := #[], attributes := #[] }
def k1m2 : Method := { name := "matches", desc := "(Ljava/lang/String;[CIIII)Z", sig := { parameters := [(.object "java/lang/String"), (.array .char), .int, .int, .int, .int], returnType := some .boolean }, accessFlags := 10, code := some k1c2 }
def k1c3 : Code := { maxStack := 3, maxLocals := 8, code := method_4_code, exceptionTable := #[], attributes := #[] }
def k1m3 : Method := { name := "at", desc := "(Ljava/lang/String;[CIIIII)Z", sig := { parameters := [(.object "java/lang/String"), (.array .char), .int, .int, .int, .int, .int], returnType := some .boolean }, accessFlags := 10, code := some k1c3 }
/-- com/example/pemmican/pemmican/XmlElementTextPinLaw -/
def k1 : Class := { plain "com/example/pemmican/pemmican/XmlElementTextPinLaw" (some 0) with
  accessFlags := 49
  interfaces := #[]
  cf := some (fileOf pool1 24 #[] #[{ accessFlags := 1, nameIndex := 5, descriptorIndex := 6, attributes := #[] }, { accessFlags := 9, nameIndex := 49, descriptorIndex := 50, attributes := #[] }, { accessFlags := 10, nameIndex := 27, descriptorIndex := 28, attributes := #[] }, { accessFlags := 10, nameIndex := 41, descriptorIndex := 42, attributes := #[] }] 49 2 #[] #[])
  fields := #[]
  methods := #[k1m0, k1m1, k1m2, k1m3]
  instanceTypes := #[]
  staticTypes := #[]
  resolved := Array.replicate 56 none
  statics := none }

def pool2 : Array CpInfo := pool [(1, .methodref 2 3), (0, .class_ 4), (0, .nameAndType 5 6), (0, u "java/lang/Object"), (0, u "<init>"), (0, u "()V"), (0, .class_ 8), (0, u "java/util/ArrayList"), (0, .methodref 7 3), (0, .fieldref 11 12), (0, .class_ 13), (0, .nameAndType 14 15), (0, u "com/example/pemmican/pemmican/XmlElement"), (0, u "children"), (0, u "Ljava/util/List;"), (0, .fieldref 11 17), (0, .nameAndType 18 19), (0, u "name"), (0, u "Ljava/lang/String;"), (0, .fieldref 11 21), (0, .nameAndType 22 23), (0, u "line"), (0, u "I"), (0, .fieldref 11 25), (0, .nameAndType 26 27), (0, u "attributes"), (0, u "Ljava/util/Map;"), (52, .string 81), (0, u ""), (11, u "()Ljava/lang/String;"), (53, .fieldref 11 148), (0, .nameAndType 149 150), (0, u "text"), (0, u "Ljava/lang/StringBuilder;"), (0, .methodref 152 153), (0, .class_ 154), (0, .nameAndType 155 93), (0, u "java/lang/StringBuilder"), (0, u "toString"), (17, .methodref 152 174), (0, .nameAndType 5 175), (0, u "(I)V"), (0, .methodref 152 177), (0, .nameAndType 178 179), (0, u "append"), (0, u "([CII)Ljava/lang/StringBuilder;"), (3, u "(Ljava/lang/String;ILjava/util/Map;)V"), (23, u "appendText"), (0, u "([CII)V")] 39

def k2c0 : Code := { maxStack := 3, maxLocals := 4, code := prog_78_method_1_code, exceptionTable := #[], attributes := #[] }
def k2m0 : Method := { name := "<init>", desc := "(Ljava/lang/String;ILjava/util/Map;)V", sig := { parameters := [(.object "java/lang/String"), .int, (.object "java/util/Map")], returnType := none }, accessFlags := 0, code := some k2c0 }
def k2c1 : Code := { maxStack := 1, maxLocals := 1, code := prog_78_method_17_code, exceptionTable := #[], attributes := #[] }
def k2m1 : Method := { name := "text", desc := "()Ljava/lang/String;", sig := { parameters := [], returnType := some (.object "java/lang/String") }, accessFlags := 0, code := some k2c1 }
def k2c2 : Code := { maxStack := 4, maxLocals := 4, code := prog_78_method_21_code, exceptionTable := #[], attributes := #[] }
def k2m2 : Method := { name := "appendText", desc := "([CII)V", sig := { parameters := [(.array .char), .int, .int], returnType := none }, accessFlags := 0, code := some k2c2 }
/-- com/example/pemmican/pemmican/XmlElement -/
def k2 : Class := { plain "com/example/pemmican/pemmican/XmlElement" (some 0) with
  accessFlags := 48
  interfaces := #[]
  cf := some (fileOf pool2 11 #[] #[{ accessFlags := 0, nameIndex := 5, descriptorIndex := 183, attributes := #[] }, { accessFlags := 0, nameIndex := 149, descriptorIndex := 93, attributes := #[] }, { accessFlags := 0, nameIndex := 207, descriptorIndex := 208, attributes := #[] }] 48 2 #[] #[{ accessFlags := 18, nameIndex := 18, descriptorIndex := 19, attributes := #[] }, { accessFlags := 18, nameIndex := 22, descriptorIndex := 23, attributes := #[] }, { accessFlags := 18, nameIndex := 26, descriptorIndex := 27, attributes := #[] }, { accessFlags := 18, nameIndex := 14, descriptorIndex := 15, attributes := #[] }, { accessFlags := 2, nameIndex := 149, descriptorIndex := 150, attributes := #[] }])
  fields := #[{ name := "name", type := (.object "java/lang/String"), accessFlags := 18, slot := 0, constantValue := 0 }, { name := "line", type := .int, accessFlags := 18, slot := 1, constantValue := 0 }, { name := "attributes", type := (.object "java/util/Map"), accessFlags := 18, slot := 2, constantValue := 0 }, { name := "children", type := (.object "java/util/List"), accessFlags := 18, slot := 3, constantValue := 0 }, { name := "text", type := (.object "java/lang/StringBuilder"), accessFlags := 2, slot := 4, constantValue := 0 }]
  methods := #[k2m0, k2m1, k2m2]
  instanceTypes := #[(.object "java/lang/String"), .int, (.object "java/util/Map"), (.object "java/util/List"), (.object "java/lang/StringBuilder")]
  staticTypes := #[]
  resolved := Array.replicate 248 none
  statics := none }

def pool3 : Array CpInfo := pool [(1, .class_ 2), (0, u "java/io/Serializable"), (0, .class_ 4), (0, u "java/lang/Object")] 2

/-- java/io/Serializable -/
def k3 : Class := { plain "java/io/Serializable" (some 0) with
  accessFlags := 1537
  interfaces := #[]
  cf := some (fileOf pool3 1 #[] #[] 1537 3 #[] #[])
  fields := #[]
  methods := #[]
  instanceTypes := #[]
  staticTypes := #[]
  resolved := Array.replicate 7 none
  statics := none }

def pool4 : Array CpInfo := pool [(1, .class_ 2), (0, u "java/lang/Comparable"), (0, .class_ 4), (0, u "java/lang/Object")] 7

/-- java/lang/Comparable -/
def k4 : Class := { plain "java/lang/Comparable" (some 0) with
  accessFlags := 1537
  interfaces := #[]
  cf := some (fileOf pool4 1 #[] #[] 1537 3 #[] #[])
  fields := #[]
  methods := #[]
  instanceTypes := #[]
  staticTypes := #[]
  resolved := Array.replicate 12 none
  statics := none }

def pool5 : Array CpInfo := pool [(2, .class_ 4), (1, u "java/lang/CharSequence"), (42, .class_ 48), (0, u "java/lang/CharSequence$1CodePointIterator"), (10, .class_ 60), (0, u "java/lang/CharSequence$1CharIterator"), (5, .class_ 67), (0, u "java/lang/Object")] 63

/-- java/lang/CharSequence -/
def k5 : Class := { plain "java/lang/CharSequence" (some 0) with
  accessFlags := 1537
  interfaces := #[]
  cf := some (fileOf pool5 2 #[.nestMembers #[47, 59]] #[] 1537 66 #[] #[])
  fields := #[]
  methods := #[]
  instanceTypes := #[]
  staticTypes := #[]
  resolved := Array.replicate 131 none
  statics := none }

def pool6 : Array CpInfo := pool [(1, .class_ 2), (0, u "java/lang/constant/Constable"), (0, .class_ 4), (0, u "java/lang/Object")] 6

/-- java/lang/constant/Constable -/
def k6 : Class := { plain "java/lang/constant/Constable" (some 0) with
  accessFlags := 1537
  interfaces := #[]
  cf := some (fileOf pool6 1 #[] #[] 1537 3 #[] #[])
  fields := #[]
  methods := #[]
  instanceTypes := #[]
  staticTypes := #[]
  resolved := Array.replicate 11 none
  statics := none }

def pool7 : Array CpInfo := pool [(1, .class_ 2), (0, u "java/lang/constant/ConstantDesc"), (0, .class_ 4), (0, u "java/lang/Object")] 32

/-- java/lang/constant/ConstantDesc -/
def k7 : Class := { plain "java/lang/constant/ConstantDesc" (some 0) with
  accessFlags := 1537
  interfaces := #[]
  cf := some (fileOf pool7 1 #[] #[] 1537 3 #[] #[])
  fields := #[]
  methods := #[]
  instanceTypes := #[]
  staticTypes := #[]
  resolved := Array.replicate 37 none
  statics := none }

def pool8 : Array CpInfo := pool [(1, .methodref 2 3), (0, .class_ 4), (0, .nameAndType 5 6), (0, u "java/lang/Object"), (0, u "<init>"), (0, u "()V"), (2, .fieldref 10 11), (0, .class_ 12), (0, .nameAndType 13 14), (0, u "java/lang/String"), (0, u "value"), (0, u "[B"), (0, .fieldref 10 16), (0, .nameAndType 17 18), (0, u "coder"), (0, u "B"), (2, u "hash"), (0, u "I"), (2, u "hashIsZero"), (0, u "Z"), (11, .fieldref 10 39), (0, .nameAndType 40 26), (0, u "COMPACT_STRINGS"), (13, .methodref 55 56), (0, .class_ 57), (0, .nameAndType 58 59), (0, u "java/util/Arrays"), (0, u "copyOfRange"), (0, u "([BII)[B"), (47, .class_ 109), (1, u "java/lang/StringLatin1"), (32, u "()Z"), (191, u "()I"), (0, .methodref 10 336), (0, .nameAndType 17 337), (0, u "()B"), (2, u "()[B"), (22, u "([BI)C"), (27, u "(II)V"), (35, u "(I)C"), (61, .methodref 10 490), (0, .nameAndType 5 491), (0, u "(Ljava/lang/AbstractStringBuilder;Ljava/lang/Void;)V"), (0, .methodref 10 493), (0, .nameAndType 494 142), (0, u "isLatin1"), (0, .methodref 107 496), (0, .nameAndType 497 363), (0, u "charAt"), (3, u "checkIndex"), (4, .nameAndType 507 334), (0, u "length"), (33, .methodref 107 542), (0, .nameAndType 543 544), (0, u "equals"), (0, u "([B[B)Z"), (4, .methodref 550 506), (0, .class_ 551), (0, u "java/lang/AbstractStringBuilder"), (0, .methodref 550 553), (0, .nameAndType 554 340), (0, u "getValue"), (18, u "(Ljava/lang/Object;)Z"), (1, .class_ 576), (0, u "java/lang/CharSequence"), (22, u "CASE_INSENSITIVE_ORDER"), (0, u "Ljava/util/Comparator;"), (446, .methodref 550 493), (5, .fieldref 1054 1055), (0, .class_ 1056), (0, .nameAndType 1057 1058), (0, u "jdk/internal/util/Preconditions"), (0, u "SIOOBE_FORMATTER"), (0, u "Ljava/util/function/BiFunction;"), (0, .methodref 1054 1060), (0, .nameAndType 501 1061), (0, u "(IILjava/util/function/BiFunction;)I"), (39, u "serialPersistentFields"), (0, u "[Ljava/io/ObjectStreamField;"), (0, .class_ 1104), (0, u "java/lang/String$CaseInsensitiveComparator"), (1, .class_ 1107), (0, u "java/io/Serializable"), (0, .class_ 1109), (0, u "java/lang/Comparable"), (0, .class_ 1111), (0, u "java/lang/constant/Constable"), (0, .class_ 1113), (0, u "java/lang/constant/ConstantDesc"), (2, u "serialVersionUID"), (0, u "J"), (3, u "REPL"), (0, u "C"), (2, u "LATIN1"), (1, u "UTF16"), (105, u "(Ljava/lang/StringBuilder;)V")] 217

def k8m0 : Method := { name := "<init>", desc := "()V", sig := { parameters := [], returnType := none }, accessFlags := 1, code := none }
def k8c1 : Code := { maxStack := 3, maxLocals := 2, code := jdk_42_method_53_code, exceptionTable := #[], attributes := #[] }
def k8m1 : Method := { name := "<init>", desc := "(Ljava/lang/StringBuilder;)V", sig := { parameters := [(.object "java/lang/StringBuilder")], returnType := none }, accessFlags := 1, code := some k8c1 }
def k8c2 : Code := { maxStack := 2, maxLocals := 1, code := jdk_42_method_54_code, exceptionTable := #[], attributes := #[] }
def k8m2 : Method := { name := "length", desc := "()I", sig := { parameters := [], returnType := some .int }, accessFlags := 1, code := some k8c2 }
def k8c3 : Code := { maxStack := 2, maxLocals := 2, code := jdk_42_method_56_code, exceptionTable := #[], attributes := #[] }
def k8m3 : Method := { name := "charAt", desc := "(I)C", sig := { parameters := [.int], returnType := some .char }, accessFlags := 1, code := some k8c3 }
def k8c4 : Code := { maxStack := 2, maxLocals := 3, code := jdk_42_method_66_code, exceptionTable := #[], attributes := #[] }
def k8m4 : Method := { name := "equals", desc := "(Ljava/lang/Object;)Z", sig := { parameters := [(.object "java/lang/Object")], returnType := some .boolean }, accessFlags := 1, code := some k8c4 }
def k8c5 : Code := { maxStack := 5, maxLocals := 5, code := jdk_42_method_150_code, exceptionTable := #[], attributes := #[] }
def k8m5 : Method := { name := "<init>", desc := "(Ljava/lang/AbstractStringBuilder;Ljava/lang/Void;)V", sig := { parameters := [(.object "java/lang/AbstractStringBuilder"), (.object "java/lang/Void")], returnType := none }, accessFlags := 0, code := some k8c5 }
def k8c6 : Code := { maxStack := 1, maxLocals := 1, code := jdk_42_method_152_code, exceptionTable := #[], attributes := #[] }
def k8m6 : Method := { name := "coder", desc := "()B", sig := { parameters := [], returnType := some .byte }, accessFlags := 0, code := some k8c6 }
def k8c7 : Code := { maxStack := 1, maxLocals := 1, code := jdk_42_method_154_code, exceptionTable := #[], attributes := #[] }
def k8m7 : Method := { name := "isLatin1", desc := "()Z", sig := { parameters := [], returnType := some .boolean }, accessFlags := 0, code := some k8c7 }
def k8c8 : Code := { maxStack := 3, maxLocals := 2, code := jdk_42_method_155_code, exceptionTable := #[], attributes := #[] }
def k8m8 : Method := { name := "checkIndex", desc := "(II)V", sig := { parameters := [.int, .int], returnType := none }, accessFlags := 8, code := some k8c8 }
/-- java/lang/String -/
def k8 : Class := { plain "java/lang/String" (some 0) with
  accessFlags := 49
  interfaces := #[3, 4, 5, 6, 7]
  cf := some (fileOf pool8 10 #[.nestMembers #[1103]] #[{ accessFlags := 1, nameIndex := 5, descriptorIndex := 6, attributes := #[] }, { accessFlags := 1, nameIndex := 5, descriptorIndex := 1233, attributes := #[] }, { accessFlags := 1, nameIndex := 507, descriptorIndex := 334, attributes := #[] }, { accessFlags := 1, nameIndex := 497, descriptorIndex := 427, attributes := #[] }, { accessFlags := 1, nameIndex := 543, descriptorIndex := 573, attributes := #[] }, { accessFlags := 0, nameIndex := 5, descriptorIndex := 491, attributes := #[] }, { accessFlags := 0, nameIndex := 17, descriptorIndex := 337, attributes := #[] }, { accessFlags := 0, nameIndex := 494, descriptorIndex := 142, attributes := #[] }, { accessFlags := 8, nameIndex := 501, descriptorIndex := 391, attributes := #[] }] 49 2 #[1106, 1108, 575, 1110, 1112] #[{ accessFlags := 18, nameIndex := 13, descriptorIndex := 14, attributes := #[] }, { accessFlags := 18, nameIndex := 17, descriptorIndex := 18, attributes := #[] }, { accessFlags := 2, nameIndex := 21, descriptorIndex := 22, attributes := #[] }, { accessFlags := 2, nameIndex := 25, descriptorIndex := 26, attributes := #[] }, { accessFlags := 26, nameIndex := 1116, descriptorIndex := 1117, attributes := #[] }, { accessFlags := 24, nameIndex := 40, descriptorIndex := 26, attributes := #[] }, { accessFlags := 26, nameIndex := 1101, descriptorIndex := 1102, attributes := #[] }, { accessFlags := 26, nameIndex := 1121, descriptorIndex := 1122, attributes := #[] }, { accessFlags := 25, nameIndex := 599, descriptorIndex := 600, attributes := #[] }, { accessFlags := 24, nameIndex := 1125, descriptorIndex := 18, attributes := #[] }, { accessFlags := 24, nameIndex := 1127, descriptorIndex := 18, attributes := #[] }])
  fields := #[{ name := "value", type := (.array .byte), accessFlags := 18, slot := 0, constantValue := 0 }, { name := "coder", type := .byte, accessFlags := 18, slot := 1, constantValue := 0 }, { name := "hash", type := .int, accessFlags := 2, slot := 2, constantValue := 0 }, { name := "hashIsZero", type := .boolean, accessFlags := 2, slot := 3, constantValue := 0 }, { name := "serialVersionUID", type := .long, accessFlags := 26, slot := 0, constantValue := 0 }, { name := "COMPACT_STRINGS", type := .boolean, accessFlags := 24, slot := 1, constantValue := 0 }, { name := "serialPersistentFields", type := (.array (.object "java/io/ObjectStreamField")), accessFlags := 26, slot := 2, constantValue := 0 }, { name := "REPL", type := .char, accessFlags := 26, slot := 3, constantValue := 0 }, { name := "CASE_INSENSITIVE_ORDER", type := (.object "java/util/Comparator"), accessFlags := 25, slot := 4, constantValue := 0 }, { name := "LATIN1", type := .byte, accessFlags := 24, slot := 5, constantValue := 0 }, { name := "UTF16", type := .byte, accessFlags := 24, slot := 6, constantValue := 0 }]
  methods := #[k8m0, k8m1, k8m2, k8m3, k8m4, k8m5, k8m6, k8m7, k8m8]
  instanceTypes := #[(.array .byte), .byte, .int, .boolean]
  staticTypes := #[.long, .boolean, (.array (.object "java/io/ObjectStreamField")), .char, (.object "java/util/Comparator"), .byte, .byte]
  resolved := Array.replicate 1451 none
  statics := some 0 }

def pool9 : Array CpInfo := pool [(8, .class_ 10), (1, u "java/lang/Iterable"), (24, .class_ 36), (0, u "java/lang/Object")] 25

/-- java/lang/Iterable -/
def k9 : Class := { plain "java/lang/Iterable" (some 0) with
  accessFlags := 1537
  interfaces := #[]
  cf := some (fileOf pool9 8 #[] #[] 1537 35 #[] #[])
  fields := #[]
  methods := #[]
  instanceTypes := #[]
  staticTypes := #[]
  resolved := Array.replicate 62 none
  statics := none }

def pool10 : Array CpInfo := pool [(10, .class_ 12), (1, u "java/util/Collection"), (47, .class_ 61), (0, u "java/lang/Object"), (0, .class_ 63), (0, u "java/lang/Iterable")] 51

/-- java/util/Collection -/
def k10 : Class := { plain "java/util/Collection" (some 0) with
  accessFlags := 1537
  interfaces := #[9]
  cf := some (fileOf pool10 10 #[] #[] 1537 60 #[62] #[])
  fields := #[]
  methods := #[]
  instanceTypes := #[]
  staticTypes := #[]
  resolved := Array.replicate 115 none
  statics := none }

def pool11 : Array CpInfo := pool [(1, .methodref 2 3), (0, .class_ 4), (0, .nameAndType 5 6), (0, u "java/lang/Object"), (0, u "<init>"), (0, u "()V"), (1, .class_ 10), (1, u "java/util/AbstractCollection"), (66, .class_ 78), (0, u "java/util/Collection")] 81

def k11c0 : Code := { maxStack := 1, maxLocals := 1, code := jdk_22_method_1_code, exceptionTable := #[], attributes := #[] }
def k11m0 : Method := { name := "<init>", desc := "()V", sig := { parameters := [], returnType := none }, accessFlags := 4, code := some k11c0 }
/-- java/util/AbstractCollection -/
def k11 : Class := { plain "java/util/AbstractCollection" (some 0) with
  accessFlags := 1057
  interfaces := #[10]
  cf := some (fileOf pool11 8 #[] #[{ accessFlags := 4, nameIndex := 5, descriptorIndex := 6, attributes := #[] }] 1057 2 #[77] #[])
  fields := #[]
  methods := #[k11m0]
  instanceTypes := #[]
  staticTypes := #[]
  resolved := Array.replicate 160 none
  statics := none }

def pool12 : Array CpInfo := pool [(8, .class_ 10), (1, u "java/util/SequencedCollection"), (15, .class_ 27), (0, u "java/lang/Object"), (0, .class_ 29), (0, u "java/util/Collection")] 27

/-- java/util/SequencedCollection -/
def k12 : Class := { plain "java/util/SequencedCollection" (some 0) with
  accessFlags := 1537
  interfaces := #[10]
  cf := some (fileOf pool12 8 #[] #[] 1537 26 #[28] #[])
  fields := #[]
  methods := #[]
  instanceTypes := #[]
  staticTypes := #[]
  resolved := Array.replicate 57 none
  statics := none }

def pool13 : Array CpInfo := pool [(8, .class_ 10), (1, u "java/util/List"), (92, .class_ 104), (0, u "java/lang/Object"), (15, .class_ 121), (0, u "java/util/SequencedCollection")] 129

/-- java/util/List -/
def k13 : Class := { plain "java/util/List" (some 0) with
  accessFlags := 1537
  interfaces := #[12]
  cf := some (fileOf pool13 8 #[] #[] 1537 103 #[120] #[])
  fields := #[]
  methods := #[]
  instanceTypes := #[]
  staticTypes := #[]
  resolved := Array.replicate 251 none
  statics := none }

def pool14 : Array CpInfo := pool [(1, .methodref 2 3), (0, .class_ 4), (0, .nameAndType 5 6), (0, u "java/util/AbstractCollection"), (0, u "<init>"), (0, u "()V"), (0, .fieldref 8 9), (0, .class_ 10), (0, .nameAndType 11 12), (0, u "java/util/AbstractList"), (0, u "modCount"), (0, u "I"), (64, .class_ 78), (0, u "java/util/AbstractList$Itr"), (3, .class_ 83), (0, u "java/util/AbstractList$ListItr"), (9, .class_ 94), (0, u "java/util/AbstractList$RandomAccessSubList"), (3, .class_ 99), (0, u "java/util/AbstractList$SubList"), (33, .class_ 134), (0, u "java/util/List"), (73, .class_ 209), (0, u "java/util/AbstractList$SubList$1"), (0, .class_ 211), (0, u "java/util/AbstractList$RandomAccessSpliterator")] 6

def k14c0 : Code := { maxStack := 2, maxLocals := 1, code := jdk_39_method_1_code, exceptionTable := #[], attributes := #[] }
def k14m0 : Method := { name := "<init>", desc := "()V", sig := { parameters := [], returnType := none }, accessFlags := 4, code := some k14c0 }
/-- java/util/AbstractList -/
def k14 : Class := { plain "java/util/AbstractList" (some 11) with
  accessFlags := 1057
  interfaces := #[13]
  cf := some (fileOf pool14 8 #[.nestMembers #[93, 98, 208, 210, 82, 77]] #[{ accessFlags := 4, nameIndex := 5, descriptorIndex := 6, attributes := #[] }] 1057 2 #[133] #[{ accessFlags := 132, nameIndex := 11, descriptorIndex := 12, attributes := #[] }])
  fields := #[{ name := "modCount", type := .int, accessFlags := 132, slot := 0, constantValue := 0 }]
  methods := #[k14m0]
  instanceTypes := #[.int]
  staticTypes := #[]
  resolved := Array.replicate 218 none
  statics := none }

def pool15 : Array CpInfo := pool [(1, .class_ 2), (0, u "java/util/RandomAccess"), (0, .class_ 4), (0, u "java/lang/Object")] 2

/-- java/util/RandomAccess -/
def k15 : Class := { plain "java/util/RandomAccess" (some 0) with
  accessFlags := 1537
  interfaces := #[]
  cf := some (fileOf pool15 1 #[] #[] 1537 3 #[] #[])
  fields := #[]
  methods := #[]
  instanceTypes := #[]
  staticTypes := #[]
  resolved := Array.replicate 7 none
  statics := none }

def pool16 : Array CpInfo := pool [(1, .class_ 2), (0, u "java/lang/Cloneable"), (0, .class_ 4), (0, u "java/lang/Object")] 2

/-- java/lang/Cloneable -/
def k16 : Class := { plain "java/lang/Cloneable" (some 0) with
  accessFlags := 1537
  interfaces := #[]
  cf := some (fileOf pool16 1 #[] #[] 1537 3 #[] #[])
  fields := #[]
  methods := #[]
  instanceTypes := #[]
  staticTypes := #[]
  resolved := Array.replicate 7 none
  statics := none }

def pool17 : Array CpInfo := pool [(1, .methodref 2 3), (0, .class_ 4), (0, .nameAndType 5 6), (0, u "java/util/AbstractList"), (0, u "<init>"), (0, u "()V"), (2, .fieldref 10 11), (0, .class_ 12), (0, .nameAndType 13 14), (0, u "java/util/ArrayList"), (0, u "elementData"), (0, u "[Ljava/lang/Object;"), (2, u "EMPTY_ELEMENTDATA"), (21, .fieldref 10 40), (0, .nameAndType 41 14), (0, u "DEFAULTCAPACITY_EMPTY_ELEMENTDATA"), (8, u "size"), (0, u "I"), (96, .class_ 149), (0, u "java/util/List"), (112, .class_ 263), (0, u "java/util/ArrayList$ListItr"), (3, .class_ 268), (0, u "java/util/ArrayList$Itr"), (7, .class_ 277), (0, u "java/util/ArrayList$SubList"), (12, .class_ 291), (0, u "java/util/ArrayList$ArrayListSpliterator"), (37, .class_ 330), (0, u "java/util/RandomAccess"), (0, .class_ 332), (0, u "java/lang/Cloneable"), (0, .class_ 334), (0, u "java/io/Serializable"), (0, u "serialVersionUID"), (0, u "J"), (3, u "DEFAULT_CAPACITY"), (159, .class_ 501), (0, u "java/util/ArrayList$SubList$2"), (0, .class_ 503), (0, u "java/util/ArrayList$SubList$1")] 5

def k17c0 : Code := { maxStack := 2, maxLocals := 1, code := jdk_38_method_2_code, exceptionTable := #[], attributes := #[] }
def k17m0 : Method := { name := "<init>", desc := "()V", sig := { parameters := [], returnType := none }, accessFlags := 1, code := some k17c0 }
/-- java/util/ArrayList -/
def k17 : Class := { plain "java/util/ArrayList" (some 14) with
  accessFlags := 33
  interfaces := #[13, 15, 16, 3]
  cf := some (fileOf pool17 10 #[.nestMembers #[290, 276, 500, 502, 262, 267]] #[{ accessFlags := 1, nameIndex := 5, descriptorIndex := 6, attributes := #[] }] 33 2 #[148, 329, 331, 333] #[{ accessFlags := 26, nameIndex := 335, descriptorIndex := 336, attributes := #[] }, { accessFlags := 26, nameIndex := 340, descriptorIndex := 51, attributes := #[] }, { accessFlags := 26, nameIndex := 17, descriptorIndex := 14, attributes := #[] }, { accessFlags := 26, nameIndex := 41, descriptorIndex := 14, attributes := #[] }, { accessFlags := 128, nameIndex := 13, descriptorIndex := 14, attributes := #[] }, { accessFlags := 2, nameIndex := 50, descriptorIndex := 51, attributes := #[] }])
  fields := #[{ name := "serialVersionUID", type := .long, accessFlags := 26, slot := 0, constantValue := 0 }, { name := "DEFAULT_CAPACITY", type := .int, accessFlags := 26, slot := 1, constantValue := 0 }, { name := "EMPTY_ELEMENTDATA", type := (.array (.object "java/lang/Object")), accessFlags := 26, slot := 2, constantValue := 0 }, { name := "DEFAULTCAPACITY_EMPTY_ELEMENTDATA", type := (.array (.object "java/lang/Object")), accessFlags := 26, slot := 3, constantValue := 0 }, { name := "elementData", type := (.array (.object "java/lang/Object")), accessFlags := 128, slot := 1, constantValue := 0 }, { name := "size", type := .int, accessFlags := 2, slot := 2, constantValue := 0 }]
  methods := #[k17m0]
  instanceTypes := #[.int, (.array (.object "java/lang/Object")), .int]
  staticTypes := #[.long, .int, (.array (.object "java/lang/Object")), (.array (.object "java/lang/Object"))]
  resolved := Array.replicate 509 none
  statics := some 1 }

def pool18 : Array CpInfo := pool [(1, .class_ 2), (0, u "java/lang/Appendable"), (0, .class_ 4), (0, u "java/lang/Object")] 9

/-- java/lang/Appendable -/
def k18 : Class := { plain "java/lang/Appendable" (some 0) with
  accessFlags := 1537
  interfaces := #[]
  cf := some (fileOf pool18 1 #[] #[] 1537 3 #[] #[])
  fields := #[]
  methods := #[]
  instanceTypes := #[]
  staticTypes := #[]
  resolved := Array.replicate 14 none
  statics := none }

def pool19 : Array CpInfo := pool [(1, .class_ 2), (0, u "java/lang/String"), (0, .methodref 4 5), (0, .class_ 6), (0, .nameAndType 7 8), (0, u "java/lang/Object"), (0, u "<init>"), (0, u "()V"), (1, .class_ 12), (1, u "java/lang/AbstractStringBuilder"), (0, u "EMPTYVALUE"), (0, u "[B"), (0, .fieldref 10 16), (0, .nameAndType 17 14), (0, u "value"), (0, .fieldref 1 19), (0, .nameAndType 20 21), (0, u "COMPACT_STRINGS"), (0, u "Z"), (0, .fieldref 10 23), (0, .nameAndType 24 25), (0, u "coder"), (0, u "B"), (8, u "length"), (0, u "()I"), (3, .integer 2147483647), (5, u "append"), (2, .class_ 49), (0, u "java/lang/CharSequence"), (25, u "maybeLatin1"), (3, .fieldref 10 80), (0, .nameAndType 81 82), (0, u "count"), (0, u "I"), (0, .methodref 10 84), (0, .nameAndType 85 86), (0, u "isLatin1"), (0, u "()Z"), (1, .class_ 90), (1, u "java/lang/StringLatin1"), (9, .methodref 10 101), (0, .nameAndType 102 103), (0, u "ensureCapacityInternal"), (0, u "(I)V"), (0, .methodref 10 105), (0, .nameAndType 106 107), (0, u "newCapacity"), (0, u "(I)I"), (0, .methodref 109 110), (0, .class_ 111), (0, .nameAndType 112 113), (0, u "java/util/Arrays"), (0, u "copyOf"), (0, u "([BI)[B"), (0, .methodref 115 116), (0, .class_ 117), (0, .nameAndType 118 119), (0, u "jdk/internal/util/ArraysSupport"), (0, u "newLength"), (0, u "(III)I"), (41, .methodref 162 163), (0, .class_ 164), (0, .nameAndType 165 166), (0, u "jdk/internal/util/Preconditions"), (0, u "checkFromToIndex"), (0, u "(IIILjava/util/function/BiFunction;)I"), (15, u "Ljava/util/function/BiFunction;"), (0, .fieldref 162 184), (0, .nameAndType 185 182), (0, u "IOOBE_FORMATTER"), (5, .methodref 88 192), (0, .nameAndType 193 194), (0, u "canEncode"), (0, u "(C)Z"), (39, u "appendChars"), (4, .methodref 10 240), (0, .nameAndType 234 241), (0, u "([CII)V"), (161, u "()[B"), (40, .class_ 445), (0, u "java/lang/Appendable"), (60, u "([CII)Ljava/lang/AbstractStringBuilder;"), (45, u "getValue")] 56

def k19m0 : Method := { name := "<init>", desc := "()V", sig := { parameters := [], returnType := none }, accessFlags := 0, code := none }
def k19c1 : Code := { maxStack := 2, maxLocals := 2, code := jdk_68_method_2_code, exceptionTable := #[], attributes := #[] }
def k19m1 : Method := { name := "<init>", desc := "(I)V", sig := { parameters := [.int], returnType := none }, accessFlags := 0, code := some k19c1 }
def k19c2 : Code := { maxStack := 1, maxLocals := 1, code := jdk_68_method_6_code, exceptionTable := #[], attributes := #[] }
def k19m2 : Method := { name := "length", desc := "()I", sig := { parameters := [], returnType := some .int }, accessFlags := 1, code := some k19c2 }
def k19c3 : Code := { maxStack := 4, maxLocals := 3, code := jdk_68_method_9_code, exceptionTable := #[], attributes := #[] }
def k19m3 : Method := { name := "ensureCapacityInternal", desc := "(I)V", sig := { parameters := [.int], returnType := none }, accessFlags := 2, code := some k19c3 }
def k19c4 : Code := { maxStack := 5, maxLocals := 6, code := jdk_68_method_10_code, exceptionTable := #[], attributes := #[] }
def k19m4 : Method := { name := "newCapacity", desc := "(I)I", sig := { parameters := [.int], returnType := some .int }, accessFlags := 2, code := some k19c4 }
def k19c5 : Code := { maxStack := 4, maxLocals := 5, code := jdk_68_method_29_code, exceptionTable := #[], attributes := #[] }
def k19m5 : Method := { name := "append", desc := "([CII)Ljava/lang/AbstractStringBuilder;", sig := { parameters := [(.array .char), .int, .int], returnType := some (.object "java/lang/AbstractStringBuilder") }, accessFlags := 1, code := some k19c5 }
def k19c6 : Code := { maxStack := 1, maxLocals := 1, code := jdk_68_method_64_code, exceptionTable := #[], attributes := #[] }
def k19m6 : Method := { name := "getValue", desc := "()[B", sig := { parameters := [], returnType := some (.array .byte) }, accessFlags := 16, code := some k19c6 }
def k19c7 : Code := { maxStack := 1, maxLocals := 1, code := jdk_68_method_68_code, exceptionTable := #[], attributes := #[] }
def k19m7 : Method := { name := "isLatin1", desc := "()Z", sig := { parameters := [], returnType := some .boolean }, accessFlags := 16, code := some k19c7 }
def k19c8 : Code := { maxStack := 5, maxLocals := 9, code := jdk_68_method_74_code, exceptionTable := #[], attributes := #[] }
def k19m8 : Method := { name := "appendChars", desc := "([CII)V", sig := { parameters := [(.array .char), .int, .int], returnType := none }, accessFlags := 18, code := some k19c8 }
/-- java/lang/AbstractStringBuilder -/
def k19 : Class := { plain "java/lang/AbstractStringBuilder" (some 0) with
  accessFlags := 1056
  interfaces := #[18, 5]
  cf := some (fileOf pool19 10 #[] #[{ accessFlags := 0, nameIndex := 7, descriptorIndex := 8, attributes := #[] }, { accessFlags := 0, nameIndex := 7, descriptorIndex := 103, attributes := #[] }, { accessFlags := 1, nameIndex := 34, descriptorIndex := 35, attributes := #[] }, { accessFlags := 2, nameIndex := 102, descriptorIndex := 103, attributes := #[] }, { accessFlags := 2, nameIndex := 106, descriptorIndex := 107, attributes := #[] }, { accessFlags := 1, nameIndex := 45, descriptorIndex := 506, attributes := #[] }, { accessFlags := 16, nameIndex := 552, descriptorIndex := 403, attributes := #[] }, { accessFlags := 16, nameIndex := 85, descriptorIndex := 86, attributes := #[] }, { accessFlags := 18, nameIndex := 234, descriptorIndex := 241, attributes := #[] }] 1056 4 #[444, 48] #[{ accessFlags := 0, nameIndex := 17, descriptorIndex := 14, attributes := #[] }, { accessFlags := 0, nameIndex := 24, descriptorIndex := 25, attributes := #[] }, { accessFlags := 0, nameIndex := 75, descriptorIndex := 21, attributes := #[] }, { accessFlags := 0, nameIndex := 81, descriptorIndex := 82, attributes := #[] }, { accessFlags := 26, nameIndex := 13, descriptorIndex := 14, attributes := #[] }])
  fields := #[{ name := "value", type := (.array .byte), accessFlags := 0, slot := 0, constantValue := 0 }, { name := "coder", type := .byte, accessFlags := 0, slot := 1, constantValue := 0 }, { name := "maybeLatin1", type := .boolean, accessFlags := 0, slot := 2, constantValue := 0 }, { name := "count", type := .int, accessFlags := 0, slot := 3, constantValue := 0 }, { name := "EMPTYVALUE", type := (.array .byte), accessFlags := 26, slot := 0, constantValue := 0 }]
  methods := #[k19m0, k19m1, k19m2, k19m3, k19m4, k19m5, k19m6, k19m7, k19m8]
  instanceTypes := #[(.array .byte), .byte, .boolean, .int]
  staticTypes := #[(.array .byte)]
  resolved := Array.replicate 609 none
  statics := none }

def pool20 : Array CpInfo := pool [(1, .methodref 2 3), (0, .class_ 4), (0, .nameAndType 5 6), (0, u "java/lang/AbstractStringBuilder"), (0, u "<init>"), (0, u "(I)V"), (11, .class_ 20), (1, u "java/lang/String"), (3, .class_ 26), (1, u "java/lang/StringBuilder"), (0, u "append"), (16, .methodref 2 45), (0, .nameAndType 27 46), (0, u "([CII)Ljava/lang/AbstractStringBuilder;"), (90, .methodref 18 138), (0, .nameAndType 5 139), (0, u "(Ljava/lang/StringBuilder;)V"), (5, u "()V"), (10, u "()I"), (135, u "([CII)Ljava/lang/StringBuilder;"), (50, .methodref 2 344), (0, .nameAndType 345 156), (0, u "length"), (3, .class_ 350), (0, u "java/lang/Appendable"), (0, .class_ 352), (0, u "java/io/Serializable"), (0, .class_ 354), (0, u "java/lang/Comparable"), (0, .class_ 356), (0, u "java/lang/CharSequence"), (0, u "serialVersionUID"), (0, u "J"), (40, u "toString"), (0, u "()Ljava/lang/String;")] 21

def k20m0 : Method := { name := "<init>", desc := "()V", sig := { parameters := [], returnType := none }, accessFlags := 1, code := none }
def k20c1 : Code := { maxStack := 2, maxLocals := 2, code := jdk_67_method_2_code, exceptionTable := #[], attributes := #[] }
def k20m1 : Method := { name := "<init>", desc := "(I)V", sig := { parameters := [.int], returnType := none }, accessFlags := 1, code := some k20c1 }
def k20c2 : Code := { maxStack := 4, maxLocals := 4, code := jdk_67_method_12_code, exceptionTable := #[], attributes := #[] }
def k20m2 : Method := { name := "append", desc := "([CII)Ljava/lang/StringBuilder;", sig := { parameters := [(.array .char), .int, .int], returnType := some (.object "java/lang/StringBuilder") }, accessFlags := 1, code := some k20c2 }
def k20c3 : Code := { maxStack := 3, maxLocals := 1, code := jdk_67_method_42_code, exceptionTable := #[], attributes := #[] }
def k20m3 : Method := { name := "toString", desc := "()Ljava/lang/String;", sig := { parameters := [], returnType := some (.object "java/lang/String") }, accessFlags := 1, code := some k20c3 }
def k20c4 : Code := { maxStack := 1, maxLocals := 1, code := jdk_67_method_93_code, exceptionTable := #[], attributes := #[] }
def k20m4 : Method := { name := "length", desc := "()I", sig := { parameters := [], returnType := some .int }, accessFlags := 4161, code := some k20c4 }
/-- java/lang/StringBuilder -/
def k20 : Class := { plain "java/lang/StringBuilder" (some 19) with
  accessFlags := 49
  interfaces := #[18, 3, 4, 5]
  cf := some (fileOf pool20 24 #[] #[{ accessFlags := 1, nameIndex := 5, descriptorIndex := 145, attributes := #[] }, { accessFlags := 1, nameIndex := 5, descriptorIndex := 6, attributes := #[] }, { accessFlags := 1, nameIndex := 27, descriptorIndex := 292, attributes := #[] }, { accessFlags := 1, nameIndex := 399, descriptorIndex := 400, attributes := #[] }, { accessFlags := 4161, nameIndex := 345, descriptorIndex := 156, attributes := #[] }] 49 2 #[349, 351, 353, 355] #[{ accessFlags := 24, nameIndex := 357, descriptorIndex := 358, attributes := #[] }])
  fields := #[{ name := "serialVersionUID", type := .long, accessFlags := 24, slot := 0, constantValue := 0 }]
  methods := #[k20m0, k20m1, k20m2, k20m3, k20m4]
  instanceTypes := #[(.array .byte), .byte, .boolean, .int]
  staticTypes := #[.long]
  resolved := Array.replicate 422 none
  statics := none }

def pool21 : Array CpInfo := pool [(2, .class_ 4), (1, u "java/lang/Object"), (0, u "<init>"), (0, u "()V"), (17, .class_ 26), (1, u "jdk/internal/util/Preconditions"), (6, u "checkIndex"), (13, u "checkFromToIndex"), (7, .class_ 56), (0, u "jdk/internal/util/Preconditions$4"), (57, .class_ 115), (0, u "jdk/internal/util/Preconditions$1"), (7, u "SIOOBE_FORMATTER"), (0, u "Ljava/util/function/BiFunction;"), (0, .class_ 126), (0, u "jdk/internal/util/Preconditions$2"), (3, u "AIOOBE_FORMATTER"), (0, .class_ 132), (0, u "jdk/internal/util/Preconditions$3"), (3, u "IOOBE_FORMATTER"), (41, u "(IILjava/util/function/BiFunction;)I"), (4, u "(IIILjava/util/function/BiFunction;)I")] 10

def k21m0 : Method := { name := "<init>", desc := "()V", sig := { parameters := [], returnType := none }, accessFlags := 1, code := none }
def k21c1 : Code := { maxStack := 3, maxLocals := 3, code := jdk_41_method_11_code, exceptionTable := #[], attributes := #[] }
def k21m1 : Method := { name := "checkIndex", desc := "(IILjava/util/function/BiFunction;)I", sig := { parameters := [.int, .int, (.object "java/util/function/BiFunction")], returnType := some .int }, accessFlags := 9, code := some k21c1 }
def k21c2 : Code := { maxStack := 4, maxLocals := 4, code := jdk_41_method_12_code, exceptionTable := #[], attributes := #[] }
def k21m2 : Method := { name := "checkFromToIndex", desc := "(IIILjava/util/function/BiFunction;)I", sig := { parameters := [.int, .int, .int, (.object "java/util/function/BiFunction")], returnType := some .int }, accessFlags := 9, code := some k21c2 }
/-- jdk/internal/util/Preconditions -/
def k21 : Class := { plain "jdk/internal/util/Preconditions" (some 0) with
  accessFlags := 33
  interfaces := #[]
  cf := some (fileOf pool21 24 #[.nestMembers #[55, 131, 125, 114]] #[{ accessFlags := 1, nameIndex := 5, descriptorIndex := 6, attributes := #[] }, { accessFlags := 9, nameIndex := 33, descriptorIndex := 178, attributes := #[] }, { accessFlags := 9, nameIndex := 47, descriptorIndex := 183, attributes := #[] }] 33 2 #[] #[{ accessFlags := 25, nameIndex := 123, descriptorIndex := 124, attributes := #[] }, { accessFlags := 25, nameIndex := 130, descriptorIndex := 124, attributes := #[] }, { accessFlags := 25, nameIndex := 136, descriptorIndex := 124, attributes := #[] }])
  fields := #[{ name := "SIOOBE_FORMATTER", type := (.object "java/util/function/BiFunction"), accessFlags := 25, slot := 0, constantValue := 0 }, { name := "AIOOBE_FORMATTER", type := (.object "java/util/function/BiFunction"), accessFlags := 25, slot := 1, constantValue := 0 }, { name := "IOOBE_FORMATTER", type := (.object "java/util/function/BiFunction"), accessFlags := 25, slot := 2, constantValue := 0 }]
  methods := #[k21m0, k21m1, k21m2]
  instanceTypes := #[]
  staticTypes := #[(.object "java/util/function/BiFunction"), (.object "java/util/function/BiFunction"), (.object "java/util/function/BiFunction")]
  resolved := Array.replicate 194 none
  statics := some 2 }

def pool22 : Array CpInfo := pool [(2, .class_ 4), (1, u "java/lang/Object"), (0, u "<init>"), (0, u "()V"), (7, .class_ 16), (1, u "java/util/Arrays"), (57, .class_ 76), (1, u "java/util/Arrays$NaturalOrder"), (32, u "()Ljava/lang/Object;"), (3, .class_ 115), (1, u "java/util/Arrays$LegacyMergeSort"), (1, u "Z"), (10, .nameAndType 129 109), (0, u "clone"), (9, u "copyOfRange"), (10, .methodref 151 152), (0, .class_ 153), (0, .nameAndType 154 155), (0, u "java/lang/System"), (0, u "arraycopy"), (0, u "(Ljava/lang/Object;ILjava/lang/Object;II)V"), (146, u "copyOf"), (1, .methodref 305 306), (0, .class_ 307), (0, .nameAndType 308 309), (0, u "java/lang/Math"), (0, u "min"), (0, u "(II)I"), (0, .methodref 311 128), (0, .class_ 312), (0, u "[B"), (26, .methodref 14 340), (0, .nameAndType 341 342), (0, u "copyOfRangeByte"), (0, u "([BII)[B"), (0, .methodref 14 344), (0, .nameAndType 345 346), (0, u "checkLength"), (0, u "(II)V"), (28, .class_ 376), (0, u "java/util/Arrays$ArrayList"), (68, u "$assertionsDisabled"), (269, u "MIN_ARRAY_SORT_GRAN"), (0, u "I"), (2, u "INSERTIONSORT_THRESHOLD"), (149, u "([BI)[B"), (105, .class_ 976), (0, u "java/util/Arrays$ArrayItr")] 52

def k22m0 : Method := { name := "<init>", desc := "()V", sig := { parameters := [], returnType := none }, accessFlags := 2, code := none }
def k22c1 : Code := { maxStack := 6, maxLocals := 3, code := jdk_65_method_121_code, exceptionTable := #[], attributes := #[] }
def k22m1 : Method := { name := "copyOf", desc := "([BI)[B", sig := { parameters := [(.array .byte), .int], returnType := some (.array .byte) }, accessFlags := 9, code := some k22c1 }
def k22c2 : Code := { maxStack := 4, maxLocals := 2, code := jdk_65_method_131_code, exceptionTable := #[], attributes := #[] }
def k22m2 : Method := { name := "checkLength", desc := "(II)V", sig := { parameters := [.int, .int], returnType := none }, accessFlags := 10, code := some k22c2 }
def k22c3 : Code := { maxStack := 3, maxLocals := 3, code := jdk_65_method_132_code, exceptionTable := #[], attributes := #[] }
def k22m3 : Method := { name := "copyOfRange", desc := "([BII)[B", sig := { parameters := [(.array .byte), .int, .int], returnType := some (.array .byte) }, accessFlags := 9, code := some k22c3 }
def k22c4 : Code := { maxStack := 6, maxLocals := 5, code := jdk_65_method_133_code, exceptionTable := #[], attributes := #[] }
def k22m4 : Method := { name := "copyOfRangeByte", desc := "([BII)[B", sig := { parameters := [(.array .byte), .int, .int], returnType := some (.array .byte) }, accessFlags := 10, code := some k22c4 }
/-- java/util/Arrays -/
def k22 : Class := { plain "java/util/Arrays" (some 0) with
  accessFlags := 49
  interfaces := #[]
  cf := some (fileOf pool22 14 #[.nestMembers #[975, 375, 113, 74]] #[{ accessFlags := 2, nameIndex := 5, descriptorIndex := 6, attributes := #[] }, { accessFlags := 9, nameIndex := 302, descriptorIndex := 869, attributes := #[] }, { accessFlags := 10, nameIndex := 345, descriptorIndex := 346, attributes := #[] }, { accessFlags := 9, nameIndex := 139, descriptorIndex := 342, attributes := #[] }, { accessFlags := 10, nameIndex := 341, descriptorIndex := 342, attributes := #[] }] 49 2 #[] #[{ accessFlags := 26, nameIndex := 715, descriptorIndex := 716, attributes := #[] }, { accessFlags := 26, nameIndex := 719, descriptorIndex := 716, attributes := #[] }, { accessFlags := 4120, nameIndex := 445, descriptorIndex := 117, attributes := #[] }])
  fields := #[{ name := "MIN_ARRAY_SORT_GRAN", type := .int, accessFlags := 26, slot := 0, constantValue := 0 }, { name := "INSERTIONSORT_THRESHOLD", type := .int, accessFlags := 26, slot := 1, constantValue := 0 }, { name := "$assertionsDisabled", type := .boolean, accessFlags := 4120, slot := 2, constantValue := 0 }]
  methods := #[k22m0, k22m1, k22m2, k22m3, k22m4]
  instanceTypes := #[]
  staticTypes := #[.int, .int, .boolean]
  resolved := Array.replicate 1029 none
  statics := none }

def pool23 : Array CpInfo := pool [(1, .class_ 2), (0, u "java/lang/String"), (1, .class_ 6), (1, u "java/lang/Object"), (0, u "<init>"), (0, u "()V"), (0, .methodref 1 10), (0, .nameAndType 11 12), (0, u "checkIndex"), (0, u "(II)V"), (1, .class_ 16), (1, u "java/lang/StringLatin1"), (36, u "([BI)C"), (36, u "canEncode"), (14, u "(C)Z"), (15, u "$assertionsDisabled"), (0, u "Z"), (98, .class_ 223), (1, u "java/lang/StringLatin1$LinesSpliterator"), (28, u "charAt"), (28, u "equals"), (0, u "([B[B)Z"), (107, .class_ 391), (0, u "java/lang/StringLatin1$CharsSpliterator")] 3

def k23m0 : Method := { name := "<init>", desc := "()V", sig := { parameters := [], returnType := none }, accessFlags := 0, code := none }
def k23c1 : Code := { maxStack := 2, maxLocals := 2, code := jdk_43_method_2_code, exceptionTable := #[], attributes := #[] }
def k23m1 : Method := { name := "charAt", desc := "([BI)C", sig := { parameters := [(.array .byte), .int], returnType := some .char }, accessFlags := 9, code := some k23c1 }
def k23c2 : Code := { maxStack := 2, maxLocals := 1, code := jdk_43_method_3_code, exceptionTable := #[], attributes := #[] }
def k23m2 : Method := { name := "canEncode", desc := "(C)Z", sig := { parameters := [.char], returnType := some .boolean }, accessFlags := 9, code := some k23c2 }
def k23c3 : Code := { maxStack := 3, maxLocals := 3, code := jdk_43_method_13_code, exceptionTable := #[], attributes := #[] }
def k23m3 : Method := { name := "equals", desc := "([B[B)Z", sig := { parameters := [(.array .byte), (.array .byte)], returnType := some .boolean }, accessFlags := 9, code := some k23c3 }
/-- java/lang/StringLatin1 -/
def k23 : Class := { plain "java/lang/StringLatin1" (some 0) with
  accessFlags := 48
  interfaces := #[]
  cf := some (fileOf pool23 14 #[.nestMembers #[390, 221]] #[{ accessFlags := 0, nameIndex := 7, descriptorIndex := 8, attributes := #[] }, { accessFlags := 9, nameIndex := 252, descriptorIndex := 53, attributes := #[] }, { accessFlags := 9, nameIndex := 90, descriptorIndex := 105, attributes := #[] }, { accessFlags := 9, nameIndex := 281, descriptorIndex := 282, attributes := #[] }] 48 4 #[] #[{ accessFlags := 4120, nameIndex := 121, descriptorIndex := 122, attributes := #[] }])
  fields := #[{ name := "$assertionsDisabled", type := .boolean, accessFlags := 4120, slot := 0, constantValue := 0 }]
  methods := #[k23m0, k23m1, k23m2, k23m3]
  instanceTypes := #[]
  staticTypes := #[.boolean]
  resolved := Array.replicate 395 none
  statics := none }

def pool24 : Array CpInfo := pool [(9, u "<init>"), (6, .class_ 18), (1, u "java/lang/Object"), (0, u "()V"), (1, .class_ 23), (1, u "jdk/internal/util/ArraysSupport"), (0, u "LOG2_ARRAY_LONG_INDEX_SCALE"), (0, u "I"), (2, u "U"), (0, u "Ljdk/internal/misc/Unsafe;"), (8, u "BIG_ENDIAN"), (0, u "Z"), (8, u "LOG2_BYTE_BIT_SIZE"), (4, u "LOG2_ARRAY_INT_INDEX_SCALE"), (54, u "JLA"), (0, u "Ljdk/internal/access/JavaLangAccess;"), (11, u "LOG2_ARRAY_BOOLEAN_INDEX_SCALE"), (9, u "LOG2_ARRAY_BYTE_INDEX_SCALE"), (5, u "LOG2_ARRAY_CHAR_INDEX_SCALE"), (5, u "LOG2_ARRAY_SHORT_INDEX_SCALE"), (18, u "LOG2_ARRAY_FLOAT_INDEX_SCALE"), (24, u "LOG2_ARRAY_DOUBLE_INDEX_SCALE"), (6, .methodref 195 196), (0, .class_ 197), (0, .nameAndType 198 199), (0, u "java/lang/Math"), (0, u "max"), (0, u "(II)I"), (0, .integer 2147483639), (76, u "T_BOOLEAN"), (2, u "T_CHAR"), (1, u "T_FLOAT"), (1, u "T_DOUBLE"), (1, u "T_BYTE"), (1, u "T_SHORT"), (1, u "T_INT"), (1, u "T_LONG"), (1, u "SOFT_MAX_ARRAY_LENGTH"), (56, u "newLength"), (0, u "(III)I")] 25

def k24m0 : Method := { name := "<init>", desc := "()V", sig := { parameters := [], returnType := none }, accessFlags := 2, code := none }
def k24c1 : Code := { maxStack := 3, maxLocals := 4, code := jdk_48_method_27_code, exceptionTable := #[], attributes := #[] }
def k24m1 : Method := { name := "newLength", desc := "(III)I", sig := { parameters := [.int, .int, .int], returnType := some .int }, accessFlags := 9, code := some k24c1 }
/-- jdk/internal/util/ArraysSupport -/
def k24 : Class := { plain "jdk/internal/util/ArraysSupport" (some 0) with
  accessFlags := 33
  interfaces := #[]
  cf := some (fileOf pool24 21 #[] #[{ accessFlags := 2, nameIndex := 9, descriptorIndex := 19, attributes := #[] }, { accessFlags := 9, nameIndex := 351, descriptorIndex := 352, attributes := #[] }] 33 16 #[] #[{ accessFlags := 24, nameIndex := 28, descriptorIndex := 29, attributes := #[] }, { accessFlags := 26, nameIndex := 38, descriptorIndex := 39, attributes := #[] }, { accessFlags := 25, nameIndex := 121, descriptorIndex := 25, attributes := #[] }, { accessFlags := 25, nameIndex := 131, descriptorIndex := 25, attributes := #[] }, { accessFlags := 25, nameIndex := 137, descriptorIndex := 25, attributes := #[] }, { accessFlags := 25, nameIndex := 143, descriptorIndex := 25, attributes := #[] }, { accessFlags := 25, nameIndex := 53, descriptorIndex := 25, attributes := #[] }, { accessFlags := 25, nameIndex := 24, descriptorIndex := 25, attributes := #[] }, { accessFlags := 25, nameIndex := 162, descriptorIndex := 25, attributes := #[] }, { accessFlags := 25, nameIndex := 187, descriptorIndex := 25, attributes := #[] }, { accessFlags := 26, nameIndex := 48, descriptorIndex := 25, attributes := #[] }, { accessFlags := 25, nameIndex := 277, descriptorIndex := 25, attributes := #[] }, { accessFlags := 25, nameIndex := 280, descriptorIndex := 25, attributes := #[] }, { accessFlags := 25, nameIndex := 282, descriptorIndex := 25, attributes := #[] }, { accessFlags := 25, nameIndex := 284, descriptorIndex := 25, attributes := #[] }, { accessFlags := 25, nameIndex := 286, descriptorIndex := 25, attributes := #[] }, { accessFlags := 25, nameIndex := 288, descriptorIndex := 25, attributes := #[] }, { accessFlags := 25, nameIndex := 290, descriptorIndex := 25, attributes := #[] }, { accessFlags := 25, nameIndex := 292, descriptorIndex := 25, attributes := #[] }, { accessFlags := 26, nameIndex := 108, descriptorIndex := 109, attributes := #[] }, { accessFlags := 25, nameIndex := 294, descriptorIndex := 25, attributes := #[] }])
  fields := #[{ name := "U", type := (.object "jdk/internal/misc/Unsafe"), accessFlags := 24, slot := 0, constantValue := 0 }, { name := "BIG_ENDIAN", type := .boolean, accessFlags := 26, slot := 1, constantValue := 0 }, { name := "LOG2_ARRAY_BOOLEAN_INDEX_SCALE", type := .int, accessFlags := 25, slot := 2, constantValue := 0 }, { name := "LOG2_ARRAY_BYTE_INDEX_SCALE", type := .int, accessFlags := 25, slot := 3, constantValue := 0 }, { name := "LOG2_ARRAY_CHAR_INDEX_SCALE", type := .int, accessFlags := 25, slot := 4, constantValue := 0 }, { name := "LOG2_ARRAY_SHORT_INDEX_SCALE", type := .int, accessFlags := 25, slot := 5, constantValue := 0 }, { name := "LOG2_ARRAY_INT_INDEX_SCALE", type := .int, accessFlags := 25, slot := 6, constantValue := 0 }, { name := "LOG2_ARRAY_LONG_INDEX_SCALE", type := .int, accessFlags := 25, slot := 7, constantValue := 0 }, { name := "LOG2_ARRAY_FLOAT_INDEX_SCALE", type := .int, accessFlags := 25, slot := 8, constantValue := 0 }, { name := "LOG2_ARRAY_DOUBLE_INDEX_SCALE", type := .int, accessFlags := 25, slot := 9, constantValue := 0 }, { name := "LOG2_BYTE_BIT_SIZE", type := .int, accessFlags := 26, slot := 10, constantValue := 0 }, { name := "T_BOOLEAN", type := .int, accessFlags := 25, slot := 11, constantValue := 0 }, { name := "T_CHAR", type := .int, accessFlags := 25, slot := 12, constantValue := 0 }, { name := "T_FLOAT", type := .int, accessFlags := 25, slot := 13, constantValue := 0 }, { name := "T_DOUBLE", type := .int, accessFlags := 25, slot := 14, constantValue := 0 }, { name := "T_BYTE", type := .int, accessFlags := 25, slot := 15, constantValue := 0 }, { name := "T_SHORT", type := .int, accessFlags := 25, slot := 16, constantValue := 0 }, { name := "T_INT", type := .int, accessFlags := 25, slot := 17, constantValue := 0 }, { name := "T_LONG", type := .int, accessFlags := 25, slot := 18, constantValue := 0 }, { name := "JLA", type := (.object "jdk/internal/access/JavaLangAccess"), accessFlags := 26, slot := 19, constantValue := 0 }, { name := "SOFT_MAX_ARRAY_LENGTH", type := .int, accessFlags := 25, slot := 20, constantValue := 0 }]
  methods := #[k24m0, k24m1]
  instanceTypes := #[]
  staticTypes := #[(.object "jdk/internal/misc/Unsafe"), .boolean, .int, .int, .int, .int, .int, .int, .int, .int, .int, .int, .int, .int, .int, .int, .int, .int, .int, (.object "jdk/internal/access/JavaLangAccess"), .int]
  resolved := Array.replicate 378 none
  statics := none }

def pool25 : Array CpInfo := pool [(1, .class_ 2), (0, u "java/lang/Math"), (1, .class_ 6), (1, u "java/lang/Object"), (0, u "<init>"), (0, u "()V"), (89, .class_ 100), (1, u "java/lang/Math$RandomNumberGeneratorHolder"), (71, u "negativeZeroFloatBits"), (0, u "J"), (2, u "negativeZeroDoubleBits"), (21, u "max"), (2, u "min"), (43, u "$assertionsDisabled"), (0, u "Z"), (88, u "(II)I"), (2, u "twoToTheDoubleScaleDown"), (0, u "D"), (4, u "twoToTheDoubleScaleUp"), (9, u "E"), (3, u "PI"), (2, u "TAU"), (2, u "DEGREES_TO_RADIANS"), (0, u "RADIANS_TO_DEGREES")] 94

def k25m0 : Method := { name := "<init>", desc := "()V", sig := { parameters := [], returnType := none }, accessFlags := 2, code := none }
def k25c1 : Code := { maxStack := 2, maxLocals := 2, code := jdk_29_method_65_code, exceptionTable := #[], attributes := #[] }
def k25m1 : Method := { name := "max", desc := "(II)I", sig := { parameters := [.int, .int], returnType := some .int }, accessFlags := 9, code := some k25c1 }
def k25c2 : Code := { maxStack := 2, maxLocals := 2, code := jdk_29_method_69_code, exceptionTable := #[], attributes := #[] }
def k25m2 : Method := { name := "min", desc := "(II)I", sig := { parameters := [.int, .int], returnType := some .int }, accessFlags := 9, code := some k25c2 }
/-- java/lang/Math -/
def k25 : Class := { plain "java/lang/Math" (some 0) with
  accessFlags := 49
  interfaces := #[]
  cf := some (fileOf pool25 1 #[.nestMembers #[98]] #[{ accessFlags := 2, nameIndex := 7, descriptorIndex := 8, attributes := #[] }, { accessFlags := 9, nameIndex := 198, descriptorIndex := 335, attributes := #[] }, { accessFlags := 9, nameIndex := 201, descriptorIndex := 335, attributes := #[] }] 49 4 #[] #[{ accessFlags := 25, nameIndex := 354, descriptorIndex := 339, attributes := #[] }, { accessFlags := 25, nameIndex := 358, descriptorIndex := 339, attributes := #[] }, { accessFlags := 25, nameIndex := 361, descriptorIndex := 339, attributes := #[] }, { accessFlags := 26, nameIndex := 364, descriptorIndex := 339, attributes := #[] }, { accessFlags := 26, nameIndex := 365, descriptorIndex := 339, attributes := #[] }, { accessFlags := 26, nameIndex := 172, descriptorIndex := 173, attributes := #[] }, { accessFlags := 26, nameIndex := 176, descriptorIndex := 173, attributes := #[] }, { accessFlags := 8, nameIndex := 344, descriptorIndex := 339, attributes := #[] }, { accessFlags := 8, nameIndex := 338, descriptorIndex := 339, attributes := #[] }, { accessFlags := 4120, nameIndex := 245, descriptorIndex := 246, attributes := #[] }])
  fields := #[{ name := "E", type := .double, accessFlags := 25, slot := 0, constantValue := 0 }, { name := "PI", type := .double, accessFlags := 25, slot := 1, constantValue := 0 }, { name := "TAU", type := .double, accessFlags := 25, slot := 2, constantValue := 0 }, { name := "DEGREES_TO_RADIANS", type := .double, accessFlags := 26, slot := 3, constantValue := 0 }, { name := "RADIANS_TO_DEGREES", type := .double, accessFlags := 26, slot := 4, constantValue := 0 }, { name := "negativeZeroFloatBits", type := .long, accessFlags := 26, slot := 5, constantValue := 0 }, { name := "negativeZeroDoubleBits", type := .long, accessFlags := 26, slot := 6, constantValue := 0 }, { name := "twoToTheDoubleScaleUp", type := .double, accessFlags := 8, slot := 7, constantValue := 0 }, { name := "twoToTheDoubleScaleDown", type := .double, accessFlags := 8, slot := 8, constantValue := 0 }, { name := "$assertionsDisabled", type := .boolean, accessFlags := 4120, slot := 9, constantValue := 0 }]
  methods := #[k25m0, k25m1, k25m2]
  instanceTypes := #[]
  staticTypes := #[.double, .double, .double, .double, .double, .long, .long, .double, .double, .boolean]
  resolved := Array.replicate 460 none
  statics := none }

def pool26 : Array CpInfo := pool [(2, .class_ 4), (1, u "java/lang/Object"), (0, u "<init>"), (0, u "()V"), (1, .class_ 10), (1, u "java/lang/System"), (0, u "allowSecurityManager"), (0, u "I"), (16, u "cons"), (0, u "Ljava/io/Console;"), (77, .class_ 110), (1, u "java/lang/System$CallersHolder"), (43, u "initialErrStream"), (0, u "Ljava/io/PrintStream;"), (19, u "security"), (0, u "Ljava/lang/SecurityManager;"), (31, .class_ 209), (0, u "java/lang/System$1"), (7, u "props"), (0, u "Ljava/util/Properties;"), (2, u "lineSeparator"), (0, u "Ljava/lang/String;"), (96, .class_ 321), (1, u "java/lang/System$LoggerFinder"), (5, .class_ 328), (0, u "java/lang/System$Logger"), (67, u "err"), (2, u "out"), (91, u "notSupportedJnuEncoding"), (15, u "in"), (17, u "initialIn"), (0, u "Ljava/io/InputStream;"), (35, u "bootLayer"), (0, u "Ljava/lang/ModuleLayer;"), (99, .class_ 664), (0, u "java/lang/System$2"), (9, u "NEVER"), (2, u "MAYBE"), (49, u "arraycopy"), (0, u "(Ljava/lang/Object;ILjava/lang/Object;II)V"), (72, .class_ 802), (0, u "java/lang/System$Logger$Level")] 31

def k26m0 : Method := { name := "<init>", desc := "()V", sig := { parameters := [], returnType := none }, accessFlags := 2, code := none }
def k26m1 : Method := { name := "arraycopy", desc := "(Ljava/lang/Object;ILjava/lang/Object;II)V", sig := { parameters := [(.object "java/lang/Object"), .int, (.object "java/lang/Object"), .int, .int], returnType := none }, accessFlags := 265, code := none }
/-- java/lang/System -/
def k26 : Class := { plain "java/lang/System" (some 0) with
  accessFlags := 49
  interfaces := #[]
  cf := some (fileOf pool26 8 #[.nestMembers #[319, 327, 801, 108, 663, 208]] #[{ accessFlags := 2, nameIndex := 5, descriptorIndex := 6, attributes := #[] }, { accessFlags := 265, nameIndex := 727, descriptorIndex := 728, attributes := #[] }] 49 2 #[] #[{ accessFlags := 25, nameIndex := 507, descriptorIndex := 526, attributes := #[] }, { accessFlags := 25, nameIndex := 399, descriptorIndex := 155, attributes := #[] }, { accessFlags := 25, nameIndex := 396, descriptorIndex := 155, attributes := #[] }, { accessFlags := 10, nameIndex := 525, descriptorIndex := 526, attributes := #[] }, { accessFlags := 26, nameIndex := 674, descriptorIndex := 12, attributes := #[] }, { accessFlags := 26, nameIndex := 677, descriptorIndex := 12, attributes := #[] }, { accessFlags := 10, nameIndex := 11, descriptorIndex := 12, attributes := #[] }, { accessFlags := 74, nameIndex := 175, descriptorIndex := 176, attributes := #[] }, { accessFlags := 10, nameIndex := 491, descriptorIndex := 222, attributes := #[] }, { accessFlags := 74, nameIndex := 29, descriptorIndex := 30, attributes := #[] }, { accessFlags := 74, nameIndex := 154, descriptorIndex := 155, attributes := #[] }, { accessFlags := 10, nameIndex := 217, descriptorIndex := 218, attributes := #[] }, { accessFlags := 10, nameIndex := 221, descriptorIndex := 222, attributes := #[] }, { accessFlags := 8, nameIndex := 562, descriptorIndex := 563, attributes := #[] }])
  fields := #[{ name := "in", type := (.object "java/io/InputStream"), accessFlags := 25, slot := 0, constantValue := 0 }, { name := "out", type := (.object "java/io/PrintStream"), accessFlags := 25, slot := 1, constantValue := 0 }, { name := "err", type := (.object "java/io/PrintStream"), accessFlags := 25, slot := 2, constantValue := 0 }, { name := "initialIn", type := (.object "java/io/InputStream"), accessFlags := 10, slot := 3, constantValue := 0 }, { name := "NEVER", type := .int, accessFlags := 26, slot := 4, constantValue := 0 }, { name := "MAYBE", type := .int, accessFlags := 26, slot := 5, constantValue := 0 }, { name := "allowSecurityManager", type := .int, accessFlags := 10, slot := 6, constantValue := 0 }, { name := "security", type := (.object "java/lang/SecurityManager"), accessFlags := 74, slot := 7, constantValue := 0 }, { name := "notSupportedJnuEncoding", type := (.object "java/lang/String"), accessFlags := 10, slot := 8, constantValue := 0 }, { name := "cons", type := (.object "java/io/Console"), accessFlags := 74, slot := 9, constantValue := 0 }, { name := "initialErrStream", type := (.object "java/io/PrintStream"), accessFlags := 74, slot := 10, constantValue := 0 }, { name := "props", type := (.object "java/util/Properties"), accessFlags := 10, slot := 11, constantValue := 0 }, { name := "lineSeparator", type := (.object "java/lang/String"), accessFlags := 10, slot := 12, constantValue := 0 }, { name := "bootLayer", type := (.object "java/lang/ModuleLayer"), accessFlags := 8, slot := 13, constantValue := 0 }]
  methods := #[k26m0, k26m1]
  instanceTypes := #[]
  staticTypes := #[(.object "java/io/InputStream"), (.object "java/io/PrintStream"), (.object "java/io/PrintStream"), (.object "java/io/InputStream"), .int, .int, .int, (.object "java/lang/SecurityManager"), (.object "java/lang/String"), (.object "java/io/Console"), (.object "java/io/PrintStream"), (.object "java/util/Properties"), (.object "java/lang/String"), (.object "java/lang/ModuleLayer")]
  resolved := Array.replicate 834 none
  statics := none }

/-- the primitive byte -/
def k27 : Class := { plain "byte" none with kind := .primitive 'B', accessFlags := 0x411 }
/-- [B -/
def k28 : Class := { plain "[B" (some 0) with kind := .array 27 .byte, interfaces := #[16, 3], accessFlags := 1041 }

/-- the primitive char -/
def k29 : Class := { plain "char" none with kind := .primitive 'C', accessFlags := 0x411 }
/-- [C -/
def k30 : Class := { plain "[C" (some 0) with kind := .array 29 .char, interfaces := #[16, 3], accessFlags := 1041 }

/-- the primitive int -/
def k31 : Class := { plain "int" none with kind := .primitive 'I', accessFlags := 0x411 }
/-- [I -/
def k32 : Class := { plain "[I" (some 0) with kind := .array 31 .int, interfaces := #[16, 3], accessFlags := 1041 }

/-- [Ljava/lang/Object; -/
def k33 : Class := { plain "[Ljava/lang/Object;" (some 0) with kind := .array 0 (.object "java/lang/Object"), interfaces := #[16, 3], accessFlags := 1041 }

def heap : Heap := #[{ cls := 8, slots := #[.long 0, .int 1, .null, .int 0, .null, .int 0, .int 0], vm := .statics 8 },
  { cls := 17, slots := #[.long 0, .int 0, .ref 3, .ref 4], vm := .statics 17 },
  { cls := 21, slots := #[.null, .null, .null], vm := .statics 21 },
  { cls := 33, slots := #[], vm := .none },
  { cls := 33, slots := #[], vm := .none }]
def classes : Array Class := #[k0, k1, k2, k3, k4, k5, k6, k7, k8, k9, k10, k11, k12, k13, k14, k15, k16, k17, k18, k19, k20, k21, k22, k23, k24, k25, k26, k27, k28, k29, k30, k31, k32, k33]
def interned : List (Array UInt16 × Addr) := []
def slotsUsed : Nat := 14
def theMethod : MethodId := ⟨1, 1⟩
def args0 : Array Value := #[.int 1684234849, .int 513, .int 770, .int 2]
def aboutOver (below : List Frame) : State where
  vm := { classes := classes, interned := interned.toArray }
  heap := heap
  slotsUsed := slotsUsed
  threads := #[{ frames := .invoking theMethod args0 :: below }]
def below0 : List Frame := [.native { method := ⟨0, 0⟩, args := #[] }]
def about1 : State := aboutOver below0
def p0 : Program := .bare "" "" ""
def e0 : Env := launch0.env 0 0 0
theorem w_frames : about1.frames = Frame.invoking theMethod args0 :: below0 := rfl
set_option maxRecDepth 65536 in
theorem w_args : argsFit about1.vm theMethod args0 = true := by decide +kernel
set_option maxRecDepth 65536 in
theorem w_heap : heapFits about1 = true := by decide +kernel
set_option maxRecDepth 65536 in
theorem w_runnable : about1.curStatus? = some .runnable := by decide +kernel
set_option maxRecDepth 65536 in
theorem w_alone : about1.alone = true := by decide +kernel
set_option maxRecDepth 65536 in
theorem w_named : about1.methodNamed? x = some theMethod := by decide +kernel
set_option maxRecDepth 65536 in
theorem w_hears : about1.hears theMethod below0 = true := by decide +kernel
set_option maxRecDepth 65536 in
theorem w_ripe : about1.ripe theMethod args0 below0 = true := by decide +kernel
theorem w_running : about1.status = .running := rfl
set_option maxRecDepth 65536 in
theorem w_room : about1.hasRoom e0.platform room_1 = true :=
  launch0.hasRoom_least _ room_1 (by decide +kernel) (by decide +kernel) (by decide +kernel) (by decide +kernel) (by decide +kernel) (by decide +kernel)
theorem allAtoms_all (ts : List Jvm.Cond) (a : Array Jvm.Value) (st : Jvm.State) : (allAtoms ts).before a st = ts.all (fun c => c.before a st) := by
  induction ts with
  | nil => rfl
  | cons c t ih =>
    show (Jvm.Cond.and c (allAtoms t)).before a st = _
    rw [Jvm.Cond.before_and, ih, List.all_cons]
def words1 : List Jvm.Cond := Jvm.Cond.code x code maxLocals ret :: tables_1
/-- a 'code' word, met by the world's own term for the bytes: nothing is compared byte by byte -/
theorem code_word {y : MethodName} {bytes : ByteArray} {mx : Nat} {rt : Option FieldType} {a : Array Value} {s : State} {m : MethodId} {meth : Method} {c : Code} (h1 : s.methodNamed? y = some m) (h2 : s.vm.method? m = some meth) (h3 : meth.code = some c) (h4 : c.code = bytes)
    (h5 : (c.maxLocals == mx && c.exceptionTable.isEmpty && decide (c.maxStack ≤ mostOperands) && decide (meth.sig.returnType = rt) && !meth.locks && decide (parseMethodDescriptor y.desc = some meth.sig)) = true) : (Jvm.Cond.code y bytes mx rt).before a s = true := by
  simp only [Bool.and_eq_true, beq_iff_eq, Bool.not_eq_true', decide_eq_true_eq] at h5
  obtain ⟨⟨⟨⟨⟨g1, g2⟩, g3⟩, g4⟩, g5⟩, g6⟩ := h5
  simp [Cond.before, Cond.holds, Cond.value, h1, h2, h3, h4, g1, g2, g3, g4, g5, g6]
def isCode : Jvm.Cond → Bool
  | .code _ _ _ _ => true
  | _ => false
theorem all_split {L : List Jvm.Cond} {P : Jvm.Cond → Bool} (h1 : L.all (fun c => isCode c || P c) = true) (h2 : ∀ c ∈ L.filter isCode, P c = true) : L.all P = true := by
  refine List.all_eq_true.mpr fun c hc => ?_
  have h := List.all_eq_true.mp h1 c hc
  rcases Bool.eq_false_or_eq_true (isCode c) with hi | hi
  · exact h2 c (List.mem_filter.mpr ⟨hc, hi⟩)
  · simpa [hi] using h
set_option maxRecDepth 65536 in
theorem w_c0 : (Jvm.Cond.code x code maxLocals ret).before args0 about1 = true := code_word (m := ⟨1, 1⟩) (meth := k1m1) (c := k1c1) (by decide +kernel) rfl rfl rfl (by decide +kernel)
set_option maxRecDepth 65536 in
theorem w_c1 : (Jvm.Cond.code ({ cls := "com/example/pemmican/pemmican/XmlElement", name := "<init>", desc := "(Ljava/lang/String;ILjava/util/Map;)V" } : Jvm.MethodName) prog_78_method_1_code (4 : Nat) (Option.none : Option Jvm.ClassFile.FieldType)).before args0 about1 = true := code_word (m := ⟨2, 0⟩) (meth := k2m0) (c := k2c0) (by decide +kernel) rfl rfl rfl (by decide +kernel)
set_option maxRecDepth 65536 in
theorem w_c2 : (Jvm.Cond.code ({ cls := "java/lang/Object", name := "<init>", desc := "()V" } : Jvm.MethodName) object_method_1_code (1 : Nat) (Option.none : Option Jvm.ClassFile.FieldType)).before args0 about1 = true := code_word (m := ⟨0, 0⟩) (meth := k0m0) (c := k0c0) (by decide +kernel) rfl rfl rfl (by decide +kernel)
set_option maxRecDepth 65536 in
theorem w_c3 : (Jvm.Cond.code ({ cls := "java/util/ArrayList", name := "<init>", desc := "()V" } : Jvm.MethodName) jdk_38_method_2_code (1 : Nat) (Option.none : Option Jvm.ClassFile.FieldType)).before args0 about1 = true := code_word (m := ⟨17, 0⟩) (meth := k17m0) (c := k17c0) (by decide +kernel) rfl rfl rfl (by decide +kernel)
set_option maxRecDepth 65536 in
theorem w_c4 : (Jvm.Cond.code ({ cls := "java/util/AbstractList", name := "<init>", desc := "()V" } : Jvm.MethodName) jdk_39_method_1_code (1 : Nat) (Option.none : Option Jvm.ClassFile.FieldType)).before args0 about1 = true := code_word (m := ⟨14, 0⟩) (meth := k14m0) (c := k14c0) (by decide +kernel) rfl rfl rfl (by decide +kernel)
set_option maxRecDepth 65536 in
theorem w_c5 : (Jvm.Cond.code ({ cls := "java/util/AbstractCollection", name := "<init>", desc := "()V" } : Jvm.MethodName) jdk_22_method_1_code (1 : Nat) (Option.none : Option Jvm.ClassFile.FieldType)).before args0 about1 = true := code_word (m := ⟨11, 0⟩) (meth := k11m0) (c := k11c0) (by decide +kernel) rfl rfl rfl (by decide +kernel)
set_option maxRecDepth 65536 in
theorem w_c6 : (Jvm.Cond.code ({ cls := "com/example/pemmican/pemmican/XmlElement", name := "appendText", desc := "([CII)V" } : Jvm.MethodName) prog_78_method_21_code (4 : Nat) (Option.none : Option Jvm.ClassFile.FieldType)).before args0 about1 = true := code_word (m := ⟨2, 2⟩) (meth := k2m2) (c := k2c2) (by decide +kernel) rfl rfl rfl (by decide +kernel)
set_option maxRecDepth 65536 in
theorem w_c7 : (Jvm.Cond.code ({ cls := "java/lang/StringBuilder", name := "<init>", desc := "(I)V" } : Jvm.MethodName) jdk_67_method_2_code (2 : Nat) (Option.none : Option Jvm.ClassFile.FieldType)).before args0 about1 = true := code_word (m := ⟨20, 1⟩) (meth := k20m1) (c := k20c1) (by decide +kernel) rfl rfl rfl (by decide +kernel)
set_option maxRecDepth 65536 in
theorem w_c8 : (Jvm.Cond.code ({ cls := "java/lang/AbstractStringBuilder", name := "<init>", desc := "(I)V" } : Jvm.MethodName) jdk_68_method_2_code (2 : Nat) (Option.none : Option Jvm.ClassFile.FieldType)).before args0 about1 = true := code_word (m := ⟨19, 1⟩) (meth := k19m1) (c := k19c1) (by decide +kernel) rfl rfl rfl (by decide +kernel)
set_option maxRecDepth 65536 in
theorem w_c9 : (Jvm.Cond.code ({ cls := "java/lang/StringBuilder", name := "append", desc := "([CII)Ljava/lang/StringBuilder;" } : Jvm.MethodName) jdk_67_method_12_code (4 : Nat) (Option.some (Jvm.ClassFile.FieldType.object "java/lang/StringBuilder"))).before args0 about1 = true := code_word (m := ⟨20, 2⟩) (meth := k20m2) (c := k20c2) (by decide +kernel) rfl rfl rfl (by decide +kernel)
set_option maxRecDepth 65536 in
theorem w_c10 : (Jvm.Cond.code ({ cls := "java/lang/AbstractStringBuilder", name := "append", desc := "([CII)Ljava/lang/AbstractStringBuilder;" } : Jvm.MethodName) jdk_68_method_29_code (5 : Nat) (Option.some (Jvm.ClassFile.FieldType.object "java/lang/AbstractStringBuilder"))).before args0 about1 = true := code_word (m := ⟨19, 5⟩) (meth := k19m5) (c := k19c5) (by decide +kernel) rfl rfl rfl (by decide +kernel)
set_option maxRecDepth 65536 in
theorem w_c11 : (Jvm.Cond.code ({ cls := "jdk/internal/util/Preconditions", name := "checkFromToIndex", desc := "(IIILjava/util/function/BiFunction;)I" } : Jvm.MethodName) jdk_41_method_12_code (4 : Nat) (Option.some Jvm.ClassFile.FieldType.int)).before args0 about1 = true := code_word (m := ⟨21, 2⟩) (meth := k21m2) (c := k21c2) (by decide +kernel) rfl rfl rfl (by decide +kernel)
set_option maxRecDepth 65536 in
theorem w_c12 : (Jvm.Cond.code ({ cls := "java/lang/AbstractStringBuilder", name := "ensureCapacityInternal", desc := "(I)V" } : Jvm.MethodName) jdk_68_method_9_code (3 : Nat) (Option.none : Option Jvm.ClassFile.FieldType)).before args0 about1 = true := code_word (m := ⟨19, 3⟩) (meth := k19m3) (c := k19c3) (by decide +kernel) rfl rfl rfl (by decide +kernel)
set_option maxRecDepth 65536 in
theorem w_c13 : (Jvm.Cond.code ({ cls := "java/lang/AbstractStringBuilder", name := "appendChars", desc := "([CII)V" } : Jvm.MethodName) jdk_68_method_74_code (9 : Nat) (Option.none : Option Jvm.ClassFile.FieldType)).before args0 about1 = true := code_word (m := ⟨19, 8⟩) (meth := k19m8) (c := k19c8) (by decide +kernel) rfl rfl rfl (by decide +kernel)
set_option maxRecDepth 65536 in
theorem w_c14 : (Jvm.Cond.code ({ cls := "java/lang/AbstractStringBuilder", name := "isLatin1", desc := "()Z" } : Jvm.MethodName) jdk_68_method_68_code (1 : Nat) (Option.some Jvm.ClassFile.FieldType.boolean)).before args0 about1 = true := code_word (m := ⟨19, 7⟩) (meth := k19m7) (c := k19c7) (by decide +kernel) rfl rfl rfl (by decide +kernel)
set_option maxRecDepth 65536 in
theorem w_c15 : (Jvm.Cond.code ({ cls := "com/example/pemmican/pemmican/XmlElement", name := "text", desc := "()Ljava/lang/String;" } : Jvm.MethodName) prog_78_method_17_code (1 : Nat) (Option.some (Jvm.ClassFile.FieldType.object "java/lang/String"))).before args0 about1 = true := code_word (m := ⟨2, 1⟩) (meth := k2m1) (c := k2c1) (by decide +kernel) rfl rfl rfl (by decide +kernel)
set_option maxRecDepth 65536 in
theorem w_c16 : (Jvm.Cond.code ({ cls := "java/lang/StringBuilder", name := "toString", desc := "()Ljava/lang/String;" } : Jvm.MethodName) jdk_67_method_42_code (1 : Nat) (Option.some (Jvm.ClassFile.FieldType.object "java/lang/String"))).before args0 about1 = true := code_word (m := ⟨20, 3⟩) (meth := k20m3) (c := k20c3) (by decide +kernel) rfl rfl rfl (by decide +kernel)
set_option maxRecDepth 65536 in
theorem w_c17 : (Jvm.Cond.code ({ cls := "java/lang/String", name := "<init>", desc := "(Ljava/lang/StringBuilder;)V" } : Jvm.MethodName) jdk_42_method_53_code (2 : Nat) (Option.none : Option Jvm.ClassFile.FieldType)).before args0 about1 = true := code_word (m := ⟨8, 1⟩) (meth := k8m1) (c := k8c1) (by decide +kernel) rfl rfl rfl (by decide +kernel)
set_option maxRecDepth 65536 in
theorem w_c18 : (Jvm.Cond.code ({ cls := "java/lang/String", name := "<init>", desc := "(Ljava/lang/AbstractStringBuilder;Ljava/lang/Void;)V" } : Jvm.MethodName) jdk_42_method_150_code (5 : Nat) (Option.none : Option Jvm.ClassFile.FieldType)).before args0 about1 = true := code_word (m := ⟨8, 5⟩) (meth := k8m5) (c := k8c5) (by decide +kernel) rfl rfl rfl (by decide +kernel)
set_option maxRecDepth 65536 in
theorem w_c19 : (Jvm.Cond.code ({ cls := "java/lang/AbstractStringBuilder", name := "getValue", desc := "()[B" } : Jvm.MethodName) jdk_68_method_64_code (1 : Nat) (Option.some (Jvm.ClassFile.FieldType.array Jvm.ClassFile.FieldType.byte))).before args0 about1 = true := code_word (m := ⟨19, 6⟩) (meth := k19m6) (c := k19c6) (by decide +kernel) rfl rfl rfl (by decide +kernel)
set_option maxRecDepth 65536 in
theorem w_c20 : (Jvm.Cond.code ({ cls := "java/lang/StringBuilder", name := "length", desc := "()I" } : Jvm.MethodName) jdk_67_method_93_code (1 : Nat) (Option.some Jvm.ClassFile.FieldType.int)).before args0 about1 = true := code_word (m := ⟨20, 4⟩) (meth := k20m4) (c := k20c4) (by decide +kernel) rfl rfl rfl (by decide +kernel)
set_option maxRecDepth 65536 in
theorem w_c21 : (Jvm.Cond.code ({ cls := "java/lang/AbstractStringBuilder", name := "length", desc := "()I" } : Jvm.MethodName) jdk_68_method_6_code (1 : Nat) (Option.some Jvm.ClassFile.FieldType.int)).before args0 about1 = true := code_word (m := ⟨19, 2⟩) (meth := k19m2) (c := k19c2) (by decide +kernel) rfl rfl rfl (by decide +kernel)
set_option maxRecDepth 65536 in
theorem w_c22 : (Jvm.Cond.code ({ cls := "java/util/Arrays", name := "copyOfRange", desc := "([BII)[B" } : Jvm.MethodName) jdk_65_method_132_code (3 : Nat) (Option.some (Jvm.ClassFile.FieldType.array Jvm.ClassFile.FieldType.byte))).before args0 about1 = true := code_word (m := ⟨22, 3⟩) (meth := k22m3) (c := k22c3) (by decide +kernel) rfl rfl rfl (by decide +kernel)
set_option maxRecDepth 65536 in
theorem w_c23 : (Jvm.Cond.code ({ cls := "com/example/pemmican/pemmican/XmlElementTextPinLaw", name := "matches", desc := "(Ljava/lang/String;[CIIII)Z" } : Jvm.MethodName) method_3_code (6 : Nat) (Option.some Jvm.ClassFile.FieldType.boolean)).before args0 about1 = true := code_word (m := ⟨1, 2⟩) (meth := k1m2) (c := k1c2) (by decide +kernel) rfl rfl rfl (by decide +kernel)
set_option maxRecDepth 65536 in
theorem w_c24 : (Jvm.Cond.code ({ cls := "java/lang/String", name := "length", desc := "()I" } : Jvm.MethodName) jdk_42_method_54_code (1 : Nat) (Option.some Jvm.ClassFile.FieldType.int)).before args0 about1 = true := code_word (m := ⟨8, 2⟩) (meth := k8m2) (c := k8c2) (by decide +kernel) rfl rfl rfl (by decide +kernel)
set_option maxRecDepth 65536 in
theorem w_c25 : (Jvm.Cond.code ({ cls := "java/lang/String", name := "coder", desc := "()B" } : Jvm.MethodName) jdk_42_method_152_code (1 : Nat) (Option.some Jvm.ClassFile.FieldType.byte)).before args0 about1 = true := code_word (m := ⟨8, 6⟩) (meth := k8m6) (c := k8c6) (by decide +kernel) rfl rfl rfl (by decide +kernel)
set_option maxRecDepth 65536 in
theorem w_c26 : (Jvm.Cond.code ({ cls := "com/example/pemmican/pemmican/XmlElementTextPinLaw", name := "at", desc := "(Ljava/lang/String;[CIIIII)Z" } : Jvm.MethodName) method_4_code (8 : Nat) (Option.some Jvm.ClassFile.FieldType.boolean)).before args0 about1 = true := code_word (m := ⟨1, 3⟩) (meth := k1m3) (c := k1c3) (by decide +kernel) rfl rfl rfl (by decide +kernel)
set_option maxRecDepth 65536 in
theorem w_c27 : (Jvm.Cond.code ({ cls := "java/lang/String", name := "equals", desc := "(Ljava/lang/Object;)Z" } : Jvm.MethodName) jdk_42_method_66_code (3 : Nat) (Option.some Jvm.ClassFile.FieldType.boolean)).before args0 about1 = true := code_word (m := ⟨8, 4⟩) (meth := k8m4) (c := k8c4) (by decide +kernel) rfl rfl rfl (by decide +kernel)
set_option maxRecDepth 65536 in
theorem w_c28 : (Jvm.Cond.code ({ cls := "java/lang/StringLatin1", name := "equals", desc := "([B[B)Z" } : Jvm.MethodName) jdk_43_method_13_code (3 : Nat) (Option.some Jvm.ClassFile.FieldType.boolean)).before args0 about1 = true := code_word (m := ⟨23, 3⟩) (meth := k23m3) (c := k23c3) (by decide +kernel) rfl rfl rfl (by decide +kernel)
set_option maxRecDepth 65536 in
theorem w_c29 : (Jvm.Cond.code ({ cls := "java/lang/AbstractStringBuilder", name := "newCapacity", desc := "(I)I" } : Jvm.MethodName) jdk_68_method_10_code (6 : Nat) (Option.some Jvm.ClassFile.FieldType.int)).before args0 about1 = true := code_word (m := ⟨19, 4⟩) (meth := k19m4) (c := k19c4) (by decide +kernel) rfl rfl rfl (by decide +kernel)
set_option maxRecDepth 65536 in
theorem w_c30 : (Jvm.Cond.code ({ cls := "jdk/internal/util/ArraysSupport", name := "newLength", desc := "(III)I" } : Jvm.MethodName) jdk_48_method_27_code (4 : Nat) (Option.some Jvm.ClassFile.FieldType.int)).before args0 about1 = true := code_word (m := ⟨24, 1⟩) (meth := k24m1) (c := k24c1) (by decide +kernel) rfl rfl rfl (by decide +kernel)
set_option maxRecDepth 65536 in
theorem w_c31 : (Jvm.Cond.code ({ cls := "java/lang/Math", name := "max", desc := "(II)I" } : Jvm.MethodName) jdk_29_method_65_code (2 : Nat) (Option.some Jvm.ClassFile.FieldType.int)).before args0 about1 = true := code_word (m := ⟨25, 1⟩) (meth := k25m1) (c := k25c1) (by decide +kernel) rfl rfl rfl (by decide +kernel)
set_option maxRecDepth 65536 in
theorem w_c32 : (Jvm.Cond.code ({ cls := "java/util/Arrays", name := "copyOf", desc := "([BI)[B" } : Jvm.MethodName) jdk_65_method_121_code (3 : Nat) (Option.some (Jvm.ClassFile.FieldType.array Jvm.ClassFile.FieldType.byte))).before args0 about1 = true := code_word (m := ⟨22, 1⟩) (meth := k22m1) (c := k22c1) (by decide +kernel) rfl rfl rfl (by decide +kernel)
set_option maxRecDepth 65536 in
theorem w_c33 : (Jvm.Cond.code ({ cls := "java/lang/Math", name := "min", desc := "(II)I" } : Jvm.MethodName) jdk_29_method_69_code (2 : Nat) (Option.some Jvm.ClassFile.FieldType.int)).before args0 about1 = true := code_word (m := ⟨25, 2⟩) (meth := k25m2) (c := k25c2) (by decide +kernel) rfl rfl rfl (by decide +kernel)
set_option maxRecDepth 65536 in
theorem w_c34 : (Jvm.Cond.code ({ cls := "java/lang/StringLatin1", name := "canEncode", desc := "(C)Z" } : Jvm.MethodName) jdk_43_method_3_code (1 : Nat) (Option.some Jvm.ClassFile.FieldType.boolean)).before args0 about1 = true := code_word (m := ⟨23, 2⟩) (meth := k23m2) (c := k23c2) (by decide +kernel) rfl rfl rfl (by decide +kernel)
set_option maxRecDepth 65536 in
theorem w_c35 : (Jvm.Cond.code ({ cls := "java/util/Arrays", name := "copyOfRangeByte", desc := "([BII)[B" } : Jvm.MethodName) jdk_65_method_133_code (5 : Nat) (Option.some (Jvm.ClassFile.FieldType.array Jvm.ClassFile.FieldType.byte))).before args0 about1 = true := code_word (m := ⟨22, 4⟩) (meth := k22m4) (c := k22c4) (by decide +kernel) rfl rfl rfl (by decide +kernel)
set_option maxRecDepth 65536 in
theorem w_c36 : (Jvm.Cond.code ({ cls := "java/util/Arrays", name := "checkLength", desc := "(II)V" } : Jvm.MethodName) jdk_65_method_131_code (2 : Nat) (Option.none : Option Jvm.ClassFile.FieldType)).before args0 about1 = true := code_word (m := ⟨22, 2⟩) (meth := k22m2) (c := k22c2) (by decide +kernel) rfl rfl rfl (by decide +kernel)
set_option maxRecDepth 65536 in
theorem w_c37 : (Jvm.Cond.code ({ cls := "java/lang/String", name := "charAt", desc := "(I)C" } : Jvm.MethodName) jdk_42_method_56_code (2 : Nat) (Option.some Jvm.ClassFile.FieldType.char)).before args0 about1 = true := code_word (m := ⟨8, 3⟩) (meth := k8m3) (c := k8c3) (by decide +kernel) rfl rfl rfl (by decide +kernel)
set_option maxRecDepth 65536 in
theorem w_c38 : (Jvm.Cond.code ({ cls := "java/lang/String", name := "isLatin1", desc := "()Z" } : Jvm.MethodName) jdk_42_method_154_code (1 : Nat) (Option.some Jvm.ClassFile.FieldType.boolean)).before args0 about1 = true := code_word (m := ⟨8, 7⟩) (meth := k8m7) (c := k8c7) (by decide +kernel) rfl rfl rfl (by decide +kernel)
set_option maxRecDepth 65536 in
theorem w_c39 : (Jvm.Cond.code ({ cls := "java/lang/StringLatin1", name := "charAt", desc := "([BI)C" } : Jvm.MethodName) jdk_43_method_2_code (2 : Nat) (Option.some Jvm.ClassFile.FieldType.char)).before args0 about1 = true := code_word (m := ⟨23, 1⟩) (meth := k23m1) (c := k23c1) (by decide +kernel) rfl rfl rfl (by decide +kernel)
set_option maxRecDepth 65536 in
theorem w_c40 : (Jvm.Cond.code ({ cls := "java/lang/String", name := "checkIndex", desc := "(II)V" } : Jvm.MethodName) jdk_42_method_155_code (2 : Nat) (Option.none : Option Jvm.ClassFile.FieldType)).before args0 about1 = true := code_word (m := ⟨8, 8⟩) (meth := k8m8) (c := k8c8) (by decide +kernel) rfl rfl rfl (by decide +kernel)
set_option maxRecDepth 65536 in
theorem w_c41 : (Jvm.Cond.code ({ cls := "jdk/internal/util/Preconditions", name := "checkIndex", desc := "(IILjava/util/function/BiFunction;)I" } : Jvm.MethodName) jdk_41_method_11_code (3 : Nat) (Option.some Jvm.ClassFile.FieldType.int)).before args0 about1 = true := code_word (m := ⟨21, 1⟩) (meth := k21m1) (c := k21c1) (by decide +kernel) rfl rfl rfl (by decide +kernel)
def codes1 : List Jvm.Cond := [Jvm.Cond.code x code maxLocals ret, Jvm.Cond.code ({ cls := "com/example/pemmican/pemmican/XmlElement", name := "<init>", desc := "(Ljava/lang/String;ILjava/util/Map;)V" } : Jvm.MethodName) prog_78_method_1_code (4 : Nat) (Option.none : Option Jvm.ClassFile.FieldType), Jvm.Cond.code ({ cls := "java/lang/Object", name := "<init>", desc := "()V" } : Jvm.MethodName) object_method_1_code (1 : Nat) (Option.none : Option Jvm.ClassFile.FieldType), Jvm.Cond.code ({ cls := "java/util/ArrayList", name := "<init>", desc := "()V" } : Jvm.MethodName) jdk_38_method_2_code (1 : Nat) (Option.none : Option Jvm.ClassFile.FieldType), Jvm.Cond.code ({ cls := "java/util/AbstractList", name := "<init>", desc := "()V" } : Jvm.MethodName) jdk_39_method_1_code (1 : Nat) (Option.none : Option Jvm.ClassFile.FieldType), Jvm.Cond.code ({ cls := "java/util/AbstractCollection", name := "<init>", desc := "()V" } : Jvm.MethodName) jdk_22_method_1_code (1 : Nat) (Option.none : Option Jvm.ClassFile.FieldType), Jvm.Cond.code ({ cls := "com/example/pemmican/pemmican/XmlElement", name := "appendText", desc := "([CII)V" } : Jvm.MethodName) prog_78_method_21_code (4 : Nat) (Option.none : Option Jvm.ClassFile.FieldType), Jvm.Cond.code ({ cls := "java/lang/StringBuilder", name := "<init>", desc := "(I)V" } : Jvm.MethodName) jdk_67_method_2_code (2 : Nat) (Option.none : Option Jvm.ClassFile.FieldType), Jvm.Cond.code ({ cls := "java/lang/AbstractStringBuilder", name := "<init>", desc := "(I)V" } : Jvm.MethodName) jdk_68_method_2_code (2 : Nat) (Option.none : Option Jvm.ClassFile.FieldType), Jvm.Cond.code ({ cls := "java/lang/StringBuilder", name := "append", desc := "([CII)Ljava/lang/StringBuilder;" } : Jvm.MethodName) jdk_67_method_12_code (4 : Nat) (Option.some (Jvm.ClassFile.FieldType.object "java/lang/StringBuilder")), Jvm.Cond.code ({ cls := "java/lang/AbstractStringBuilder", name := "append", desc := "([CII)Ljava/lang/AbstractStringBuilder;" } : Jvm.MethodName) jdk_68_method_29_code (5 : Nat) (Option.some (Jvm.ClassFile.FieldType.object "java/lang/AbstractStringBuilder")), Jvm.Cond.code ({ cls := "jdk/internal/util/Preconditions", name := "checkFromToIndex", desc := "(IIILjava/util/function/BiFunction;)I" } : Jvm.MethodName) jdk_41_method_12_code (4 : Nat) (Option.some Jvm.ClassFile.FieldType.int), Jvm.Cond.code ({ cls := "java/lang/AbstractStringBuilder", name := "ensureCapacityInternal", desc := "(I)V" } : Jvm.MethodName) jdk_68_method_9_code (3 : Nat) (Option.none : Option Jvm.ClassFile.FieldType), Jvm.Cond.code ({ cls := "java/lang/AbstractStringBuilder", name := "appendChars", desc := "([CII)V" } : Jvm.MethodName) jdk_68_method_74_code (9 : Nat) (Option.none : Option Jvm.ClassFile.FieldType), Jvm.Cond.code ({ cls := "java/lang/AbstractStringBuilder", name := "isLatin1", desc := "()Z" } : Jvm.MethodName) jdk_68_method_68_code (1 : Nat) (Option.some Jvm.ClassFile.FieldType.boolean), Jvm.Cond.code ({ cls := "com/example/pemmican/pemmican/XmlElement", name := "text", desc := "()Ljava/lang/String;" } : Jvm.MethodName) prog_78_method_17_code (1 : Nat) (Option.some (Jvm.ClassFile.FieldType.object "java/lang/String")), Jvm.Cond.code ({ cls := "java/lang/StringBuilder", name := "toString", desc := "()Ljava/lang/String;" } : Jvm.MethodName) jdk_67_method_42_code (1 : Nat) (Option.some (Jvm.ClassFile.FieldType.object "java/lang/String")), Jvm.Cond.code ({ cls := "java/lang/String", name := "<init>", desc := "(Ljava/lang/StringBuilder;)V" } : Jvm.MethodName) jdk_42_method_53_code (2 : Nat) (Option.none : Option Jvm.ClassFile.FieldType), Jvm.Cond.code ({ cls := "java/lang/String", name := "<init>", desc := "(Ljava/lang/AbstractStringBuilder;Ljava/lang/Void;)V" } : Jvm.MethodName) jdk_42_method_150_code (5 : Nat) (Option.none : Option Jvm.ClassFile.FieldType), Jvm.Cond.code ({ cls := "java/lang/AbstractStringBuilder", name := "getValue", desc := "()[B" } : Jvm.MethodName) jdk_68_method_64_code (1 : Nat) (Option.some (Jvm.ClassFile.FieldType.array Jvm.ClassFile.FieldType.byte)), Jvm.Cond.code ({ cls := "java/lang/StringBuilder", name := "length", desc := "()I" } : Jvm.MethodName) jdk_67_method_93_code (1 : Nat) (Option.some Jvm.ClassFile.FieldType.int), Jvm.Cond.code ({ cls := "java/lang/AbstractStringBuilder", name := "length", desc := "()I" } : Jvm.MethodName) jdk_68_method_6_code (1 : Nat) (Option.some Jvm.ClassFile.FieldType.int), Jvm.Cond.code ({ cls := "java/util/Arrays", name := "copyOfRange", desc := "([BII)[B" } : Jvm.MethodName) jdk_65_method_132_code (3 : Nat) (Option.some (Jvm.ClassFile.FieldType.array Jvm.ClassFile.FieldType.byte)), Jvm.Cond.code ({ cls := "com/example/pemmican/pemmican/XmlElementTextPinLaw", name := "matches", desc := "(Ljava/lang/String;[CIIII)Z" } : Jvm.MethodName) method_3_code (6 : Nat) (Option.some Jvm.ClassFile.FieldType.boolean), Jvm.Cond.code ({ cls := "java/lang/String", name := "length", desc := "()I" } : Jvm.MethodName) jdk_42_method_54_code (1 : Nat) (Option.some Jvm.ClassFile.FieldType.int), Jvm.Cond.code ({ cls := "java/lang/String", name := "coder", desc := "()B" } : Jvm.MethodName) jdk_42_method_152_code (1 : Nat) (Option.some Jvm.ClassFile.FieldType.byte), Jvm.Cond.code ({ cls := "com/example/pemmican/pemmican/XmlElementTextPinLaw", name := "at", desc := "(Ljava/lang/String;[CIIIII)Z" } : Jvm.MethodName) method_4_code (8 : Nat) (Option.some Jvm.ClassFile.FieldType.boolean), Jvm.Cond.code ({ cls := "java/lang/String", name := "equals", desc := "(Ljava/lang/Object;)Z" } : Jvm.MethodName) jdk_42_method_66_code (3 : Nat) (Option.some Jvm.ClassFile.FieldType.boolean), Jvm.Cond.code ({ cls := "java/lang/StringLatin1", name := "equals", desc := "([B[B)Z" } : Jvm.MethodName) jdk_43_method_13_code (3 : Nat) (Option.some Jvm.ClassFile.FieldType.boolean), Jvm.Cond.code ({ cls := "java/lang/AbstractStringBuilder", name := "newCapacity", desc := "(I)I" } : Jvm.MethodName) jdk_68_method_10_code (6 : Nat) (Option.some Jvm.ClassFile.FieldType.int), Jvm.Cond.code ({ cls := "jdk/internal/util/ArraysSupport", name := "newLength", desc := "(III)I" } : Jvm.MethodName) jdk_48_method_27_code (4 : Nat) (Option.some Jvm.ClassFile.FieldType.int), Jvm.Cond.code ({ cls := "java/lang/Math", name := "max", desc := "(II)I" } : Jvm.MethodName) jdk_29_method_65_code (2 : Nat) (Option.some Jvm.ClassFile.FieldType.int), Jvm.Cond.code ({ cls := "java/util/Arrays", name := "copyOf", desc := "([BI)[B" } : Jvm.MethodName) jdk_65_method_121_code (3 : Nat) (Option.some (Jvm.ClassFile.FieldType.array Jvm.ClassFile.FieldType.byte)), Jvm.Cond.code ({ cls := "java/lang/Math", name := "min", desc := "(II)I" } : Jvm.MethodName) jdk_29_method_69_code (2 : Nat) (Option.some Jvm.ClassFile.FieldType.int), Jvm.Cond.code ({ cls := "java/lang/StringLatin1", name := "canEncode", desc := "(C)Z" } : Jvm.MethodName) jdk_43_method_3_code (1 : Nat) (Option.some Jvm.ClassFile.FieldType.boolean), Jvm.Cond.code ({ cls := "java/util/Arrays", name := "copyOfRangeByte", desc := "([BII)[B" } : Jvm.MethodName) jdk_65_method_133_code (5 : Nat) (Option.some (Jvm.ClassFile.FieldType.array Jvm.ClassFile.FieldType.byte)), Jvm.Cond.code ({ cls := "java/util/Arrays", name := "checkLength", desc := "(II)V" } : Jvm.MethodName) jdk_65_method_131_code (2 : Nat) (Option.none : Option Jvm.ClassFile.FieldType), Jvm.Cond.code ({ cls := "java/lang/String", name := "charAt", desc := "(I)C" } : Jvm.MethodName) jdk_42_method_56_code (2 : Nat) (Option.some Jvm.ClassFile.FieldType.char), Jvm.Cond.code ({ cls := "java/lang/String", name := "isLatin1", desc := "()Z" } : Jvm.MethodName) jdk_42_method_154_code (1 : Nat) (Option.some Jvm.ClassFile.FieldType.boolean), Jvm.Cond.code ({ cls := "java/lang/StringLatin1", name := "charAt", desc := "([BI)C" } : Jvm.MethodName) jdk_43_method_2_code (2 : Nat) (Option.some Jvm.ClassFile.FieldType.char), Jvm.Cond.code ({ cls := "java/lang/String", name := "checkIndex", desc := "(II)V" } : Jvm.MethodName) jdk_42_method_155_code (2 : Nat) (Option.none : Option Jvm.ClassFile.FieldType), Jvm.Cond.code ({ cls := "jdk/internal/util/Preconditions", name := "checkIndex", desc := "(IILjava/util/function/BiFunction;)I" } : Jvm.MethodName) jdk_41_method_11_code (3 : Nat) (Option.some Jvm.ClassFile.FieldType.int)]
set_option maxRecDepth 65536 in
theorem codes_eq : words1.filter isCode = codes1 := rfl
theorem w_codes : ∀ c ∈ words1.filter isCode, c.before args0 about1 = true := by
  rw [codes_eq]
  intro c hc
  simp only [codes1, List.mem_cons, List.not_mem_nil, or_false] at hc
  rcases hc with rfl | rfl | rfl | rfl | rfl | rfl | rfl | rfl | rfl | rfl | rfl | rfl | rfl | rfl | rfl | rfl | rfl | rfl | rfl | rfl | rfl | rfl | rfl | rfl | rfl | rfl | rfl | rfl | rfl | rfl | rfl | rfl | rfl | rfl | rfl | rfl | rfl | rfl | rfl | rfl | rfl | rfl
  · exact w_c0
  · exact w_c1
  · exact w_c2
  · exact w_c3
  · exact w_c4
  · exact w_c5
  · exact w_c6
  · exact w_c7
  · exact w_c8
  · exact w_c9
  · exact w_c10
  · exact w_c11
  · exact w_c12
  · exact w_c13
  · exact w_c14
  · exact w_c15
  · exact w_c16
  · exact w_c17
  · exact w_c18
  · exact w_c19
  · exact w_c20
  · exact w_c21
  · exact w_c22
  · exact w_c23
  · exact w_c24
  · exact w_c25
  · exact w_c26
  · exact w_c27
  · exact w_c28
  · exact w_c29
  · exact w_c30
  · exact w_c31
  · exact w_c32
  · exact w_c33
  · exact w_c34
  · exact w_c35
  · exact w_c36
  · exact w_c37
  · exact w_c38
  · exact w_c39
  · exact w_c40
  · exact w_c41
set_option maxRecDepth 65536 in
theorem w_t1 : (words1.take 24).all (fun c => isCode c || c.before args0 about1) = true := by decide +kernel
set_option maxRecDepth 65536 in
theorem w_t2 : ((words1.drop 24).take 24).all (fun c => isCode c || c.before args0 about1) = true := by decide +kernel
set_option maxRecDepth 65536 in
theorem w_t3 : (((words1.drop 24).drop 24).take 24).all (fun c => isCode c || c.before args0 about1) = true := by decide +kernel
set_option maxRecDepth 65536 in
theorem w_t4 : ((((words1.drop 24).drop 24).drop 24).take 24).all (fun c => isCode c || c.before args0 about1) = true := by decide +kernel
set_option maxRecDepth 65536 in
theorem w_t5 : (((((words1.drop 24).drop 24).drop 24).drop 24).take 24).all (fun c => isCode c || c.before args0 about1) = true := by decide +kernel
set_option maxRecDepth 65536 in
theorem w_t6 : ((((((words1.drop 24).drop 24).drop 24).drop 24).drop 24).take 24).all (fun c => isCode c || c.before args0 about1) = true := by decide +kernel
set_option maxRecDepth 65536 in
theorem w_t7 : (((((((words1.drop 24).drop 24).drop 24).drop 24).drop 24).drop 24).take 24).all (fun c => isCode c || c.before args0 about1) = true := by decide +kernel
set_option maxRecDepth 65536 in
theorem w_t8 : ((((((((words1.drop 24).drop 24).drop 24).drop 24).drop 24).drop 24).drop 24).take 24).all (fun c => isCode c || c.before args0 about1) = true := by decide +kernel
set_option maxRecDepth 65536 in
theorem w_t9 : (((((((((words1.drop 24).drop 24).drop 24).drop 24).drop 24).drop 24).drop 24).drop 24).take 24).all (fun c => isCode c || c.before args0 about1) = true := by decide +kernel
set_option maxRecDepth 65536 in
theorem w_t10 : ((((((((((words1.drop 24).drop 24).drop 24).drop 24).drop 24).drop 24).drop 24).drop 24).drop 24).take 24).all (fun c => isCode c || c.before args0 about1) = true := by decide +kernel
set_option maxRecDepth 65536 in
theorem w_t11 : ((((((((((words1.drop 24).drop 24).drop 24).drop 24).drop 24).drop 24).drop 24).drop 24).drop 24).drop 24).all (fun c => isCode c || c.before args0 about1) = true := by decide +kernel
theorem w_tables : (allAtoms (Jvm.Cond.code x code maxLocals ret :: tables_1)).before args0 about1 = true := by
  rw [allAtoms_all]
  show words1.all (fun c => c.before args0 about1) = true
  refine all_split ?_ w_codes
  rw [← List.take_append_drop 24 words1, List.all_append, w_t1, ← List.take_append_drop 24 (words1.drop 24), List.all_append, w_t2, ← List.take_append_drop 24 ((words1.drop 24).drop 24), List.all_append, w_t3, ← List.take_append_drop 24 (((words1.drop 24).drop 24).drop 24), List.all_append, w_t4, ← List.take_append_drop 24 ((((words1.drop 24).drop 24).drop 24).drop 24), List.all_append, w_t5, ← List.take_append_drop 24 (((((words1.drop 24).drop 24).drop 24).drop 24).drop 24), List.all_append, w_t6, ← List.take_append_drop 24 ((((((words1.drop 24).drop 24).drop 24).drop 24).drop 24).drop 24), List.all_append, w_t7, ← List.take_append_drop 24 (((((((words1.drop 24).drop 24).drop 24).drop 24).drop 24).drop 24).drop 24), List.all_append, w_t8, ← List.take_append_drop 24 ((((((((words1.drop 24).drop 24).drop 24).drop 24).drop 24).drop 24).drop 24).drop 24), List.all_append, w_t9, ← List.take_append_drop 24 (((((((((words1.drop 24).drop 24).drop 24).drop 24).drop 24).drop 24).drop 24).drop 24).drop 24), List.all_append, w_t10, w_t11]
  rfl
set_option maxRecDepth 65536 in
theorem w_rest : rest_1_c.before args0 about1 = true := by decide +kernel
set_option maxRecDepth 65536 in
theorem w_case : (Jvm.Cond.and given_1 narrow_1).before args0 about1 = true := by decide +kernel
set_option maxRecDepth 65536 in
theorem w_consts : constsHeld consts_1 about1 := Jvm.Lit.constsHeldB_iff.mp (by decide +kernel)
theorem w_applies : (headSpec (Jvm.Cond.code x code maxLocals ret :: tables_1) room_1).applies x e0.platform about1 = true :=
  (Spec.applies_iff w_frames).mpr ⟨w_running, w_runnable, w_alone, w_named, w_hears, w_ripe, w_room, w_tables⟩
theorem atStart : AtStart classFile x code maxLocals ret World_1 tables_1 room_1 Calls_1 rest_1 Pre_1 launch0 p0 e0 about1 theMethod args0 below0 :=
  ⟨lists_1, trivial, launch0.admits_env _ _ _, launch0.least_env, fairChoices_fair.cas, fairChoices_fair.clock, w_frames, w_args, w_heap, w_applies, ⟨w_consts, trivial⟩, w_rest, w_case⟩
end start1
theorem witness_1 : WitnessClaimed_1 := ⟨start1.p0, start1.e0, start1.about1, start1.theMethod, start1.args0, start1.below0, start1.atStart⟩
end Jvm.Pilot.@@N@@
