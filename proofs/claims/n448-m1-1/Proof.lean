import JvmDerived
import JvmDerived.Pilot.@@N@@Statement
import JvmDerived.Pilot.@@N@@Code
set_option linter.unusedVariables false
set_option linter.unusedSimpArgs false
namespace Jvm.RoadKit
open Sem ClassFile Op Lib Jvm.Stand Jvm.Free Jvm.LawKit
section New
variable {p : Program} {l : Launch} {e : Env} {R : Room} {s : State} {m : MethodId} {args : Array Value} {below : List Frame} {meth : Method} {c : Code} {T : State} {locs : List Loc} {cells slots : Nat}
theorem retI (X : Stand p l e R s m args below meth c T locs cells slots) (hx : p.tables.exec = Jvm.exec) {pc : Nat} {Ls : Array Slot} {z : Int32} {rest : List Value} (hret : meth.sig.returnType = some .int) (hd : decode c.code pc = .ok (.ireturn, 1)) {fs : List Frame}
    (hl : ∀ (f : JFrame) (acts : List Action), f.method = m → f.locked = none → f.entered = [] → (doReturn e (T.setTop f) acts (some (.int z))).1 = T.setFrames fs) : Steps p.tables e below (T.setTop (mkF m pc Ls (.int z :: rest))) (T.setFrames fs) := by
  have hm' : T.vm.method? m = some meth := X.method'
  have hn : narrow .int (.int z) = .int z := rfl
  show Steps p.tables e below (T.setTop { method := m, pc := pc, locals := Ls, stack := _ :: rest, locked := none }) _
  jvm_step X.here [X.here.top, hx, hd, hm', hret, hn]
  first | (intro acts; rw [hl _ acts rfl rfl rfl]) | rw [hl _ _ rfl rfl rfl]
  exact Steps.refl _
end New
end Jvm.RoadKit
namespace Jvm.Pilot.@@N@@
open Jvm Jvm.ClassFile Sem Op Lib Jvm.Free Jvm.Stand Jvm.LawKit Jvm.RoadKit Bundle Jvm.Pilot.@@N@@.Jvm.D
/-! own small kit: a walk forward, state by state -/
section OwnKit
variable {p : Program} {l : Launch} {e : Env} {R : Room} {s : State} {m : MethodId} {args : Array Value} {below : List Frame} {meth : Method} {c : Code} {T : State} {locs : List Loc} {cells slots : Nat} {rc rs : Nat} {Q : Option Value → Heap → List Loc → Prop} {Z : State} {h h' : Heap} {a b : Addr} {S S' : State}
/-- from S the run comes to its return, and Q holds there -/
def Go (p : Program) (e : Env) (below : List Frame) (s : State) (rc rs : Nat) (Q : Option Value → Heap → List Loc → Prop) (S : State) : Prop :=
  ∃ s₂ o, Steps p.tables e below S s₂ ∧ s₂.status = .running ∧ Ended s₂ below o ∧ ∃ v L, o = .returned v ∧ Q v s₂.heap L ∧ FrameEnd s o s₂ L rc rs
theorem Go.st (k : ∀ t, Steps p.tables e below S' t → Steps p.tables e below S t) (g : Go p e below s rc rs Q S') : Go p e below s rc rs Q S := by
  obtain ⟨x, y, z, r⟩ := g
  exact ⟨x, y, k x z, r⟩
theorem Go.tr (k : Steps p.tables e below S S') (g : Go p e below s rc rs Q S') : Go p e below s rc rs Q S := by
  obtain ⟨x, y, z, r⟩ := g
  exact ⟨x, y, k.trans z, r⟩
theorem Go.ret (X : Stand p l e R s m args below meth c T locs cells slots) (hlk : meth.locks = false) (v : Option Value) (hv : meth.sig.returnType = none → v = none) {g : JFrame} (hQ : Q v T.heap locs) (hc : cells ≤ rc) (hs : slots ≤ rs)
    (k : ∀ fs, (∀ (f : JFrame) (acts : List Action), f.method = m → f.locked = none → f.entered = [] → (doReturn e (T.setTop f) acts v).1 = T.setFrames fs) → Steps p.tables e below (T.setTop g) (T.setFrames fs)) : Go p e below s rc rs Q (T.setTop g) := by
  obtain ⟨fs, hr, hrun, hended, hW, hsame⟩ := X.leave (v := v) hv hlk
  exact ⟨_, _, k fs hr, hrun, hended, _, _, rfl, hQ, ⟨_, rfl⟩, hW, hsame.mono hc hs⟩
theorem own_w {a0 : Array Value} (hw : ∀ d ∈ tables_1, d.before a0 Z = true) (k : Nat) {d : Jvm.Cond} (q : tables_1[k]? = some d) : d.before a0 Z = true := hw _ (List.mem_of_getElem? q)
theorem own_idx {n j : Int32} {cl : Cell} (S : cl.slots.size = n.toNatClampNeg) (q1 : ¬ j < 0) (q2 : j < n) : ¬ (j < 0 ∨ cl.slots.size ≤ j.toNatClampNeg) := inb_of S ⟨q1, q2⟩
theorem own_iaload (X : Stand p l e R s m args below meth c T locs cells slots) (hx : p.tables.exec = Jvm.exec) (hZ : Z.Warmed39 s.vm) (eT : T.heap = h) {k : ClassId} {n : Int32} {vs : List Value} {d : Value} (V : Arv Z h a k .int n vs d) {j : Int32} (q1 : ¬ j < 0) (q2 : j < n) {v : Value} (hv : vs.getD j.toNatClampNeg d = v) {g : JFrame} (hg : g.method = m) {rest : List Value} (hs : g.stack = .int j :: .ref a :: rest) (hd : decode c.code g.pc = .ok (.iaload, 1)) (t : State) (kk : Steps p.tables e below (T.setTop { g with pc := g.pc + 1, stack := v :: rest }) t) : Steps p.tables e below (T.setTop g) t := by
  obtain ⟨cl, A, -, S, -, H, -⟩ := V
  have hin := own_idx S q1 q2
  exact X.iaload hx (j := j) (v := v) (by rw [eT]; exact A.1) (State.isArrayOf_alike hZ.alike A.2.1) A.2.2 hin (H.at hin hv) (g := g) hg hs hd _ kk
theorem own_laload (X : Stand p l e R s m args below meth c T locs cells slots) (hx : p.tables.exec = Jvm.exec) (hZ : Z.Warmed39 s.vm) (eT : T.heap = h) {k : ClassId} {n : Int32} {vs : List Value} {d : Value} (V : Arv Z h a k .long n vs d) {j : Int32} (q1 : ¬ j < 0) (q2 : j < n) {v : Value} (hv : vs.getD j.toNatClampNeg d = v) {g : JFrame} (hg : g.method = m) {rest : List Value} (hs : g.stack = .int j :: .ref a :: rest) (hd : decode c.code g.pc = .ok (.laload, 1)) (t : State) (kk : Steps p.tables e below (T.setTop { g with pc := g.pc + 1, stack := v :: rest }) t) : Steps p.tables e below (T.setTop g) t := by
  obtain ⟨cl, A, -, S, -, H, -⟩ := V
  have hin := own_idx S q1 q2
  exact X.laload hx (j := j) (v := v) (by rw [eT]; exact A.1) (State.isArrayOf_alike hZ.alike A.2.1) A.2.2 hin (H.at hin hv) (g := g) hg hs hd _ kk
theorem own_caload (X : Stand p l e R s m args below meth c T locs cells slots) (hx : p.tables.exec = Jvm.exec) (hZ : Z.Warmed39 s.vm) (eT : T.heap = h) {k : ClassId} {n : Int32} {vs : List Value} {d : Value} (V : Arv Z h a k .char n vs d) {j : Int32} (q1 : ¬ j < 0) (q2 : j < n) {v : Value} (hv : vs.getD j.toNatClampNeg d = v) {g : JFrame} (hg : g.method = m) {rest : List Value} (hs : g.stack = .int j :: .ref a :: rest) (hd : decode c.code g.pc = .ok (.caload, 1)) (t : State) (kk : Steps p.tables e below (T.setTop { g with pc := g.pc + 1, stack := v :: rest }) t) : Steps p.tables e below (T.setTop g) t := by
  obtain ⟨cl, A, -, S, -, H, -⟩ := V
  have hin := own_idx S q1 q2
  exact X.caload hx (j := j) (v := v) (by rw [eT]; exact A.1) (State.isArrayOf_alike hZ.alike A.2.1) A.2.2 hin (H.at hin hv) (g := g) hg hs hd _ kk
theorem own_baloadB (X : Stand p l e R s m args below meth c T locs cells slots) (hx : p.tables.exec = Jvm.exec) (hZ : Z.Warmed39 s.vm) (eT : T.heap = h) {k : ClassId} {n : Int32} {vs : List Value} {d : Value} (V : Arv Z h a k .byte n vs d) {j : Int32} (q1 : ¬ j < 0) (q2 : j < n) {v : Value} (hv : vs.getD j.toNatClampNeg d = v) {g : JFrame} (hg : g.method = m) {rest : List Value} (hs : g.stack = .int j :: .ref a :: rest) (hd : decode c.code g.pc = .ok (.baload, 1)) (t : State) (kk : Steps p.tables e below (T.setTop { g with pc := g.pc + 1, stack := v :: rest }) t) : Steps p.tables e below (T.setTop g) t := by
  obtain ⟨cl, A, -, S, -, H, -⟩ := V
  have hin := own_idx S q1 q2
  exact X.baloadBytes hx (j := j) (v := v) (by rw [eT]; exact A.1) (State.isArrayOf_alike hZ.alike A.2.1) A.2.2 hin (H.at hin hv) (g := g) hg hs hd _ kk
theorem own_baloadZ (X : Stand p l e R s m args below meth c T locs cells slots) (hx : p.tables.exec = Jvm.exec) (hZ : Z.Warmed39 s.vm) (eT : T.heap = h) {k : ClassId} {n : Int32} {vs : List Value} {d : Value} (V : Arv Z h a k .boolean n vs d) {j : Int32} (q1 : ¬ j < 0) (q2 : j < n) {v : Value} (hv : vs.getD j.toNatClampNeg d = v) {g : JFrame} (hg : g.method = m) {rest : List Value} (hs : g.stack = .int j :: .ref a :: rest) (hd : decode c.code g.pc = .ok (.baload, 1)) (t : State) (kk : Steps p.tables e below (T.setTop { g with pc := g.pc + 1, stack := v :: rest }) t) : Steps p.tables e below (T.setTop g) t := by
  obtain ⟨cl, A, -, S, -, H, -⟩ := V
  have hin := own_idx S q1 q2
  exact X.baloadBooleans hx (j := j) (v := v) (by rw [eT]; exact A.1) (State.isArrayOf_alike hZ.alike A.2.1) A.2.2 hin (H.at hin hv) (g := g) hg hs hd _ kk
theorem own_aaload (X : Stand p l e R s m args below meth c T locs cells slots) (hx : p.tables.exec = Jvm.exec) (hZ : Z.Warmed39 s.vm) (eT : T.heap = h) {k : ClassId} {n : Int32} {vs : List Value} {d : Value} {ty : FieldType} (V : Arv Z h a k ty n vs d) (hty : ty.isReference = true) {j : Int32} (q1 : ¬ j < 0) (q2 : j < n) {v : Value} (hv : vs.getD j.toNatClampNeg d = v) {g : JFrame} (hg : g.method = m) {rest : List Value} (hs : g.stack = .int j :: .ref a :: rest) (hd : decode c.code g.pc = .ok (.aaload, 1)) (t : State) (kk : Steps p.tables e below (T.setTop { g with pc := g.pc + 1, stack := v :: rest }) t) : Steps p.tables e below (T.setTop g) t := by
  obtain ⟨cl, A, -, S, -, H, -⟩ := V
  have hin := own_idx S q1 q2
  exact X.aaload hx (j := j) (v := v) (by rw [eT]; exact A.1) (State.isArrayOf_alike hZ.alike A.2.1) hty A.2.2 hin (H.at hin hv) (g := g) hg hs hd _ kk
theorem own_len (X : Stand p l e R s m args below meth c T locs cells slots) (hx : p.tables.exec = Jvm.exec) (hZ : Z.Warmed39 s.vm) (eT : T.heap = h) {k : ClassId} {n : Int32} {vs : List Value} {d : Value} {ty : FieldType} (V : Arv Z h a k ty n vs d) {g : JFrame} (hg : g.method = m) {rest : List Value} (hs : g.stack = .ref a :: rest) (hd : decode c.code g.pc = .ok (.arraylength, 1)) (t : State) (kk : Steps p.tables e below (T.setTop { g with pc := g.pc + 1, stack := .int n :: rest }) t) : Steps p.tables e below (T.setTop g) t := by
  obtain ⟨cl, A, -, S, N, -, -⟩ := V
  refine X.arraylength hx (by rw [eT]; exact A.1) (State.isArrayOf_alike hZ.alike A.2.1) (g := g) hg hs hd _ ?_
  rw [len_of S N]
  exact kk
theorem own_stI (X : Stand p l e R s m args below meth c T locs cells slots) (hx : p.tables.exec = Jvm.exec) (hZ : Z.Warmed39 s.vm) (eT : T.heap = h) {k : ClassId} {n : Int32} {vs : List Value} {d : Value} (V : Arv Z h a k .int n vs d) {j x : Int32} (q1 : ¬ j < 0) (q2 : j < n) (i : Nat) (hi : j.toNatClampNeg = i) (hl : i < vs.length) {g : JFrame} (hg : g.method = m) {rest : List Value} (hs : g.stack = .int x :: .int j :: .ref a :: rest) (hd : decode c.code g.pc = .ok (.iastore, 1)) :
    ∃ T' h', Stand p l e R s m args below meth c T' (locs ++ [⟨a, j.toNatClampNeg⟩]) cells slots ∧ T'.heap = h' ∧ Wr h h' a j.toNatClampNeg (.int x) ∧ Arv Z h' a k .int n (vs.set i (.int x)) d ∧ ∀ t, Steps p.tables e below (T'.setTop { g with pc := g.pc + 1, stack := rest }) t → Steps p.tables e below (T.setTop g) t := by
  obtain ⟨cl, A, q, S, N, H, G⟩ := V
  obtain ⟨T', h', X', e', W', st⟩ := stI X hx hZ eT A (own_idx S q1 q2) (g := g) hg hs hd
  exact ⟨T', h', X', e', W', Arv.set A q S N H G rfl W' i hi hl, st⟩
theorem own_stJ (X : Stand p l e R s m args below meth c T locs cells slots) (hx : p.tables.exec = Jvm.exec) (hZ : Z.Warmed39 s.vm) (eT : T.heap = h) {k : ClassId} {n : Int32} {vs : List Value} {d : Value} (V : Arv Z h a k .long n vs d) {j : Int32} {x : Int64} (q1 : ¬ j < 0) (q2 : j < n) (i : Nat) (hi : j.toNatClampNeg = i) (hl : i < vs.length) {g : JFrame} (hg : g.method = m) {rest : List Value} (hs : g.stack = .long x :: .int j :: .ref a :: rest) (hd : decode c.code g.pc = .ok (.lastore, 1)) :
    ∃ T' h', Stand p l e R s m args below meth c T' (locs ++ [⟨a, j.toNatClampNeg⟩]) cells slots ∧ T'.heap = h' ∧ Wr h h' a j.toNatClampNeg (.long x) ∧ Arv Z h' a k .long n (vs.set i (.long x)) d ∧ ∀ t, Steps p.tables e below (T'.setTop { g with pc := g.pc + 1, stack := rest }) t → Steps p.tables e below (T.setTop g) t := by
  obtain ⟨cl, A, q, S, N, H, G⟩ := V
  obtain ⟨T', h', X', e', W', st⟩ := stJ X hx hZ eT A (own_idx S q1 q2) (g := g) hg hs hd
  exact ⟨T', h', X', e', W', Arv.set A q S N H G rfl W' i hi hl, st⟩
theorem own_stC (X : Stand p l e R s m args below meth c T locs cells slots) (hx : p.tables.exec = Jvm.exec) (hZ : Z.Warmed39 s.vm) (eT : T.heap = h) {k : ClassId} {n : Int32} {vs : List Value} {d : Value} (V : Arv Z h a k .char n vs d) {j x : Int32} (q1 : ¬ j < 0) (q2 : j < n) (i : Nat) (hi : j.toNatClampNeg = i) (hl : i < vs.length) {g : JFrame} (hg : g.method = m) {rest : List Value} (hs : g.stack = .int x :: .int j :: .ref a :: rest) (hd : decode c.code g.pc = .ok (.castore, 1)) :
    ∃ T' h', Stand p l e R s m args below meth c T' (locs ++ [⟨a, j.toNatClampNeg⟩]) cells slots ∧ T'.heap = h' ∧ Wr h h' a j.toNatClampNeg (.int (nar .char x)) ∧ Arv Z h' a k .char n (vs.set i (.int (nar .char x))) d ∧ ∀ t, Steps p.tables e below (T'.setTop { g with pc := g.pc + 1, stack := rest }) t → Steps p.tables e below (T.setTop g) t := by
  obtain ⟨cl, A, q, S, N, H, G⟩ := V
  obtain ⟨T', h', X', e', W', st⟩ := stC X hx hZ eT A (own_idx S q1 q2) (g := g) hg hs hd
  exact ⟨T', h', X', e', W', Arv.set A q S N H G (fits_nar_char _) W' i hi hl, st⟩
theorem own_stB (X : Stand p l e R s m args below meth c T locs cells slots) (hx : p.tables.exec = Jvm.exec) (hZ : Z.Warmed39 s.vm) (eT : T.heap = h) {k : ClassId} {n : Int32} {vs : List Value} {d : Value} (V : Arv Z h a k .byte n vs d) {j x : Int32} (q1 : ¬ j < 0) (q2 : j < n) (i : Nat) (hi : j.toNatClampNeg = i) (hl : i < vs.length) {g : JFrame} (hg : g.method = m) {rest : List Value} (hs : g.stack = .int x :: .int j :: .ref a :: rest) (hd : decode c.code g.pc = .ok (.bastore, 1)) :
    ∃ T' h', Stand p l e R s m args below meth c T' (locs ++ [⟨a, j.toNatClampNeg⟩]) cells slots ∧ T'.heap = h' ∧ Wr h h' a j.toNatClampNeg (.int (nar .byte x)) ∧ Arv Z h' a k .byte n (vs.set i (.int (nar .byte x))) d ∧ ∀ t, Steps p.tables e below (T'.setTop { g with pc := g.pc + 1, stack := rest }) t → Steps p.tables e below (T.setTop g) t := by
  obtain ⟨cl, A, q, S, N, H, G⟩ := V
  obtain ⟨T', h', X', e', W', st⟩ := stB X hx hZ eT A (own_idx S q1 q2) (g := g) hg hs hd
  exact ⟨T', h', X', e', W', Arv.set A q S N H G (fits_nar_byte _) W' i hi hl, st⟩
theorem own_stZ (X : Stand p l e R s m args below meth c T locs cells slots) (hx : p.tables.exec = Jvm.exec) (hZ : Z.Warmed39 s.vm) (eT : T.heap = h) {k : ClassId} {n : Int32} {vs : List Value} {d : Value} (V : Arv Z h a k .boolean n vs d) {j x : Int32} (q1 : ¬ j < 0) (q2 : j < n) (i : Nat) (hi : j.toNatClampNeg = i) (hl : i < vs.length) {g : JFrame} (hg : g.method = m) {rest : List Value} (hs : g.stack = .int x :: .int j :: .ref a :: rest) (hd : decode c.code g.pc = .ok (.bastore, 1)) :
    ∃ T' h', Stand p l e R s m args below meth c T' (locs ++ [⟨a, j.toNatClampNeg⟩]) cells slots ∧ T'.heap = h' ∧ Wr h h' a j.toNatClampNeg (.int (nar .boolean x)) ∧ Arv Z h' a k .boolean n (vs.set i (.int (nar .boolean x))) d ∧ ∀ t, Steps p.tables e below (T'.setTop { g with pc := g.pc + 1, stack := rest }) t → Steps p.tables e below (T.setTop g) t := by
  obtain ⟨cl, A, q, S, N, H, G⟩ := V
  obtain ⟨T', h', X', e', W', st⟩ := stZ X hx hZ eT A (own_idx S q1 q2) (g := g) hg hs hd
  exact ⟨T', h', X', e', W', Arv.set A q S N H G (fits_nar_bool _) W' i hi hl, st⟩
theorem own_old {n0 : Nat} (O : Old Z n0 h) : n0 ≤ h.size := O.1 ▸ O.2.1
theorem own_res {z z' y : Int32} (hq : y = z') (hz : z = z') : some (Value.int z) = some (Value.int y) := by rw [hq, hz]
theorem own_resJ {z z' y : Int64} (hq : y = z') (hz : z = z') : some (Value.long z) = some (Value.long y) := by rw [hq, hz]
theorem own_narR {v : Value} {t : FieldType} (q : v.isRef = true) (r : t.isReference = true := by rfl) : narrow t v = v := by
  rcases ref_cases q with rfl | ⟨_, rfl⟩ <;> cases t <;> first | rfl | (simp [FieldType.isReference] at r)
theorem own_fitR {v : Value} {t : FieldType} (q : v.isRef = true) (r : t.isReference = true := by rfl) : fits t v = true := by
  rcases ref_cases q with rfl | ⟨_, rfl⟩ <;> cases t <;> first | rfl | (simp [FieldType.isReference] at r)
theorem own_fld {ar : Array Value} {t : Term} {x : Addr} {C n d : String} {k : Int32} (ht : t.eval ar s none [] s = some (.ref x)) (q : (Jvm.Cond.eq (.field t C n d) (.int k)).value ar s none s [] = some true) : Fld s s.heap x C n d (.int k) := by
  obtain ⟨u, w, e1, e2, -, k2⟩ := cmp_v (Or.inl q)
  have e3 : (Term.int k).eval ar s none [] s = some (.int k) := Term.int_eval k
  rw [e3] at e2
  obtain rfl := Option.some.inj e2
  obtain ⟨z, rfl⟩ := k2
  have e4 : z = k := gotT (Cond.eq_ints e1 e3) q
  subst e4
  rw [fld_at ht] at e1
  exact Fld.start e1
theorem own_neI {u w : Int32} (q : u ≠ w) : Value.int u ≠ Value.int w := fun z => q (Value.int.inj z)
theorem own_stR (X : Stand p l e R s m args below meth c T locs cells slots) (hx : p.tables.exec = Jvm.exec) (hZ : Z.Warmed39 s.vm) (eT : T.heap = h) {k : ClassId} {n : Int32} {vs : List Value} {d : Value} {ty : FieldType} {C : String} (V : Arv Z h a k ty n vs d) (hty : ty.isReference = true) (O : Ovr Z k C) {y : Addr} (I : Ins Z h y C true) {j : Int32} (q1 : ¬ j < 0) (q2 : j < n) (i : Nat) (hi : j.toNatClampNeg = i) (hl : i < vs.length) {g : JFrame} (hg : g.method = m) {rest : List Value} (hs : g.stack = .ref y :: .int j :: .ref a :: rest) (hd : decode c.code g.pc = .ok (.aastore, 1)) :
    ∃ T' h', Stand p l e R s m args below meth c T' (locs ++ [⟨a, j.toNatClampNeg⟩]) cells slots ∧ T'.heap = h' ∧ Wr h h' a j.toNatClampNeg (.ref y) ∧ Arv Z h' a k ty n (vs.set i (.ref y)) d ∧ ∀ t, Steps p.tables e below (T'.setTop { g with pc := g.pc + 1, stack := rest }) t → Steps p.tables e below (T.setTop g) t := by
  obtain ⟨cl, A, q, S, N, H, G⟩ := V
  obtain ⟨T', h', X', e', W', st⟩ := stR X hx hZ eT A (own_idx S q1 q2) hty (Sto.ofV A q O I) (g := g) hg hs hd
  exact ⟨T', h', X', e', W', Arv.set A q S N H G (own_fitR rfl hty) W' i hi hl, st⟩
theorem own_dupx2 (X : Stand p l e R s m args below meth c T locs cells slots) (hx : p.tables.exec = Jvm.exec) {g : JFrame} (hg : g.method = m) {x y z : Value} {rest : List Value} (hd : decode c.code g.pc = .ok (.dup_x2, 1)) (hs : g.stack = x :: y :: z :: rest) (hc : x.category = 1) (hc' : y.category = 1) (hc'' : z.category = 1) (t : State) (kk : Steps p.tables e below (T.setTop { g with pc := g.pc + 1, stack := x :: y :: z :: x :: rest }) t) : Steps p.tables e below (T.setTop g) t := by
  subst hg
  jvm_step X.here [X.here.top, hx, hd, dup_x2.wp_sem, hs, hc, hc', hc'']
  exact kk
end OwnKit
theorem own_lt (x y : Int32) : (x < y) = (x.toInt < y.toInt) := propext Int32.lt_iff_toInt_lt
theorem own_eq (x y : Int32) : (x = y) = (x.toInt = y.toInt) := propext Int32.toInt_inj.symm
theorem own_rem (x k : Int32) (hk : 0 < k.toInt) : ¬ ((x &&& 2147483647) % k < 0) ∧ (x &&& 2147483647) % k < k := by
  have h1 := c_mask x 2147483647 31 (by decide) (by decide)
  have h2 := c_iremV (x &&& 2147483647) k
  have h3 : 0 ≤ (x &&& 2147483647).toInt := by rw [h1]; exact Int.emod_nonneg _ (by decide)
  have h4 := h2.1 h3 hk
  rw [own_lt, own_lt]
  have h5 : (0 : Int32).toInt = 0 := rfl
  omega
theorem dm_0 : decode jdk_29_method_69_code 0 = .ok (.iload_n 0, 1) := by decide +kernel
theorem dm_1 : decode jdk_29_method_69_code 1 = .ok (.iload_n 1, 1) := by decide +kernel
theorem dm_2 : decode jdk_29_method_69_code 2 = .ok (.if_icmp .gt 7, 3) := by decide +kernel
theorem dm_5 : decode jdk_29_method_69_code 5 = .ok (.iload_n 0, 1) := by decide +kernel
theorem dm_6 : decode jdk_29_method_69_code 6 = .ok (.goto 4, 3) := by decide +kernel
theorem dm_9 : decode jdk_29_method_69_code 9 = .ok (.iload_n 1, 1) := by decide +kernel
theorem dm_10 : decode jdk_29_method_69_code 10 = .ok (.ireturn, 1) := by decide +kernel
theorem efm (m : MethodId) (x0 : Int32) (x1 : Int32) : entryFrame m #[(.int x0), (.int x1)] 2 = mkF m 0 #[.val (.int x0), .val (.int x1)] [] := by first | (simp [entryFrame, mkF, argsToLocals, Value.category, maxLocals]; done) | rfl
def fMin (p0 : Int32) (p1 : Int32) : Int32 := (if p1 < p0 then p1 else p0)
def Qm (Z : State) (p0 : Int32) (p1 : Int32) (h0 : Heap) (n0 : Nat) (v : Option Value) (h : Heap) (L : List Loc) : Prop := v = some (.int (fMin p0 p1)) ∧ Fr n0 L ∧ h = h0
set_option maxRecDepth 65536 in
set_option maxHeartbeats 40000000 in
theorem rmm (l : Launch) (Z : State) (a0 : Array Value) (hw : ∀ d ∈ tables_1, d.before a0 Z = true) (ws : List Jvm.Cond) (p0 : Int32) (p1 : Int32) (h0 : Heap) (n0 : Nat) (O0 : Old Z n0 h0)  :
    MetFree l (⟨"java/lang/Math", "min", "(II)I"⟩ : MethodName) (head1 (Jvm.Cond.code (⟨"java/lang/Math", "min", "(II)I"⟩ : MethodName) jdk_29_method_69_code 2 (some .int) :: ws) ({ frames := 0, cells := 0, slots := 0, locals := 0 } : Room)) (fun A_ U_ => A_ = #[(.int p0), (.int p1)] ∧ Z.Warmed39 U_.vm ∧ U_.heap = h0) (fun _ _ _ _ _ => True) (fun _ U o U' => ∃ v L, o = .returned v ∧ Qm Z p0 p1 h0 n0 v U'.heap L ∧ FrameEnd U o U' L ({ frames := 0, cells := 0, slots := 0, locals := 0 } : Room).cells ({ frames := 0, cells := 0, slots := 0, locals := 0 } : Room).slots) := by
  refine MetFree.of_bodySF (by decide +kernel) hisR ?_
  intro p e s m args below meth cd s₁ Bd hml0 hP hK
  obtain ⟨rfl, hZ, hh⟩ := hP
  have hx := Bd.exec
  have hby := Bd.bytes
  have hlk : meth.locks = false := BodyLoose.notSynchronized Bd
  have hml : cd.maxLocals = 2 := hml0
  have hown : s.vm.findClass "java/lang/Math" = some m.cls := findClass_of_methodNamed Bd.named
  have hnm := (name_of_methodNamed Bd.named Bd.method).1
  have X0 : Stand p l e ({ frames := 0, cells := 0, slots := 0, locals := 0 } : Room) s m #[(.int p0), (.int p1)] below meth cd s₁ [] 0 0 := Stand.of_body Bd
  have e0 : s₁.heap = h0 := by rw [← hh, Bd.state]; rfl
  have N0 := Fr.nil n0
  have G : Go p e below s 0 0 (Qm Z p0 p1 h0 n0) (s₁.setTop (mkF m 0 #[.val (.int p0), .val (.int p1)] [])) := by
    show Go p e below s _ _ _ (s₁.setTop (mkF m 0 #[.val (.int p0), .val (.int p1)] []))
    refine Go.st (fun _ kq_ => XS.iloadN X0.here hx rfl (hb hby dm_0) rfl kq_) ?_
    show Go p e below s _ _ _ (s₁.setTop (mkF m 1 #[.val (.int p0), .val (.int p1)] [(.int p0)]))
    refine Go.st (fun _ kq_ => XS.iloadN X0.here hx rfl (hb hby dm_1) rfl kq_) ?_
    show Go p e below s _ _ _ (s₁.setTop (mkF m 2 #[.val (.int p0), .val (.int p1)] [(.int p1), (.int p0)]))
    by_cases c2_1 : p1 < p0
    · refine Go.st (fun _ kq_ => XS.icmpYes X0.here hx rfl (pc0 := 2) (pc' := 9) rfl (hb hby dm_2) rfl (XT.ii_gt_t c2_1) (by decide) (by decide) kq_) ?_
      show Go p e below s _ _ _ (s₁.setTop (mkF m 9 #[.val (.int p0), .val (.int p1)] []))
      refine Go.st (fun _ kq_ => XS.iloadN X0.here hx rfl (hb hby dm_9) rfl kq_) ?_
      show Go p e below s _ _ _ (s₁.setTop (mkF m 10 #[.val (.int p0), .val (.int p1)] [(.int p1)]))
      exact Go.ret X0 hlk (some (.int p1)) (fun h => by rw [Bd.returns] at h; cases h) (by rw [e0]; exact ⟨own_res (z' := p1) (by unfold fMin; rw [if_pos c2_1]) rfl, N0, rfl⟩) (by decide) (by decide) (fun fs hr => retI X0 hx Bd.returns (hb hby dm_10) hr)
    · refine Go.st (fun _ kq_ => XS.icmpNo X0.here hx rfl (hb hby dm_2) rfl (XT.ii_gt_f c2_1) kq_) ?_
      show Go p e below s _ _ _ (s₁.setTop (mkF m 5 #[.val (.int p0), .val (.int p1)] []))
      refine Go.st (fun _ kq_ => XS.iloadN X0.here hx rfl (hb hby dm_5) rfl kq_) ?_
      show Go p e below s _ _ _ (s₁.setTop (mkF m 6 #[.val (.int p0), .val (.int p1)] [(.int p0)]))
      refine Go.st (fun _ kq_ => XS.goto X0.here hx rfl (pc0 := 6) (pc' := 10) rfl (hb hby dm_6) (by decide) (by decide) kq_) ?_
      show Go p e below s _ _ _ (s₁.setTop (mkF m 10 #[.val (.int p0), .val (.int p1)] [(.int p0)]))
      exact Go.ret X0 hlk (some (.int p0)) (fun h => by rw [Bd.returns] at h; cases h) (by rw [e0]; exact ⟨own_res (z' := p0) (by unfold fMin; rw [if_neg c2_1]) rfl, N0, rfl⟩) (by decide) (by decide) (fun fs hr => retI X0 hx Bd.returns (hb hby dm_10) hr)
  obtain ⟨s2, o2, st2, r2⟩ := G
  exact ⟨s2, o2, castTop (efm m p0 p1) st2, r2⟩
theorem dc0_0 : decode jdk_65_method_121_code 0 = .ok (.iload_n 1, 1) := by decide +kernel
theorem dc0_1 : decode jdk_65_method_121_code 1 = .ok (.aload_n 0, 1) := by decide +kernel
theorem dc0_2 : decode jdk_65_method_121_code 2 = .ok (.arraylength, 1) := by decide +kernel
theorem dc0_3 : decode jdk_65_method_121_code 3 = .ok (.if_icmp .ne 11, 3) := by decide +kernel
theorem dc0_14 : decode jdk_65_method_121_code 14 = .ok (.iload_n 1, 1) := by decide +kernel
theorem dc0_15 : decode jdk_65_method_121_code 15 = .ok (.newarray .byte, 2) := by decide +kernel
theorem dc0_17 : decode jdk_65_method_121_code 17 = .ok (.astore_n 2, 1) := by decide +kernel
theorem dc0_18 : decode jdk_65_method_121_code 18 = .ok (.aload_n 0, 1) := by decide +kernel
theorem dc0_19 : decode jdk_65_method_121_code 19 = .ok (.iconst 0, 1) := by decide +kernel
theorem dc0_20 : decode jdk_65_method_121_code 20 = .ok (.aload_n 2, 1) := by decide +kernel
theorem dc0_21 : decode jdk_65_method_121_code 21 = .ok (.iconst 0, 1) := by decide +kernel
theorem dc0_22 : decode jdk_65_method_121_code 22 = .ok (.aload_n 0, 1) := by decide +kernel
theorem dc0_23 : decode jdk_65_method_121_code 23 = .ok (.arraylength, 1) := by decide +kernel
theorem dc0_24 : decode jdk_65_method_121_code 24 = .ok (.iload_n 1, 1) := by decide +kernel
theorem dc0_25 : decode jdk_65_method_121_code 25 = .ok (.invokestatic 304, 3) := by decide +kernel
theorem dc0_28 : decode jdk_65_method_121_code 28 = .ok (.invokestatic 150, 3) := by decide +kernel
theorem dc0_31 : decode jdk_65_method_121_code 31 = .ok (.aload_n 2, 1) := by decide +kernel
theorem dc0_32 : decode jdk_65_method_121_code 32 = .ok (.areturn, 1) := by decide +kernel
theorem pdc0_0 : parseMethodDescriptor "(II)I" = some ⟨[.int, .int], some .int⟩ := by decide +kernel
theorem pnc0 : plainName "java/util/Arrays" = true := by first | (simp [plainName, overriddenIn]; done) | decide +kernel
theorem efc0 (m : MethodId) (x0 : Addr) (x1 : Int32) : entryFrame m #[(.ref x0), (.int x1)] 3 = mkF m 0 #[.val (.ref x0), .val (.int x1), .unset] [] := by first | (simp [entryFrame, mkF, argsToLocals, Value.category, maxLocals]; done) | rfl
def Qc0 (Z : State) (a : Addr) (k : ClassId) (h0 : Heap) (n0 : Nat) (v : Option Value) (h : Heap) (L : List Loc) : Prop := ∃ (b : Addr) (kb : ClassId), v = some (.ref b) ∧ Fr n0 L ∧ Keep h0 h [] ∧ n0 ≤ b ∧ h0.size ≤ b ∧ Arv Z h b kb .byte (1 : Int32) [(.int (0 : Int32))] (.int (0 : Int32))
set_option maxRecDepth 65536 in
set_option maxHeartbeats 40000000 in
theorem rmc0 (l : Launch) (Z : State) (a0 : Array Value) (hw : ∀ d ∈ tables_1, d.before a0 Z = true) (ws : List Jvm.Cond) (a : Addr) (k : ClassId) (h0 : Heap) (n0 : Nat) (O0 : Old Z n0 h0) (V_a : Arv Z h0 a k .byte (0 : Int32) [] (.int (0 : Int32))) :
    MetFree l (⟨"java/util/Arrays", "copyOf", "([BI)[B"⟩ : MethodName) (head1 (Jvm.Cond.code (⟨"java/util/Arrays", "copyOf", "([BI)[B"⟩ : MethodName) jdk_65_method_121_code 3 (some (.array .byte)) :: ws) ({ frames := 1, cells := 1, slots := 1, locals := 22 } : Room)) (fun A_ U_ => A_ = #[(.ref a), (.int (1 : Int32))] ∧ Z.Warmed39 U_.vm ∧ U_.heap = h0) (fun _ _ _ _ _ => True) (fun _ U o U' => ∃ v L, o = .returned v ∧ Qc0 Z a k h0 n0 v U'.heap L ∧ FrameEnd U o U' L ({ frames := 1, cells := 1, slots := 1, locals := 22 } : Room).cells ({ frames := 1, cells := 1, slots := 1, locals := 22 } : Room).slots) := by
  refine MetFree.of_bodySF (plainFor_of_name pnc0) hisR ?_
  intro p e s m args below meth cd s₁ Bd hml0 hP hK
  obtain ⟨rfl, hZ, hh⟩ := hP
  have hx := Bd.exec
  have hby := Bd.bytes
  have hlk : meth.locks = false := BodyLoose.notSynchronized Bd
  have hml : cd.maxLocals = 3 := hml0
  have hown : s.vm.findClass "java/util/Arrays" = some m.cls := findClass_of_methodNamed Bd.named
  have hnm := (name_of_methodNamed Bd.named Bd.method).1
  have X0 : Stand p l e ({ frames := 1, cells := 1, slots := 1, locals := 22 } : Room) s m #[(.ref a), (.int (1 : Int32))] below meth cd s₁ [] 0 0 := Stand.of_body Bd
  have e0 : s₁.heap = h0 := by rw [← hh, Bd.state]; rfl
  have N0 := Fr.nil n0
  have K0 : Keep h0 h0 [] := Keep.refl _ _
  have G : Go p e below s 1 1 (Qc0 Z a k h0 n0) (s₁.setTop (mkF m 0 #[.val (.ref a), .val (.int (1 : Int32)), .unset] [])) := by
    show Go p e below s _ _ _ (s₁.setTop (mkF m 0 #[.val (.ref a), .val (.int (1 : Int32)), .unset] []))
    refine Go.st (fun _ kq_ => XS.iloadN X0.here hx rfl (hb hby dc0_0) rfl kq_) ?_
    show Go p e below s _ _ _ (s₁.setTop (mkF m 1 #[.val (.ref a), .val (.int (1 : Int32)), .unset] [(.int (1 : Int32))]))
    refine Go.st (fun _ kq_ => XS.aloadN X0.here hx rfl (hb hby dc0_1) rfl rfl kq_) ?_
    show Go p e below s _ _ _ (s₁.setTop (mkF m 2 #[.val (.ref a), .val (.int (1 : Int32)), .unset] [(.ref a), (.int (1 : Int32))]))
    refine Go.st (fun _ kq_ => own_len X0 hx hZ e0 V_a (g := (mkF m 2 #[.val (.ref a), .val (.int (1 : Int32)), .unset] [(.ref a), (.int (1 : Int32))])) rfl rfl (hb hby dc0_2) _ kq_) ?_
    show Go p e below s _ _ _ (s₁.setTop (mkF m 3 #[.val (.ref a), .val (.int (1 : Int32)), .unset] [(.int (0 : Int32)), (.int (1 : Int32))]))
    refine Go.st (fun _ kq_ => XS.icmpYes X0.here hx rfl (pc0 := 3) (pc' := 14) rfl (hb hby dc0_3) rfl (by decide) (by decide) (by decide) kq_) ?_
    show Go p e below s _ _ _ (s₁.setTop (mkF m 14 #[.val (.ref a), .val (.int (1 : Int32)), .unset] []))
    refine Go.st (fun _ kq_ => XS.iloadN X0.here hx rfl (hb hby dc0_14) rfl kq_) ?_
    show Go p e below s _ _ _ (s₁.setTop (mkF m 15 #[.val (.ref a), .val (.int (1 : Int32)), .unset] [(.int (1 : Int32))]))
    obtain ⟨T1, h1, k1, X1, e1, E1, A1, st1⟩ := newP X0 hx hZ (own_w hw 1 rfl) e0 (g := (mkF m 15 #[.val (.ref a), .val (.int (1 : Int32)), .unset] [(.int (1 : Int32))])) rfl (hb hby dc0_15) rfl (by decide) (cap := 1) (by decide) (by decide) (by decide) (by decide)
    obtain ⟨b1, g1⟩ : ∃ z, z = h0.size := ⟨_, rfl⟩
    rw [← g1] at A1 st1
    have g_b1 : n0 ≤ b1 := Nat.le_trans (own_old O0) (Nat.le_of_eq g1.symm)
    have sz_b1 : h0.size ≤ b1 := Nat.le_trans K0.1 (Nat.le_of_eq g1.symm)
    have ne_a_b1 : a ≠ b1 := by rw [g1]; exact Nat.ne_of_lt V_a.lt
    have V_a := V_a.ext E1
    have O1 := O0.ext E1
    have K1 := K0.ext E1
    have V_b1 : Arv Z h1 b1 k1 .byte (1 : Int32) [(.int (0 : Int32))] (.int (0 : Int32)) := (Arv.new A1 (by decide)).pad (pad_rep [] (.int (0 : Int32)) 1)
    refine Go.st st1 ?_
    show Go p e below s _ _ _ (T1.setTop (mkF m 17 #[.val (.ref a), .val (.int (1 : Int32)), .unset] [(.ref b1)]))
    refine Go.st (fun _ kq_ => XS.astoreN X1.here hx rfl (hb hby dc0_17) rfl rfl (l' := #[.val (.ref a), .val (.int (1 : Int32)), .val (.ref b1)]) rfl kq_) ?_
    show Go p e below s _ _ _ (T1.setTop (mkF m 18 #[.val (.ref a), .val (.int (1 : Int32)), .val (.ref b1)] []))
    refine Go.st (fun _ kq_ => XS.aloadN X1.here hx rfl (hb hby dc0_18) rfl rfl kq_) ?_
    show Go p e below s _ _ _ (T1.setTop (mkF m 19 #[.val (.ref a), .val (.int (1 : Int32)), .val (.ref b1)] [(.ref a)]))
    refine Go.st (fun _ kq_ => XS.iconst X1.here hx rfl (hb hby dc0_19) kq_) ?_
    show Go p e below s _ _ _ (T1.setTop (mkF m 20 #[.val (.ref a), .val (.int (1 : Int32)), .val (.ref b1)] [(.int (0 : Int32)), (.ref a)]))
    refine Go.st (fun _ kq_ => XS.aloadN X1.here hx rfl (hb hby dc0_20) rfl rfl kq_) ?_
    show Go p e below s _ _ _ (T1.setTop (mkF m 21 #[.val (.ref a), .val (.int (1 : Int32)), .val (.ref b1)] [(.ref b1), (.int (0 : Int32)), (.ref a)]))
    refine Go.st (fun _ kq_ => XS.iconst X1.here hx rfl (hb hby dc0_21) kq_) ?_
    show Go p e below s _ _ _ (T1.setTop (mkF m 22 #[.val (.ref a), .val (.int (1 : Int32)), .val (.ref b1)] [(.int (0 : Int32)), (.ref b1), (.int (0 : Int32)), (.ref a)]))
    refine Go.st (fun _ kq_ => XS.aloadN X1.here hx rfl (hb hby dc0_22) rfl rfl kq_) ?_
    show Go p e below s _ _ _ (T1.setTop (mkF m 23 #[.val (.ref a), .val (.int (1 : Int32)), .val (.ref b1)] [(.ref a), (.int (0 : Int32)), (.ref b1), (.int (0 : Int32)), (.ref a)]))
    refine Go.st (fun _ kq_ => own_len X1 hx hZ e1 V_a (g := (mkF m 23 #[.val (.ref a), .val (.int (1 : Int32)), .val (.ref b1)] [(.ref a), (.int (0 : Int32)), (.ref b1), (.int (0 : Int32)), (.ref a)])) rfl rfl (hb hby dc0_23) _ kq_) ?_
    show Go p e below s _ _ _ (T1.setTop (mkF m 24 #[.val (.ref a), .val (.int (1 : Int32)), .val (.ref b1)] [(.int (0 : Int32)), (.int (0 : Int32)), (.ref b1), (.int (0 : Int32)), (.ref a)]))
    refine Go.st (fun _ kq_ => XS.iloadN X1.here hx rfl (hb hby dc0_24) rfl kq_) ?_
    show Go p e below s _ _ _ (T1.setTop (mkF m 25 #[.val (.ref a), .val (.int (1 : Int32)), .val (.ref b1)] [(.int (1 : Int32)), (.int (0 : Int32)), (.int (0 : Int32)), (.ref b1), (.int (0 : Int32)), (.ref a)]))
    obtain ⟨_, _, ⟨T2, L2, k2, n2⟩, -, X2, ⟨Lc2, hQ2, l2, y2, z2⟩, st2⟩ := Jvm.LawKit.callS X1 hx (y := (⟨"java/lang/Math", "min", "(II)I"⟩ : MethodName)) hown (mvT hZ (own_w hw 10 rfl)) (mvT hZ (own_w hw 11 rfl)) (mvT hZ (own_w hw 12 rfl)) (mvT hZ (own_w hw 13 rfl)) (by decide) (backOf (W := 4) (rmm l Z a0 hw [] (0 : Int32) (1 : Int32) h1 n0 O1 ) hZ (own_w hw 13 rfl) (own_w hw 12 rfl) (by decide) (by decide)) (g := (mkF m 25 #[.val (.ref a), .val (.int (1 : Int32)), .val (.ref b1)] [(.int (1 : Int32)), (.int (0 : Int32)), (.int (0 : Int32)), (.ref b1), (.int (0 : Int32)), (.ref a)])) rfl (by rw [hml]; rfl) (argsL := [(.int (0 : Int32)), (.int (1 : Int32))]) (rest := [(.int (0 : Int32)), (.ref b1), (.int (0 : Int32)), (.ref a)]) (lenOf pdc0_0 rfl) rfl (by show 2 * 0 + _ ≤ _; exact Nat.le_of_eq rfl) (hb hby dc0_25) (fun _ _ => ⟨rfl, e1, (by decide : 1 + 0 ≤ _), (by decide : 1 + 0 ≤ _)⟩)
    dsimp only [Pt.U, Pt.locs, Pt.cells, Pt.slots] at X2 l2 y2 z2 st2 hQ2
    subst l2 y2 z2
    obtain ⟨rfl, Nc2, e2⟩ := hQ2
    have N2 := Fr.app N0 Nc2
    rw [(by decide : fMin (0 : Int32) (1 : Int32) = 0)] at st2
    refine Go.st st2 ?_
    show Go p e below s _ _ _ (T2.setTop (mkF m 28 #[.val (.ref a), .val (.int (1 : Int32)), .val (.ref b1)] [(.int (0 : Int32)), (.int (0 : Int32)), (.ref b1), (.int (0 : Int32)), (.ref a)]))
    obtain ⟨T3, h3, L3, X3, e3, N3, Kc3, V3, st3⟩ := cpA X2 hx hZ hown (own_w hw 14 rfl) (own_w hw 17 rfl) (own_w hw 15 rfl) (own_w hw 16 rfl) e2 V_a V_b1 (Or.inl ⟨rfl, rfl⟩) (by decide) (by decide) (by decide) (by decide) (by decide) (us := []) rfl (Nat.le_of_ble_eq_true rfl) N2 g_b1 (g := (mkF m 28 #[.val (.ref a), .val (.int (1 : Int32)), .val (.ref b1)] [(.int (0 : Int32)), (.int (0 : Int32)), (.ref b1), (.int (0 : Int32)), (.ref a)])) rfl (by rw [hml]; rfl) rfl (hb hby dc0_28) (by decide) (W := 0) (by show 2 * 0 + _ ≤ _; exact Nat.le_of_eq rfl) (by decide)
    have V_a := V_a.keep Kc3 (ninS ne_a_b1 nin0)
    have O3 := O1.keep Kc3 (allS g_b1 all0)
    have K3 := K1.trans Kc3 (allS (Or.inr sz_b1) all0)
    have V_b1 : Arv Z h3 b1 k1 .byte (1 : Int32) [(.int (0 : Int32))] (.int (0 : Int32)) := V3
    refine Go.st st3 ?_
    show Go p e below s _ _ _ (T3.setTop (mkF m 31 #[.val (.ref a), .val (.int (1 : Int32)), .val (.ref b1)] []))
    refine Go.st (fun _ kq_ => XS.aloadN X3.here hx rfl (hb hby dc0_31) rfl rfl kq_) ?_
    show Go p e below s _ _ _ (T3.setTop (mkF m 32 #[.val (.ref a), .val (.int (1 : Int32)), .val (.ref b1)] [(.ref b1)]))
    exact Go.ret X3 hlk (some (.ref b1)) (fun h => by rw [Bd.returns] at h; cases h) (by rw [e3]; exact ⟨b1, _, rfl, N3, K3, g_b1, sz_b1, V_b1⟩) (by decide) (by decide) (fun fs hr => retOut X3 hx Bd.returns rfl (Or.inr (Or.inr (Or.inr (Or.inr ⟨rfl, rfl, rfl⟩)))) (hb hby dc0_32) hr)
  obtain ⟨s2, o2, st2, r2⟩ := G
  exact ⟨s2, o2, castTop (efc0 m a (1 : Int32)) st2, r2⟩
theorem df0_0 : decode prog_6_method_2_code 0 = .ok (.aload_n 0, 1) := by decide +kernel
theorem df0_1 : decode prog_6_method_2_code 1 = .ok (.aload_n 0, 1) := by decide +kernel
theorem df0_2 : decode prog_6_method_2_code 2 = .ok (.arraylength, 1) := by decide +kernel
theorem df0_3 : decode prog_6_method_2_code 3 = .ok (.iconst 1, 1) := by decide +kernel
theorem df0_4 : decode prog_6_method_2_code 4 = .ok (.iadd, 1) := by decide +kernel
theorem df0_5 : decode prog_6_method_2_code 5 = .ok (.invokestatic 32, 3) := by decide +kernel
theorem df0_8 : decode prog_6_method_2_code 8 = .ok (.astore_n 1, 1) := by decide +kernel
theorem df0_9 : decode prog_6_method_2_code 9 = .ok (.aload_n 1, 1) := by decide +kernel
theorem df0_10 : decode prog_6_method_2_code 10 = .ok (.aload_n 0, 1) := by decide +kernel
theorem df0_11 : decode prog_6_method_2_code 11 = .ok (.arraylength, 1) := by decide +kernel
theorem df0_12 : decode prog_6_method_2_code 12 = .ok (.bipush 10, 2) := by decide +kernel
theorem df0_14 : decode prog_6_method_2_code 14 = .ok (.bastore, 1) := by decide +kernel
theorem df0_15 : decode prog_6_method_2_code 15 = .ok (.aload_n 1, 1) := by decide +kernel
theorem df0_16 : decode prog_6_method_2_code 16 = .ok (.areturn, 1) := by decide +kernel
theorem pdf0_0 : parseMethodDescriptor "([BI)[B" = some ⟨[(.array .byte), .int], some (.array .byte)⟩ := by decide +kernel
theorem pnf0 : plainName "com/example/duplexwire/duplexwire/protocol/LineFramer" = true := by first | (simp [plainName, overriddenIn]; done) | decide +kernel
theorem eff0 (m : MethodId) (x0 : Addr) : entryFrame m #[(.ref x0)] 2 = mkF m 0 #[.val (.ref x0), .unset] [] := by first | (simp [entryFrame, mkF, argsToLocals, Value.category, maxLocals]; done) | rfl
def Qf0 (Z : State) (a : Addr) (k : ClassId) (h0 : Heap) (n0 : Nat) (v : Option Value) (h : Heap) (L : List Loc) : Prop := ∃ (b : Addr) (kb : ClassId), v = some (.ref b) ∧ Fr n0 L ∧ Keep h0 h [] ∧ n0 ≤ b ∧ h0.size ≤ b ∧ Arv Z h b kb .byte (1 : Int32) [(.int (10 : Int32))] (.int (0 : Int32))
set_option maxRecDepth 65536 in
set_option maxHeartbeats 40000000 in
theorem rmf0 (l : Launch) (Z : State) (a0 : Array Value) (hw : ∀ d ∈ tables_1, d.before a0 Z = true) (ws : List Jvm.Cond) (a : Addr) (k : ClassId) (h0 : Heap) (n0 : Nat) (O0 : Old Z n0 h0) (V_a : Arv Z h0 a k .byte (0 : Int32) [] (.int (0 : Int32))) :
    MetFree l (⟨"com/example/duplexwire/duplexwire/protocol/LineFramer", "frame", "([B)[B"⟩ : MethodName) (head1 (Jvm.Cond.code (⟨"com/example/duplexwire/duplexwire/protocol/LineFramer", "frame", "([B)[B"⟩ : MethodName) prog_6_method_2_code 2 (some (.array .byte)) :: ws) ({ frames := 2, cells := 1, slots := 1, locals := 36 } : Room)) (fun A_ U_ => A_ = #[(.ref a)] ∧ Z.Warmed39 U_.vm ∧ U_.heap = h0) (fun _ _ _ _ _ => True) (fun _ U o U' => ∃ v L, o = .returned v ∧ Qf0 Z a k h0 n0 v U'.heap L ∧ FrameEnd U o U' L ({ frames := 2, cells := 1, slots := 1, locals := 36 } : Room).cells ({ frames := 2, cells := 1, slots := 1, locals := 36 } : Room).slots) := by
  refine MetFree.of_bodySF (plainFor_of_name pnf0) hisR ?_
  intro p e s m args below meth cd s₁ Bd hml0 hP hK
  obtain ⟨rfl, hZ, hh⟩ := hP
  have hx := Bd.exec
  have hby := Bd.bytes
  have hlk : meth.locks = false := BodyLoose.notSynchronized Bd
  have hml : cd.maxLocals = 2 := hml0
  have hown : s.vm.findClass "com/example/duplexwire/duplexwire/protocol/LineFramer" = some m.cls := findClass_of_methodNamed Bd.named
  have hnm := (name_of_methodNamed Bd.named Bd.method).1
  have X0 : Stand p l e ({ frames := 2, cells := 1, slots := 1, locals := 36 } : Room) s m #[(.ref a)] below meth cd s₁ [] 0 0 := Stand.of_body Bd
  have e0 : s₁.heap = h0 := by rw [← hh, Bd.state]; rfl
  have N0 := Fr.nil n0
  have K0 : Keep h0 h0 [] := Keep.refl _ _
  have G : Go p e below s 1 1 (Qf0 Z a k h0 n0) (s₁.setTop (mkF m 0 #[.val (.ref a), .unset] [])) := by
    show Go p e below s _ _ _ (s₁.setTop (mkF m 0 #[.val (.ref a), .unset] []))
    refine Go.st (fun _ kq_ => XS.aloadN X0.here hx rfl (hb hby df0_0) rfl rfl kq_) ?_
    show Go p e below s _ _ _ (s₁.setTop (mkF m 1 #[.val (.ref a), .unset] [(.ref a)]))
    refine Go.st (fun _ kq_ => XS.aloadN X0.here hx rfl (hb hby df0_1) rfl rfl kq_) ?_
    show Go p e below s _ _ _ (s₁.setTop (mkF m 2 #[.val (.ref a), .unset] [(.ref a), (.ref a)]))
    refine Go.st (fun _ kq_ => own_len X0 hx hZ e0 V_a (g := (mkF m 2 #[.val (.ref a), .unset] [(.ref a), (.ref a)])) rfl rfl (hb hby df0_2) _ kq_) ?_
    show Go p e below s _ _ _ (s₁.setTop (mkF m 3 #[.val (.ref a), .unset] [(.int (0 : Int32)), (.ref a)]))
    refine Go.st (fun _ kq_ => XS.iconst X0.here hx rfl (hb hby df0_3) kq_) ?_
    show Go p e below s _ _ _ (s₁.setTop (mkF m 4 #[.val (.ref a), .unset] [(.int (1 : Int32)), (.int (0 : Int32)), (.ref a)]))
    refine Go.st (fun _ kq_ => XS.iadd X0.here hx rfl (hb hby df0_4) rfl kq_) ?_
    show Go p e below s _ _ _ (s₁.setTop (mkF m 5 #[.val (.ref a), .unset] [(.int (1 : Int32)), (.ref a)]))
    obtain ⟨_, _, ⟨T1, L1, k1, n1⟩, -, X1, ⟨Lc1, hQ1, l1, y1, z1⟩, st1⟩ := Jvm.LawKit.callS X0 hx (y := (⟨"java/util/Arrays", "copyOf", "([BI)[B"⟩ : MethodName)) hown (mvT hZ (own_w hw 6 rfl)) (mvT hZ (own_w hw 7 rfl)) (mvT hZ (own_w hw 8 rfl)) (mvT hZ (own_w hw 9 rfl)) (by decide) (backOf (W := 0) (rmc0 l Z a0 hw [] a k h0 n0 O0 V_a) hZ (own_w hw 9 rfl) (own_w hw 8 rfl) (by decide) (by decide)) (g := (mkF m 5 #[.val (.ref a), .unset] [(.int (1 : Int32)), (.ref a)])) rfl (by rw [hml]; rfl) (argsL := [(.ref a), (.int (1 : Int32))]) (rest := []) (lenOf pdf0_0 rfl) rfl (by show 2 * 0 + _ ≤ _; exact Nat.le_of_eq rfl) (hb hby df0_5) (fun _ _ => ⟨rfl, e0, (by decide : 0 + 1 ≤ _), (by decide : 0 + 1 ≤ _)⟩)
    dsimp only [Pt.U, Pt.locs, Pt.cells, Pt.slots] at X1 l1 y1 z1 st1 hQ1
    subst l1 y1 z1
    obtain ⟨b1, kb1, rfl, Nc1, Kc1, gb1, szb1, Vb1⟩ := hQ1
    have N1 := Fr.app N0 Nc1
    have g_b1 : n0 ≤ b1 := gb1
    have sz_b1 : h0.size ≤ b1 := Nat.le_trans K0.1 szb1
    have ne_a_b1 : a ≠ b1 := Nat.ne_of_lt (Nat.lt_of_lt_of_le V_a.lt szb1)
    have V_a := V_a.keep Kc1 nin0
    have O1 := O0.keep Kc1 all0
    have K1 := K0.trans Kc1 all0
    have V_b1 : Arv Z T1.heap b1 kb1 .byte (1 : Int32) [(.int (0 : Int32))] (.int (0 : Int32)) := Vb1
    refine Go.st st1 ?_
    show Go p e below s _ _ _ (T1.setTop (mkF m 8 #[.val (.ref a), .unset] [(.ref b1)]))
    refine Go.st (fun _ kq_ => XS.astoreN X1.here hx rfl (hb hby df0_8) rfl rfl (l' := #[.val (.ref a), .val (.ref b1)]) rfl kq_) ?_
    show Go p e below s _ _ _ (T1.setTop (mkF m 9 #[.val (.ref a), .val (.ref b1)] []))
    refine Go.st (fun _ kq_ => XS.aloadN X1.here hx rfl (hb hby df0_9) rfl rfl kq_) ?_
    show Go p e below s _ _ _ (T1.setTop (mkF m 10 #[.val (.ref a), .val (.ref b1)] [(.ref b1)]))
    refine Go.st (fun _ kq_ => XS.aloadN X1.here hx rfl (hb hby df0_10) rfl rfl kq_) ?_
    show Go p e below s _ _ _ (T1.setTop (mkF m 11 #[.val (.ref a), .val (.ref b1)] [(.ref a), (.ref b1)]))
    refine Go.st (fun _ kq_ => own_len X1 hx hZ rfl V_a (g := (mkF m 11 #[.val (.ref a), .val (.ref b1)] [(.ref a), (.ref b1)])) rfl rfl (hb hby df0_11) _ kq_) ?_
    show Go p e below s _ _ _ (T1.setTop (mkF m 12 #[.val (.ref a), .val (.ref b1)] [(.int (0 : Int32)), (.ref b1)]))
    refine Go.st (fun _ kq_ => XS.bipush X1.here hx rfl (hb hby df0_12) kq_) ?_
    show Go p e below s _ _ _ (T1.setTop (mkF m 14 #[.val (.ref a), .val (.ref b1)] [(.int (10 : Int32)), (.int (0 : Int32)), (.ref b1)]))
    obtain ⟨T2, h2, X2, e2, W2, V2, st2⟩ := own_stB X1 hx hZ rfl V_b1 (j := (0 : Int32)) (by decide) (by decide) 0 rfl (Nat.le_of_ble_eq_true rfl) (g := (mkF m 14 #[.val (.ref a), .val (.ref b1)] [(.int (10 : Int32)), (.int (0 : Int32)), (.ref b1)])) rfl rfl (hb hby df0_14)
    have N2 := Fr.snoc X2 N1 g_b1
    have O2 := O1.wr W2 g_b1
    have K2 := K1.wr W2 (Or.inr sz_b1)
    have V_a := V_a.other W2 ne_a_b1
    have V_b1 : Arv Z h2 b1 kb1 .byte (1 : Int32) [(.int (10 : Int32))] (.int (0 : Int32)) := V2
    refine Go.st st2 ?_
    show Go p e below s _ _ _ (T2.setTop (mkF m 15 #[.val (.ref a), .val (.ref b1)] []))
    refine Go.st (fun _ kq_ => XS.aloadN X2.here hx rfl (hb hby df0_15) rfl rfl kq_) ?_
    show Go p e below s _ _ _ (T2.setTop (mkF m 16 #[.val (.ref a), .val (.ref b1)] [(.ref b1)]))
    exact Go.ret X2 hlk (some (.ref b1)) (fun h => by rw [Bd.returns] at h; cases h) (by rw [e2]; exact ⟨b1, _, rfl, N2, K2, g_b1, sz_b1, V_b1⟩) (by decide) (by decide) (fun fs hr => retOut X2 hx Bd.returns rfl (Or.inr (Or.inr (Or.inr (Or.inr ⟨rfl, rfl, rfl⟩)))) (hb hby df0_16) hr)
  obtain ⟨s2, o2, st2, r2⟩ := G
  exact ⟨s2, o2, castTop (eff0 m a) st2, r2⟩
theorem dc1_0 : decode jdk_65_method_121_code 0 = .ok (.iload_n 1, 1) := by decide +kernel
theorem dc1_1 : decode jdk_65_method_121_code 1 = .ok (.aload_n 0, 1) := by decide +kernel
theorem dc1_2 : decode jdk_65_method_121_code 2 = .ok (.arraylength, 1) := by decide +kernel
theorem dc1_3 : decode jdk_65_method_121_code 3 = .ok (.if_icmp .ne 11, 3) := by decide +kernel
theorem dc1_14 : decode jdk_65_method_121_code 14 = .ok (.iload_n 1, 1) := by decide +kernel
theorem dc1_15 : decode jdk_65_method_121_code 15 = .ok (.newarray .byte, 2) := by decide +kernel
theorem dc1_17 : decode jdk_65_method_121_code 17 = .ok (.astore_n 2, 1) := by decide +kernel
theorem dc1_18 : decode jdk_65_method_121_code 18 = .ok (.aload_n 0, 1) := by decide +kernel
theorem dc1_19 : decode jdk_65_method_121_code 19 = .ok (.iconst 0, 1) := by decide +kernel
theorem dc1_20 : decode jdk_65_method_121_code 20 = .ok (.aload_n 2, 1) := by decide +kernel
theorem dc1_21 : decode jdk_65_method_121_code 21 = .ok (.iconst 0, 1) := by decide +kernel
theorem dc1_22 : decode jdk_65_method_121_code 22 = .ok (.aload_n 0, 1) := by decide +kernel
theorem dc1_23 : decode jdk_65_method_121_code 23 = .ok (.arraylength, 1) := by decide +kernel
theorem dc1_24 : decode jdk_65_method_121_code 24 = .ok (.iload_n 1, 1) := by decide +kernel
theorem dc1_25 : decode jdk_65_method_121_code 25 = .ok (.invokestatic 304, 3) := by decide +kernel
theorem dc1_28 : decode jdk_65_method_121_code 28 = .ok (.invokestatic 150, 3) := by decide +kernel
theorem dc1_31 : decode jdk_65_method_121_code 31 = .ok (.aload_n 2, 1) := by decide +kernel
theorem dc1_32 : decode jdk_65_method_121_code 32 = .ok (.areturn, 1) := by decide +kernel
theorem pdc1_0 : parseMethodDescriptor "(II)I" = some ⟨[.int, .int], some .int⟩ := by decide +kernel
theorem pnc1 : plainName "java/util/Arrays" = true := by first | (simp [plainName, overriddenIn]; done) | decide +kernel
theorem efc1 (m : MethodId) (x0 : Addr) (x1 : Int32) : entryFrame m #[(.ref x0), (.int x1)] 3 = mkF m 0 #[.val (.ref x0), .val (.int x1), .unset] [] := by first | (simp [entryFrame, mkF, argsToLocals, Value.category, maxLocals]; done) | rfl
def Qc1 (Z : State) (a : Addr) (k : ClassId) (x0 : Int32) (h0 : Heap) (n0 : Nat) (v : Option Value) (h : Heap) (L : List Loc) : Prop := ∃ (b : Addr) (kb : ClassId), v = some (.ref b) ∧ Fr n0 L ∧ Keep h0 h [] ∧ n0 ≤ b ∧ h0.size ≤ b ∧ Arv Z h b kb .byte (2 : Int32) [(.int x0), (.int (0 : Int32))] (.int (0 : Int32))
set_option maxRecDepth 65536 in
set_option maxHeartbeats 40000000 in
theorem rmc1 (l : Launch) (Z : State) (a0 : Array Value) (hw : ∀ d ∈ tables_1, d.before a0 Z = true) (ws : List Jvm.Cond) (a : Addr) (k : ClassId) (x0 : Int32) (h0 : Heap) (n0 : Nat) (O0 : Old Z n0 h0) (V_a : Arv Z h0 a k .byte (1 : Int32) [(.int x0)] (.int (0 : Int32))) :
    MetFree l (⟨"java/util/Arrays", "copyOf", "([BI)[B"⟩ : MethodName) (head1 (Jvm.Cond.code (⟨"java/util/Arrays", "copyOf", "([BI)[B"⟩ : MethodName) jdk_65_method_121_code 3 (some (.array .byte)) :: ws) ({ frames := 1, cells := 1, slots := 2, locals := 22 } : Room)) (fun A_ U_ => A_ = #[(.ref a), (.int (2 : Int32))] ∧ Z.Warmed39 U_.vm ∧ U_.heap = h0) (fun _ _ _ _ _ => True) (fun _ U o U' => ∃ v L, o = .returned v ∧ Qc1 Z a k x0 h0 n0 v U'.heap L ∧ FrameEnd U o U' L ({ frames := 1, cells := 1, slots := 2, locals := 22 } : Room).cells ({ frames := 1, cells := 1, slots := 2, locals := 22 } : Room).slots) := by
  refine MetFree.of_bodySF (plainFor_of_name pnc1) hisR ?_
  intro p e s m args below meth cd s₁ Bd hml0 hP hK
  obtain ⟨rfl, hZ, hh⟩ := hP
  have hx := Bd.exec
  have hby := Bd.bytes
  have hlk : meth.locks = false := BodyLoose.notSynchronized Bd
  have hml : cd.maxLocals = 3 := hml0
  have hown : s.vm.findClass "java/util/Arrays" = some m.cls := findClass_of_methodNamed Bd.named
  have hnm := (name_of_methodNamed Bd.named Bd.method).1
  have X0 : Stand p l e ({ frames := 1, cells := 1, slots := 2, locals := 22 } : Room) s m #[(.ref a), (.int (2 : Int32))] below meth cd s₁ [] 0 0 := Stand.of_body Bd
  have e0 : s₁.heap = h0 := by rw [← hh, Bd.state]; rfl
  have N0 := Fr.nil n0
  have K0 : Keep h0 h0 [] := Keep.refl _ _
  have G : Go p e below s 1 2 (Qc1 Z a k x0 h0 n0) (s₁.setTop (mkF m 0 #[.val (.ref a), .val (.int (2 : Int32)), .unset] [])) := by
    show Go p e below s _ _ _ (s₁.setTop (mkF m 0 #[.val (.ref a), .val (.int (2 : Int32)), .unset] []))
    refine Go.st (fun _ kq_ => XS.iloadN X0.here hx rfl (hb hby dc1_0) rfl kq_) ?_
    show Go p e below s _ _ _ (s₁.setTop (mkF m 1 #[.val (.ref a), .val (.int (2 : Int32)), .unset] [(.int (2 : Int32))]))
    refine Go.st (fun _ kq_ => XS.aloadN X0.here hx rfl (hb hby dc1_1) rfl rfl kq_) ?_
    show Go p e below s _ _ _ (s₁.setTop (mkF m 2 #[.val (.ref a), .val (.int (2 : Int32)), .unset] [(.ref a), (.int (2 : Int32))]))
    refine Go.st (fun _ kq_ => own_len X0 hx hZ e0 V_a (g := (mkF m 2 #[.val (.ref a), .val (.int (2 : Int32)), .unset] [(.ref a), (.int (2 : Int32))])) rfl rfl (hb hby dc1_2) _ kq_) ?_
    show Go p e below s _ _ _ (s₁.setTop (mkF m 3 #[.val (.ref a), .val (.int (2 : Int32)), .unset] [(.int (1 : Int32)), (.int (2 : Int32))]))
    refine Go.st (fun _ kq_ => XS.icmpYes X0.here hx rfl (pc0 := 3) (pc' := 14) rfl (hb hby dc1_3) rfl (by decide) (by decide) (by decide) kq_) ?_
    show Go p e below s _ _ _ (s₁.setTop (mkF m 14 #[.val (.ref a), .val (.int (2 : Int32)), .unset] []))
    refine Go.st (fun _ kq_ => XS.iloadN X0.here hx rfl (hb hby dc1_14) rfl kq_) ?_
    show Go p e below s _ _ _ (s₁.setTop (mkF m 15 #[.val (.ref a), .val (.int (2 : Int32)), .unset] [(.int (2 : Int32))]))
    obtain ⟨T1, h1, k1, X1, e1, E1, A1, st1⟩ := newP X0 hx hZ (own_w hw 1 rfl) e0 (g := (mkF m 15 #[.val (.ref a), .val (.int (2 : Int32)), .unset] [(.int (2 : Int32))])) rfl (hb hby dc1_15) rfl (by decide) (cap := 2) (by decide) (by decide) (by decide) (by decide)
    obtain ⟨b1, g1⟩ : ∃ z, z = h0.size := ⟨_, rfl⟩
    rw [← g1] at A1 st1
    have g_b1 : n0 ≤ b1 := Nat.le_trans (own_old O0) (Nat.le_of_eq g1.symm)
    have sz_b1 : h0.size ≤ b1 := Nat.le_trans K0.1 (Nat.le_of_eq g1.symm)
    have ne_a_b1 : a ≠ b1 := by rw [g1]; exact Nat.ne_of_lt V_a.lt
    have V_a := V_a.ext E1
    have O1 := O0.ext E1
    have K1 := K0.ext E1
    have V_b1 : Arv Z h1 b1 k1 .byte (2 : Int32) [(.int (0 : Int32)), (.int (0 : Int32))] (.int (0 : Int32)) := (Arv.new A1 (by decide)).pad (pad_rep [] (.int (0 : Int32)) 2)
    refine Go.st st1 ?_
    show Go p e below s _ _ _ (T1.setTop (mkF m 17 #[.val (.ref a), .val (.int (2 : Int32)), .unset] [(.ref b1)]))
    refine Go.st (fun _ kq_ => XS.astoreN X1.here hx rfl (hb hby dc1_17) rfl rfl (l' := #[.val (.ref a), .val (.int (2 : Int32)), .val (.ref b1)]) rfl kq_) ?_
    show Go p e below s _ _ _ (T1.setTop (mkF m 18 #[.val (.ref a), .val (.int (2 : Int32)), .val (.ref b1)] []))
    refine Go.st (fun _ kq_ => XS.aloadN X1.here hx rfl (hb hby dc1_18) rfl rfl kq_) ?_
    show Go p e below s _ _ _ (T1.setTop (mkF m 19 #[.val (.ref a), .val (.int (2 : Int32)), .val (.ref b1)] [(.ref a)]))
    refine Go.st (fun _ kq_ => XS.iconst X1.here hx rfl (hb hby dc1_19) kq_) ?_
    show Go p e below s _ _ _ (T1.setTop (mkF m 20 #[.val (.ref a), .val (.int (2 : Int32)), .val (.ref b1)] [(.int (0 : Int32)), (.ref a)]))
    refine Go.st (fun _ kq_ => XS.aloadN X1.here hx rfl (hb hby dc1_20) rfl rfl kq_) ?_
    show Go p e below s _ _ _ (T1.setTop (mkF m 21 #[.val (.ref a), .val (.int (2 : Int32)), .val (.ref b1)] [(.ref b1), (.int (0 : Int32)), (.ref a)]))
    refine Go.st (fun _ kq_ => XS.iconst X1.here hx rfl (hb hby dc1_21) kq_) ?_
    show Go p e below s _ _ _ (T1.setTop (mkF m 22 #[.val (.ref a), .val (.int (2 : Int32)), .val (.ref b1)] [(.int (0 : Int32)), (.ref b1), (.int (0 : Int32)), (.ref a)]))
    refine Go.st (fun _ kq_ => XS.aloadN X1.here hx rfl (hb hby dc1_22) rfl rfl kq_) ?_
    show Go p e below s _ _ _ (T1.setTop (mkF m 23 #[.val (.ref a), .val (.int (2 : Int32)), .val (.ref b1)] [(.ref a), (.int (0 : Int32)), (.ref b1), (.int (0 : Int32)), (.ref a)]))
    refine Go.st (fun _ kq_ => own_len X1 hx hZ e1 V_a (g := (mkF m 23 #[.val (.ref a), .val (.int (2 : Int32)), .val (.ref b1)] [(.ref a), (.int (0 : Int32)), (.ref b1), (.int (0 : Int32)), (.ref a)])) rfl rfl (hb hby dc1_23) _ kq_) ?_
    show Go p e below s _ _ _ (T1.setTop (mkF m 24 #[.val (.ref a), .val (.int (2 : Int32)), .val (.ref b1)] [(.int (1 : Int32)), (.int (0 : Int32)), (.ref b1), (.int (0 : Int32)), (.ref a)]))
    refine Go.st (fun _ kq_ => XS.iloadN X1.here hx rfl (hb hby dc1_24) rfl kq_) ?_
    show Go p e below s _ _ _ (T1.setTop (mkF m 25 #[.val (.ref a), .val (.int (2 : Int32)), .val (.ref b1)] [(.int (2 : Int32)), (.int (1 : Int32)), (.int (0 : Int32)), (.ref b1), (.int (0 : Int32)), (.ref a)]))
    obtain ⟨_, _, ⟨T2, L2, k2, n2⟩, -, X2, ⟨Lc2, hQ2, l2, y2, z2⟩, st2⟩ := Jvm.LawKit.callS X1 hx (y := (⟨"java/lang/Math", "min", "(II)I"⟩ : MethodName)) hown (mvT hZ (own_w hw 10 rfl)) (mvT hZ (own_w hw 11 rfl)) (mvT hZ (own_w hw 12 rfl)) (mvT hZ (own_w hw 13 rfl)) (by decide) (backOf (W := 4) (rmm l Z a0 hw [] (1 : Int32) (2 : Int32) h1 n0 O1 ) hZ (own_w hw 13 rfl) (own_w hw 12 rfl) (by decide) (by decide)) (g := (mkF m 25 #[.val (.ref a), .val (.int (2 : Int32)), .val (.ref b1)] [(.int (2 : Int32)), (.int (1 : Int32)), (.int (0 : Int32)), (.ref b1), (.int (0 : Int32)), (.ref a)])) rfl (by rw [hml]; rfl) (argsL := [(.int (1 : Int32)), (.int (2 : Int32))]) (rest := [(.int (0 : Int32)), (.ref b1), (.int (0 : Int32)), (.ref a)]) (lenOf pdc1_0 rfl) rfl (by show 2 * 0 + _ ≤ _; exact Nat.le_of_eq rfl) (hb hby dc1_25) (fun _ _ => ⟨rfl, e1, (by decide : 1 + 0 ≤ _), (by decide : 2 + 0 ≤ _)⟩)
    dsimp only [Pt.U, Pt.locs, Pt.cells, Pt.slots] at X2 l2 y2 z2 st2 hQ2
    subst l2 y2 z2
    obtain ⟨rfl, Nc2, e2⟩ := hQ2
    have N2 := Fr.app N0 Nc2
    rw [(by decide : fMin (1 : Int32) (2 : Int32) = 1)] at st2
    refine Go.st st2 ?_
    show Go p e below s _ _ _ (T2.setTop (mkF m 28 #[.val (.ref a), .val (.int (2 : Int32)), .val (.ref b1)] [(.int (1 : Int32)), (.int (0 : Int32)), (.ref b1), (.int (0 : Int32)), (.ref a)]))
    obtain ⟨T3, h3, L3, X3, e3, N3, Kc3, V3, st3⟩ := cpA X2 hx hZ hown (own_w hw 14 rfl) (own_w hw 17 rfl) (own_w hw 15 rfl) (own_w hw 16 rfl) e2 V_a V_b1 (Or.inl ⟨rfl, rfl⟩) (by decide) (by decide) (by decide) (by decide) (by decide) (us := [(.int x0)]) rfl (Nat.le_of_ble_eq_true rfl) N2 g_b1 (g := (mkF m 28 #[.val (.ref a), .val (.int (2 : Int32)), .val (.ref b1)] [(.int (1 : Int32)), (.int (0 : Int32)), (.ref b1), (.int (0 : Int32)), (.ref a)])) rfl (by rw [hml]; rfl) rfl (hb hby dc1_28) (by decide) (W := 0) (by show 2 * 0 + _ ≤ _; exact Nat.le_of_eq rfl) (by decide)
    have V_a := V_a.keep Kc3 (ninS ne_a_b1 nin0)
    have O3 := O1.keep Kc3 (allS g_b1 all0)
    have K3 := K1.trans Kc3 (allS (Or.inr sz_b1) all0)
    have V_b1 : Arv Z h3 b1 k1 .byte (2 : Int32) [(.int x0), (.int (0 : Int32))] (.int (0 : Int32)) := V3
    refine Go.st st3 ?_
    show Go p e below s _ _ _ (T3.setTop (mkF m 31 #[.val (.ref a), .val (.int (2 : Int32)), .val (.ref b1)] []))
    refine Go.st (fun _ kq_ => XS.aloadN X3.here hx rfl (hb hby dc1_31) rfl rfl kq_) ?_
    show Go p e below s _ _ _ (T3.setTop (mkF m 32 #[.val (.ref a), .val (.int (2 : Int32)), .val (.ref b1)] [(.ref b1)]))
    exact Go.ret X3 hlk (some (.ref b1)) (fun h => by rw [Bd.returns] at h; cases h) (by rw [e3]; exact ⟨b1, _, rfl, N3, K3, g_b1, sz_b1, V_b1⟩) (by decide) (by decide) (fun fs hr => retOut X3 hx Bd.returns rfl (Or.inr (Or.inr (Or.inr (Or.inr ⟨rfl, rfl, rfl⟩)))) (hb hby dc1_32) hr)
  obtain ⟨s2, o2, st2, r2⟩ := G
  exact ⟨s2, o2, castTop (efc1 m a (2 : Int32)) st2, r2⟩
theorem df1_0 : decode prog_6_method_2_code 0 = .ok (.aload_n 0, 1) := by decide +kernel
theorem df1_1 : decode prog_6_method_2_code 1 = .ok (.aload_n 0, 1) := by decide +kernel
theorem df1_2 : decode prog_6_method_2_code 2 = .ok (.arraylength, 1) := by decide +kernel
theorem df1_3 : decode prog_6_method_2_code 3 = .ok (.iconst 1, 1) := by decide +kernel
theorem df1_4 : decode prog_6_method_2_code 4 = .ok (.iadd, 1) := by decide +kernel
theorem df1_5 : decode prog_6_method_2_code 5 = .ok (.invokestatic 32, 3) := by decide +kernel
theorem df1_8 : decode prog_6_method_2_code 8 = .ok (.astore_n 1, 1) := by decide +kernel
theorem df1_9 : decode prog_6_method_2_code 9 = .ok (.aload_n 1, 1) := by decide +kernel
theorem df1_10 : decode prog_6_method_2_code 10 = .ok (.aload_n 0, 1) := by decide +kernel
theorem df1_11 : decode prog_6_method_2_code 11 = .ok (.arraylength, 1) := by decide +kernel
theorem df1_12 : decode prog_6_method_2_code 12 = .ok (.bipush 10, 2) := by decide +kernel
theorem df1_14 : decode prog_6_method_2_code 14 = .ok (.bastore, 1) := by decide +kernel
theorem df1_15 : decode prog_6_method_2_code 15 = .ok (.aload_n 1, 1) := by decide +kernel
theorem df1_16 : decode prog_6_method_2_code 16 = .ok (.areturn, 1) := by decide +kernel
theorem pdf1_0 : parseMethodDescriptor "([BI)[B" = some ⟨[(.array .byte), .int], some (.array .byte)⟩ := by decide +kernel
theorem pnf1 : plainName "com/example/duplexwire/duplexwire/protocol/LineFramer" = true := by first | (simp [plainName, overriddenIn]; done) | decide +kernel
theorem eff1 (m : MethodId) (x0 : Addr) : entryFrame m #[(.ref x0)] 2 = mkF m 0 #[.val (.ref x0), .unset] [] := by first | (simp [entryFrame, mkF, argsToLocals, Value.category, maxLocals]; done) | rfl
def Qf1 (Z : State) (a : Addr) (k : ClassId) (x0 : Int32) (h0 : Heap) (n0 : Nat) (v : Option Value) (h : Heap) (L : List Loc) : Prop := ∃ (b : Addr) (kb : ClassId), v = some (.ref b) ∧ Fr n0 L ∧ Keep h0 h [] ∧ n0 ≤ b ∧ h0.size ≤ b ∧ Arv Z h b kb .byte (2 : Int32) [(.int x0), (.int (10 : Int32))] (.int (0 : Int32))
set_option maxRecDepth 65536 in
set_option maxHeartbeats 40000000 in
theorem rmf1 (l : Launch) (Z : State) (a0 : Array Value) (hw : ∀ d ∈ tables_1, d.before a0 Z = true) (ws : List Jvm.Cond) (a : Addr) (k : ClassId) (x0 : Int32) (h0 : Heap) (n0 : Nat) (O0 : Old Z n0 h0) (V_a : Arv Z h0 a k .byte (1 : Int32) [(.int x0)] (.int (0 : Int32))) :
    MetFree l (⟨"com/example/duplexwire/duplexwire/protocol/LineFramer", "frame", "([B)[B"⟩ : MethodName) (head1 (Jvm.Cond.code (⟨"com/example/duplexwire/duplexwire/protocol/LineFramer", "frame", "([B)[B"⟩ : MethodName) prog_6_method_2_code 2 (some (.array .byte)) :: ws) ({ frames := 2, cells := 1, slots := 2, locals := 36 } : Room)) (fun A_ U_ => A_ = #[(.ref a)] ∧ Z.Warmed39 U_.vm ∧ U_.heap = h0) (fun _ _ _ _ _ => True) (fun _ U o U' => ∃ v L, o = .returned v ∧ Qf1 Z a k x0 h0 n0 v U'.heap L ∧ FrameEnd U o U' L ({ frames := 2, cells := 1, slots := 2, locals := 36 } : Room).cells ({ frames := 2, cells := 1, slots := 2, locals := 36 } : Room).slots) := by
  refine MetFree.of_bodySF (plainFor_of_name pnf1) hisR ?_
  intro p e s m args below meth cd s₁ Bd hml0 hP hK
  obtain ⟨rfl, hZ, hh⟩ := hP
  have hx := Bd.exec
  have hby := Bd.bytes
  have hlk : meth.locks = false := BodyLoose.notSynchronized Bd
  have hml : cd.maxLocals = 2 := hml0
  have hown : s.vm.findClass "com/example/duplexwire/duplexwire/protocol/LineFramer" = some m.cls := findClass_of_methodNamed Bd.named
  have hnm := (name_of_methodNamed Bd.named Bd.method).1
  have X0 : Stand p l e ({ frames := 2, cells := 1, slots := 2, locals := 36 } : Room) s m #[(.ref a)] below meth cd s₁ [] 0 0 := Stand.of_body Bd
  have e0 : s₁.heap = h0 := by rw [← hh, Bd.state]; rfl
  have N0 := Fr.nil n0
  have K0 : Keep h0 h0 [] := Keep.refl _ _
  have G : Go p e below s 1 2 (Qf1 Z a k x0 h0 n0) (s₁.setTop (mkF m 0 #[.val (.ref a), .unset] [])) := by
    show Go p e below s _ _ _ (s₁.setTop (mkF m 0 #[.val (.ref a), .unset] []))
    refine Go.st (fun _ kq_ => XS.aloadN X0.here hx rfl (hb hby df1_0) rfl rfl kq_) ?_
    show Go p e below s _ _ _ (s₁.setTop (mkF m 1 #[.val (.ref a), .unset] [(.ref a)]))
    refine Go.st (fun _ kq_ => XS.aloadN X0.here hx rfl (hb hby df1_1) rfl rfl kq_) ?_
    show Go p e below s _ _ _ (s₁.setTop (mkF m 2 #[.val (.ref a), .unset] [(.ref a), (.ref a)]))
    refine Go.st (fun _ kq_ => own_len X0 hx hZ e0 V_a (g := (mkF m 2 #[.val (.ref a), .unset] [(.ref a), (.ref a)])) rfl rfl (hb hby df1_2) _ kq_) ?_
    show Go p e below s _ _ _ (s₁.setTop (mkF m 3 #[.val (.ref a), .unset] [(.int (1 : Int32)), (.ref a)]))
    refine Go.st (fun _ kq_ => XS.iconst X0.here hx rfl (hb hby df1_3) kq_) ?_
    show Go p e below s _ _ _ (s₁.setTop (mkF m 4 #[.val (.ref a), .unset] [(.int (1 : Int32)), (.int (1 : Int32)), (.ref a)]))
    refine Go.st (fun _ kq_ => XS.iadd X0.here hx rfl (hb hby df1_4) rfl kq_) ?_
    show Go p e below s _ _ _ (s₁.setTop (mkF m 5 #[.val (.ref a), .unset] [(.int (2 : Int32)), (.ref a)]))
    obtain ⟨_, _, ⟨T1, L1, k1, n1⟩, -, X1, ⟨Lc1, hQ1, l1, y1, z1⟩, st1⟩ := Jvm.LawKit.callS X0 hx (y := (⟨"java/util/Arrays", "copyOf", "([BI)[B"⟩ : MethodName)) hown (mvT hZ (own_w hw 6 rfl)) (mvT hZ (own_w hw 7 rfl)) (mvT hZ (own_w hw 8 rfl)) (mvT hZ (own_w hw 9 rfl)) (by decide) (backOf (W := 0) (rmc1 l Z a0 hw [] a k x0 h0 n0 O0 V_a) hZ (own_w hw 9 rfl) (own_w hw 8 rfl) (by decide) (by decide)) (g := (mkF m 5 #[.val (.ref a), .unset] [(.int (2 : Int32)), (.ref a)])) rfl (by rw [hml]; rfl) (argsL := [(.ref a), (.int (2 : Int32))]) (rest := []) (lenOf pdf1_0 rfl) rfl (by show 2 * 0 + _ ≤ _; exact Nat.le_of_eq rfl) (hb hby df1_5) (fun _ _ => ⟨rfl, e0, (by decide : 0 + 1 ≤ _), (by decide : 0 + 2 ≤ _)⟩)
    dsimp only [Pt.U, Pt.locs, Pt.cells, Pt.slots] at X1 l1 y1 z1 st1 hQ1
    subst l1 y1 z1
    obtain ⟨b1, kb1, rfl, Nc1, Kc1, gb1, szb1, Vb1⟩ := hQ1
    have N1 := Fr.app N0 Nc1
    have g_b1 : n0 ≤ b1 := gb1
    have sz_b1 : h0.size ≤ b1 := Nat.le_trans K0.1 szb1
    have ne_a_b1 : a ≠ b1 := Nat.ne_of_lt (Nat.lt_of_lt_of_le V_a.lt szb1)
    have V_a := V_a.keep Kc1 nin0
    have O1 := O0.keep Kc1 all0
    have K1 := K0.trans Kc1 all0
    have V_b1 : Arv Z T1.heap b1 kb1 .byte (2 : Int32) [(.int x0), (.int (0 : Int32))] (.int (0 : Int32)) := Vb1
    refine Go.st st1 ?_
    show Go p e below s _ _ _ (T1.setTop (mkF m 8 #[.val (.ref a), .unset] [(.ref b1)]))
    refine Go.st (fun _ kq_ => XS.astoreN X1.here hx rfl (hb hby df1_8) rfl rfl (l' := #[.val (.ref a), .val (.ref b1)]) rfl kq_) ?_
    show Go p e below s _ _ _ (T1.setTop (mkF m 9 #[.val (.ref a), .val (.ref b1)] []))
    refine Go.st (fun _ kq_ => XS.aloadN X1.here hx rfl (hb hby df1_9) rfl rfl kq_) ?_
    show Go p e below s _ _ _ (T1.setTop (mkF m 10 #[.val (.ref a), .val (.ref b1)] [(.ref b1)]))
    refine Go.st (fun _ kq_ => XS.aloadN X1.here hx rfl (hb hby df1_10) rfl rfl kq_) ?_
    show Go p e below s _ _ _ (T1.setTop (mkF m 11 #[.val (.ref a), .val (.ref b1)] [(.ref a), (.ref b1)]))
    refine Go.st (fun _ kq_ => own_len X1 hx hZ rfl V_a (g := (mkF m 11 #[.val (.ref a), .val (.ref b1)] [(.ref a), (.ref b1)])) rfl rfl (hb hby df1_11) _ kq_) ?_
    show Go p e below s _ _ _ (T1.setTop (mkF m 12 #[.val (.ref a), .val (.ref b1)] [(.int (1 : Int32)), (.ref b1)]))
    refine Go.st (fun _ kq_ => XS.bipush X1.here hx rfl (hb hby df1_12) kq_) ?_
    show Go p e below s _ _ _ (T1.setTop (mkF m 14 #[.val (.ref a), .val (.ref b1)] [(.int (10 : Int32)), (.int (1 : Int32)), (.ref b1)]))
    obtain ⟨T2, h2, X2, e2, W2, V2, st2⟩ := own_stB X1 hx hZ rfl V_b1 (j := (1 : Int32)) (by decide) (by decide) 1 rfl (Nat.le_of_ble_eq_true rfl) (g := (mkF m 14 #[.val (.ref a), .val (.ref b1)] [(.int (10 : Int32)), (.int (1 : Int32)), (.ref b1)])) rfl rfl (hb hby df1_14)
    have N2 := Fr.snoc X2 N1 g_b1
    have O2 := O1.wr W2 g_b1
    have K2 := K1.wr W2 (Or.inr sz_b1)
    have V_a := V_a.other W2 ne_a_b1
    have V_b1 : Arv Z h2 b1 kb1 .byte (2 : Int32) [(.int x0), (.int (10 : Int32))] (.int (0 : Int32)) := V2
    refine Go.st st2 ?_
    show Go p e below s _ _ _ (T2.setTop (mkF m 15 #[.val (.ref a), .val (.ref b1)] []))
    refine Go.st (fun _ kq_ => XS.aloadN X2.here hx rfl (hb hby df1_15) rfl rfl kq_) ?_
    show Go p e below s _ _ _ (T2.setTop (mkF m 16 #[.val (.ref a), .val (.ref b1)] [(.ref b1)]))
    exact Go.ret X2 hlk (some (.ref b1)) (fun h => by rw [Bd.returns] at h; cases h) (by rw [e2]; exact ⟨b1, _, rfl, N2, K2, g_b1, sz_b1, V_b1⟩) (by decide) (by decide) (fun fs hr => retOut X2 hx Bd.returns rfl (Or.inr (Or.inr (Or.inr (Or.inr ⟨rfl, rfl, rfl⟩)))) (hb hby df1_16) hr)
  obtain ⟨s2, o2, st2, r2⟩ := G
  exact ⟨s2, o2, castTop (eff1 m a) st2, r2⟩
theorem dc2_0 : decode jdk_65_method_121_code 0 = .ok (.iload_n 1, 1) := by decide +kernel
theorem dc2_1 : decode jdk_65_method_121_code 1 = .ok (.aload_n 0, 1) := by decide +kernel
theorem dc2_2 : decode jdk_65_method_121_code 2 = .ok (.arraylength, 1) := by decide +kernel
theorem dc2_3 : decode jdk_65_method_121_code 3 = .ok (.if_icmp .ne 11, 3) := by decide +kernel
theorem dc2_14 : decode jdk_65_method_121_code 14 = .ok (.iload_n 1, 1) := by decide +kernel
theorem dc2_15 : decode jdk_65_method_121_code 15 = .ok (.newarray .byte, 2) := by decide +kernel
theorem dc2_17 : decode jdk_65_method_121_code 17 = .ok (.astore_n 2, 1) := by decide +kernel
theorem dc2_18 : decode jdk_65_method_121_code 18 = .ok (.aload_n 0, 1) := by decide +kernel
theorem dc2_19 : decode jdk_65_method_121_code 19 = .ok (.iconst 0, 1) := by decide +kernel
theorem dc2_20 : decode jdk_65_method_121_code 20 = .ok (.aload_n 2, 1) := by decide +kernel
theorem dc2_21 : decode jdk_65_method_121_code 21 = .ok (.iconst 0, 1) := by decide +kernel
theorem dc2_22 : decode jdk_65_method_121_code 22 = .ok (.aload_n 0, 1) := by decide +kernel
theorem dc2_23 : decode jdk_65_method_121_code 23 = .ok (.arraylength, 1) := by decide +kernel
theorem dc2_24 : decode jdk_65_method_121_code 24 = .ok (.iload_n 1, 1) := by decide +kernel
theorem dc2_25 : decode jdk_65_method_121_code 25 = .ok (.invokestatic 304, 3) := by decide +kernel
theorem dc2_28 : decode jdk_65_method_121_code 28 = .ok (.invokestatic 150, 3) := by decide +kernel
theorem dc2_31 : decode jdk_65_method_121_code 31 = .ok (.aload_n 2, 1) := by decide +kernel
theorem dc2_32 : decode jdk_65_method_121_code 32 = .ok (.areturn, 1) := by decide +kernel
theorem pdc2_0 : parseMethodDescriptor "(II)I" = some ⟨[.int, .int], some .int⟩ := by decide +kernel
theorem pnc2 : plainName "java/util/Arrays" = true := by first | (simp [plainName, overriddenIn]; done) | decide +kernel
theorem efc2 (m : MethodId) (x0 : Addr) (x1 : Int32) : entryFrame m #[(.ref x0), (.int x1)] 3 = mkF m 0 #[.val (.ref x0), .val (.int x1), .unset] [] := by first | (simp [entryFrame, mkF, argsToLocals, Value.category, maxLocals]; done) | rfl
def Qc2 (Z : State) (a : Addr) (k : ClassId) (x0 : Int32) (x1 : Int32) (h0 : Heap) (n0 : Nat) (v : Option Value) (h : Heap) (L : List Loc) : Prop := ∃ (b : Addr) (kb : ClassId), v = some (.ref b) ∧ Fr n0 L ∧ Keep h0 h [] ∧ n0 ≤ b ∧ h0.size ≤ b ∧ Arv Z h b kb .byte (3 : Int32) [(.int x0), (.int x1), (.int (0 : Int32))] (.int (0 : Int32))
set_option maxRecDepth 65536 in
set_option maxHeartbeats 40000000 in
theorem rmc2 (l : Launch) (Z : State) (a0 : Array Value) (hw : ∀ d ∈ tables_1, d.before a0 Z = true) (ws : List Jvm.Cond) (a : Addr) (k : ClassId) (x0 : Int32) (x1 : Int32) (h0 : Heap) (n0 : Nat) (O0 : Old Z n0 h0) (V_a : Arv Z h0 a k .byte (2 : Int32) [(.int x0), (.int x1)] (.int (0 : Int32))) :
    MetFree l (⟨"java/util/Arrays", "copyOf", "([BI)[B"⟩ : MethodName) (head1 (Jvm.Cond.code (⟨"java/util/Arrays", "copyOf", "([BI)[B"⟩ : MethodName) jdk_65_method_121_code 3 (some (.array .byte)) :: ws) ({ frames := 1, cells := 1, slots := 3, locals := 22 } : Room)) (fun A_ U_ => A_ = #[(.ref a), (.int (3 : Int32))] ∧ Z.Warmed39 U_.vm ∧ U_.heap = h0) (fun _ _ _ _ _ => True) (fun _ U o U' => ∃ v L, o = .returned v ∧ Qc2 Z a k x0 x1 h0 n0 v U'.heap L ∧ FrameEnd U o U' L ({ frames := 1, cells := 1, slots := 3, locals := 22 } : Room).cells ({ frames := 1, cells := 1, slots := 3, locals := 22 } : Room).slots) := by
  refine MetFree.of_bodySF (plainFor_of_name pnc2) hisR ?_
  intro p e s m args below meth cd s₁ Bd hml0 hP hK
  obtain ⟨rfl, hZ, hh⟩ := hP
  have hx := Bd.exec
  have hby := Bd.bytes
  have hlk : meth.locks = false := BodyLoose.notSynchronized Bd
  have hml : cd.maxLocals = 3 := hml0
  have hown : s.vm.findClass "java/util/Arrays" = some m.cls := findClass_of_methodNamed Bd.named
  have hnm := (name_of_methodNamed Bd.named Bd.method).1
  have X0 : Stand p l e ({ frames := 1, cells := 1, slots := 3, locals := 22 } : Room) s m #[(.ref a), (.int (3 : Int32))] below meth cd s₁ [] 0 0 := Stand.of_body Bd
  have e0 : s₁.heap = h0 := by rw [← hh, Bd.state]; rfl
  have N0 := Fr.nil n0
  have K0 : Keep h0 h0 [] := Keep.refl _ _
  have G : Go p e below s 1 3 (Qc2 Z a k x0 x1 h0 n0) (s₁.setTop (mkF m 0 #[.val (.ref a), .val (.int (3 : Int32)), .unset] [])) := by
    show Go p e below s _ _ _ (s₁.setTop (mkF m 0 #[.val (.ref a), .val (.int (3 : Int32)), .unset] []))
    refine Go.st (fun _ kq_ => XS.iloadN X0.here hx rfl (hb hby dc2_0) rfl kq_) ?_
    show Go p e below s _ _ _ (s₁.setTop (mkF m 1 #[.val (.ref a), .val (.int (3 : Int32)), .unset] [(.int (3 : Int32))]))
    refine Go.st (fun _ kq_ => XS.aloadN X0.here hx rfl (hb hby dc2_1) rfl rfl kq_) ?_
    show Go p e below s _ _ _ (s₁.setTop (mkF m 2 #[.val (.ref a), .val (.int (3 : Int32)), .unset] [(.ref a), (.int (3 : Int32))]))
    refine Go.st (fun _ kq_ => own_len X0 hx hZ e0 V_a (g := (mkF m 2 #[.val (.ref a), .val (.int (3 : Int32)), .unset] [(.ref a), (.int (3 : Int32))])) rfl rfl (hb hby dc2_2) _ kq_) ?_
    show Go p e below s _ _ _ (s₁.setTop (mkF m 3 #[.val (.ref a), .val (.int (3 : Int32)), .unset] [(.int (2 : Int32)), (.int (3 : Int32))]))
    refine Go.st (fun _ kq_ => XS.icmpYes X0.here hx rfl (pc0 := 3) (pc' := 14) rfl (hb hby dc2_3) rfl (by decide) (by decide) (by decide) kq_) ?_
    show Go p e below s _ _ _ (s₁.setTop (mkF m 14 #[.val (.ref a), .val (.int (3 : Int32)), .unset] []))
    refine Go.st (fun _ kq_ => XS.iloadN X0.here hx rfl (hb hby dc2_14) rfl kq_) ?_
    show Go p e below s _ _ _ (s₁.setTop (mkF m 15 #[.val (.ref a), .val (.int (3 : Int32)), .unset] [(.int (3 : Int32))]))
    obtain ⟨T1, h1, k1, X1, e1, E1, A1, st1⟩ := newP X0 hx hZ (own_w hw 1 rfl) e0 (g := (mkF m 15 #[.val (.ref a), .val (.int (3 : Int32)), .unset] [(.int (3 : Int32))])) rfl (hb hby dc2_15) rfl (by decide) (cap := 3) (by decide) (by decide) (by decide) (by decide)
    obtain ⟨b1, g1⟩ : ∃ z, z = h0.size := ⟨_, rfl⟩
    rw [← g1] at A1 st1
    have g_b1 : n0 ≤ b1 := Nat.le_trans (own_old O0) (Nat.le_of_eq g1.symm)
    have sz_b1 : h0.size ≤ b1 := Nat.le_trans K0.1 (Nat.le_of_eq g1.symm)
    have ne_a_b1 : a ≠ b1 := by rw [g1]; exact Nat.ne_of_lt V_a.lt
    have V_a := V_a.ext E1
    have O1 := O0.ext E1
    have K1 := K0.ext E1
    have V_b1 : Arv Z h1 b1 k1 .byte (3 : Int32) [(.int (0 : Int32)), (.int (0 : Int32)), (.int (0 : Int32))] (.int (0 : Int32)) := (Arv.new A1 (by decide)).pad (pad_rep [] (.int (0 : Int32)) 3)
    refine Go.st st1 ?_
    show Go p e below s _ _ _ (T1.setTop (mkF m 17 #[.val (.ref a), .val (.int (3 : Int32)), .unset] [(.ref b1)]))
    refine Go.st (fun _ kq_ => XS.astoreN X1.here hx rfl (hb hby dc2_17) rfl rfl (l' := #[.val (.ref a), .val (.int (3 : Int32)), .val (.ref b1)]) rfl kq_) ?_
    show Go p e below s _ _ _ (T1.setTop (mkF m 18 #[.val (.ref a), .val (.int (3 : Int32)), .val (.ref b1)] []))
    refine Go.st (fun _ kq_ => XS.aloadN X1.here hx rfl (hb hby dc2_18) rfl rfl kq_) ?_
    show Go p e below s _ _ _ (T1.setTop (mkF m 19 #[.val (.ref a), .val (.int (3 : Int32)), .val (.ref b1)] [(.ref a)]))
    refine Go.st (fun _ kq_ => XS.iconst X1.here hx rfl (hb hby dc2_19) kq_) ?_
    show Go p e below s _ _ _ (T1.setTop (mkF m 20 #[.val (.ref a), .val (.int (3 : Int32)), .val (.ref b1)] [(.int (0 : Int32)), (.ref a)]))
    refine Go.st (fun _ kq_ => XS.aloadN X1.here hx rfl (hb hby dc2_20) rfl rfl kq_) ?_
    show Go p e below s _ _ _ (T1.setTop (mkF m 21 #[.val (.ref a), .val (.int (3 : Int32)), .val (.ref b1)] [(.ref b1), (.int (0 : Int32)), (.ref a)]))
    refine Go.st (fun _ kq_ => XS.iconst X1.here hx rfl (hb hby dc2_21) kq_) ?_
    show Go p e below s _ _ _ (T1.setTop (mkF m 22 #[.val (.ref a), .val (.int (3 : Int32)), .val (.ref b1)] [(.int (0 : Int32)), (.ref b1), (.int (0 : Int32)), (.ref a)]))
    refine Go.st (fun _ kq_ => XS.aloadN X1.here hx rfl (hb hby dc2_22) rfl rfl kq_) ?_
    show Go p e below s _ _ _ (T1.setTop (mkF m 23 #[.val (.ref a), .val (.int (3 : Int32)), .val (.ref b1)] [(.ref a), (.int (0 : Int32)), (.ref b1), (.int (0 : Int32)), (.ref a)]))
    refine Go.st (fun _ kq_ => own_len X1 hx hZ e1 V_a (g := (mkF m 23 #[.val (.ref a), .val (.int (3 : Int32)), .val (.ref b1)] [(.ref a), (.int (0 : Int32)), (.ref b1), (.int (0 : Int32)), (.ref a)])) rfl rfl (hb hby dc2_23) _ kq_) ?_
    show Go p e below s _ _ _ (T1.setTop (mkF m 24 #[.val (.ref a), .val (.int (3 : Int32)), .val (.ref b1)] [(.int (2 : Int32)), (.int (0 : Int32)), (.ref b1), (.int (0 : Int32)), (.ref a)]))
    refine Go.st (fun _ kq_ => XS.iloadN X1.here hx rfl (hb hby dc2_24) rfl kq_) ?_
    show Go p e below s _ _ _ (T1.setTop (mkF m 25 #[.val (.ref a), .val (.int (3 : Int32)), .val (.ref b1)] [(.int (3 : Int32)), (.int (2 : Int32)), (.int (0 : Int32)), (.ref b1), (.int (0 : Int32)), (.ref a)]))
    obtain ⟨_, _, ⟨T2, L2, k2, n2⟩, -, X2, ⟨Lc2, hQ2, l2, y2, z2⟩, st2⟩ := Jvm.LawKit.callS X1 hx (y := (⟨"java/lang/Math", "min", "(II)I"⟩ : MethodName)) hown (mvT hZ (own_w hw 10 rfl)) (mvT hZ (own_w hw 11 rfl)) (mvT hZ (own_w hw 12 rfl)) (mvT hZ (own_w hw 13 rfl)) (by decide) (backOf (W := 4) (rmm l Z a0 hw [] (2 : Int32) (3 : Int32) h1 n0 O1 ) hZ (own_w hw 13 rfl) (own_w hw 12 rfl) (by decide) (by decide)) (g := (mkF m 25 #[.val (.ref a), .val (.int (3 : Int32)), .val (.ref b1)] [(.int (3 : Int32)), (.int (2 : Int32)), (.int (0 : Int32)), (.ref b1), (.int (0 : Int32)), (.ref a)])) rfl (by rw [hml]; rfl) (argsL := [(.int (2 : Int32)), (.int (3 : Int32))]) (rest := [(.int (0 : Int32)), (.ref b1), (.int (0 : Int32)), (.ref a)]) (lenOf pdc2_0 rfl) rfl (by show 2 * 0 + _ ≤ _; exact Nat.le_of_eq rfl) (hb hby dc2_25) (fun _ _ => ⟨rfl, e1, (by decide : 1 + 0 ≤ _), (by decide : 3 + 0 ≤ _)⟩)
    dsimp only [Pt.U, Pt.locs, Pt.cells, Pt.slots] at X2 l2 y2 z2 st2 hQ2
    subst l2 y2 z2
    obtain ⟨rfl, Nc2, e2⟩ := hQ2
    have N2 := Fr.app N0 Nc2
    rw [(by decide : fMin (2 : Int32) (3 : Int32) = 2)] at st2
    refine Go.st st2 ?_
    show Go p e below s _ _ _ (T2.setTop (mkF m 28 #[.val (.ref a), .val (.int (3 : Int32)), .val (.ref b1)] [(.int (2 : Int32)), (.int (0 : Int32)), (.ref b1), (.int (0 : Int32)), (.ref a)]))
    obtain ⟨T3, h3, L3, X3, e3, N3, Kc3, V3, st3⟩ := cpA X2 hx hZ hown (own_w hw 14 rfl) (own_w hw 17 rfl) (own_w hw 15 rfl) (own_w hw 16 rfl) e2 V_a V_b1 (Or.inl ⟨rfl, rfl⟩) (by decide) (by decide) (by decide) (by decide) (by decide) (us := [(.int x0), (.int x1)]) rfl (Nat.le_of_ble_eq_true rfl) N2 g_b1 (g := (mkF m 28 #[.val (.ref a), .val (.int (3 : Int32)), .val (.ref b1)] [(.int (2 : Int32)), (.int (0 : Int32)), (.ref b1), (.int (0 : Int32)), (.ref a)])) rfl (by rw [hml]; rfl) rfl (hb hby dc2_28) (by decide) (W := 0) (by show 2 * 0 + _ ≤ _; exact Nat.le_of_eq rfl) (by decide)
    have V_a := V_a.keep Kc3 (ninS ne_a_b1 nin0)
    have O3 := O1.keep Kc3 (allS g_b1 all0)
    have K3 := K1.trans Kc3 (allS (Or.inr sz_b1) all0)
    have V_b1 : Arv Z h3 b1 k1 .byte (3 : Int32) [(.int x0), (.int x1), (.int (0 : Int32))] (.int (0 : Int32)) := V3
    refine Go.st st3 ?_
    show Go p e below s _ _ _ (T3.setTop (mkF m 31 #[.val (.ref a), .val (.int (3 : Int32)), .val (.ref b1)] []))
    refine Go.st (fun _ kq_ => XS.aloadN X3.here hx rfl (hb hby dc2_31) rfl rfl kq_) ?_
    show Go p e below s _ _ _ (T3.setTop (mkF m 32 #[.val (.ref a), .val (.int (3 : Int32)), .val (.ref b1)] [(.ref b1)]))
    exact Go.ret X3 hlk (some (.ref b1)) (fun h => by rw [Bd.returns] at h; cases h) (by rw [e3]; exact ⟨b1, _, rfl, N3, K3, g_b1, sz_b1, V_b1⟩) (by decide) (by decide) (fun fs hr => retOut X3 hx Bd.returns rfl (Or.inr (Or.inr (Or.inr (Or.inr ⟨rfl, rfl, rfl⟩)))) (hb hby dc2_32) hr)
  obtain ⟨s2, o2, st2, r2⟩ := G
  exact ⟨s2, o2, castTop (efc2 m a (3 : Int32)) st2, r2⟩
theorem df2_0 : decode prog_6_method_2_code 0 = .ok (.aload_n 0, 1) := by decide +kernel
theorem df2_1 : decode prog_6_method_2_code 1 = .ok (.aload_n 0, 1) := by decide +kernel
theorem df2_2 : decode prog_6_method_2_code 2 = .ok (.arraylength, 1) := by decide +kernel
theorem df2_3 : decode prog_6_method_2_code 3 = .ok (.iconst 1, 1) := by decide +kernel
theorem df2_4 : decode prog_6_method_2_code 4 = .ok (.iadd, 1) := by decide +kernel
theorem df2_5 : decode prog_6_method_2_code 5 = .ok (.invokestatic 32, 3) := by decide +kernel
theorem df2_8 : decode prog_6_method_2_code 8 = .ok (.astore_n 1, 1) := by decide +kernel
theorem df2_9 : decode prog_6_method_2_code 9 = .ok (.aload_n 1, 1) := by decide +kernel
theorem df2_10 : decode prog_6_method_2_code 10 = .ok (.aload_n 0, 1) := by decide +kernel
theorem df2_11 : decode prog_6_method_2_code 11 = .ok (.arraylength, 1) := by decide +kernel
theorem df2_12 : decode prog_6_method_2_code 12 = .ok (.bipush 10, 2) := by decide +kernel
theorem df2_14 : decode prog_6_method_2_code 14 = .ok (.bastore, 1) := by decide +kernel
theorem df2_15 : decode prog_6_method_2_code 15 = .ok (.aload_n 1, 1) := by decide +kernel
theorem df2_16 : decode prog_6_method_2_code 16 = .ok (.areturn, 1) := by decide +kernel
theorem pdf2_0 : parseMethodDescriptor "([BI)[B" = some ⟨[(.array .byte), .int], some (.array .byte)⟩ := by decide +kernel
theorem pnf2 : plainName "com/example/duplexwire/duplexwire/protocol/LineFramer" = true := by first | (simp [plainName, overriddenIn]; done) | decide +kernel
theorem eff2 (m : MethodId) (x0 : Addr) : entryFrame m #[(.ref x0)] 2 = mkF m 0 #[.val (.ref x0), .unset] [] := by first | (simp [entryFrame, mkF, argsToLocals, Value.category, maxLocals]; done) | rfl
def Qf2 (Z : State) (a : Addr) (k : ClassId) (x0 : Int32) (x1 : Int32) (h0 : Heap) (n0 : Nat) (v : Option Value) (h : Heap) (L : List Loc) : Prop := ∃ (b : Addr) (kb : ClassId), v = some (.ref b) ∧ Fr n0 L ∧ Keep h0 h [] ∧ n0 ≤ b ∧ h0.size ≤ b ∧ Arv Z h b kb .byte (3 : Int32) [(.int x0), (.int x1), (.int (10 : Int32))] (.int (0 : Int32))
set_option maxRecDepth 65536 in
set_option maxHeartbeats 40000000 in
theorem rmf2 (l : Launch) (Z : State) (a0 : Array Value) (hw : ∀ d ∈ tables_1, d.before a0 Z = true) (ws : List Jvm.Cond) (a : Addr) (k : ClassId) (x0 : Int32) (x1 : Int32) (h0 : Heap) (n0 : Nat) (O0 : Old Z n0 h0) (V_a : Arv Z h0 a k .byte (2 : Int32) [(.int x0), (.int x1)] (.int (0 : Int32))) :
    MetFree l (⟨"com/example/duplexwire/duplexwire/protocol/LineFramer", "frame", "([B)[B"⟩ : MethodName) (head1 (Jvm.Cond.code (⟨"com/example/duplexwire/duplexwire/protocol/LineFramer", "frame", "([B)[B"⟩ : MethodName) prog_6_method_2_code 2 (some (.array .byte)) :: ws) ({ frames := 2, cells := 1, slots := 3, locals := 36 } : Room)) (fun A_ U_ => A_ = #[(.ref a)] ∧ Z.Warmed39 U_.vm ∧ U_.heap = h0) (fun _ _ _ _ _ => True) (fun _ U o U' => ∃ v L, o = .returned v ∧ Qf2 Z a k x0 x1 h0 n0 v U'.heap L ∧ FrameEnd U o U' L ({ frames := 2, cells := 1, slots := 3, locals := 36 } : Room).cells ({ frames := 2, cells := 1, slots := 3, locals := 36 } : Room).slots) := by
  refine MetFree.of_bodySF (plainFor_of_name pnf2) hisR ?_
  intro p e s m args below meth cd s₁ Bd hml0 hP hK
  obtain ⟨rfl, hZ, hh⟩ := hP
  have hx := Bd.exec
  have hby := Bd.bytes
  have hlk : meth.locks = false := BodyLoose.notSynchronized Bd
  have hml : cd.maxLocals = 2 := hml0
  have hown : s.vm.findClass "com/example/duplexwire/duplexwire/protocol/LineFramer" = some m.cls := findClass_of_methodNamed Bd.named
  have hnm := (name_of_methodNamed Bd.named Bd.method).1
  have X0 : Stand p l e ({ frames := 2, cells := 1, slots := 3, locals := 36 } : Room) s m #[(.ref a)] below meth cd s₁ [] 0 0 := Stand.of_body Bd
  have e0 : s₁.heap = h0 := by rw [← hh, Bd.state]; rfl
  have N0 := Fr.nil n0
  have K0 : Keep h0 h0 [] := Keep.refl _ _
  have G : Go p e below s 1 3 (Qf2 Z a k x0 x1 h0 n0) (s₁.setTop (mkF m 0 #[.val (.ref a), .unset] [])) := by
    show Go p e below s _ _ _ (s₁.setTop (mkF m 0 #[.val (.ref a), .unset] []))
    refine Go.st (fun _ kq_ => XS.aloadN X0.here hx rfl (hb hby df2_0) rfl rfl kq_) ?_
    show Go p e below s _ _ _ (s₁.setTop (mkF m 1 #[.val (.ref a), .unset] [(.ref a)]))
    refine Go.st (fun _ kq_ => XS.aloadN X0.here hx rfl (hb hby df2_1) rfl rfl kq_) ?_
    show Go p e below s _ _ _ (s₁.setTop (mkF m 2 #[.val (.ref a), .unset] [(.ref a), (.ref a)]))
    refine Go.st (fun _ kq_ => own_len X0 hx hZ e0 V_a (g := (mkF m 2 #[.val (.ref a), .unset] [(.ref a), (.ref a)])) rfl rfl (hb hby df2_2) _ kq_) ?_
    show Go p e below s _ _ _ (s₁.setTop (mkF m 3 #[.val (.ref a), .unset] [(.int (2 : Int32)), (.ref a)]))
    refine Go.st (fun _ kq_ => XS.iconst X0.here hx rfl (hb hby df2_3) kq_) ?_
    show Go p e below s _ _ _ (s₁.setTop (mkF m 4 #[.val (.ref a), .unset] [(.int (1 : Int32)), (.int (2 : Int32)), (.ref a)]))
    refine Go.st (fun _ kq_ => XS.iadd X0.here hx rfl (hb hby df2_4) rfl kq_) ?_
    show Go p e below s _ _ _ (s₁.setTop (mkF m 5 #[.val (.ref a), .unset] [(.int (3 : Int32)), (.ref a)]))
    obtain ⟨_, _, ⟨T1, L1, k1, n1⟩, -, X1, ⟨Lc1, hQ1, l1, y1, z1⟩, st1⟩ := Jvm.LawKit.callS X0 hx (y := (⟨"java/util/Arrays", "copyOf", "([BI)[B"⟩ : MethodName)) hown (mvT hZ (own_w hw 6 rfl)) (mvT hZ (own_w hw 7 rfl)) (mvT hZ (own_w hw 8 rfl)) (mvT hZ (own_w hw 9 rfl)) (by decide) (backOf (W := 0) (rmc2 l Z a0 hw [] a k x0 x1 h0 n0 O0 V_a) hZ (own_w hw 9 rfl) (own_w hw 8 rfl) (by decide) (by decide)) (g := (mkF m 5 #[.val (.ref a), .unset] [(.int (3 : Int32)), (.ref a)])) rfl (by rw [hml]; rfl) (argsL := [(.ref a), (.int (3 : Int32))]) (rest := []) (lenOf pdf2_0 rfl) rfl (by show 2 * 0 + _ ≤ _; exact Nat.le_of_eq rfl) (hb hby df2_5) (fun _ _ => ⟨rfl, e0, (by decide : 0 + 1 ≤ _), (by decide : 0 + 3 ≤ _)⟩)
    dsimp only [Pt.U, Pt.locs, Pt.cells, Pt.slots] at X1 l1 y1 z1 st1 hQ1
    subst l1 y1 z1
    obtain ⟨b1, kb1, rfl, Nc1, Kc1, gb1, szb1, Vb1⟩ := hQ1
    have N1 := Fr.app N0 Nc1
    have g_b1 : n0 ≤ b1 := gb1
    have sz_b1 : h0.size ≤ b1 := Nat.le_trans K0.1 szb1
    have ne_a_b1 : a ≠ b1 := Nat.ne_of_lt (Nat.lt_of_lt_of_le V_a.lt szb1)
    have V_a := V_a.keep Kc1 nin0
    have O1 := O0.keep Kc1 all0
    have K1 := K0.trans Kc1 all0
    have V_b1 : Arv Z T1.heap b1 kb1 .byte (3 : Int32) [(.int x0), (.int x1), (.int (0 : Int32))] (.int (0 : Int32)) := Vb1
    refine Go.st st1 ?_
    show Go p e below s _ _ _ (T1.setTop (mkF m 8 #[.val (.ref a), .unset] [(.ref b1)]))
    refine Go.st (fun _ kq_ => XS.astoreN X1.here hx rfl (hb hby df2_8) rfl rfl (l' := #[.val (.ref a), .val (.ref b1)]) rfl kq_) ?_
    show Go p e below s _ _ _ (T1.setTop (mkF m 9 #[.val (.ref a), .val (.ref b1)] []))
    refine Go.st (fun _ kq_ => XS.aloadN X1.here hx rfl (hb hby df2_9) rfl rfl kq_) ?_
    show Go p e below s _ _ _ (T1.setTop (mkF m 10 #[.val (.ref a), .val (.ref b1)] [(.ref b1)]))
    refine Go.st (fun _ kq_ => XS.aloadN X1.here hx rfl (hb hby df2_10) rfl rfl kq_) ?_
    show Go p e below s _ _ _ (T1.setTop (mkF m 11 #[.val (.ref a), .val (.ref b1)] [(.ref a), (.ref b1)]))
    refine Go.st (fun _ kq_ => own_len X1 hx hZ rfl V_a (g := (mkF m 11 #[.val (.ref a), .val (.ref b1)] [(.ref a), (.ref b1)])) rfl rfl (hb hby df2_11) _ kq_) ?_
    show Go p e below s _ _ _ (T1.setTop (mkF m 12 #[.val (.ref a), .val (.ref b1)] [(.int (2 : Int32)), (.ref b1)]))
    refine Go.st (fun _ kq_ => XS.bipush X1.here hx rfl (hb hby df2_12) kq_) ?_
    show Go p e below s _ _ _ (T1.setTop (mkF m 14 #[.val (.ref a), .val (.ref b1)] [(.int (10 : Int32)), (.int (2 : Int32)), (.ref b1)]))
    obtain ⟨T2, h2, X2, e2, W2, V2, st2⟩ := own_stB X1 hx hZ rfl V_b1 (j := (2 : Int32)) (by decide) (by decide) 2 rfl (Nat.le_of_ble_eq_true rfl) (g := (mkF m 14 #[.val (.ref a), .val (.ref b1)] [(.int (10 : Int32)), (.int (2 : Int32)), (.ref b1)])) rfl rfl (hb hby df2_14)
    have N2 := Fr.snoc X2 N1 g_b1
    have O2 := O1.wr W2 g_b1
    have K2 := K1.wr W2 (Or.inr sz_b1)
    have V_a := V_a.other W2 ne_a_b1
    have V_b1 : Arv Z h2 b1 kb1 .byte (3 : Int32) [(.int x0), (.int x1), (.int (10 : Int32))] (.int (0 : Int32)) := V2
    refine Go.st st2 ?_
    show Go p e below s _ _ _ (T2.setTop (mkF m 15 #[.val (.ref a), .val (.ref b1)] []))
    refine Go.st (fun _ kq_ => XS.aloadN X2.here hx rfl (hb hby df2_15) rfl rfl kq_) ?_
    show Go p e below s _ _ _ (T2.setTop (mkF m 16 #[.val (.ref a), .val (.ref b1)] [(.ref b1)]))
    exact Go.ret X2 hlk (some (.ref b1)) (fun h => by rw [Bd.returns] at h; cases h) (by rw [e2]; exact ⟨b1, _, rfl, N2, K2, g_b1, sz_b1, V_b1⟩) (by decide) (by decide) (fun fs hr => retOut X2 hx Bd.returns rfl (Or.inr (Or.inr (Or.inr (Or.inr ⟨rfl, rfl, rfl⟩)))) (hb hby df2_16) hr)
  obtain ⟨s2, o2, st2, r2⟩ := G
  exact ⟨s2, o2, castTop (eff2 m a) st2, r2⟩
theorem dc3_0 : decode jdk_65_method_121_code 0 = .ok (.iload_n 1, 1) := by decide +kernel
theorem dc3_1 : decode jdk_65_method_121_code 1 = .ok (.aload_n 0, 1) := by decide +kernel
theorem dc3_2 : decode jdk_65_method_121_code 2 = .ok (.arraylength, 1) := by decide +kernel
theorem dc3_3 : decode jdk_65_method_121_code 3 = .ok (.if_icmp .ne 11, 3) := by decide +kernel
theorem dc3_14 : decode jdk_65_method_121_code 14 = .ok (.iload_n 1, 1) := by decide +kernel
theorem dc3_15 : decode jdk_65_method_121_code 15 = .ok (.newarray .byte, 2) := by decide +kernel
theorem dc3_17 : decode jdk_65_method_121_code 17 = .ok (.astore_n 2, 1) := by decide +kernel
theorem dc3_18 : decode jdk_65_method_121_code 18 = .ok (.aload_n 0, 1) := by decide +kernel
theorem dc3_19 : decode jdk_65_method_121_code 19 = .ok (.iconst 0, 1) := by decide +kernel
theorem dc3_20 : decode jdk_65_method_121_code 20 = .ok (.aload_n 2, 1) := by decide +kernel
theorem dc3_21 : decode jdk_65_method_121_code 21 = .ok (.iconst 0, 1) := by decide +kernel
theorem dc3_22 : decode jdk_65_method_121_code 22 = .ok (.aload_n 0, 1) := by decide +kernel
theorem dc3_23 : decode jdk_65_method_121_code 23 = .ok (.arraylength, 1) := by decide +kernel
theorem dc3_24 : decode jdk_65_method_121_code 24 = .ok (.iload_n 1, 1) := by decide +kernel
theorem dc3_25 : decode jdk_65_method_121_code 25 = .ok (.invokestatic 304, 3) := by decide +kernel
theorem dc3_28 : decode jdk_65_method_121_code 28 = .ok (.invokestatic 150, 3) := by decide +kernel
theorem dc3_31 : decode jdk_65_method_121_code 31 = .ok (.aload_n 2, 1) := by decide +kernel
theorem dc3_32 : decode jdk_65_method_121_code 32 = .ok (.areturn, 1) := by decide +kernel
theorem pdc3_0 : parseMethodDescriptor "(II)I" = some ⟨[.int, .int], some .int⟩ := by decide +kernel
theorem pnc3 : plainName "java/util/Arrays" = true := by first | (simp [plainName, overriddenIn]; done) | decide +kernel
theorem efc3 (m : MethodId) (x0 : Addr) (x1 : Int32) : entryFrame m #[(.ref x0), (.int x1)] 3 = mkF m 0 #[.val (.ref x0), .val (.int x1), .unset] [] := by first | (simp [entryFrame, mkF, argsToLocals, Value.category, maxLocals]; done) | rfl
def Qc3 (Z : State) (a : Addr) (k : ClassId) (x0 : Int32) (x1 : Int32) (x2 : Int32) (h0 : Heap) (n0 : Nat) (v : Option Value) (h : Heap) (L : List Loc) : Prop := ∃ (b : Addr) (kb : ClassId), v = some (.ref b) ∧ Fr n0 L ∧ Keep h0 h [] ∧ n0 ≤ b ∧ h0.size ≤ b ∧ Arv Z h b kb .byte (4 : Int32) [(.int x0), (.int x1), (.int x2), (.int (0 : Int32))] (.int (0 : Int32))
set_option maxRecDepth 65536 in
set_option maxHeartbeats 40000000 in
theorem rmc3 (l : Launch) (Z : State) (a0 : Array Value) (hw : ∀ d ∈ tables_1, d.before a0 Z = true) (ws : List Jvm.Cond) (a : Addr) (k : ClassId) (x0 : Int32) (x1 : Int32) (x2 : Int32) (h0 : Heap) (n0 : Nat) (O0 : Old Z n0 h0) (V_a : Arv Z h0 a k .byte (3 : Int32) [(.int x0), (.int x1), (.int x2)] (.int (0 : Int32))) :
    MetFree l (⟨"java/util/Arrays", "copyOf", "([BI)[B"⟩ : MethodName) (head1 (Jvm.Cond.code (⟨"java/util/Arrays", "copyOf", "([BI)[B"⟩ : MethodName) jdk_65_method_121_code 3 (some (.array .byte)) :: ws) ({ frames := 1, cells := 1, slots := 4, locals := 22 } : Room)) (fun A_ U_ => A_ = #[(.ref a), (.int (4 : Int32))] ∧ Z.Warmed39 U_.vm ∧ U_.heap = h0) (fun _ _ _ _ _ => True) (fun _ U o U' => ∃ v L, o = .returned v ∧ Qc3 Z a k x0 x1 x2 h0 n0 v U'.heap L ∧ FrameEnd U o U' L ({ frames := 1, cells := 1, slots := 4, locals := 22 } : Room).cells ({ frames := 1, cells := 1, slots := 4, locals := 22 } : Room).slots) := by
  refine MetFree.of_bodySF (plainFor_of_name pnc3) hisR ?_
  intro p e s m args below meth cd s₁ Bd hml0 hP hK
  obtain ⟨rfl, hZ, hh⟩ := hP
  have hx := Bd.exec
  have hby := Bd.bytes
  have hlk : meth.locks = false := BodyLoose.notSynchronized Bd
  have hml : cd.maxLocals = 3 := hml0
  have hown : s.vm.findClass "java/util/Arrays" = some m.cls := findClass_of_methodNamed Bd.named
  have hnm := (name_of_methodNamed Bd.named Bd.method).1
  have X0 : Stand p l e ({ frames := 1, cells := 1, slots := 4, locals := 22 } : Room) s m #[(.ref a), (.int (4 : Int32))] below meth cd s₁ [] 0 0 := Stand.of_body Bd
  have e0 : s₁.heap = h0 := by rw [← hh, Bd.state]; rfl
  have N0 := Fr.nil n0
  have K0 : Keep h0 h0 [] := Keep.refl _ _
  have G : Go p e below s 1 4 (Qc3 Z a k x0 x1 x2 h0 n0) (s₁.setTop (mkF m 0 #[.val (.ref a), .val (.int (4 : Int32)), .unset] [])) := by
    show Go p e below s _ _ _ (s₁.setTop (mkF m 0 #[.val (.ref a), .val (.int (4 : Int32)), .unset] []))
    refine Go.st (fun _ kq_ => XS.iloadN X0.here hx rfl (hb hby dc3_0) rfl kq_) ?_
    show Go p e below s _ _ _ (s₁.setTop (mkF m 1 #[.val (.ref a), .val (.int (4 : Int32)), .unset] [(.int (4 : Int32))]))
    refine Go.st (fun _ kq_ => XS.aloadN X0.here hx rfl (hb hby dc3_1) rfl rfl kq_) ?_
    show Go p e below s _ _ _ (s₁.setTop (mkF m 2 #[.val (.ref a), .val (.int (4 : Int32)), .unset] [(.ref a), (.int (4 : Int32))]))
    refine Go.st (fun _ kq_ => own_len X0 hx hZ e0 V_a (g := (mkF m 2 #[.val (.ref a), .val (.int (4 : Int32)), .unset] [(.ref a), (.int (4 : Int32))])) rfl rfl (hb hby dc3_2) _ kq_) ?_
    show Go p e below s _ _ _ (s₁.setTop (mkF m 3 #[.val (.ref a), .val (.int (4 : Int32)), .unset] [(.int (3 : Int32)), (.int (4 : Int32))]))
    refine Go.st (fun _ kq_ => XS.icmpYes X0.here hx rfl (pc0 := 3) (pc' := 14) rfl (hb hby dc3_3) rfl (by decide) (by decide) (by decide) kq_) ?_
    show Go p e below s _ _ _ (s₁.setTop (mkF m 14 #[.val (.ref a), .val (.int (4 : Int32)), .unset] []))
    refine Go.st (fun _ kq_ => XS.iloadN X0.here hx rfl (hb hby dc3_14) rfl kq_) ?_
    show Go p e below s _ _ _ (s₁.setTop (mkF m 15 #[.val (.ref a), .val (.int (4 : Int32)), .unset] [(.int (4 : Int32))]))
    obtain ⟨T1, h1, k1, X1, e1, E1, A1, st1⟩ := newP X0 hx hZ (own_w hw 1 rfl) e0 (g := (mkF m 15 #[.val (.ref a), .val (.int (4 : Int32)), .unset] [(.int (4 : Int32))])) rfl (hb hby dc3_15) rfl (by decide) (cap := 4) (by decide) (by decide) (by decide) (by decide)
    obtain ⟨b1, g1⟩ : ∃ z, z = h0.size := ⟨_, rfl⟩
    rw [← g1] at A1 st1
    have g_b1 : n0 ≤ b1 := Nat.le_trans (own_old O0) (Nat.le_of_eq g1.symm)
    have sz_b1 : h0.size ≤ b1 := Nat.le_trans K0.1 (Nat.le_of_eq g1.symm)
    have ne_a_b1 : a ≠ b1 := by rw [g1]; exact Nat.ne_of_lt V_a.lt
    have V_a := V_a.ext E1
    have O1 := O0.ext E1
    have K1 := K0.ext E1
    have V_b1 : Arv Z h1 b1 k1 .byte (4 : Int32) [(.int (0 : Int32)), (.int (0 : Int32)), (.int (0 : Int32)), (.int (0 : Int32))] (.int (0 : Int32)) := (Arv.new A1 (by decide)).pad (pad_rep [] (.int (0 : Int32)) 4)
    refine Go.st st1 ?_
    show Go p e below s _ _ _ (T1.setTop (mkF m 17 #[.val (.ref a), .val (.int (4 : Int32)), .unset] [(.ref b1)]))
    refine Go.st (fun _ kq_ => XS.astoreN X1.here hx rfl (hb hby dc3_17) rfl rfl (l' := #[.val (.ref a), .val (.int (4 : Int32)), .val (.ref b1)]) rfl kq_) ?_
    show Go p e below s _ _ _ (T1.setTop (mkF m 18 #[.val (.ref a), .val (.int (4 : Int32)), .val (.ref b1)] []))
    refine Go.st (fun _ kq_ => XS.aloadN X1.here hx rfl (hb hby dc3_18) rfl rfl kq_) ?_
    show Go p e below s _ _ _ (T1.setTop (mkF m 19 #[.val (.ref a), .val (.int (4 : Int32)), .val (.ref b1)] [(.ref a)]))
    refine Go.st (fun _ kq_ => XS.iconst X1.here hx rfl (hb hby dc3_19) kq_) ?_
    show Go p e below s _ _ _ (T1.setTop (mkF m 20 #[.val (.ref a), .val (.int (4 : Int32)), .val (.ref b1)] [(.int (0 : Int32)), (.ref a)]))
    refine Go.st (fun _ kq_ => XS.aloadN X1.here hx rfl (hb hby dc3_20) rfl rfl kq_) ?_
    show Go p e below s _ _ _ (T1.setTop (mkF m 21 #[.val (.ref a), .val (.int (4 : Int32)), .val (.ref b1)] [(.ref b1), (.int (0 : Int32)), (.ref a)]))
    refine Go.st (fun _ kq_ => XS.iconst X1.here hx rfl (hb hby dc3_21) kq_) ?_
    show Go p e below s _ _ _ (T1.setTop (mkF m 22 #[.val (.ref a), .val (.int (4 : Int32)), .val (.ref b1)] [(.int (0 : Int32)), (.ref b1), (.int (0 : Int32)), (.ref a)]))
    refine Go.st (fun _ kq_ => XS.aloadN X1.here hx rfl (hb hby dc3_22) rfl rfl kq_) ?_
    show Go p e below s _ _ _ (T1.setTop (mkF m 23 #[.val (.ref a), .val (.int (4 : Int32)), .val (.ref b1)] [(.ref a), (.int (0 : Int32)), (.ref b1), (.int (0 : Int32)), (.ref a)]))
    refine Go.st (fun _ kq_ => own_len X1 hx hZ e1 V_a (g := (mkF m 23 #[.val (.ref a), .val (.int (4 : Int32)), .val (.ref b1)] [(.ref a), (.int (0 : Int32)), (.ref b1), (.int (0 : Int32)), (.ref a)])) rfl rfl (hb hby dc3_23) _ kq_) ?_
    show Go p e below s _ _ _ (T1.setTop (mkF m 24 #[.val (.ref a), .val (.int (4 : Int32)), .val (.ref b1)] [(.int (3 : Int32)), (.int (0 : Int32)), (.ref b1), (.int (0 : Int32)), (.ref a)]))
    refine Go.st (fun _ kq_ => XS.iloadN X1.here hx rfl (hb hby dc3_24) rfl kq_) ?_
    show Go p e below s _ _ _ (T1.setTop (mkF m 25 #[.val (.ref a), .val (.int (4 : Int32)), .val (.ref b1)] [(.int (4 : Int32)), (.int (3 : Int32)), (.int (0 : Int32)), (.ref b1), (.int (0 : Int32)), (.ref a)]))
    obtain ⟨_, _, ⟨T2, L2, k2, n2⟩, -, X2, ⟨Lc2, hQ2, l2, y2, z2⟩, st2⟩ := Jvm.LawKit.callS X1 hx (y := (⟨"java/lang/Math", "min", "(II)I"⟩ : MethodName)) hown (mvT hZ (own_w hw 10 rfl)) (mvT hZ (own_w hw 11 rfl)) (mvT hZ (own_w hw 12 rfl)) (mvT hZ (own_w hw 13 rfl)) (by decide) (backOf (W := 4) (rmm l Z a0 hw [] (3 : Int32) (4 : Int32) h1 n0 O1 ) hZ (own_w hw 13 rfl) (own_w hw 12 rfl) (by decide) (by decide)) (g := (mkF m 25 #[.val (.ref a), .val (.int (4 : Int32)), .val (.ref b1)] [(.int (4 : Int32)), (.int (3 : Int32)), (.int (0 : Int32)), (.ref b1), (.int (0 : Int32)), (.ref a)])) rfl (by rw [hml]; rfl) (argsL := [(.int (3 : Int32)), (.int (4 : Int32))]) (rest := [(.int (0 : Int32)), (.ref b1), (.int (0 : Int32)), (.ref a)]) (lenOf pdc3_0 rfl) rfl (by show 2 * 0 + _ ≤ _; exact Nat.le_of_eq rfl) (hb hby dc3_25) (fun _ _ => ⟨rfl, e1, (by decide : 1 + 0 ≤ _), (by decide : 4 + 0 ≤ _)⟩)
    dsimp only [Pt.U, Pt.locs, Pt.cells, Pt.slots] at X2 l2 y2 z2 st2 hQ2
    subst l2 y2 z2
    obtain ⟨rfl, Nc2, e2⟩ := hQ2
    have N2 := Fr.app N0 Nc2
    rw [(by decide : fMin (3 : Int32) (4 : Int32) = 3)] at st2
    refine Go.st st2 ?_
    show Go p e below s _ _ _ (T2.setTop (mkF m 28 #[.val (.ref a), .val (.int (4 : Int32)), .val (.ref b1)] [(.int (3 : Int32)), (.int (0 : Int32)), (.ref b1), (.int (0 : Int32)), (.ref a)]))
    obtain ⟨T3, h3, L3, X3, e3, N3, Kc3, V3, st3⟩ := cpA X2 hx hZ hown (own_w hw 14 rfl) (own_w hw 17 rfl) (own_w hw 15 rfl) (own_w hw 16 rfl) e2 V_a V_b1 (Or.inl ⟨rfl, rfl⟩) (by decide) (by decide) (by decide) (by decide) (by decide) (us := [(.int x0), (.int x1), (.int x2)]) rfl (Nat.le_of_ble_eq_true rfl) N2 g_b1 (g := (mkF m 28 #[.val (.ref a), .val (.int (4 : Int32)), .val (.ref b1)] [(.int (3 : Int32)), (.int (0 : Int32)), (.ref b1), (.int (0 : Int32)), (.ref a)])) rfl (by rw [hml]; rfl) rfl (hb hby dc3_28) (by decide) (W := 0) (by show 2 * 0 + _ ≤ _; exact Nat.le_of_eq rfl) (by decide)
    have V_a := V_a.keep Kc3 (ninS ne_a_b1 nin0)
    have O3 := O1.keep Kc3 (allS g_b1 all0)
    have K3 := K1.trans Kc3 (allS (Or.inr sz_b1) all0)
    have V_b1 : Arv Z h3 b1 k1 .byte (4 : Int32) [(.int x0), (.int x1), (.int x2), (.int (0 : Int32))] (.int (0 : Int32)) := V3
    refine Go.st st3 ?_
    show Go p e below s _ _ _ (T3.setTop (mkF m 31 #[.val (.ref a), .val (.int (4 : Int32)), .val (.ref b1)] []))
    refine Go.st (fun _ kq_ => XS.aloadN X3.here hx rfl (hb hby dc3_31) rfl rfl kq_) ?_
    show Go p e below s _ _ _ (T3.setTop (mkF m 32 #[.val (.ref a), .val (.int (4 : Int32)), .val (.ref b1)] [(.ref b1)]))
    exact Go.ret X3 hlk (some (.ref b1)) (fun h => by rw [Bd.returns] at h; cases h) (by rw [e3]; exact ⟨b1, _, rfl, N3, K3, g_b1, sz_b1, V_b1⟩) (by decide) (by decide) (fun fs hr => retOut X3 hx Bd.returns rfl (Or.inr (Or.inr (Or.inr (Or.inr ⟨rfl, rfl, rfl⟩)))) (hb hby dc3_32) hr)
  obtain ⟨s2, o2, st2, r2⟩ := G
  exact ⟨s2, o2, castTop (efc3 m a (4 : Int32)) st2, r2⟩
theorem df3_0 : decode prog_6_method_2_code 0 = .ok (.aload_n 0, 1) := by decide +kernel
theorem df3_1 : decode prog_6_method_2_code 1 = .ok (.aload_n 0, 1) := by decide +kernel
theorem df3_2 : decode prog_6_method_2_code 2 = .ok (.arraylength, 1) := by decide +kernel
theorem df3_3 : decode prog_6_method_2_code 3 = .ok (.iconst 1, 1) := by decide +kernel
theorem df3_4 : decode prog_6_method_2_code 4 = .ok (.iadd, 1) := by decide +kernel
theorem df3_5 : decode prog_6_method_2_code 5 = .ok (.invokestatic 32, 3) := by decide +kernel
theorem df3_8 : decode prog_6_method_2_code 8 = .ok (.astore_n 1, 1) := by decide +kernel
theorem df3_9 : decode prog_6_method_2_code 9 = .ok (.aload_n 1, 1) := by decide +kernel
theorem df3_10 : decode prog_6_method_2_code 10 = .ok (.aload_n 0, 1) := by decide +kernel
theorem df3_11 : decode prog_6_method_2_code 11 = .ok (.arraylength, 1) := by decide +kernel
theorem df3_12 : decode prog_6_method_2_code 12 = .ok (.bipush 10, 2) := by decide +kernel
theorem df3_14 : decode prog_6_method_2_code 14 = .ok (.bastore, 1) := by decide +kernel
theorem df3_15 : decode prog_6_method_2_code 15 = .ok (.aload_n 1, 1) := by decide +kernel
theorem df3_16 : decode prog_6_method_2_code 16 = .ok (.areturn, 1) := by decide +kernel
theorem pdf3_0 : parseMethodDescriptor "([BI)[B" = some ⟨[(.array .byte), .int], some (.array .byte)⟩ := by decide +kernel
theorem pnf3 : plainName "com/example/duplexwire/duplexwire/protocol/LineFramer" = true := by first | (simp [plainName, overriddenIn]; done) | decide +kernel
theorem eff3 (m : MethodId) (x0 : Addr) : entryFrame m #[(.ref x0)] 2 = mkF m 0 #[.val (.ref x0), .unset] [] := by first | (simp [entryFrame, mkF, argsToLocals, Value.category, maxLocals]; done) | rfl
def Qf3 (Z : State) (a : Addr) (k : ClassId) (x0 : Int32) (x1 : Int32) (x2 : Int32) (h0 : Heap) (n0 : Nat) (v : Option Value) (h : Heap) (L : List Loc) : Prop := ∃ (b : Addr) (kb : ClassId), v = some (.ref b) ∧ Fr n0 L ∧ Keep h0 h [] ∧ n0 ≤ b ∧ h0.size ≤ b ∧ Arv Z h b kb .byte (4 : Int32) [(.int x0), (.int x1), (.int x2), (.int (10 : Int32))] (.int (0 : Int32))
set_option maxRecDepth 65536 in
set_option maxHeartbeats 40000000 in
theorem rmf3 (l : Launch) (Z : State) (a0 : Array Value) (hw : ∀ d ∈ tables_1, d.before a0 Z = true) (ws : List Jvm.Cond) (a : Addr) (k : ClassId) (x0 : Int32) (x1 : Int32) (x2 : Int32) (h0 : Heap) (n0 : Nat) (O0 : Old Z n0 h0) (V_a : Arv Z h0 a k .byte (3 : Int32) [(.int x0), (.int x1), (.int x2)] (.int (0 : Int32))) :
    MetFree l (⟨"com/example/duplexwire/duplexwire/protocol/LineFramer", "frame", "([B)[B"⟩ : MethodName) (head1 (Jvm.Cond.code (⟨"com/example/duplexwire/duplexwire/protocol/LineFramer", "frame", "([B)[B"⟩ : MethodName) prog_6_method_2_code 2 (some (.array .byte)) :: ws) ({ frames := 2, cells := 1, slots := 4, locals := 36 } : Room)) (fun A_ U_ => A_ = #[(.ref a)] ∧ Z.Warmed39 U_.vm ∧ U_.heap = h0) (fun _ _ _ _ _ => True) (fun _ U o U' => ∃ v L, o = .returned v ∧ Qf3 Z a k x0 x1 x2 h0 n0 v U'.heap L ∧ FrameEnd U o U' L ({ frames := 2, cells := 1, slots := 4, locals := 36 } : Room).cells ({ frames := 2, cells := 1, slots := 4, locals := 36 } : Room).slots) := by
  refine MetFree.of_bodySF (plainFor_of_name pnf3) hisR ?_
  intro p e s m args below meth cd s₁ Bd hml0 hP hK
  obtain ⟨rfl, hZ, hh⟩ := hP
  have hx := Bd.exec
  have hby := Bd.bytes
  have hlk : meth.locks = false := BodyLoose.notSynchronized Bd
  have hml : cd.maxLocals = 2 := hml0
  have hown : s.vm.findClass "com/example/duplexwire/duplexwire/protocol/LineFramer" = some m.cls := findClass_of_methodNamed Bd.named
  have hnm := (name_of_methodNamed Bd.named Bd.method).1
  have X0 : Stand p l e ({ frames := 2, cells := 1, slots := 4, locals := 36 } : Room) s m #[(.ref a)] below meth cd s₁ [] 0 0 := Stand.of_body Bd
  have e0 : s₁.heap = h0 := by rw [← hh, Bd.state]; rfl
  have N0 := Fr.nil n0
  have K0 : Keep h0 h0 [] := Keep.refl _ _
  have G : Go p e below s 1 4 (Qf3 Z a k x0 x1 x2 h0 n0) (s₁.setTop (mkF m 0 #[.val (.ref a), .unset] [])) := by
    show Go p e below s _ _ _ (s₁.setTop (mkF m 0 #[.val (.ref a), .unset] []))
    refine Go.st (fun _ kq_ => XS.aloadN X0.here hx rfl (hb hby df3_0) rfl rfl kq_) ?_
    show Go p e below s _ _ _ (s₁.setTop (mkF m 1 #[.val (.ref a), .unset] [(.ref a)]))
    refine Go.st (fun _ kq_ => XS.aloadN X0.here hx rfl (hb hby df3_1) rfl rfl kq_) ?_
    show Go p e below s _ _ _ (s₁.setTop (mkF m 2 #[.val (.ref a), .unset] [(.ref a), (.ref a)]))
    refine Go.st (fun _ kq_ => own_len X0 hx hZ e0 V_a (g := (mkF m 2 #[.val (.ref a), .unset] [(.ref a), (.ref a)])) rfl rfl (hb hby df3_2) _ kq_) ?_
    show Go p e below s _ _ _ (s₁.setTop (mkF m 3 #[.val (.ref a), .unset] [(.int (3 : Int32)), (.ref a)]))
    refine Go.st (fun _ kq_ => XS.iconst X0.here hx rfl (hb hby df3_3) kq_) ?_
    show Go p e below s _ _ _ (s₁.setTop (mkF m 4 #[.val (.ref a), .unset] [(.int (1 : Int32)), (.int (3 : Int32)), (.ref a)]))
    refine Go.st (fun _ kq_ => XS.iadd X0.here hx rfl (hb hby df3_4) rfl kq_) ?_
    show Go p e below s _ _ _ (s₁.setTop (mkF m 5 #[.val (.ref a), .unset] [(.int (4 : Int32)), (.ref a)]))
    obtain ⟨_, _, ⟨T1, L1, k1, n1⟩, -, X1, ⟨Lc1, hQ1, l1, y1, z1⟩, st1⟩ := Jvm.LawKit.callS X0 hx (y := (⟨"java/util/Arrays", "copyOf", "([BI)[B"⟩ : MethodName)) hown (mvT hZ (own_w hw 6 rfl)) (mvT hZ (own_w hw 7 rfl)) (mvT hZ (own_w hw 8 rfl)) (mvT hZ (own_w hw 9 rfl)) (by decide) (backOf (W := 0) (rmc3 l Z a0 hw [] a k x0 x1 x2 h0 n0 O0 V_a) hZ (own_w hw 9 rfl) (own_w hw 8 rfl) (by decide) (by decide)) (g := (mkF m 5 #[.val (.ref a), .unset] [(.int (4 : Int32)), (.ref a)])) rfl (by rw [hml]; rfl) (argsL := [(.ref a), (.int (4 : Int32))]) (rest := []) (lenOf pdf3_0 rfl) rfl (by show 2 * 0 + _ ≤ _; exact Nat.le_of_eq rfl) (hb hby df3_5) (fun _ _ => ⟨rfl, e0, (by decide : 0 + 1 ≤ _), (by decide : 0 + 4 ≤ _)⟩)
    dsimp only [Pt.U, Pt.locs, Pt.cells, Pt.slots] at X1 l1 y1 z1 st1 hQ1
    subst l1 y1 z1
    obtain ⟨b1, kb1, rfl, Nc1, Kc1, gb1, szb1, Vb1⟩ := hQ1
    have N1 := Fr.app N0 Nc1
    have g_b1 : n0 ≤ b1 := gb1
    have sz_b1 : h0.size ≤ b1 := Nat.le_trans K0.1 szb1
    have ne_a_b1 : a ≠ b1 := Nat.ne_of_lt (Nat.lt_of_lt_of_le V_a.lt szb1)
    have V_a := V_a.keep Kc1 nin0
    have O1 := O0.keep Kc1 all0
    have K1 := K0.trans Kc1 all0
    have V_b1 : Arv Z T1.heap b1 kb1 .byte (4 : Int32) [(.int x0), (.int x1), (.int x2), (.int (0 : Int32))] (.int (0 : Int32)) := Vb1
    refine Go.st st1 ?_
    show Go p e below s _ _ _ (T1.setTop (mkF m 8 #[.val (.ref a), .unset] [(.ref b1)]))
    refine Go.st (fun _ kq_ => XS.astoreN X1.here hx rfl (hb hby df3_8) rfl rfl (l' := #[.val (.ref a), .val (.ref b1)]) rfl kq_) ?_
    show Go p e below s _ _ _ (T1.setTop (mkF m 9 #[.val (.ref a), .val (.ref b1)] []))
    refine Go.st (fun _ kq_ => XS.aloadN X1.here hx rfl (hb hby df3_9) rfl rfl kq_) ?_
    show Go p e below s _ _ _ (T1.setTop (mkF m 10 #[.val (.ref a), .val (.ref b1)] [(.ref b1)]))
    refine Go.st (fun _ kq_ => XS.aloadN X1.here hx rfl (hb hby df3_10) rfl rfl kq_) ?_
    show Go p e below s _ _ _ (T1.setTop (mkF m 11 #[.val (.ref a), .val (.ref b1)] [(.ref a), (.ref b1)]))
    refine Go.st (fun _ kq_ => own_len X1 hx hZ rfl V_a (g := (mkF m 11 #[.val (.ref a), .val (.ref b1)] [(.ref a), (.ref b1)])) rfl rfl (hb hby df3_11) _ kq_) ?_
    show Go p e below s _ _ _ (T1.setTop (mkF m 12 #[.val (.ref a), .val (.ref b1)] [(.int (3 : Int32)), (.ref b1)]))
    refine Go.st (fun _ kq_ => XS.bipush X1.here hx rfl (hb hby df3_12) kq_) ?_
    show Go p e below s _ _ _ (T1.setTop (mkF m 14 #[.val (.ref a), .val (.ref b1)] [(.int (10 : Int32)), (.int (3 : Int32)), (.ref b1)]))
    obtain ⟨T2, h2, X2, e2, W2, V2, st2⟩ := own_stB X1 hx hZ rfl V_b1 (j := (3 : Int32)) (by decide) (by decide) 3 rfl (Nat.le_of_ble_eq_true rfl) (g := (mkF m 14 #[.val (.ref a), .val (.ref b1)] [(.int (10 : Int32)), (.int (3 : Int32)), (.ref b1)])) rfl rfl (hb hby df3_14)
    have N2 := Fr.snoc X2 N1 g_b1
    have O2 := O1.wr W2 g_b1
    have K2 := K1.wr W2 (Or.inr sz_b1)
    have V_a := V_a.other W2 ne_a_b1
    have V_b1 : Arv Z h2 b1 kb1 .byte (4 : Int32) [(.int x0), (.int x1), (.int x2), (.int (10 : Int32))] (.int (0 : Int32)) := V2
    refine Go.st st2 ?_
    show Go p e below s _ _ _ (T2.setTop (mkF m 15 #[.val (.ref a), .val (.ref b1)] []))
    refine Go.st (fun _ kq_ => XS.aloadN X2.here hx rfl (hb hby df3_15) rfl rfl kq_) ?_
    show Go p e below s _ _ _ (T2.setTop (mkF m 16 #[.val (.ref a), .val (.ref b1)] [(.ref b1)]))
    exact Go.ret X2 hlk (some (.ref b1)) (fun h => by rw [Bd.returns] at h; cases h) (by rw [e2]; exact ⟨b1, _, rfl, N2, K2, g_b1, sz_b1, V_b1⟩) (by decide) (by decide) (fun fs hr => retOut X2 hx Bd.returns rfl (Or.inr (Or.inr (Or.inr (Or.inr ⟨rfl, rfl, rfl⟩)))) (hb hby df3_16) hr)
  obtain ⟨s2, o2, st2, r2⟩ := G
  exact ⟨s2, o2, castTop (eff3 m a) st2, r2⟩
theorem dc4_0 : decode jdk_65_method_121_code 0 = .ok (.iload_n 1, 1) := by decide +kernel
theorem dc4_1 : decode jdk_65_method_121_code 1 = .ok (.aload_n 0, 1) := by decide +kernel
theorem dc4_2 : decode jdk_65_method_121_code 2 = .ok (.arraylength, 1) := by decide +kernel
theorem dc4_3 : decode jdk_65_method_121_code 3 = .ok (.if_icmp .ne 11, 3) := by decide +kernel
theorem dc4_14 : decode jdk_65_method_121_code 14 = .ok (.iload_n 1, 1) := by decide +kernel
theorem dc4_15 : decode jdk_65_method_121_code 15 = .ok (.newarray .byte, 2) := by decide +kernel
theorem dc4_17 : decode jdk_65_method_121_code 17 = .ok (.astore_n 2, 1) := by decide +kernel
theorem dc4_18 : decode jdk_65_method_121_code 18 = .ok (.aload_n 0, 1) := by decide +kernel
theorem dc4_19 : decode jdk_65_method_121_code 19 = .ok (.iconst 0, 1) := by decide +kernel
theorem dc4_20 : decode jdk_65_method_121_code 20 = .ok (.aload_n 2, 1) := by decide +kernel
theorem dc4_21 : decode jdk_65_method_121_code 21 = .ok (.iconst 0, 1) := by decide +kernel
theorem dc4_22 : decode jdk_65_method_121_code 22 = .ok (.aload_n 0, 1) := by decide +kernel
theorem dc4_23 : decode jdk_65_method_121_code 23 = .ok (.arraylength, 1) := by decide +kernel
theorem dc4_24 : decode jdk_65_method_121_code 24 = .ok (.iload_n 1, 1) := by decide +kernel
theorem dc4_25 : decode jdk_65_method_121_code 25 = .ok (.invokestatic 304, 3) := by decide +kernel
theorem dc4_28 : decode jdk_65_method_121_code 28 = .ok (.invokestatic 150, 3) := by decide +kernel
theorem dc4_31 : decode jdk_65_method_121_code 31 = .ok (.aload_n 2, 1) := by decide +kernel
theorem dc4_32 : decode jdk_65_method_121_code 32 = .ok (.areturn, 1) := by decide +kernel
theorem pdc4_0 : parseMethodDescriptor "(II)I" = some ⟨[.int, .int], some .int⟩ := by decide +kernel
theorem pnc4 : plainName "java/util/Arrays" = true := by first | (simp [plainName, overriddenIn]; done) | decide +kernel
theorem efc4 (m : MethodId) (x0 : Addr) (x1 : Int32) : entryFrame m #[(.ref x0), (.int x1)] 3 = mkF m 0 #[.val (.ref x0), .val (.int x1), .unset] [] := by first | (simp [entryFrame, mkF, argsToLocals, Value.category, maxLocals]; done) | rfl
def Qc4 (Z : State) (a : Addr) (k : ClassId) (x0 : Int32) (x1 : Int32) (x2 : Int32) (x3 : Int32) (h0 : Heap) (n0 : Nat) (v : Option Value) (h : Heap) (L : List Loc) : Prop := ∃ (b : Addr) (kb : ClassId), v = some (.ref b) ∧ Fr n0 L ∧ Keep h0 h [] ∧ n0 ≤ b ∧ h0.size ≤ b ∧ Arv Z h b kb .byte (5 : Int32) [(.int x0), (.int x1), (.int x2), (.int x3), (.int (0 : Int32))] (.int (0 : Int32))
set_option maxRecDepth 65536 in
set_option maxHeartbeats 40000000 in
theorem rmc4 (l : Launch) (Z : State) (a0 : Array Value) (hw : ∀ d ∈ tables_1, d.before a0 Z = true) (ws : List Jvm.Cond) (a : Addr) (k : ClassId) (x0 : Int32) (x1 : Int32) (x2 : Int32) (x3 : Int32) (h0 : Heap) (n0 : Nat) (O0 : Old Z n0 h0) (V_a : Arv Z h0 a k .byte (4 : Int32) [(.int x0), (.int x1), (.int x2), (.int x3)] (.int (0 : Int32))) :
    MetFree l (⟨"java/util/Arrays", "copyOf", "([BI)[B"⟩ : MethodName) (head1 (Jvm.Cond.code (⟨"java/util/Arrays", "copyOf", "([BI)[B"⟩ : MethodName) jdk_65_method_121_code 3 (some (.array .byte)) :: ws) ({ frames := 1, cells := 1, slots := 5, locals := 22 } : Room)) (fun A_ U_ => A_ = #[(.ref a), (.int (5 : Int32))] ∧ Z.Warmed39 U_.vm ∧ U_.heap = h0) (fun _ _ _ _ _ => True) (fun _ U o U' => ∃ v L, o = .returned v ∧ Qc4 Z a k x0 x1 x2 x3 h0 n0 v U'.heap L ∧ FrameEnd U o U' L ({ frames := 1, cells := 1, slots := 5, locals := 22 } : Room).cells ({ frames := 1, cells := 1, slots := 5, locals := 22 } : Room).slots) := by
  refine MetFree.of_bodySF (plainFor_of_name pnc4) hisR ?_
  intro p e s m args below meth cd s₁ Bd hml0 hP hK
  obtain ⟨rfl, hZ, hh⟩ := hP
  have hx := Bd.exec
  have hby := Bd.bytes
  have hlk : meth.locks = false := BodyLoose.notSynchronized Bd
  have hml : cd.maxLocals = 3 := hml0
  have hown : s.vm.findClass "java/util/Arrays" = some m.cls := findClass_of_methodNamed Bd.named
  have hnm := (name_of_methodNamed Bd.named Bd.method).1
  have X0 : Stand p l e ({ frames := 1, cells := 1, slots := 5, locals := 22 } : Room) s m #[(.ref a), (.int (5 : Int32))] below meth cd s₁ [] 0 0 := Stand.of_body Bd
  have e0 : s₁.heap = h0 := by rw [← hh, Bd.state]; rfl
  have N0 := Fr.nil n0
  have K0 : Keep h0 h0 [] := Keep.refl _ _
  have G : Go p e below s 1 5 (Qc4 Z a k x0 x1 x2 x3 h0 n0) (s₁.setTop (mkF m 0 #[.val (.ref a), .val (.int (5 : Int32)), .unset] [])) := by
    show Go p e below s _ _ _ (s₁.setTop (mkF m 0 #[.val (.ref a), .val (.int (5 : Int32)), .unset] []))
    refine Go.st (fun _ kq_ => XS.iloadN X0.here hx rfl (hb hby dc4_0) rfl kq_) ?_
    show Go p e below s _ _ _ (s₁.setTop (mkF m 1 #[.val (.ref a), .val (.int (5 : Int32)), .unset] [(.int (5 : Int32))]))
    refine Go.st (fun _ kq_ => XS.aloadN X0.here hx rfl (hb hby dc4_1) rfl rfl kq_) ?_
    show Go p e below s _ _ _ (s₁.setTop (mkF m 2 #[.val (.ref a), .val (.int (5 : Int32)), .unset] [(.ref a), (.int (5 : Int32))]))
    refine Go.st (fun _ kq_ => own_len X0 hx hZ e0 V_a (g := (mkF m 2 #[.val (.ref a), .val (.int (5 : Int32)), .unset] [(.ref a), (.int (5 : Int32))])) rfl rfl (hb hby dc4_2) _ kq_) ?_
    show Go p e below s _ _ _ (s₁.setTop (mkF m 3 #[.val (.ref a), .val (.int (5 : Int32)), .unset] [(.int (4 : Int32)), (.int (5 : Int32))]))
    refine Go.st (fun _ kq_ => XS.icmpYes X0.here hx rfl (pc0 := 3) (pc' := 14) rfl (hb hby dc4_3) rfl (by decide) (by decide) (by decide) kq_) ?_
    show Go p e below s _ _ _ (s₁.setTop (mkF m 14 #[.val (.ref a), .val (.int (5 : Int32)), .unset] []))
    refine Go.st (fun _ kq_ => XS.iloadN X0.here hx rfl (hb hby dc4_14) rfl kq_) ?_
    show Go p e below s _ _ _ (s₁.setTop (mkF m 15 #[.val (.ref a), .val (.int (5 : Int32)), .unset] [(.int (5 : Int32))]))
    obtain ⟨T1, h1, k1, X1, e1, E1, A1, st1⟩ := newP X0 hx hZ (own_w hw 1 rfl) e0 (g := (mkF m 15 #[.val (.ref a), .val (.int (5 : Int32)), .unset] [(.int (5 : Int32))])) rfl (hb hby dc4_15) rfl (by decide) (cap := 5) (by decide) (by decide) (by decide) (by decide)
    obtain ⟨b1, g1⟩ : ∃ z, z = h0.size := ⟨_, rfl⟩
    rw [← g1] at A1 st1
    have g_b1 : n0 ≤ b1 := Nat.le_trans (own_old O0) (Nat.le_of_eq g1.symm)
    have sz_b1 : h0.size ≤ b1 := Nat.le_trans K0.1 (Nat.le_of_eq g1.symm)
    have ne_a_b1 : a ≠ b1 := by rw [g1]; exact Nat.ne_of_lt V_a.lt
    have V_a := V_a.ext E1
    have O1 := O0.ext E1
    have K1 := K0.ext E1
    have V_b1 : Arv Z h1 b1 k1 .byte (5 : Int32) [(.int (0 : Int32)), (.int (0 : Int32)), (.int (0 : Int32)), (.int (0 : Int32)), (.int (0 : Int32))] (.int (0 : Int32)) := (Arv.new A1 (by decide)).pad (pad_rep [] (.int (0 : Int32)) 5)
    refine Go.st st1 ?_
    show Go p e below s _ _ _ (T1.setTop (mkF m 17 #[.val (.ref a), .val (.int (5 : Int32)), .unset] [(.ref b1)]))
    refine Go.st (fun _ kq_ => XS.astoreN X1.here hx rfl (hb hby dc4_17) rfl rfl (l' := #[.val (.ref a), .val (.int (5 : Int32)), .val (.ref b1)]) rfl kq_) ?_
    show Go p e below s _ _ _ (T1.setTop (mkF m 18 #[.val (.ref a), .val (.int (5 : Int32)), .val (.ref b1)] []))
    refine Go.st (fun _ kq_ => XS.aloadN X1.here hx rfl (hb hby dc4_18) rfl rfl kq_) ?_
    show Go p e below s _ _ _ (T1.setTop (mkF m 19 #[.val (.ref a), .val (.int (5 : Int32)), .val (.ref b1)] [(.ref a)]))
    refine Go.st (fun _ kq_ => XS.iconst X1.here hx rfl (hb hby dc4_19) kq_) ?_
    show Go p e below s _ _ _ (T1.setTop (mkF m 20 #[.val (.ref a), .val (.int (5 : Int32)), .val (.ref b1)] [(.int (0 : Int32)), (.ref a)]))
    refine Go.st (fun _ kq_ => XS.aloadN X1.here hx rfl (hb hby dc4_20) rfl rfl kq_) ?_
    show Go p e below s _ _ _ (T1.setTop (mkF m 21 #[.val (.ref a), .val (.int (5 : Int32)), .val (.ref b1)] [(.ref b1), (.int (0 : Int32)), (.ref a)]))
    refine Go.st (fun _ kq_ => XS.iconst X1.here hx rfl (hb hby dc4_21) kq_) ?_
    show Go p e below s _ _ _ (T1.setTop (mkF m 22 #[.val (.ref a), .val (.int (5 : Int32)), .val (.ref b1)] [(.int (0 : Int32)), (.ref b1), (.int (0 : Int32)), (.ref a)]))
    refine Go.st (fun _ kq_ => XS.aloadN X1.here hx rfl (hb hby dc4_22) rfl rfl kq_) ?_
    show Go p e below s _ _ _ (T1.setTop (mkF m 23 #[.val (.ref a), .val (.int (5 : Int32)), .val (.ref b1)] [(.ref a), (.int (0 : Int32)), (.ref b1), (.int (0 : Int32)), (.ref a)]))
    refine Go.st (fun _ kq_ => own_len X1 hx hZ e1 V_a (g := (mkF m 23 #[.val (.ref a), .val (.int (5 : Int32)), .val (.ref b1)] [(.ref a), (.int (0 : Int32)), (.ref b1), (.int (0 : Int32)), (.ref a)])) rfl rfl (hb hby dc4_23) _ kq_) ?_
    show Go p e below s _ _ _ (T1.setTop (mkF m 24 #[.val (.ref a), .val (.int (5 : Int32)), .val (.ref b1)] [(.int (4 : Int32)), (.int (0 : Int32)), (.ref b1), (.int (0 : Int32)), (.ref a)]))
    refine Go.st (fun _ kq_ => XS.iloadN X1.here hx rfl (hb hby dc4_24) rfl kq_) ?_
    show Go p e below s _ _ _ (T1.setTop (mkF m 25 #[.val (.ref a), .val (.int (5 : Int32)), .val (.ref b1)] [(.int (5 : Int32)), (.int (4 : Int32)), (.int (0 : Int32)), (.ref b1), (.int (0 : Int32)), (.ref a)]))
    obtain ⟨_, _, ⟨T2, L2, k2, n2⟩, -, X2, ⟨Lc2, hQ2, l2, y2, z2⟩, st2⟩ := Jvm.LawKit.callS X1 hx (y := (⟨"java/lang/Math", "min", "(II)I"⟩ : MethodName)) hown (mvT hZ (own_w hw 10 rfl)) (mvT hZ (own_w hw 11 rfl)) (mvT hZ (own_w hw 12 rfl)) (mvT hZ (own_w hw 13 rfl)) (by decide) (backOf (W := 4) (rmm l Z a0 hw [] (4 : Int32) (5 : Int32) h1 n0 O1 ) hZ (own_w hw 13 rfl) (own_w hw 12 rfl) (by decide) (by decide)) (g := (mkF m 25 #[.val (.ref a), .val (.int (5 : Int32)), .val (.ref b1)] [(.int (5 : Int32)), (.int (4 : Int32)), (.int (0 : Int32)), (.ref b1), (.int (0 : Int32)), (.ref a)])) rfl (by rw [hml]; rfl) (argsL := [(.int (4 : Int32)), (.int (5 : Int32))]) (rest := [(.int (0 : Int32)), (.ref b1), (.int (0 : Int32)), (.ref a)]) (lenOf pdc4_0 rfl) rfl (by show 2 * 0 + _ ≤ _; exact Nat.le_of_eq rfl) (hb hby dc4_25) (fun _ _ => ⟨rfl, e1, (by decide : 1 + 0 ≤ _), (by decide : 5 + 0 ≤ _)⟩)
    dsimp only [Pt.U, Pt.locs, Pt.cells, Pt.slots] at X2 l2 y2 z2 st2 hQ2
    subst l2 y2 z2
    obtain ⟨rfl, Nc2, e2⟩ := hQ2
    have N2 := Fr.app N0 Nc2
    rw [(by decide : fMin (4 : Int32) (5 : Int32) = 4)] at st2
    refine Go.st st2 ?_
    show Go p e below s _ _ _ (T2.setTop (mkF m 28 #[.val (.ref a), .val (.int (5 : Int32)), .val (.ref b1)] [(.int (4 : Int32)), (.int (0 : Int32)), (.ref b1), (.int (0 : Int32)), (.ref a)]))
    obtain ⟨T3, h3, L3, X3, e3, N3, Kc3, V3, st3⟩ := cpA X2 hx hZ hown (own_w hw 14 rfl) (own_w hw 17 rfl) (own_w hw 15 rfl) (own_w hw 16 rfl) e2 V_a V_b1 (Or.inl ⟨rfl, rfl⟩) (by decide) (by decide) (by decide) (by decide) (by decide) (us := [(.int x0), (.int x1), (.int x2), (.int x3)]) rfl (Nat.le_of_ble_eq_true rfl) N2 g_b1 (g := (mkF m 28 #[.val (.ref a), .val (.int (5 : Int32)), .val (.ref b1)] [(.int (4 : Int32)), (.int (0 : Int32)), (.ref b1), (.int (0 : Int32)), (.ref a)])) rfl (by rw [hml]; rfl) rfl (hb hby dc4_28) (by decide) (W := 0) (by show 2 * 0 + _ ≤ _; exact Nat.le_of_eq rfl) (by decide)
    have V_a := V_a.keep Kc3 (ninS ne_a_b1 nin0)
    have O3 := O1.keep Kc3 (allS g_b1 all0)
    have K3 := K1.trans Kc3 (allS (Or.inr sz_b1) all0)
    have V_b1 : Arv Z h3 b1 k1 .byte (5 : Int32) [(.int x0), (.int x1), (.int x2), (.int x3), (.int (0 : Int32))] (.int (0 : Int32)) := V3
    refine Go.st st3 ?_
    show Go p e below s _ _ _ (T3.setTop (mkF m 31 #[.val (.ref a), .val (.int (5 : Int32)), .val (.ref b1)] []))
    refine Go.st (fun _ kq_ => XS.aloadN X3.here hx rfl (hb hby dc4_31) rfl rfl kq_) ?_
    show Go p e below s _ _ _ (T3.setTop (mkF m 32 #[.val (.ref a), .val (.int (5 : Int32)), .val (.ref b1)] [(.ref b1)]))
    exact Go.ret X3 hlk (some (.ref b1)) (fun h => by rw [Bd.returns] at h; cases h) (by rw [e3]; exact ⟨b1, _, rfl, N3, K3, g_b1, sz_b1, V_b1⟩) (by decide) (by decide) (fun fs hr => retOut X3 hx Bd.returns rfl (Or.inr (Or.inr (Or.inr (Or.inr ⟨rfl, rfl, rfl⟩)))) (hb hby dc4_32) hr)
  obtain ⟨s2, o2, st2, r2⟩ := G
  exact ⟨s2, o2, castTop (efc4 m a (5 : Int32)) st2, r2⟩
theorem df4_0 : decode prog_6_method_2_code 0 = .ok (.aload_n 0, 1) := by decide +kernel
theorem df4_1 : decode prog_6_method_2_code 1 = .ok (.aload_n 0, 1) := by decide +kernel
theorem df4_2 : decode prog_6_method_2_code 2 = .ok (.arraylength, 1) := by decide +kernel
theorem df4_3 : decode prog_6_method_2_code 3 = .ok (.iconst 1, 1) := by decide +kernel
theorem df4_4 : decode prog_6_method_2_code 4 = .ok (.iadd, 1) := by decide +kernel
theorem df4_5 : decode prog_6_method_2_code 5 = .ok (.invokestatic 32, 3) := by decide +kernel
theorem df4_8 : decode prog_6_method_2_code 8 = .ok (.astore_n 1, 1) := by decide +kernel
theorem df4_9 : decode prog_6_method_2_code 9 = .ok (.aload_n 1, 1) := by decide +kernel
theorem df4_10 : decode prog_6_method_2_code 10 = .ok (.aload_n 0, 1) := by decide +kernel
theorem df4_11 : decode prog_6_method_2_code 11 = .ok (.arraylength, 1) := by decide +kernel
theorem df4_12 : decode prog_6_method_2_code 12 = .ok (.bipush 10, 2) := by decide +kernel
theorem df4_14 : decode prog_6_method_2_code 14 = .ok (.bastore, 1) := by decide +kernel
theorem df4_15 : decode prog_6_method_2_code 15 = .ok (.aload_n 1, 1) := by decide +kernel
theorem df4_16 : decode prog_6_method_2_code 16 = .ok (.areturn, 1) := by decide +kernel
theorem pdf4_0 : parseMethodDescriptor "([BI)[B" = some ⟨[(.array .byte), .int], some (.array .byte)⟩ := by decide +kernel
theorem pnf4 : plainName "com/example/duplexwire/duplexwire/protocol/LineFramer" = true := by first | (simp [plainName, overriddenIn]; done) | decide +kernel
theorem eff4 (m : MethodId) (x0 : Addr) : entryFrame m #[(.ref x0)] 2 = mkF m 0 #[.val (.ref x0), .unset] [] := by first | (simp [entryFrame, mkF, argsToLocals, Value.category, maxLocals]; done) | rfl
def Qf4 (Z : State) (a : Addr) (k : ClassId) (x0 : Int32) (x1 : Int32) (x2 : Int32) (x3 : Int32) (h0 : Heap) (n0 : Nat) (v : Option Value) (h : Heap) (L : List Loc) : Prop := ∃ (b : Addr) (kb : ClassId), v = some (.ref b) ∧ Fr n0 L ∧ Keep h0 h [] ∧ n0 ≤ b ∧ h0.size ≤ b ∧ Arv Z h b kb .byte (5 : Int32) [(.int x0), (.int x1), (.int x2), (.int x3), (.int (10 : Int32))] (.int (0 : Int32))
set_option maxRecDepth 65536 in
set_option maxHeartbeats 40000000 in
theorem rmf4 (l : Launch) (Z : State) (a0 : Array Value) (hw : ∀ d ∈ tables_1, d.before a0 Z = true) (ws : List Jvm.Cond) (a : Addr) (k : ClassId) (x0 : Int32) (x1 : Int32) (x2 : Int32) (x3 : Int32) (h0 : Heap) (n0 : Nat) (O0 : Old Z n0 h0) (V_a : Arv Z h0 a k .byte (4 : Int32) [(.int x0), (.int x1), (.int x2), (.int x3)] (.int (0 : Int32))) :
    MetFree l (⟨"com/example/duplexwire/duplexwire/protocol/LineFramer", "frame", "([B)[B"⟩ : MethodName) (head1 (Jvm.Cond.code (⟨"com/example/duplexwire/duplexwire/protocol/LineFramer", "frame", "([B)[B"⟩ : MethodName) prog_6_method_2_code 2 (some (.array .byte)) :: ws) ({ frames := 2, cells := 1, slots := 5, locals := 36 } : Room)) (fun A_ U_ => A_ = #[(.ref a)] ∧ Z.Warmed39 U_.vm ∧ U_.heap = h0) (fun _ _ _ _ _ => True) (fun _ U o U' => ∃ v L, o = .returned v ∧ Qf4 Z a k x0 x1 x2 x3 h0 n0 v U'.heap L ∧ FrameEnd U o U' L ({ frames := 2, cells := 1, slots := 5, locals := 36 } : Room).cells ({ frames := 2, cells := 1, slots := 5, locals := 36 } : Room).slots) := by
  refine MetFree.of_bodySF (plainFor_of_name pnf4) hisR ?_
  intro p e s m args below meth cd s₁ Bd hml0 hP hK
  obtain ⟨rfl, hZ, hh⟩ := hP
  have hx := Bd.exec
  have hby := Bd.bytes
  have hlk : meth.locks = false := BodyLoose.notSynchronized Bd
  have hml : cd.maxLocals = 2 := hml0
  have hown : s.vm.findClass "com/example/duplexwire/duplexwire/protocol/LineFramer" = some m.cls := findClass_of_methodNamed Bd.named
  have hnm := (name_of_methodNamed Bd.named Bd.method).1
  have X0 : Stand p l e ({ frames := 2, cells := 1, slots := 5, locals := 36 } : Room) s m #[(.ref a)] below meth cd s₁ [] 0 0 := Stand.of_body Bd
  have e0 : s₁.heap = h0 := by rw [← hh, Bd.state]; rfl
  have N0 := Fr.nil n0
  have K0 : Keep h0 h0 [] := Keep.refl _ _
  have G : Go p e below s 1 5 (Qf4 Z a k x0 x1 x2 x3 h0 n0) (s₁.setTop (mkF m 0 #[.val (.ref a), .unset] [])) := by
    show Go p e below s _ _ _ (s₁.setTop (mkF m 0 #[.val (.ref a), .unset] []))
    refine Go.st (fun _ kq_ => XS.aloadN X0.here hx rfl (hb hby df4_0) rfl rfl kq_) ?_
    show Go p e below s _ _ _ (s₁.setTop (mkF m 1 #[.val (.ref a), .unset] [(.ref a)]))
    refine Go.st (fun _ kq_ => XS.aloadN X0.here hx rfl (hb hby df4_1) rfl rfl kq_) ?_
    show Go p e below s _ _ _ (s₁.setTop (mkF m 2 #[.val (.ref a), .unset] [(.ref a), (.ref a)]))
    refine Go.st (fun _ kq_ => own_len X0 hx hZ e0 V_a (g := (mkF m 2 #[.val (.ref a), .unset] [(.ref a), (.ref a)])) rfl rfl (hb hby df4_2) _ kq_) ?_
    show Go p e below s _ _ _ (s₁.setTop (mkF m 3 #[.val (.ref a), .unset] [(.int (4 : Int32)), (.ref a)]))
    refine Go.st (fun _ kq_ => XS.iconst X0.here hx rfl (hb hby df4_3) kq_) ?_
    show Go p e below s _ _ _ (s₁.setTop (mkF m 4 #[.val (.ref a), .unset] [(.int (1 : Int32)), (.int (4 : Int32)), (.ref a)]))
    refine Go.st (fun _ kq_ => XS.iadd X0.here hx rfl (hb hby df4_4) rfl kq_) ?_
    show Go p e below s _ _ _ (s₁.setTop (mkF m 5 #[.val (.ref a), .unset] [(.int (5 : Int32)), (.ref a)]))
    obtain ⟨_, _, ⟨T1, L1, k1, n1⟩, -, X1, ⟨Lc1, hQ1, l1, y1, z1⟩, st1⟩ := Jvm.LawKit.callS X0 hx (y := (⟨"java/util/Arrays", "copyOf", "([BI)[B"⟩ : MethodName)) hown (mvT hZ (own_w hw 6 rfl)) (mvT hZ (own_w hw 7 rfl)) (mvT hZ (own_w hw 8 rfl)) (mvT hZ (own_w hw 9 rfl)) (by decide) (backOf (W := 0) (rmc4 l Z a0 hw [] a k x0 x1 x2 x3 h0 n0 O0 V_a) hZ (own_w hw 9 rfl) (own_w hw 8 rfl) (by decide) (by decide)) (g := (mkF m 5 #[.val (.ref a), .unset] [(.int (5 : Int32)), (.ref a)])) rfl (by rw [hml]; rfl) (argsL := [(.ref a), (.int (5 : Int32))]) (rest := []) (lenOf pdf4_0 rfl) rfl (by show 2 * 0 + _ ≤ _; exact Nat.le_of_eq rfl) (hb hby df4_5) (fun _ _ => ⟨rfl, e0, (by decide : 0 + 1 ≤ _), (by decide : 0 + 5 ≤ _)⟩)
    dsimp only [Pt.U, Pt.locs, Pt.cells, Pt.slots] at X1 l1 y1 z1 st1 hQ1
    subst l1 y1 z1
    obtain ⟨b1, kb1, rfl, Nc1, Kc1, gb1, szb1, Vb1⟩ := hQ1
    have N1 := Fr.app N0 Nc1
    have g_b1 : n0 ≤ b1 := gb1
    have sz_b1 : h0.size ≤ b1 := Nat.le_trans K0.1 szb1
    have ne_a_b1 : a ≠ b1 := Nat.ne_of_lt (Nat.lt_of_lt_of_le V_a.lt szb1)
    have V_a := V_a.keep Kc1 nin0
    have O1 := O0.keep Kc1 all0
    have K1 := K0.trans Kc1 all0
    have V_b1 : Arv Z T1.heap b1 kb1 .byte (5 : Int32) [(.int x0), (.int x1), (.int x2), (.int x3), (.int (0 : Int32))] (.int (0 : Int32)) := Vb1
    refine Go.st st1 ?_
    show Go p e below s _ _ _ (T1.setTop (mkF m 8 #[.val (.ref a), .unset] [(.ref b1)]))
    refine Go.st (fun _ kq_ => XS.astoreN X1.here hx rfl (hb hby df4_8) rfl rfl (l' := #[.val (.ref a), .val (.ref b1)]) rfl kq_) ?_
    show Go p e below s _ _ _ (T1.setTop (mkF m 9 #[.val (.ref a), .val (.ref b1)] []))
    refine Go.st (fun _ kq_ => XS.aloadN X1.here hx rfl (hb hby df4_9) rfl rfl kq_) ?_
    show Go p e below s _ _ _ (T1.setTop (mkF m 10 #[.val (.ref a), .val (.ref b1)] [(.ref b1)]))
    refine Go.st (fun _ kq_ => XS.aloadN X1.here hx rfl (hb hby df4_10) rfl rfl kq_) ?_
    show Go p e below s _ _ _ (T1.setTop (mkF m 11 #[.val (.ref a), .val (.ref b1)] [(.ref a), (.ref b1)]))
    refine Go.st (fun _ kq_ => own_len X1 hx hZ rfl V_a (g := (mkF m 11 #[.val (.ref a), .val (.ref b1)] [(.ref a), (.ref b1)])) rfl rfl (hb hby df4_11) _ kq_) ?_
    show Go p e below s _ _ _ (T1.setTop (mkF m 12 #[.val (.ref a), .val (.ref b1)] [(.int (4 : Int32)), (.ref b1)]))
    refine Go.st (fun _ kq_ => XS.bipush X1.here hx rfl (hb hby df4_12) kq_) ?_
    show Go p e below s _ _ _ (T1.setTop (mkF m 14 #[.val (.ref a), .val (.ref b1)] [(.int (10 : Int32)), (.int (4 : Int32)), (.ref b1)]))
    obtain ⟨T2, h2, X2, e2, W2, V2, st2⟩ := own_stB X1 hx hZ rfl V_b1 (j := (4 : Int32)) (by decide) (by decide) 4 rfl (Nat.le_of_ble_eq_true rfl) (g := (mkF m 14 #[.val (.ref a), .val (.ref b1)] [(.int (10 : Int32)), (.int (4 : Int32)), (.ref b1)])) rfl rfl (hb hby df4_14)
    have N2 := Fr.snoc X2 N1 g_b1
    have O2 := O1.wr W2 g_b1
    have K2 := K1.wr W2 (Or.inr sz_b1)
    have V_a := V_a.other W2 ne_a_b1
    have V_b1 : Arv Z h2 b1 kb1 .byte (5 : Int32) [(.int x0), (.int x1), (.int x2), (.int x3), (.int (10 : Int32))] (.int (0 : Int32)) := V2
    refine Go.st st2 ?_
    show Go p e below s _ _ _ (T2.setTop (mkF m 15 #[.val (.ref a), .val (.ref b1)] []))
    refine Go.st (fun _ kq_ => XS.aloadN X2.here hx rfl (hb hby df4_15) rfl rfl kq_) ?_
    show Go p e below s _ _ _ (T2.setTop (mkF m 16 #[.val (.ref a), .val (.ref b1)] [(.ref b1)]))
    exact Go.ret X2 hlk (some (.ref b1)) (fun h => by rw [Bd.returns] at h; cases h) (by rw [e2]; exact ⟨b1, _, rfl, N2, K2, g_b1, sz_b1, V_b1⟩) (by decide) (by decide) (fun fs hr => retOut X2 hx Bd.returns rfl (Or.inr (Or.inr (Or.inr (Or.inr ⟨rfl, rfl, rfl⟩)))) (hb hby df4_16) hr)
  obtain ⟨s2, o2, st2, r2⟩ := G
  exact ⟨s2, o2, castTop (eff4 m a) st2, r2⟩
theorem own_5 {k : Int32} (h : ¬ k < 0 ∧ k < 5) : k = 0 ∨ k = 1 ∨ k = 2 ∨ k = 3 ∨ k = 4 := by
  simp only [own_lt, own_eq, Int32.reduceToInt] at h ⊢
  omega
theorem own_nb (x : Int32) : nar .byte x.toInt8.toInt32 = x.toInt8.toInt32 := Value.int.inj (XT.narrow_b x)
theorem pd0_0 : parseMethodDescriptor "([B)[B" = some ⟨[(.array .byte)], some (.array .byte)⟩ := by decide +kernel
theorem pn0 : plainName "com/example/duplexwire/duplexwire/protocol/LineFramerFramePinLaw" = true := by first | (simp [plainName, overriddenIn]; done) | decide +kernel
theorem ef0 (m : MethodId) (x0 : Int32) (x1 : Int32) (x2 : Int32) (x3 : Int32) (x4 : Int32) : entryFrame m #[(.int x0), (.int x1), (.int x2), (.int x3), (.int x4)] maxLocals = mkF m 0 #[.val (.int x0), .val (.int x1), .val (.int x2), .val (.int x3), .val (.int x4), .unset, .unset, .unset, .unset] [] := by first | (simp [entryFrame, mkF, argsToLocals, Value.category, maxLocals]; done) | rfl
def Q0 (Z : State) (p0 : Int32) (p1 : Int32) (p2 : Int32) (p3 : Int32) (p4 : Int32) (h0 : Heap) (n0 : Nat) (v : Option Value) (h : Heap) (L : List Loc) : Prop := v = some (.int 1) ∧ Fr n0 L
set_option maxRecDepth 65536 in
set_option maxHeartbeats 40000000 in
theorem rm0 (l : Launch) (Z : State) (a0 : Array Value) (hw : ∀ d ∈ tables_1, d.before a0 Z = true) (ws : List Jvm.Cond) (p0 : Int32) (p1 : Int32) (p2 : Int32) (p3 : Int32) (p4 : Int32) (h0 : Heap) (n0 : Nat) (O0 : Old Z n0 h0)  :
    MetFree l x (head1 (Jvm.Cond.code x code maxLocals ret :: ws) room_1) (fun A_ U_ => A_ = #[(.int p0), (.int p1), (.int p2), (.int p3), (.int p4)] ∧ Z.Warmed39 U_.vm ∧ U_.heap = h0) (fun _ _ _ _ _ => True) (fun _ U o U' => ∃ v L, o = .returned v ∧ Q0 Z p0 p1 p2 p3 p4 h0 n0 v U'.heap L ∧ FrameEnd U o U' L room_1.cells room_1.slots) := by
  refine MetFree.of_bodySF (plainFor_of_name pn0) hisR ?_
  intro p e s m args below meth cd s₁ Bd hml0 hP hK
  obtain ⟨rfl, hZ, hh⟩ := hP
  have hx := Bd.exec
  have hby := Bd.bytes
  have hlk : meth.locks = false := BodyLoose.notSynchronized Bd
  have hml : cd.maxLocals = 9 := hml0
  have hown : s.vm.findClass "com/example/duplexwire/duplexwire/protocol/LineFramerFramePinLaw" = some m.cls := findClass_of_methodNamed Bd.named
  have hnm := (name_of_methodNamed Bd.named Bd.method).1
  have X0 : Stand p l e room_1 s m #[(.int p0), (.int p1), (.int p2), (.int p3), (.int p4)] below meth cd s₁ [] 0 0 := Stand.of_body Bd
  have e0 : s₁.heap = h0 := by rw [← hh, Bd.state]; rfl
  have N0 := Fr.nil n0
  have G : Go p e below s room_1.cells room_1.slots (Q0 Z p0 p1 p2 p3 p4 h0 n0) (s₁.setTop (mkF m 0 #[.val (.int p0), .val (.int p1), .val (.int p2), .val (.int p3), .val (.int p4), .unset, .unset, .unset, .unset] [])) := by
    show Go p e below s _ _ _ (s₁.setTop (mkF m 0 #[.val (.int p0), .val (.int p1), .val (.int p2), .val (.int p3), .val (.int p4), .unset, .unset, .unset, .unset] []))
    refine Go.st (fun _ kq_ => XS.iloadN X0.here hx rfl (hb hby at_0) rfl kq_) ?_
    show Go p e below s _ _ _ (s₁.setTop (mkF m 1 #[.val (.int p0), .val (.int p1), .val (.int p2), .val (.int p3), .val (.int p4), .unset, .unset, .unset, .unset] [(.int p0)]))
    refine Go.st (fun _ kq_ => X0.ldcI hx hown (mvT hZ (own_w hw 0 rfl)) rfl (hb hby at_1) kq_) ?_
    show Go p e below s _ _ _ (s₁.setTop (mkF m 3 #[.val (.int p0), .val (.int p1), .val (.int p2), .val (.int p3), .val (.int p4), .unset, .unset, .unset, .unset] [(.int (2147483647 : Int32)), (.int p0)]))
    refine Go.st (fun _ kq_ => XS.iand X0.here hx rfl (hb hby at_3) rfl kq_) ?_
    show Go p e below s _ _ _ (s₁.setTop (mkF m 4 #[.val (.int p0), .val (.int p1), .val (.int p2), .val (.int p3), .val (.int p4), .unset, .unset, .unset, .unset] [(.int (p0 &&& (2147483647 : Int32)))]))
    refine Go.st (fun _ kq_ => XS.iconst X0.here hx rfl (hb hby at_4) kq_) ?_
    show Go p e below s _ _ _ (s₁.setTop (mkF m 5 #[.val (.int p0), .val (.int p1), .val (.int p2), .val (.int p3), .val (.int p4), .unset, .unset, .unset, .unset] [(.int (5 : Int32)), (.int (p0 &&& (2147483647 : Int32)))]))
    refine Go.st (fun _ kq_ => iremM X0 hx rfl (hb hby at_5) rfl (by decide) kq_) ?_
    show Go p e below s _ _ _ (s₁.setTop (mkF m 6 #[.val (.int p0), .val (.int p1), .val (.int p2), .val (.int p3), .val (.int p4), .unset, .unset, .unset, .unset] [(.int ((p0 &&& (2147483647 : Int32)) % (5 : Int32)))]))
    obtain ⟨k, hk⟩ : ∃ z, ((p0 &&& (2147483647 : Int32)) % (5 : Int32)) = z := ⟨_, rfl⟩
    have hr : ¬ k < 0 ∧ k < 5 := hk ▸ own_rem p0 5 (by decide)
    rw [hk]
    rcases own_5 hr with rfl | rfl | rfl | rfl | rfl
    · show Go p e below s _ _ _ (s₁.setTop (mkF m 6 #[.val (.int p0), .val (.int p1), .val (.int p2), .val (.int p3), .val (.int p4), .unset, .unset, .unset, .unset] [(.int (0 : Int32))]))
      refine Go.st (fun _ kq_ => XS.istore X0.here hx rfl (hb hby at_6) rfl (l' := #[.val (.int p0), .val (.int p1), .val (.int p2), .val (.int p3), .val (.int p4), .val (.int (0 : Int32)), .unset, .unset, .unset]) rfl kq_) ?_
      show Go p e below s _ _ _ (s₁.setTop (mkF m 8 #[.val (.int p0), .val (.int p1), .val (.int p2), .val (.int p3), .val (.int p4), .val (.int (0 : Int32)), .unset, .unset, .unset] []))
      refine Go.st (fun _ kq_ => XS.iload X0.here hx rfl (hb hby at_8) rfl kq_) ?_
      show Go p e below s _ _ _ (s₁.setTop (mkF m 10 #[.val (.int p0), .val (.int p1), .val (.int p2), .val (.int p3), .val (.int p4), .val (.int (0 : Int32)), .unset, .unset, .unset] [(.int (0 : Int32))]))
      obtain ⟨T1, h1, k1, X1, e1, E1, A1, st1⟩ := newP X0 hx hZ (own_w hw 1 rfl) e0 (g := (mkF m 10 #[.val (.int p0), .val (.int p1), .val (.int p2), .val (.int p3), .val (.int p4), .val (.int (0 : Int32)), .unset, .unset, .unset] [(.int (0 : Int32))])) rfl (hb hby at_10) rfl (by decide) (cap := 0) (by decide) (by decide) (by decide) (by decide)
      obtain ⟨b1, g1⟩ : ∃ z, z = h0.size := ⟨_, rfl⟩
      rw [← g1] at A1 st1
      have g_b1 : n0 ≤ b1 := Nat.le_trans (own_old O0) (Nat.le_of_eq g1.symm)
      have O1 := O0.ext E1
      have V_b1 : Arv Z h1 b1 k1 .byte (0 : Int32) [] (.int (0 : Int32)) := (Arv.new A1 (by decide)).pad (pad_rep [] (.int (0 : Int32)) 0)
      refine Go.st st1 ?_
      show Go p e below s _ _ _ (T1.setTop (mkF m 12 #[.val (.int p0), .val (.int p1), .val (.int p2), .val (.int p3), .val (.int p4), .val (.int (0 : Int32)), .unset, .unset, .unset] [(.ref b1)]))
      refine Go.st (fun _ kq_ => XS.astore X1.here hx rfl (hb hby at_12) rfl rfl (l' := #[.val (.int p0), .val (.int p1), .val (.int p2), .val (.int p3), .val (.int p4), .val (.int (0 : Int32)), .val (.ref b1), .unset, .unset]) rfl kq_) ?_
      show Go p e below s _ _ _ (T1.setTop (mkF m 14 #[.val (.int p0), .val (.int p1), .val (.int p2), .val (.int p3), .val (.int p4), .val (.int (0 : Int32)), .val (.ref b1), .unset, .unset] []))
      refine Go.st (fun _ kq_ => XS.iload X1.here hx rfl (hb hby at_14) rfl kq_) ?_
      show Go p e below s _ _ _ (T1.setTop (mkF m 16 #[.val (.int p0), .val (.int p1), .val (.int p2), .val (.int p3), .val (.int p4), .val (.int (0 : Int32)), .val (.ref b1), .unset, .unset] [(.int (0 : Int32))]))
      refine Go.st (fun _ kq_ => XS.ifYes X1.here hx rfl (pc0 := 16) (pc' := 25) rfl (hb hby at_16) rfl (by decide) (by decide) (by decide) kq_) ?_
      show Go p e below s _ _ _ (T1.setTop (mkF m 25 #[.val (.int p0), .val (.int p1), .val (.int p2), .val (.int p3), .val (.int p4), .val (.int (0 : Int32)), .val (.ref b1), .unset, .unset] []))
      refine Go.st (fun _ kq_ => XS.iload X1.here hx rfl (hb hby at_25) rfl kq_) ?_
      show Go p e below s _ _ _ (T1.setTop (mkF m 27 #[.val (.int p0), .val (.int p1), .val (.int p2), .val (.int p3), .val (.int p4), .val (.int (0 : Int32)), .val (.ref b1), .unset, .unset] [(.int (0 : Int32))]))
      refine Go.st (fun _ kq_ => XS.iconst X1.here hx rfl (hb hby at_27) kq_) ?_
      show Go p e below s _ _ _ (T1.setTop (mkF m 28 #[.val (.int p0), .val (.int p1), .val (.int p2), .val (.int p3), .val (.int p4), .val (.int (0 : Int32)), .val (.ref b1), .unset, .unset] [(.int (1 : Int32)), (.int (0 : Int32))]))
      refine Go.st (fun _ kq_ => XS.icmpYes X1.here hx rfl (pc0 := 28) (pc' := 37) rfl (hb hby at_28) rfl (by decide) (by decide) (by decide) kq_) ?_
      show Go p e below s _ _ _ (T1.setTop (mkF m 37 #[.val (.int p0), .val (.int p1), .val (.int p2), .val (.int p3), .val (.int p4), .val (.int (0 : Int32)), .val (.ref b1), .unset, .unset] []))
      refine Go.st (fun _ kq_ => XS.iload X1.here hx rfl (hb hby at_37) rfl kq_) ?_
      show Go p e below s _ _ _ (T1.setTop (mkF m 39 #[.val (.int p0), .val (.int p1), .val (.int p2), .val (.int p3), .val (.int p4), .val (.int (0 : Int32)), .val (.ref b1), .unset, .unset] [(.int (0 : Int32))]))
      refine Go.st (fun _ kq_ => XS.iconst X1.here hx rfl (hb hby at_39) kq_) ?_
      show Go p e below s _ _ _ (T1.setTop (mkF m 40 #[.val (.int p0), .val (.int p1), .val (.int p2), .val (.int p3), .val (.int p4), .val (.int (0 : Int32)), .val (.ref b1), .unset, .unset] [(.int (2 : Int32)), (.int (0 : Int32))]))
      refine Go.st (fun _ kq_ => XS.icmpYes X1.here hx rfl (pc0 := 40) (pc' := 49) rfl (hb hby at_40) rfl (by decide) (by decide) (by decide) kq_) ?_
      show Go p e below s _ _ _ (T1.setTop (mkF m 49 #[.val (.int p0), .val (.int p1), .val (.int p2), .val (.int p3), .val (.int p4), .val (.int (0 : Int32)), .val (.ref b1), .unset, .unset] []))
      refine Go.st (fun _ kq_ => XS.iload X1.here hx rfl (hb hby at_49) rfl kq_) ?_
      show Go p e below s _ _ _ (T1.setTop (mkF m 51 #[.val (.int p0), .val (.int p1), .val (.int p2), .val (.int p3), .val (.int p4), .val (.int (0 : Int32)), .val (.ref b1), .unset, .unset] [(.int (0 : Int32))]))
      refine Go.st (fun _ kq_ => XS.iconst X1.here hx rfl (hb hby at_51) kq_) ?_
      show Go p e below s _ _ _ (T1.setTop (mkF m 52 #[.val (.int p0), .val (.int p1), .val (.int p2), .val (.int p3), .val (.int p4), .val (.int (0 : Int32)), .val (.ref b1), .unset, .unset] [(.int (3 : Int32)), (.int (0 : Int32))]))
      refine Go.st (fun _ kq_ => XS.icmpYes X1.here hx rfl (pc0 := 52) (pc' := 62) rfl (hb hby at_52) rfl (by decide) (by decide) (by decide) kq_) ?_
      show Go p e below s _ _ _ (T1.setTop (mkF m 62 #[.val (.int p0), .val (.int p1), .val (.int p2), .val (.int p3), .val (.int p4), .val (.int (0 : Int32)), .val (.ref b1), .unset, .unset] []))
      refine Go.st (fun _ kq_ => XS.aload X1.here hx rfl (hb hby at_62) rfl rfl kq_) ?_
      show Go p e below s _ _ _ (T1.setTop (mkF m 64 #[.val (.int p0), .val (.int p1), .val (.int p2), .val (.int p3), .val (.int p4), .val (.int (0 : Int32)), .val (.ref b1), .unset, .unset] [(.ref b1)]))
      obtain ⟨_, _, ⟨T2, L2, k2, n2⟩, -, X2, ⟨Lc2, hQ2, l2, y2, z2⟩, st2⟩ := Jvm.LawKit.callS X1 hx (y := (⟨"com/example/duplexwire/duplexwire/protocol/LineFramer", "frame", "([B)[B"⟩ : MethodName)) hown (mvT hZ (own_w hw 2 rfl)) (mvT hZ (own_w hw 3 rfl)) (mvT hZ (own_w hw 4 rfl)) (mvT hZ (own_w hw 5 rfl)) (by decide) (backOf (W := 0) (rmf0 l Z a0 hw [] b1 k1 h1 n0 O1 V_b1) hZ (own_w hw 5 rfl) (own_w hw 4 rfl) (by decide) (by decide)) (g := (mkF m 64 #[.val (.int p0), .val (.int p1), .val (.int p2), .val (.int p3), .val (.int p4), .val (.int (0 : Int32)), .val (.ref b1), .unset, .unset] [(.ref b1)])) rfl (by rw [hml]; rfl) (argsL := [(.ref b1)]) (rest := []) (lenOf pd0_0 rfl) rfl (by show 2 * 0 + _ ≤ _; exact Nat.le_of_eq rfl) (hb hby at_64) (fun _ _ => ⟨rfl, e1, (by decide : 1 + 1 ≤ _), (by decide : 0 + 1 ≤ _)⟩)
      dsimp only [Pt.U, Pt.locs, Pt.cells, Pt.slots] at X2 l2 y2 z2 st2 hQ2
      subst l2 y2 z2
      obtain ⟨b2, kb2, rfl, Nc2, Kc2, gb2, szb2, Vb2⟩ := hQ2
      have N2 := Fr.app N0 Nc2
      have g_b2 : n0 ≤ b2 := gb2
      have ne_b1_b2 : b1 ≠ b2 := Nat.ne_of_lt (Nat.lt_of_lt_of_le V_b1.lt szb2)
      have V_b1 := V_b1.keep Kc2 nin0
      have O2 := O1.keep Kc2 all0
      have V_b2 : Arv Z T2.heap b2 kb2 .byte (1 : Int32) [(.int (10 : Int32))] (.int (0 : Int32)) := Vb2
      refine Go.st st2 ?_
      show Go p e below s _ _ _ (T2.setTop (mkF m 67 #[.val (.int p0), .val (.int p1), .val (.int p2), .val (.int p3), .val (.int p4), .val (.int (0 : Int32)), .val (.ref b1), .unset, .unset] [(.ref b2)]))
      refine Go.st (fun _ kq_ => XS.astore X2.here hx rfl (hb hby at_67) rfl rfl (l' := #[.val (.int p0), .val (.int p1), .val (.int p2), .val (.int p3), .val (.int p4), .val (.int (0 : Int32)), .val (.ref b1), .val (.ref b2), .unset]) rfl kq_) ?_
      show Go p e below s _ _ _ (T2.setTop (mkF m 69 #[.val (.int p0), .val (.int p1), .val (.int p2), .val (.int p3), .val (.int p4), .val (.int (0 : Int32)), .val (.ref b1), .val (.ref b2), .unset] []))
      refine Go.st (fun _ kq_ => XS.aload X2.here hx rfl (hb hby at_69) rfl rfl kq_) ?_
      show Go p e below s _ _ _ (T2.setTop (mkF m 71 #[.val (.int p0), .val (.int p1), .val (.int p2), .val (.int p3), .val (.int p4), .val (.int (0 : Int32)), .val (.ref b1), .val (.ref b2), .unset] [(.ref b2)]))
      refine Go.st (fun _ kq_ => XS.ifnullNo X2.here hx rfl (hb hby at_71) rfl kq_) ?_
      show Go p e below s _ _ _ (T2.setTop (mkF m 74 #[.val (.int p0), .val (.int p1), .val (.int p2), .val (.int p3), .val (.int p4), .val (.int (0 : Int32)), .val (.ref b1), .val (.ref b2), .unset] []))
      refine Go.st (fun _ kq_ => XS.aload X2.here hx rfl (hb hby at_74) rfl rfl kq_) ?_
      show Go p e below s _ _ _ (T2.setTop (mkF m 76 #[.val (.int p0), .val (.int p1), .val (.int p2), .val (.int p3), .val (.int p4), .val (.int (0 : Int32)), .val (.ref b1), .val (.ref b2), .unset] [(.ref b2)]))
      refine Go.st (fun _ kq_ => XS.aload X2.here hx rfl (hb hby at_76) rfl rfl kq_) ?_
      show Go p e below s _ _ _ (T2.setTop (mkF m 78 #[.val (.int p0), .val (.int p1), .val (.int p2), .val (.int p3), .val (.int p4), .val (.int (0 : Int32)), .val (.ref b1), .val (.ref b2), .unset] [(.ref b1), (.ref b2)]))
      refine Go.st (fun _ kq_ => XT.acmpNo X2.here hx rfl (hb hby at_78) rfl rfl rfl (XT.aa_eq_f (fun z => (Ne.symm ne_b1_b2) (Value.ref.inj z))) kq_) ?_
      show Go p e below s _ _ _ (T2.setTop (mkF m 81 #[.val (.int p0), .val (.int p1), .val (.int p2), .val (.int p3), .val (.int p4), .val (.int (0 : Int32)), .val (.ref b1), .val (.ref b2), .unset] []))
      refine Go.st (fun _ kq_ => XS.aload X2.here hx rfl (hb hby at_81) rfl rfl kq_) ?_
      show Go p e below s _ _ _ (T2.setTop (mkF m 83 #[.val (.int p0), .val (.int p1), .val (.int p2), .val (.int p3), .val (.int p4), .val (.int (0 : Int32)), .val (.ref b1), .val (.ref b2), .unset] [(.ref b2)]))
      refine Go.st (fun _ kq_ => own_len X2 hx hZ rfl V_b2 (g := (mkF m 83 #[.val (.int p0), .val (.int p1), .val (.int p2), .val (.int p3), .val (.int p4), .val (.int (0 : Int32)), .val (.ref b1), .val (.ref b2), .unset] [(.ref b2)])) rfl rfl (hb hby at_83) _ kq_) ?_
      show Go p e below s _ _ _ (T2.setTop (mkF m 84 #[.val (.int p0), .val (.int p1), .val (.int p2), .val (.int p3), .val (.int p4), .val (.int (0 : Int32)), .val (.ref b1), .val (.ref b2), .unset] [(.int (1 : Int32))]))
      refine Go.st (fun _ kq_ => XS.iload X2.here hx rfl (hb hby at_84) rfl kq_) ?_
      show Go p e below s _ _ _ (T2.setTop (mkF m 86 #[.val (.int p0), .val (.int p1), .val (.int p2), .val (.int p3), .val (.int p4), .val (.int (0 : Int32)), .val (.ref b1), .val (.ref b2), .unset] [(.int (0 : Int32)), (.int (1 : Int32))]))
      refine Go.st (fun _ kq_ => XS.iconst X2.here hx rfl (hb hby at_86) kq_) ?_
      show Go p e below s _ _ _ (T2.setTop (mkF m 87 #[.val (.int p0), .val (.int p1), .val (.int p2), .val (.int p3), .val (.int p4), .val (.int (0 : Int32)), .val (.ref b1), .val (.ref b2), .unset] [(.int (1 : Int32)), (.int (0 : Int32)), (.int (1 : Int32))]))
      refine Go.st (fun _ kq_ => XS.iadd X2.here hx rfl (hb hby at_87) rfl kq_) ?_
      show Go p e below s _ _ _ (T2.setTop (mkF m 88 #[.val (.int p0), .val (.int p1), .val (.int p2), .val (.int p3), .val (.int p4), .val (.int (0 : Int32)), .val (.ref b1), .val (.ref b2), .unset] [(.int (1 : Int32)), (.int (1 : Int32))]))
      refine Go.st (fun _ kq_ => XS.icmpYes X2.here hx rfl (pc0 := 88) (pc' := 93) rfl (hb hby at_88) rfl (by decide) (by decide) (by decide) kq_) ?_
      show Go p e below s _ _ _ (T2.setTop (mkF m 93 #[.val (.int p0), .val (.int p1), .val (.int p2), .val (.int p3), .val (.int p4), .val (.int (0 : Int32)), .val (.ref b1), .val (.ref b2), .unset] []))
      refine Go.st (fun _ kq_ => XS.aload X2.here hx rfl (hb hby at_93) rfl rfl kq_) ?_
      show Go p e below s _ _ _ (T2.setTop (mkF m 95 #[.val (.int p0), .val (.int p1), .val (.int p2), .val (.int p3), .val (.int p4), .val (.int (0 : Int32)), .val (.ref b1), .val (.ref b2), .unset] [(.ref b1)]))
      refine Go.st (fun _ kq_ => own_len X2 hx hZ rfl V_b1 (g := (mkF m 95 #[.val (.int p0), .val (.int p1), .val (.int p2), .val (.int p3), .val (.int p4), .val (.int (0 : Int32)), .val (.ref b1), .val (.ref b2), .unset] [(.ref b1)])) rfl rfl (hb hby at_95) _ kq_) ?_
      show Go p e below s _ _ _ (T2.setTop (mkF m 96 #[.val (.int p0), .val (.int p1), .val (.int p2), .val (.int p3), .val (.int p4), .val (.int (0 : Int32)), .val (.ref b1), .val (.ref b2), .unset] [(.int (0 : Int32))]))
      refine Go.st (fun _ kq_ => XS.iload X2.here hx rfl (hb hby at_96) rfl kq_) ?_
      show Go p e below s _ _ _ (T2.setTop (mkF m 98 #[.val (.int p0), .val (.int p1), .val (.int p2), .val (.int p3), .val (.int p4), .val (.int (0 : Int32)), .val (.ref b1), .val (.ref b2), .unset] [(.int (0 : Int32)), (.int (0 : Int32))]))
      refine Go.st (fun _ kq_ => XS.icmpYes X2.here hx rfl (pc0 := 98) (pc' := 103) rfl (hb hby at_98) rfl (by decide) (by decide) (by decide) kq_) ?_
      show Go p e below s _ _ _ (T2.setTop (mkF m 103 #[.val (.int p0), .val (.int p1), .val (.int p2), .val (.int p3), .val (.int p4), .val (.int (0 : Int32)), .val (.ref b1), .val (.ref b2), .unset] []))
      refine Go.st (fun _ kq_ => XS.aload X2.here hx rfl (hb hby at_103) rfl rfl kq_) ?_
      show Go p e below s _ _ _ (T2.setTop (mkF m 105 #[.val (.int p0), .val (.int p1), .val (.int p2), .val (.int p3), .val (.int p4), .val (.int (0 : Int32)), .val (.ref b1), .val (.ref b2), .unset] [(.ref b2)]))
      refine Go.st (fun _ kq_ => XS.iload X2.here hx rfl (hb hby at_105) rfl kq_) ?_
      show Go p e below s _ _ _ (T2.setTop (mkF m 107 #[.val (.int p0), .val (.int p1), .val (.int p2), .val (.int p3), .val (.int p4), .val (.int (0 : Int32)), .val (.ref b1), .val (.ref b2), .unset] [(.int (0 : Int32)), (.ref b2)]))
      refine Go.st (fun _ kq_ => own_baloadB X2 hx hZ rfl V_b2 (by decide) (by decide) (v := (.int (10 : Int32))) rfl (g := (mkF m 107 #[.val (.int p0), .val (.int p1), .val (.int p2), .val (.int p3), .val (.int p4), .val (.int (0 : Int32)), .val (.ref b1), .val (.ref b2), .unset] [(.int (0 : Int32)), (.ref b2)])) rfl rfl (hb hby at_107) _ kq_) ?_
      show Go p e below s _ _ _ (T2.setTop (mkF m 108 #[.val (.int p0), .val (.int p1), .val (.int p2), .val (.int p3), .val (.int p4), .val (.int (0 : Int32)), .val (.ref b1), .val (.ref b2), .unset] [(.int (10 : Int32))]))
      refine Go.st (fun _ kq_ => XS.bipush X2.here hx rfl (hb hby at_108) kq_) ?_
      show Go p e below s _ _ _ (T2.setTop (mkF m 110 #[.val (.int p0), .val (.int p1), .val (.int p2), .val (.int p3), .val (.int p4), .val (.int (0 : Int32)), .val (.ref b1), .val (.ref b2), .unset] [(.int (10 : Int32)), (.int (10 : Int32))]))
      refine Go.st (fun _ kq_ => XS.icmpNo X2.here hx rfl (hb hby at_110) rfl (by decide) kq_) ?_
      show Go p e below s _ _ _ (T2.setTop (mkF m 113 #[.val (.int p0), .val (.int p1), .val (.int p2), .val (.int p3), .val (.int p4), .val (.int (0 : Int32)), .val (.ref b1), .val (.ref b2), .unset] []))
      refine Go.st (fun _ kq_ => XS.iconst X2.here hx rfl (hb hby at_113) kq_) ?_
      show Go p e below s _ _ _ (T2.setTop (mkF m 114 #[.val (.int p0), .val (.int p1), .val (.int p2), .val (.int p3), .val (.int p4), .val (.int (0 : Int32)), .val (.ref b1), .val (.ref b2), .unset] [(.int (1 : Int32))]))
      refine Go.st (fun _ kq_ => XS.goto X2.here hx rfl (pc0 := 114) (pc' := 118) rfl (hb hby at_114) (by decide) (by decide) kq_) ?_
      show Go p e below s _ _ _ (T2.setTop (mkF m 118 #[.val (.int p0), .val (.int p1), .val (.int p2), .val (.int p3), .val (.int p4), .val (.int (0 : Int32)), .val (.ref b1), .val (.ref b2), .unset] [(.int (1 : Int32))]))
      refine Go.st (fun _ kq_ => XS.istore X2.here hx rfl (hb hby at_118) rfl (l' := #[.val (.int p0), .val (.int p1), .val (.int p2), .val (.int p3), .val (.int p4), .val (.int (0 : Int32)), .val (.ref b1), .val (.ref b2), .val (.int (1 : Int32))]) rfl kq_) ?_
      show Go p e below s _ _ _ (T2.setTop (mkF m 120 #[.val (.int p0), .val (.int p1), .val (.int p2), .val (.int p3), .val (.int p4), .val (.int (0 : Int32)), .val (.ref b1), .val (.ref b2), .val (.int (1 : Int32))] []))
      refine Go.st (fun _ kq_ => XS.iload X2.here hx rfl (hb hby at_120) rfl kq_) ?_
      show Go p e below s _ _ _ (T2.setTop (mkF m 122 #[.val (.int p0), .val (.int p1), .val (.int p2), .val (.int p3), .val (.int p4), .val (.int (0 : Int32)), .val (.ref b1), .val (.ref b2), .val (.int (1 : Int32))] [(.int (1 : Int32))]))
      refine Go.st (fun _ kq_ => XS.ifNo X2.here hx rfl (hb hby at_122) rfl (by decide) kq_) ?_
      show Go p e below s _ _ _ (T2.setTop (mkF m 125 #[.val (.int p0), .val (.int p1), .val (.int p2), .val (.int p3), .val (.int p4), .val (.int (0 : Int32)), .val (.ref b1), .val (.ref b2), .val (.int (1 : Int32))] []))
      refine Go.st (fun _ kq_ => XS.iload X2.here hx rfl (hb hby at_125) rfl kq_) ?_
      show Go p e below s _ _ _ (T2.setTop (mkF m 127 #[.val (.int p0), .val (.int p1), .val (.int p2), .val (.int p3), .val (.int p4), .val (.int (0 : Int32)), .val (.ref b1), .val (.ref b2), .val (.int (1 : Int32))] [(.int (0 : Int32))]))
      refine Go.st (fun _ kq_ => XS.iconst X2.here hx rfl (hb hby at_127) kq_) ?_
      show Go p e below s _ _ _ (T2.setTop (mkF m 128 #[.val (.int p0), .val (.int p1), .val (.int p2), .val (.int p3), .val (.int p4), .val (.int (0 : Int32)), .val (.ref b1), .val (.ref b2), .val (.int (1 : Int32))] [(.int (1 : Int32)), (.int (0 : Int32))]))
      refine Go.st (fun _ kq_ => XS.icmpYes X2.here hx rfl (pc0 := 128) (pc' := 149) rfl (hb hby at_128) rfl (by decide) (by decide) (by decide) kq_) ?_
      show Go p e below s _ _ _ (T2.setTop (mkF m 149 #[.val (.int p0), .val (.int p1), .val (.int p2), .val (.int p3), .val (.int p4), .val (.int (0 : Int32)), .val (.ref b1), .val (.ref b2), .val (.int (1 : Int32))] []))
      refine Go.st (fun _ kq_ => XS.iconst X2.here hx rfl (hb hby at_149) kq_) ?_
      show Go p e below s _ _ _ (T2.setTop (mkF m 150 #[.val (.int p0), .val (.int p1), .val (.int p2), .val (.int p3), .val (.int p4), .val (.int (0 : Int32)), .val (.ref b1), .val (.ref b2), .val (.int (1 : Int32))] [(.int (1 : Int32))]))
      refine Go.st (fun _ kq_ => XS.goto X2.here hx rfl (pc0 := 150) (pc' := 154) rfl (hb hby at_150) (by decide) (by decide) kq_) ?_
      show Go p e below s _ _ _ (T2.setTop (mkF m 154 #[.val (.int p0), .val (.int p1), .val (.int p2), .val (.int p3), .val (.int p4), .val (.int (0 : Int32)), .val (.ref b1), .val (.ref b2), .val (.int (1 : Int32))] [(.int (1 : Int32))]))
      refine Go.st (fun _ kq_ => XS.istore X2.here hx rfl (hb hby at_154) rfl (l' := #[.val (.int p0), .val (.int p1), .val (.int p2), .val (.int p3), .val (.int p4), .val (.int (0 : Int32)), .val (.ref b1), .val (.ref b2), .val (.int (1 : Int32))]) rfl kq_) ?_
      show Go p e below s _ _ _ (T2.setTop (mkF m 156 #[.val (.int p0), .val (.int p1), .val (.int p2), .val (.int p3), .val (.int p4), .val (.int (0 : Int32)), .val (.ref b1), .val (.ref b2), .val (.int (1 : Int32))] []))
      refine Go.st (fun _ kq_ => XS.iload X2.here hx rfl (hb hby at_156) rfl kq_) ?_
      show Go p e below s _ _ _ (T2.setTop (mkF m 158 #[.val (.int p0), .val (.int p1), .val (.int p2), .val (.int p3), .val (.int p4), .val (.int (0 : Int32)), .val (.ref b1), .val (.ref b2), .val (.int (1 : Int32))] [(.int (1 : Int32))]))
      refine Go.st (fun _ kq_ => XS.ifNo X2.here hx rfl (hb hby at_158) rfl (by decide) kq_) ?_
      show Go p e below s _ _ _ (T2.setTop (mkF m 161 #[.val (.int p0), .val (.int p1), .val (.int p2), .val (.int p3), .val (.int p4), .val (.int (0 : Int32)), .val (.ref b1), .val (.ref b2), .val (.int (1 : Int32))] []))
      refine Go.st (fun _ kq_ => XS.iload X2.here hx rfl (hb hby at_161) rfl kq_) ?_
      show Go p e below s _ _ _ (T2.setTop (mkF m 163 #[.val (.int p0), .val (.int p1), .val (.int p2), .val (.int p3), .val (.int p4), .val (.int (0 : Int32)), .val (.ref b1), .val (.ref b2), .val (.int (1 : Int32))] [(.int (0 : Int32))]))
      refine Go.st (fun _ kq_ => XS.iconst X2.here hx rfl (hb hby at_163) kq_) ?_
      show Go p e below s _ _ _ (T2.setTop (mkF m 164 #[.val (.int p0), .val (.int p1), .val (.int p2), .val (.int p3), .val (.int p4), .val (.int (0 : Int32)), .val (.ref b1), .val (.ref b2), .val (.int (1 : Int32))] [(.int (2 : Int32)), (.int (0 : Int32))]))
      refine Go.st (fun _ kq_ => XS.icmpYes X2.here hx rfl (pc0 := 164) (pc' := 185) rfl (hb hby at_164) rfl (by decide) (by decide) (by decide) kq_) ?_
      show Go p e below s _ _ _ (T2.setTop (mkF m 185 #[.val (.int p0), .val (.int p1), .val (.int p2), .val (.int p3), .val (.int p4), .val (.int (0 : Int32)), .val (.ref b1), .val (.ref b2), .val (.int (1 : Int32))] []))
      refine Go.st (fun _ kq_ => XS.iconst X2.here hx rfl (hb hby at_185) kq_) ?_
      show Go p e below s _ _ _ (T2.setTop (mkF m 186 #[.val (.int p0), .val (.int p1), .val (.int p2), .val (.int p3), .val (.int p4), .val (.int (0 : Int32)), .val (.ref b1), .val (.ref b2), .val (.int (1 : Int32))] [(.int (1 : Int32))]))
      refine Go.st (fun _ kq_ => XS.goto X2.here hx rfl (pc0 := 186) (pc' := 190) rfl (hb hby at_186) (by decide) (by decide) kq_) ?_
      show Go p e below s _ _ _ (T2.setTop (mkF m 190 #[.val (.int p0), .val (.int p1), .val (.int p2), .val (.int p3), .val (.int p4), .val (.int (0 : Int32)), .val (.ref b1), .val (.ref b2), .val (.int (1 : Int32))] [(.int (1 : Int32))]))
      refine Go.st (fun _ kq_ => XS.istore X2.here hx rfl (hb hby at_190) rfl (l' := #[.val (.int p0), .val (.int p1), .val (.int p2), .val (.int p3), .val (.int p4), .val (.int (0 : Int32)), .val (.ref b1), .val (.ref b2), .val (.int (1 : Int32))]) rfl kq_) ?_
      show Go p e below s _ _ _ (T2.setTop (mkF m 192 #[.val (.int p0), .val (.int p1), .val (.int p2), .val (.int p3), .val (.int p4), .val (.int (0 : Int32)), .val (.ref b1), .val (.ref b2), .val (.int (1 : Int32))] []))
      refine Go.st (fun _ kq_ => XS.iload X2.here hx rfl (hb hby at_192) rfl kq_) ?_
      show Go p e below s _ _ _ (T2.setTop (mkF m 194 #[.val (.int p0), .val (.int p1), .val (.int p2), .val (.int p3), .val (.int p4), .val (.int (0 : Int32)), .val (.ref b1), .val (.ref b2), .val (.int (1 : Int32))] [(.int (1 : Int32))]))
      refine Go.st (fun _ kq_ => XS.ifNo X2.here hx rfl (hb hby at_194) rfl (by decide) kq_) ?_
      show Go p e below s _ _ _ (T2.setTop (mkF m 197 #[.val (.int p0), .val (.int p1), .val (.int p2), .val (.int p3), .val (.int p4), .val (.int (0 : Int32)), .val (.ref b1), .val (.ref b2), .val (.int (1 : Int32))] []))
      refine Go.st (fun _ kq_ => XS.iload X2.here hx rfl (hb hby at_197) rfl kq_) ?_
      show Go p e below s _ _ _ (T2.setTop (mkF m 199 #[.val (.int p0), .val (.int p1), .val (.int p2), .val (.int p3), .val (.int p4), .val (.int (0 : Int32)), .val (.ref b1), .val (.ref b2), .val (.int (1 : Int32))] [(.int (0 : Int32))]))
      refine Go.st (fun _ kq_ => XS.iconst X2.here hx rfl (hb hby at_199) kq_) ?_
      show Go p e below s _ _ _ (T2.setTop (mkF m 200 #[.val (.int p0), .val (.int p1), .val (.int p2), .val (.int p3), .val (.int p4), .val (.int (0 : Int32)), .val (.ref b1), .val (.ref b2), .val (.int (1 : Int32))] [(.int (3 : Int32)), (.int (0 : Int32))]))
      refine Go.st (fun _ kq_ => XS.icmpYes X2.here hx rfl (pc0 := 200) (pc' := 221) rfl (hb hby at_200) rfl (by decide) (by decide) (by decide) kq_) ?_
      show Go p e below s _ _ _ (T2.setTop (mkF m 221 #[.val (.int p0), .val (.int p1), .val (.int p2), .val (.int p3), .val (.int p4), .val (.int (0 : Int32)), .val (.ref b1), .val (.ref b2), .val (.int (1 : Int32))] []))
      refine Go.st (fun _ kq_ => XS.iconst X2.here hx rfl (hb hby at_221) kq_) ?_
      show Go p e below s _ _ _ (T2.setTop (mkF m 222 #[.val (.int p0), .val (.int p1), .val (.int p2), .val (.int p3), .val (.int p4), .val (.int (0 : Int32)), .val (.ref b1), .val (.ref b2), .val (.int (1 : Int32))] [(.int (1 : Int32))]))
      refine Go.st (fun _ kq_ => XS.goto X2.here hx rfl (pc0 := 222) (pc' := 226) rfl (hb hby at_222) (by decide) (by decide) kq_) ?_
      show Go p e below s _ _ _ (T2.setTop (mkF m 226 #[.val (.int p0), .val (.int p1), .val (.int p2), .val (.int p3), .val (.int p4), .val (.int (0 : Int32)), .val (.ref b1), .val (.ref b2), .val (.int (1 : Int32))] [(.int (1 : Int32))]))
      refine Go.st (fun _ kq_ => XS.istore X2.here hx rfl (hb hby at_226) rfl (l' := #[.val (.int p0), .val (.int p1), .val (.int p2), .val (.int p3), .val (.int p4), .val (.int (0 : Int32)), .val (.ref b1), .val (.ref b2), .val (.int (1 : Int32))]) rfl kq_) ?_
      show Go p e below s _ _ _ (T2.setTop (mkF m 228 #[.val (.int p0), .val (.int p1), .val (.int p2), .val (.int p3), .val (.int p4), .val (.int (0 : Int32)), .val (.ref b1), .val (.ref b2), .val (.int (1 : Int32))] []))
      refine Go.st (fun _ kq_ => XS.iload X2.here hx rfl (hb hby at_228) rfl kq_) ?_
      show Go p e below s _ _ _ (T2.setTop (mkF m 230 #[.val (.int p0), .val (.int p1), .val (.int p2), .val (.int p3), .val (.int p4), .val (.int (0 : Int32)), .val (.ref b1), .val (.ref b2), .val (.int (1 : Int32))] [(.int (1 : Int32))]))
      refine Go.st (fun _ kq_ => XS.ifNo X2.here hx rfl (hb hby at_230) rfl (by decide) kq_) ?_
      show Go p e below s _ _ _ (T2.setTop (mkF m 233 #[.val (.int p0), .val (.int p1), .val (.int p2), .val (.int p3), .val (.int p4), .val (.int (0 : Int32)), .val (.ref b1), .val (.ref b2), .val (.int (1 : Int32))] []))
      refine Go.st (fun _ kq_ => XS.iload X2.here hx rfl (hb hby at_233) rfl kq_) ?_
      show Go p e below s _ _ _ (T2.setTop (mkF m 235 #[.val (.int p0), .val (.int p1), .val (.int p2), .val (.int p3), .val (.int p4), .val (.int (0 : Int32)), .val (.ref b1), .val (.ref b2), .val (.int (1 : Int32))] [(.int (0 : Int32))]))
      refine Go.st (fun _ kq_ => XS.iconst X2.here hx rfl (hb hby at_235) kq_) ?_
      show Go p e below s _ _ _ (T2.setTop (mkF m 236 #[.val (.int p0), .val (.int p1), .val (.int p2), .val (.int p3), .val (.int p4), .val (.int (0 : Int32)), .val (.ref b1), .val (.ref b2), .val (.int (1 : Int32))] [(.int (4 : Int32)), (.int (0 : Int32))]))
      refine Go.st (fun _ kq_ => XS.icmpYes X2.here hx rfl (pc0 := 236) (pc' := 259) rfl (hb hby at_236) rfl (by decide) (by decide) (by decide) kq_) ?_
      show Go p e below s _ _ _ (T2.setTop (mkF m 259 #[.val (.int p0), .val (.int p1), .val (.int p2), .val (.int p3), .val (.int p4), .val (.int (0 : Int32)), .val (.ref b1), .val (.ref b2), .val (.int (1 : Int32))] []))
      refine Go.st (fun _ kq_ => XS.iconst X2.here hx rfl (hb hby at_259) kq_) ?_
      show Go p e below s _ _ _ (T2.setTop (mkF m 260 #[.val (.int p0), .val (.int p1), .val (.int p2), .val (.int p3), .val (.int p4), .val (.int (0 : Int32)), .val (.ref b1), .val (.ref b2), .val (.int (1 : Int32))] [(.int (1 : Int32))]))
      refine Go.st (fun _ kq_ => XS.goto X2.here hx rfl (pc0 := 260) (pc' := 264) rfl (hb hby at_260) (by decide) (by decide) kq_) ?_
      show Go p e below s _ _ _ (T2.setTop (mkF m 264 #[.val (.int p0), .val (.int p1), .val (.int p2), .val (.int p3), .val (.int p4), .val (.int (0 : Int32)), .val (.ref b1), .val (.ref b2), .val (.int (1 : Int32))] [(.int (1 : Int32))]))
      refine Go.st (fun _ kq_ => XS.istore X2.here hx rfl (hb hby at_264) rfl (l' := #[.val (.int p0), .val (.int p1), .val (.int p2), .val (.int p3), .val (.int p4), .val (.int (0 : Int32)), .val (.ref b1), .val (.ref b2), .val (.int (1 : Int32))]) rfl kq_) ?_
      show Go p e below s _ _ _ (T2.setTop (mkF m 266 #[.val (.int p0), .val (.int p1), .val (.int p2), .val (.int p3), .val (.int p4), .val (.int (0 : Int32)), .val (.ref b1), .val (.ref b2), .val (.int (1 : Int32))] []))
      refine Go.st (fun _ kq_ => XS.iload X2.here hx rfl (hb hby at_266) rfl kq_) ?_
      show Go p e below s _ _ _ (T2.setTop (mkF m 268 #[.val (.int p0), .val (.int p1), .val (.int p2), .val (.int p3), .val (.int p4), .val (.int (0 : Int32)), .val (.ref b1), .val (.ref b2), .val (.int (1 : Int32))] [(.int (1 : Int32))]))
      exact Go.ret X2 hlk (some (.int (nar .boolean (1 : Int32)))) (fun h => by rw [Bd.returns] at h; cases h) (by exact ⟨rfl, N2⟩) (by decide) (by decide) (fun fs hr => retN X2 hx (t := .boolean) Bd.returns (by simp) (hb hby at_268) hr)
    · show Go p e below s _ _ _ (s₁.setTop (mkF m 6 #[.val (.int p0), .val (.int p1), .val (.int p2), .val (.int p3), .val (.int p4), .unset, .unset, .unset, .unset] [(.int (1 : Int32))]))
      refine Go.st (fun _ kq_ => XS.istore X0.here hx rfl (hb hby at_6) rfl (l' := #[.val (.int p0), .val (.int p1), .val (.int p2), .val (.int p3), .val (.int p4), .val (.int (1 : Int32)), .unset, .unset, .unset]) rfl kq_) ?_
      show Go p e below s _ _ _ (s₁.setTop (mkF m 8 #[.val (.int p0), .val (.int p1), .val (.int p2), .val (.int p3), .val (.int p4), .val (.int (1 : Int32)), .unset, .unset, .unset] []))
      refine Go.st (fun _ kq_ => XS.iload X0.here hx rfl (hb hby at_8) rfl kq_) ?_
      show Go p e below s _ _ _ (s₁.setTop (mkF m 10 #[.val (.int p0), .val (.int p1), .val (.int p2), .val (.int p3), .val (.int p4), .val (.int (1 : Int32)), .unset, .unset, .unset] [(.int (1 : Int32))]))
      obtain ⟨T3, h3, k3, X3, e3, E3, A3, st3⟩ := newP X0 hx hZ (own_w hw 1 rfl) e0 (g := (mkF m 10 #[.val (.int p0), .val (.int p1), .val (.int p2), .val (.int p3), .val (.int p4), .val (.int (1 : Int32)), .unset, .unset, .unset] [(.int (1 : Int32))])) rfl (hb hby at_10) rfl (by decide) (cap := 1) (by decide) (by decide) (by decide) (by decide)
      obtain ⟨b3, g3⟩ : ∃ z, z = h0.size := ⟨_, rfl⟩
      rw [← g3] at A3 st3
      have g_b3 : n0 ≤ b3 := Nat.le_trans (own_old O0) (Nat.le_of_eq g3.symm)
      have O3 := O0.ext E3
      have V_b3 : Arv Z h3 b3 k3 .byte (1 : Int32) [(.int (0 : Int32))] (.int (0 : Int32)) := (Arv.new A3 (by decide)).pad (pad_rep [] (.int (0 : Int32)) 1)
      refine Go.st st3 ?_
      show Go p e below s _ _ _ (T3.setTop (mkF m 12 #[.val (.int p0), .val (.int p1), .val (.int p2), .val (.int p3), .val (.int p4), .val (.int (1 : Int32)), .unset, .unset, .unset] [(.ref b3)]))
      refine Go.st (fun _ kq_ => XS.astore X3.here hx rfl (hb hby at_12) rfl rfl (l' := #[.val (.int p0), .val (.int p1), .val (.int p2), .val (.int p3), .val (.int p4), .val (.int (1 : Int32)), .val (.ref b3), .unset, .unset]) rfl kq_) ?_
      show Go p e below s _ _ _ (T3.setTop (mkF m 14 #[.val (.int p0), .val (.int p1), .val (.int p2), .val (.int p3), .val (.int p4), .val (.int (1 : Int32)), .val (.ref b3), .unset, .unset] []))
      refine Go.st (fun _ kq_ => XS.iload X3.here hx rfl (hb hby at_14) rfl kq_) ?_
      show Go p e below s _ _ _ (T3.setTop (mkF m 16 #[.val (.int p0), .val (.int p1), .val (.int p2), .val (.int p3), .val (.int p4), .val (.int (1 : Int32)), .val (.ref b3), .unset, .unset] [(.int (1 : Int32))]))
      refine Go.st (fun _ kq_ => XS.ifNo X3.here hx rfl (hb hby at_16) rfl (by decide) kq_) ?_
      show Go p e below s _ _ _ (T3.setTop (mkF m 19 #[.val (.int p0), .val (.int p1), .val (.int p2), .val (.int p3), .val (.int p4), .val (.int (1 : Int32)), .val (.ref b3), .unset, .unset] []))
      refine Go.st (fun _ kq_ => XS.aload X3.here hx rfl (hb hby at_19) rfl rfl kq_) ?_
      show Go p e below s _ _ _ (T3.setTop (mkF m 21 #[.val (.int p0), .val (.int p1), .val (.int p2), .val (.int p3), .val (.int p4), .val (.int (1 : Int32)), .val (.ref b3), .unset, .unset] [(.ref b3)]))
      refine Go.st (fun _ kq_ => XS.iconst X3.here hx rfl (hb hby at_21) kq_) ?_
      show Go p e below s _ _ _ (T3.setTop (mkF m 22 #[.val (.int p0), .val (.int p1), .val (.int p2), .val (.int p3), .val (.int p4), .val (.int (1 : Int32)), .val (.ref b3), .unset, .unset] [(.int (0 : Int32)), (.ref b3)]))
      refine Go.st (fun _ kq_ => XS.iloadN X3.here hx rfl (hb hby at_22) rfl kq_) ?_
      show Go p e below s _ _ _ (T3.setTop (mkF m 23 #[.val (.int p0), .val (.int p1), .val (.int p2), .val (.int p3), .val (.int p4), .val (.int (1 : Int32)), .val (.ref b3), .unset, .unset] [(.int p1), (.int (0 : Int32)), (.ref b3)]))
      refine Go.st (fun _ kq_ => XT.i2b X3.here hx rfl (hb hby at_23) rfl kq_) ?_
      show Go p e below s _ _ _ (T3.setTop (mkF m 24 #[.val (.int p0), .val (.int p1), .val (.int p2), .val (.int p3), .val (.int p4), .val (.int (1 : Int32)), .val (.ref b3), .unset, .unset] [(.int (p1.toInt8.toInt32)), (.int (0 : Int32)), (.ref b3)]))
      obtain ⟨T4, h4, X4, e4, W4, V4, st4⟩ := own_stB X3 hx hZ e3 V_b3 (j := (0 : Int32)) (by decide) (by decide) 0 rfl (Nat.le_of_ble_eq_true rfl) (g := (mkF m 24 #[.val (.int p0), .val (.int p1), .val (.int p2), .val (.int p3), .val (.int p4), .val (.int (1 : Int32)), .val (.ref b3), .unset, .unset] [(.int (p1.toInt8.toInt32)), (.int (0 : Int32)), (.ref b3)])) rfl rfl (hb hby at_24)
      have N4 := Fr.snoc X4 N0 g_b3
      have O4 := O3.wr W4 g_b3
      have V_b3 : Arv Z h4 b3 k3 .byte (1 : Int32) [(.int (nar .byte (p1.toInt8.toInt32)))] (.int (0 : Int32)) := V4
      refine Go.st st4 ?_
      show Go p e below s _ _ _ (T4.setTop (mkF m 25 #[.val (.int p0), .val (.int p1), .val (.int p2), .val (.int p3), .val (.int p4), .val (.int (1 : Int32)), .val (.ref b3), .unset, .unset] []))
      refine Go.st (fun _ kq_ => XS.iload X4.here hx rfl (hb hby at_25) rfl kq_) ?_
      show Go p e below s _ _ _ (T4.setTop (mkF m 27 #[.val (.int p0), .val (.int p1), .val (.int p2), .val (.int p3), .val (.int p4), .val (.int (1 : Int32)), .val (.ref b3), .unset, .unset] [(.int (1 : Int32))]))
      refine Go.st (fun _ kq_ => XS.iconst X4.here hx rfl (hb hby at_27) kq_) ?_
      show Go p e below s _ _ _ (T4.setTop (mkF m 28 #[.val (.int p0), .val (.int p1), .val (.int p2), .val (.int p3), .val (.int p4), .val (.int (1 : Int32)), .val (.ref b3), .unset, .unset] [(.int (1 : Int32)), (.int (1 : Int32))]))
      refine Go.st (fun _ kq_ => XS.icmpYes X4.here hx rfl (pc0 := 28) (pc' := 37) rfl (hb hby at_28) rfl (by decide) (by decide) (by decide) kq_) ?_
      show Go p e below s _ _ _ (T4.setTop (mkF m 37 #[.val (.int p0), .val (.int p1), .val (.int p2), .val (.int p3), .val (.int p4), .val (.int (1 : Int32)), .val (.ref b3), .unset, .unset] []))
      refine Go.st (fun _ kq_ => XS.iload X4.here hx rfl (hb hby at_37) rfl kq_) ?_
      show Go p e below s _ _ _ (T4.setTop (mkF m 39 #[.val (.int p0), .val (.int p1), .val (.int p2), .val (.int p3), .val (.int p4), .val (.int (1 : Int32)), .val (.ref b3), .unset, .unset] [(.int (1 : Int32))]))
      refine Go.st (fun _ kq_ => XS.iconst X4.here hx rfl (hb hby at_39) kq_) ?_
      show Go p e below s _ _ _ (T4.setTop (mkF m 40 #[.val (.int p0), .val (.int p1), .val (.int p2), .val (.int p3), .val (.int p4), .val (.int (1 : Int32)), .val (.ref b3), .unset, .unset] [(.int (2 : Int32)), (.int (1 : Int32))]))
      refine Go.st (fun _ kq_ => XS.icmpYes X4.here hx rfl (pc0 := 40) (pc' := 49) rfl (hb hby at_40) rfl (by decide) (by decide) (by decide) kq_) ?_
      show Go p e below s _ _ _ (T4.setTop (mkF m 49 #[.val (.int p0), .val (.int p1), .val (.int p2), .val (.int p3), .val (.int p4), .val (.int (1 : Int32)), .val (.ref b3), .unset, .unset] []))
      refine Go.st (fun _ kq_ => XS.iload X4.here hx rfl (hb hby at_49) rfl kq_) ?_
      show Go p e below s _ _ _ (T4.setTop (mkF m 51 #[.val (.int p0), .val (.int p1), .val (.int p2), .val (.int p3), .val (.int p4), .val (.int (1 : Int32)), .val (.ref b3), .unset, .unset] [(.int (1 : Int32))]))
      refine Go.st (fun _ kq_ => XS.iconst X4.here hx rfl (hb hby at_51) kq_) ?_
      show Go p e below s _ _ _ (T4.setTop (mkF m 52 #[.val (.int p0), .val (.int p1), .val (.int p2), .val (.int p3), .val (.int p4), .val (.int (1 : Int32)), .val (.ref b3), .unset, .unset] [(.int (3 : Int32)), (.int (1 : Int32))]))
      refine Go.st (fun _ kq_ => XS.icmpYes X4.here hx rfl (pc0 := 52) (pc' := 62) rfl (hb hby at_52) rfl (by decide) (by decide) (by decide) kq_) ?_
      show Go p e below s _ _ _ (T4.setTop (mkF m 62 #[.val (.int p0), .val (.int p1), .val (.int p2), .val (.int p3), .val (.int p4), .val (.int (1 : Int32)), .val (.ref b3), .unset, .unset] []))
      refine Go.st (fun _ kq_ => XS.aload X4.here hx rfl (hb hby at_62) rfl rfl kq_) ?_
      show Go p e below s _ _ _ (T4.setTop (mkF m 64 #[.val (.int p0), .val (.int p1), .val (.int p2), .val (.int p3), .val (.int p4), .val (.int (1 : Int32)), .val (.ref b3), .unset, .unset] [(.ref b3)]))
      obtain ⟨_, _, ⟨T5, L5, k5, n5⟩, -, X5, ⟨Lc5, hQ5, l5, y5, z5⟩, st5⟩ := Jvm.LawKit.callS X4 hx (y := (⟨"com/example/duplexwire/duplexwire/protocol/LineFramer", "frame", "([B)[B"⟩ : MethodName)) hown (mvT hZ (own_w hw 2 rfl)) (mvT hZ (own_w hw 3 rfl)) (mvT hZ (own_w hw 4 rfl)) (mvT hZ (own_w hw 5 rfl)) (by decide) (backOf (W := 0) (rmf1 l Z a0 hw [] b3 k3 (nar .byte (p1.toInt8.toInt32)) h4 n0 O4 V_b3) hZ (own_w hw 5 rfl) (own_w hw 4 rfl) (by decide) (by decide)) (g := (mkF m 64 #[.val (.int p0), .val (.int p1), .val (.int p2), .val (.int p3), .val (.int p4), .val (.int (1 : Int32)), .val (.ref b3), .unset, .unset] [(.ref b3)])) rfl (by rw [hml]; rfl) (argsL := [(.ref b3)]) (rest := []) (lenOf pd0_0 rfl) rfl (by show 2 * 0 + _ ≤ _; exact Nat.le_of_eq rfl) (hb hby at_64) (fun _ _ => ⟨rfl, e4, (by decide : 1 + 1 ≤ _), (by decide : 1 + 2 ≤ _)⟩)
      dsimp only [Pt.U, Pt.locs, Pt.cells, Pt.slots] at X5 l5 y5 z5 st5 hQ5
      subst l5 y5 z5
      obtain ⟨b5, kb5, rfl, Nc5, Kc5, gb5, szb5, Vb5⟩ := hQ5
      have N5 := Fr.app N4 Nc5
      have g_b5 : n0 ≤ b5 := gb5
      have ne_b3_b5 : b3 ≠ b5 := Nat.ne_of_lt (Nat.lt_of_lt_of_le V_b3.lt szb5)
      have V_b3 := V_b3.keep Kc5 nin0
      have O5 := O4.keep Kc5 all0
      have V_b5 : Arv Z T5.heap b5 kb5 .byte (2 : Int32) [(.int (nar .byte (p1.toInt8.toInt32))), (.int (10 : Int32))] (.int (0 : Int32)) := Vb5
      refine Go.st st5 ?_
      show Go p e below s _ _ _ (T5.setTop (mkF m 67 #[.val (.int p0), .val (.int p1), .val (.int p2), .val (.int p3), .val (.int p4), .val (.int (1 : Int32)), .val (.ref b3), .unset, .unset] [(.ref b5)]))
      refine Go.st (fun _ kq_ => XS.astore X5.here hx rfl (hb hby at_67) rfl rfl (l' := #[.val (.int p0), .val (.int p1), .val (.int p2), .val (.int p3), .val (.int p4), .val (.int (1 : Int32)), .val (.ref b3), .val (.ref b5), .unset]) rfl kq_) ?_
      show Go p e below s _ _ _ (T5.setTop (mkF m 69 #[.val (.int p0), .val (.int p1), .val (.int p2), .val (.int p3), .val (.int p4), .val (.int (1 : Int32)), .val (.ref b3), .val (.ref b5), .unset] []))
      refine Go.st (fun _ kq_ => XS.aload X5.here hx rfl (hb hby at_69) rfl rfl kq_) ?_
      show Go p e below s _ _ _ (T5.setTop (mkF m 71 #[.val (.int p0), .val (.int p1), .val (.int p2), .val (.int p3), .val (.int p4), .val (.int (1 : Int32)), .val (.ref b3), .val (.ref b5), .unset] [(.ref b5)]))
      refine Go.st (fun _ kq_ => XS.ifnullNo X5.here hx rfl (hb hby at_71) rfl kq_) ?_
      show Go p e below s _ _ _ (T5.setTop (mkF m 74 #[.val (.int p0), .val (.int p1), .val (.int p2), .val (.int p3), .val (.int p4), .val (.int (1 : Int32)), .val (.ref b3), .val (.ref b5), .unset] []))
      refine Go.st (fun _ kq_ => XS.aload X5.here hx rfl (hb hby at_74) rfl rfl kq_) ?_
      show Go p e below s _ _ _ (T5.setTop (mkF m 76 #[.val (.int p0), .val (.int p1), .val (.int p2), .val (.int p3), .val (.int p4), .val (.int (1 : Int32)), .val (.ref b3), .val (.ref b5), .unset] [(.ref b5)]))
      refine Go.st (fun _ kq_ => XS.aload X5.here hx rfl (hb hby at_76) rfl rfl kq_) ?_
      show Go p e below s _ _ _ (T5.setTop (mkF m 78 #[.val (.int p0), .val (.int p1), .val (.int p2), .val (.int p3), .val (.int p4), .val (.int (1 : Int32)), .val (.ref b3), .val (.ref b5), .unset] [(.ref b3), (.ref b5)]))
      refine Go.st (fun _ kq_ => XT.acmpNo X5.here hx rfl (hb hby at_78) rfl rfl rfl (XT.aa_eq_f (fun z => (Ne.symm ne_b3_b5) (Value.ref.inj z))) kq_) ?_
      show Go p e below s _ _ _ (T5.setTop (mkF m 81 #[.val (.int p0), .val (.int p1), .val (.int p2), .val (.int p3), .val (.int p4), .val (.int (1 : Int32)), .val (.ref b3), .val (.ref b5), .unset] []))
      refine Go.st (fun _ kq_ => XS.aload X5.here hx rfl (hb hby at_81) rfl rfl kq_) ?_
      show Go p e below s _ _ _ (T5.setTop (mkF m 83 #[.val (.int p0), .val (.int p1), .val (.int p2), .val (.int p3), .val (.int p4), .val (.int (1 : Int32)), .val (.ref b3), .val (.ref b5), .unset] [(.ref b5)]))
      refine Go.st (fun _ kq_ => own_len X5 hx hZ rfl V_b5 (g := (mkF m 83 #[.val (.int p0), .val (.int p1), .val (.int p2), .val (.int p3), .val (.int p4), .val (.int (1 : Int32)), .val (.ref b3), .val (.ref b5), .unset] [(.ref b5)])) rfl rfl (hb hby at_83) _ kq_) ?_
      show Go p e below s _ _ _ (T5.setTop (mkF m 84 #[.val (.int p0), .val (.int p1), .val (.int p2), .val (.int p3), .val (.int p4), .val (.int (1 : Int32)), .val (.ref b3), .val (.ref b5), .unset] [(.int (2 : Int32))]))
      refine Go.st (fun _ kq_ => XS.iload X5.here hx rfl (hb hby at_84) rfl kq_) ?_
      show Go p e below s _ _ _ (T5.setTop (mkF m 86 #[.val (.int p0), .val (.int p1), .val (.int p2), .val (.int p3), .val (.int p4), .val (.int (1 : Int32)), .val (.ref b3), .val (.ref b5), .unset] [(.int (1 : Int32)), (.int (2 : Int32))]))
      refine Go.st (fun _ kq_ => XS.iconst X5.here hx rfl (hb hby at_86) kq_) ?_
      show Go p e below s _ _ _ (T5.setTop (mkF m 87 #[.val (.int p0), .val (.int p1), .val (.int p2), .val (.int p3), .val (.int p4), .val (.int (1 : Int32)), .val (.ref b3), .val (.ref b5), .unset] [(.int (1 : Int32)), (.int (1 : Int32)), (.int (2 : Int32))]))
      refine Go.st (fun _ kq_ => XS.iadd X5.here hx rfl (hb hby at_87) rfl kq_) ?_
      show Go p e below s _ _ _ (T5.setTop (mkF m 88 #[.val (.int p0), .val (.int p1), .val (.int p2), .val (.int p3), .val (.int p4), .val (.int (1 : Int32)), .val (.ref b3), .val (.ref b5), .unset] [(.int (2 : Int32)), (.int (2 : Int32))]))
      refine Go.st (fun _ kq_ => XS.icmpYes X5.here hx rfl (pc0 := 88) (pc' := 93) rfl (hb hby at_88) rfl (by decide) (by decide) (by decide) kq_) ?_
      show Go p e below s _ _ _ (T5.setTop (mkF m 93 #[.val (.int p0), .val (.int p1), .val (.int p2), .val (.int p3), .val (.int p4), .val (.int (1 : Int32)), .val (.ref b3), .val (.ref b5), .unset] []))
      refine Go.st (fun _ kq_ => XS.aload X5.here hx rfl (hb hby at_93) rfl rfl kq_) ?_
      show Go p e below s _ _ _ (T5.setTop (mkF m 95 #[.val (.int p0), .val (.int p1), .val (.int p2), .val (.int p3), .val (.int p4), .val (.int (1 : Int32)), .val (.ref b3), .val (.ref b5), .unset] [(.ref b3)]))
      refine Go.st (fun _ kq_ => own_len X5 hx hZ rfl V_b3 (g := (mkF m 95 #[.val (.int p0), .val (.int p1), .val (.int p2), .val (.int p3), .val (.int p4), .val (.int (1 : Int32)), .val (.ref b3), .val (.ref b5), .unset] [(.ref b3)])) rfl rfl (hb hby at_95) _ kq_) ?_
      show Go p e below s _ _ _ (T5.setTop (mkF m 96 #[.val (.int p0), .val (.int p1), .val (.int p2), .val (.int p3), .val (.int p4), .val (.int (1 : Int32)), .val (.ref b3), .val (.ref b5), .unset] [(.int (1 : Int32))]))
      refine Go.st (fun _ kq_ => XS.iload X5.here hx rfl (hb hby at_96) rfl kq_) ?_
      show Go p e below s _ _ _ (T5.setTop (mkF m 98 #[.val (.int p0), .val (.int p1), .val (.int p2), .val (.int p3), .val (.int p4), .val (.int (1 : Int32)), .val (.ref b3), .val (.ref b5), .unset] [(.int (1 : Int32)), (.int (1 : Int32))]))
      refine Go.st (fun _ kq_ => XS.icmpYes X5.here hx rfl (pc0 := 98) (pc' := 103) rfl (hb hby at_98) rfl (by decide) (by decide) (by decide) kq_) ?_
      show Go p e below s _ _ _ (T5.setTop (mkF m 103 #[.val (.int p0), .val (.int p1), .val (.int p2), .val (.int p3), .val (.int p4), .val (.int (1 : Int32)), .val (.ref b3), .val (.ref b5), .unset] []))
      refine Go.st (fun _ kq_ => XS.aload X5.here hx rfl (hb hby at_103) rfl rfl kq_) ?_
      show Go p e below s _ _ _ (T5.setTop (mkF m 105 #[.val (.int p0), .val (.int p1), .val (.int p2), .val (.int p3), .val (.int p4), .val (.int (1 : Int32)), .val (.ref b3), .val (.ref b5), .unset] [(.ref b5)]))
      refine Go.st (fun _ kq_ => XS.iload X5.here hx rfl (hb hby at_105) rfl kq_) ?_
      show Go p e below s _ _ _ (T5.setTop (mkF m 107 #[.val (.int p0), .val (.int p1), .val (.int p2), .val (.int p3), .val (.int p4), .val (.int (1 : Int32)), .val (.ref b3), .val (.ref b5), .unset] [(.int (1 : Int32)), (.ref b5)]))
      refine Go.st (fun _ kq_ => own_baloadB X5 hx hZ rfl V_b5 (by decide) (by decide) (v := (.int (10 : Int32))) rfl (g := (mkF m 107 #[.val (.int p0), .val (.int p1), .val (.int p2), .val (.int p3), .val (.int p4), .val (.int (1 : Int32)), .val (.ref b3), .val (.ref b5), .unset] [(.int (1 : Int32)), (.ref b5)])) rfl rfl (hb hby at_107) _ kq_) ?_
      show Go p e below s _ _ _ (T5.setTop (mkF m 108 #[.val (.int p0), .val (.int p1), .val (.int p2), .val (.int p3), .val (.int p4), .val (.int (1 : Int32)), .val (.ref b3), .val (.ref b5), .unset] [(.int (10 : Int32))]))
      refine Go.st (fun _ kq_ => XS.bipush X5.here hx rfl (hb hby at_108) kq_) ?_
      show Go p e below s _ _ _ (T5.setTop (mkF m 110 #[.val (.int p0), .val (.int p1), .val (.int p2), .val (.int p3), .val (.int p4), .val (.int (1 : Int32)), .val (.ref b3), .val (.ref b5), .unset] [(.int (10 : Int32)), (.int (10 : Int32))]))
      refine Go.st (fun _ kq_ => XS.icmpNo X5.here hx rfl (hb hby at_110) rfl (by decide) kq_) ?_
      show Go p e below s _ _ _ (T5.setTop (mkF m 113 #[.val (.int p0), .val (.int p1), .val (.int p2), .val (.int p3), .val (.int p4), .val (.int (1 : Int32)), .val (.ref b3), .val (.ref b5), .unset] []))
      refine Go.st (fun _ kq_ => XS.iconst X5.here hx rfl (hb hby at_113) kq_) ?_
      show Go p e below s _ _ _ (T5.setTop (mkF m 114 #[.val (.int p0), .val (.int p1), .val (.int p2), .val (.int p3), .val (.int p4), .val (.int (1 : Int32)), .val (.ref b3), .val (.ref b5), .unset] [(.int (1 : Int32))]))
      refine Go.st (fun _ kq_ => XS.goto X5.here hx rfl (pc0 := 114) (pc' := 118) rfl (hb hby at_114) (by decide) (by decide) kq_) ?_
      show Go p e below s _ _ _ (T5.setTop (mkF m 118 #[.val (.int p0), .val (.int p1), .val (.int p2), .val (.int p3), .val (.int p4), .val (.int (1 : Int32)), .val (.ref b3), .val (.ref b5), .unset] [(.int (1 : Int32))]))
      refine Go.st (fun _ kq_ => XS.istore X5.here hx rfl (hb hby at_118) rfl (l' := #[.val (.int p0), .val (.int p1), .val (.int p2), .val (.int p3), .val (.int p4), .val (.int (1 : Int32)), .val (.ref b3), .val (.ref b5), .val (.int (1 : Int32))]) rfl kq_) ?_
      show Go p e below s _ _ _ (T5.setTop (mkF m 120 #[.val (.int p0), .val (.int p1), .val (.int p2), .val (.int p3), .val (.int p4), .val (.int (1 : Int32)), .val (.ref b3), .val (.ref b5), .val (.int (1 : Int32))] []))
      refine Go.st (fun _ kq_ => XS.iload X5.here hx rfl (hb hby at_120) rfl kq_) ?_
      show Go p e below s _ _ _ (T5.setTop (mkF m 122 #[.val (.int p0), .val (.int p1), .val (.int p2), .val (.int p3), .val (.int p4), .val (.int (1 : Int32)), .val (.ref b3), .val (.ref b5), .val (.int (1 : Int32))] [(.int (1 : Int32))]))
      refine Go.st (fun _ kq_ => XS.ifNo X5.here hx rfl (hb hby at_122) rfl (by decide) kq_) ?_
      show Go p e below s _ _ _ (T5.setTop (mkF m 125 #[.val (.int p0), .val (.int p1), .val (.int p2), .val (.int p3), .val (.int p4), .val (.int (1 : Int32)), .val (.ref b3), .val (.ref b5), .val (.int (1 : Int32))] []))
      refine Go.st (fun _ kq_ => XS.iload X5.here hx rfl (hb hby at_125) rfl kq_) ?_
      show Go p e below s _ _ _ (T5.setTop (mkF m 127 #[.val (.int p0), .val (.int p1), .val (.int p2), .val (.int p3), .val (.int p4), .val (.int (1 : Int32)), .val (.ref b3), .val (.ref b5), .val (.int (1 : Int32))] [(.int (1 : Int32))]))
      refine Go.st (fun _ kq_ => XS.iconst X5.here hx rfl (hb hby at_127) kq_) ?_
      show Go p e below s _ _ _ (T5.setTop (mkF m 128 #[.val (.int p0), .val (.int p1), .val (.int p2), .val (.int p3), .val (.int p4), .val (.int (1 : Int32)), .val (.ref b3), .val (.ref b5), .val (.int (1 : Int32))] [(.int (1 : Int32)), (.int (1 : Int32))]))
      refine Go.st (fun _ kq_ => XS.icmpNo X5.here hx rfl (hb hby at_128) rfl (by decide) kq_) ?_
      show Go p e below s _ _ _ (T5.setTop (mkF m 131 #[.val (.int p0), .val (.int p1), .val (.int p2), .val (.int p3), .val (.int p4), .val (.int (1 : Int32)), .val (.ref b3), .val (.ref b5), .val (.int (1 : Int32))] []))
      refine Go.st (fun _ kq_ => XS.aload X5.here hx rfl (hb hby at_131) rfl rfl kq_) ?_
      show Go p e below s _ _ _ (T5.setTop (mkF m 133 #[.val (.int p0), .val (.int p1), .val (.int p2), .val (.int p3), .val (.int p4), .val (.int (1 : Int32)), .val (.ref b3), .val (.ref b5), .val (.int (1 : Int32))] [(.ref b5)]))
      refine Go.st (fun _ kq_ => XS.iconst X5.here hx rfl (hb hby at_133) kq_) ?_
      show Go p e below s _ _ _ (T5.setTop (mkF m 134 #[.val (.int p0), .val (.int p1), .val (.int p2), .val (.int p3), .val (.int p4), .val (.int (1 : Int32)), .val (.ref b3), .val (.ref b5), .val (.int (1 : Int32))] [(.int (0 : Int32)), (.ref b5)]))
      refine Go.st (fun _ kq_ => own_baloadB X5 hx hZ rfl V_b5 (by decide) (by decide) (v := (.int (nar .byte (p1.toInt8.toInt32)))) rfl (g := (mkF m 134 #[.val (.int p0), .val (.int p1), .val (.int p2), .val (.int p3), .val (.int p4), .val (.int (1 : Int32)), .val (.ref b3), .val (.ref b5), .val (.int (1 : Int32))] [(.int (0 : Int32)), (.ref b5)])) rfl rfl (hb hby at_134) _ kq_) ?_
      show Go p e below s _ _ _ (T5.setTop (mkF m 135 #[.val (.int p0), .val (.int p1), .val (.int p2), .val (.int p3), .val (.int p4), .val (.int (1 : Int32)), .val (.ref b3), .val (.ref b5), .val (.int (1 : Int32))] [(.int (nar .byte (p1.toInt8.toInt32)))]))
      refine Go.st (fun _ kq_ => XS.iloadN X5.here hx rfl (hb hby at_135) rfl kq_) ?_
      show Go p e below s _ _ _ (T5.setTop (mkF m 136 #[.val (.int p0), .val (.int p1), .val (.int p2), .val (.int p3), .val (.int p4), .val (.int (1 : Int32)), .val (.ref b3), .val (.ref b5), .val (.int (1 : Int32))] [(.int p1), (.int (nar .byte (p1.toInt8.toInt32)))]))
      refine Go.st (fun _ kq_ => XT.i2b X5.here hx rfl (hb hby at_136) rfl kq_) ?_
      show Go p e below s _ _ _ (T5.setTop (mkF m 137 #[.val (.int p0), .val (.int p1), .val (.int p2), .val (.int p3), .val (.int p4), .val (.int (1 : Int32)), .val (.ref b3), .val (.ref b5), .val (.int (1 : Int32))] [(.int (p1.toInt8.toInt32)), (.int (nar .byte (p1.toInt8.toInt32)))]))
      refine Go.st (fun _ kq_ => XS.icmpNo X5.here hx rfl (hb hby at_137) rfl (XT.ii_ne_f (own_nb _)) kq_) ?_
      show Go p e below s _ _ _ (T5.setTop (mkF m 140 #[.val (.int p0), .val (.int p1), .val (.int p2), .val (.int p3), .val (.int p4), .val (.int (1 : Int32)), .val (.ref b3), .val (.ref b5), .val (.int (1 : Int32))] []))
      refine Go.st (fun _ kq_ => XS.aload X5.here hx rfl (hb hby at_140) rfl rfl kq_) ?_
      show Go p e below s _ _ _ (T5.setTop (mkF m 142 #[.val (.int p0), .val (.int p1), .val (.int p2), .val (.int p3), .val (.int p4), .val (.int (1 : Int32)), .val (.ref b3), .val (.ref b5), .val (.int (1 : Int32))] [(.ref b3)]))
      refine Go.st (fun _ kq_ => XS.iconst X5.here hx rfl (hb hby at_142) kq_) ?_
      show Go p e below s _ _ _ (T5.setTop (mkF m 143 #[.val (.int p0), .val (.int p1), .val (.int p2), .val (.int p3), .val (.int p4), .val (.int (1 : Int32)), .val (.ref b3), .val (.ref b5), .val (.int (1 : Int32))] [(.int (0 : Int32)), (.ref b3)]))
      refine Go.st (fun _ kq_ => own_baloadB X5 hx hZ rfl V_b3 (by decide) (by decide) (v := (.int (nar .byte (p1.toInt8.toInt32)))) rfl (g := (mkF m 143 #[.val (.int p0), .val (.int p1), .val (.int p2), .val (.int p3), .val (.int p4), .val (.int (1 : Int32)), .val (.ref b3), .val (.ref b5), .val (.int (1 : Int32))] [(.int (0 : Int32)), (.ref b3)])) rfl rfl (hb hby at_143) _ kq_) ?_
      show Go p e below s _ _ _ (T5.setTop (mkF m 144 #[.val (.int p0), .val (.int p1), .val (.int p2), .val (.int p3), .val (.int p4), .val (.int (1 : Int32)), .val (.ref b3), .val (.ref b5), .val (.int (1 : Int32))] [(.int (nar .byte (p1.toInt8.toInt32)))]))
      refine Go.st (fun _ kq_ => XS.iloadN X5.here hx rfl (hb hby at_144) rfl kq_) ?_
      show Go p e below s _ _ _ (T5.setTop (mkF m 145 #[.val (.int p0), .val (.int p1), .val (.int p2), .val (.int p3), .val (.int p4), .val (.int (1 : Int32)), .val (.ref b3), .val (.ref b5), .val (.int (1 : Int32))] [(.int p1), (.int (nar .byte (p1.toInt8.toInt32)))]))
      refine Go.st (fun _ kq_ => XT.i2b X5.here hx rfl (hb hby at_145) rfl kq_) ?_
      show Go p e below s _ _ _ (T5.setTop (mkF m 146 #[.val (.int p0), .val (.int p1), .val (.int p2), .val (.int p3), .val (.int p4), .val (.int (1 : Int32)), .val (.ref b3), .val (.ref b5), .val (.int (1 : Int32))] [(.int (p1.toInt8.toInt32)), (.int (nar .byte (p1.toInt8.toInt32)))]))
      refine Go.st (fun _ kq_ => XS.icmpNo X5.here hx rfl (hb hby at_146) rfl (XT.ii_ne_f (own_nb _)) kq_) ?_
      show Go p e below s _ _ _ (T5.setTop (mkF m 149 #[.val (.int p0), .val (.int p1), .val (.int p2), .val (.int p3), .val (.int p4), .val (.int (1 : Int32)), .val (.ref b3), .val (.ref b5), .val (.int (1 : Int32))] []))
      refine Go.st (fun _ kq_ => XS.iconst X5.here hx rfl (hb hby at_149) kq_) ?_
      show Go p e below s _ _ _ (T5.setTop (mkF m 150 #[.val (.int p0), .val (.int p1), .val (.int p2), .val (.int p3), .val (.int p4), .val (.int (1 : Int32)), .val (.ref b3), .val (.ref b5), .val (.int (1 : Int32))] [(.int (1 : Int32))]))
      refine Go.st (fun _ kq_ => XS.goto X5.here hx rfl (pc0 := 150) (pc' := 154) rfl (hb hby at_150) (by decide) (by decide) kq_) ?_
      show Go p e below s _ _ _ (T5.setTop (mkF m 154 #[.val (.int p0), .val (.int p1), .val (.int p2), .val (.int p3), .val (.int p4), .val (.int (1 : Int32)), .val (.ref b3), .val (.ref b5), .val (.int (1 : Int32))] [(.int (1 : Int32))]))
      refine Go.st (fun _ kq_ => XS.istore X5.here hx rfl (hb hby at_154) rfl (l' := #[.val (.int p0), .val (.int p1), .val (.int p2), .val (.int p3), .val (.int p4), .val (.int (1 : Int32)), .val (.ref b3), .val (.ref b5), .val (.int (1 : Int32))]) rfl kq_) ?_
      show Go p e below s _ _ _ (T5.setTop (mkF m 156 #[.val (.int p0), .val (.int p1), .val (.int p2), .val (.int p3), .val (.int p4), .val (.int (1 : Int32)), .val (.ref b3), .val (.ref b5), .val (.int (1 : Int32))] []))
      refine Go.st (fun _ kq_ => XS.iload X5.here hx rfl (hb hby at_156) rfl kq_) ?_
      show Go p e below s _ _ _ (T5.setTop (mkF m 158 #[.val (.int p0), .val (.int p1), .val (.int p2), .val (.int p3), .val (.int p4), .val (.int (1 : Int32)), .val (.ref b3), .val (.ref b5), .val (.int (1 : Int32))] [(.int (1 : Int32))]))
      refine Go.st (fun _ kq_ => XS.ifNo X5.here hx rfl (hb hby at_158) rfl (by decide) kq_) ?_
      show Go p e below s _ _ _ (T5.setTop (mkF m 161 #[.val (.int p0), .val (.int p1), .val (.int p2), .val (.int p3), .val (.int p4), .val (.int (1 : Int32)), .val (.ref b3), .val (.ref b5), .val (.int (1 : Int32))] []))
      refine Go.st (fun _ kq_ => XS.iload X5.here hx rfl (hb hby at_161) rfl kq_) ?_
      show Go p e below s _ _ _ (T5.setTop (mkF m 163 #[.val (.int p0), .val (.int p1), .val (.int p2), .val (.int p3), .val (.int p4), .val (.int (1 : Int32)), .val (.ref b3), .val (.ref b5), .val (.int (1 : Int32))] [(.int (1 : Int32))]))
      refine Go.st (fun _ kq_ => XS.iconst X5.here hx rfl (hb hby at_163) kq_) ?_
      show Go p e below s _ _ _ (T5.setTop (mkF m 164 #[.val (.int p0), .val (.int p1), .val (.int p2), .val (.int p3), .val (.int p4), .val (.int (1 : Int32)), .val (.ref b3), .val (.ref b5), .val (.int (1 : Int32))] [(.int (2 : Int32)), (.int (1 : Int32))]))
      refine Go.st (fun _ kq_ => XS.icmpYes X5.here hx rfl (pc0 := 164) (pc' := 185) rfl (hb hby at_164) rfl (by decide) (by decide) (by decide) kq_) ?_
      show Go p e below s _ _ _ (T5.setTop (mkF m 185 #[.val (.int p0), .val (.int p1), .val (.int p2), .val (.int p3), .val (.int p4), .val (.int (1 : Int32)), .val (.ref b3), .val (.ref b5), .val (.int (1 : Int32))] []))
      refine Go.st (fun _ kq_ => XS.iconst X5.here hx rfl (hb hby at_185) kq_) ?_
      show Go p e below s _ _ _ (T5.setTop (mkF m 186 #[.val (.int p0), .val (.int p1), .val (.int p2), .val (.int p3), .val (.int p4), .val (.int (1 : Int32)), .val (.ref b3), .val (.ref b5), .val (.int (1 : Int32))] [(.int (1 : Int32))]))
      refine Go.st (fun _ kq_ => XS.goto X5.here hx rfl (pc0 := 186) (pc' := 190) rfl (hb hby at_186) (by decide) (by decide) kq_) ?_
      show Go p e below s _ _ _ (T5.setTop (mkF m 190 #[.val (.int p0), .val (.int p1), .val (.int p2), .val (.int p3), .val (.int p4), .val (.int (1 : Int32)), .val (.ref b3), .val (.ref b5), .val (.int (1 : Int32))] [(.int (1 : Int32))]))
      refine Go.st (fun _ kq_ => XS.istore X5.here hx rfl (hb hby at_190) rfl (l' := #[.val (.int p0), .val (.int p1), .val (.int p2), .val (.int p3), .val (.int p4), .val (.int (1 : Int32)), .val (.ref b3), .val (.ref b5), .val (.int (1 : Int32))]) rfl kq_) ?_
      show Go p e below s _ _ _ (T5.setTop (mkF m 192 #[.val (.int p0), .val (.int p1), .val (.int p2), .val (.int p3), .val (.int p4), .val (.int (1 : Int32)), .val (.ref b3), .val (.ref b5), .val (.int (1 : Int32))] []))
      refine Go.st (fun _ kq_ => XS.iload X5.here hx rfl (hb hby at_192) rfl kq_) ?_
      show Go p e below s _ _ _ (T5.setTop (mkF m 194 #[.val (.int p0), .val (.int p1), .val (.int p2), .val (.int p3), .val (.int p4), .val (.int (1 : Int32)), .val (.ref b3), .val (.ref b5), .val (.int (1 : Int32))] [(.int (1 : Int32))]))
      refine Go.st (fun _ kq_ => XS.ifNo X5.here hx rfl (hb hby at_194) rfl (by decide) kq_) ?_
      show Go p e below s _ _ _ (T5.setTop (mkF m 197 #[.val (.int p0), .val (.int p1), .val (.int p2), .val (.int p3), .val (.int p4), .val (.int (1 : Int32)), .val (.ref b3), .val (.ref b5), .val (.int (1 : Int32))] []))
      refine Go.st (fun _ kq_ => XS.iload X5.here hx rfl (hb hby at_197) rfl kq_) ?_
      show Go p e below s _ _ _ (T5.setTop (mkF m 199 #[.val (.int p0), .val (.int p1), .val (.int p2), .val (.int p3), .val (.int p4), .val (.int (1 : Int32)), .val (.ref b3), .val (.ref b5), .val (.int (1 : Int32))] [(.int (1 : Int32))]))
      refine Go.st (fun _ kq_ => XS.iconst X5.here hx rfl (hb hby at_199) kq_) ?_
      show Go p e below s _ _ _ (T5.setTop (mkF m 200 #[.val (.int p0), .val (.int p1), .val (.int p2), .val (.int p3), .val (.int p4), .val (.int (1 : Int32)), .val (.ref b3), .val (.ref b5), .val (.int (1 : Int32))] [(.int (3 : Int32)), (.int (1 : Int32))]))
      refine Go.st (fun _ kq_ => XS.icmpYes X5.here hx rfl (pc0 := 200) (pc' := 221) rfl (hb hby at_200) rfl (by decide) (by decide) (by decide) kq_) ?_
      show Go p e below s _ _ _ (T5.setTop (mkF m 221 #[.val (.int p0), .val (.int p1), .val (.int p2), .val (.int p3), .val (.int p4), .val (.int (1 : Int32)), .val (.ref b3), .val (.ref b5), .val (.int (1 : Int32))] []))
      refine Go.st (fun _ kq_ => XS.iconst X5.here hx rfl (hb hby at_221) kq_) ?_
      show Go p e below s _ _ _ (T5.setTop (mkF m 222 #[.val (.int p0), .val (.int p1), .val (.int p2), .val (.int p3), .val (.int p4), .val (.int (1 : Int32)), .val (.ref b3), .val (.ref b5), .val (.int (1 : Int32))] [(.int (1 : Int32))]))
      refine Go.st (fun _ kq_ => XS.goto X5.here hx rfl (pc0 := 222) (pc' := 226) rfl (hb hby at_222) (by decide) (by decide) kq_) ?_
      show Go p e below s _ _ _ (T5.setTop (mkF m 226 #[.val (.int p0), .val (.int p1), .val (.int p2), .val (.int p3), .val (.int p4), .val (.int (1 : Int32)), .val (.ref b3), .val (.ref b5), .val (.int (1 : Int32))] [(.int (1 : Int32))]))
      refine Go.st (fun _ kq_ => XS.istore X5.here hx rfl (hb hby at_226) rfl (l' := #[.val (.int p0), .val (.int p1), .val (.int p2), .val (.int p3), .val (.int p4), .val (.int (1 : Int32)), .val (.ref b3), .val (.ref b5), .val (.int (1 : Int32))]) rfl kq_) ?_
      show Go p e below s _ _ _ (T5.setTop (mkF m 228 #[.val (.int p0), .val (.int p1), .val (.int p2), .val (.int p3), .val (.int p4), .val (.int (1 : Int32)), .val (.ref b3), .val (.ref b5), .val (.int (1 : Int32))] []))
      refine Go.st (fun _ kq_ => XS.iload X5.here hx rfl (hb hby at_228) rfl kq_) ?_
      show Go p e below s _ _ _ (T5.setTop (mkF m 230 #[.val (.int p0), .val (.int p1), .val (.int p2), .val (.int p3), .val (.int p4), .val (.int (1 : Int32)), .val (.ref b3), .val (.ref b5), .val (.int (1 : Int32))] [(.int (1 : Int32))]))
      refine Go.st (fun _ kq_ => XS.ifNo X5.here hx rfl (hb hby at_230) rfl (by decide) kq_) ?_
      show Go p e below s _ _ _ (T5.setTop (mkF m 233 #[.val (.int p0), .val (.int p1), .val (.int p2), .val (.int p3), .val (.int p4), .val (.int (1 : Int32)), .val (.ref b3), .val (.ref b5), .val (.int (1 : Int32))] []))
      refine Go.st (fun _ kq_ => XS.iload X5.here hx rfl (hb hby at_233) rfl kq_) ?_
      show Go p e below s _ _ _ (T5.setTop (mkF m 235 #[.val (.int p0), .val (.int p1), .val (.int p2), .val (.int p3), .val (.int p4), .val (.int (1 : Int32)), .val (.ref b3), .val (.ref b5), .val (.int (1 : Int32))] [(.int (1 : Int32))]))
      refine Go.st (fun _ kq_ => XS.iconst X5.here hx rfl (hb hby at_235) kq_) ?_
      show Go p e below s _ _ _ (T5.setTop (mkF m 236 #[.val (.int p0), .val (.int p1), .val (.int p2), .val (.int p3), .val (.int p4), .val (.int (1 : Int32)), .val (.ref b3), .val (.ref b5), .val (.int (1 : Int32))] [(.int (4 : Int32)), (.int (1 : Int32))]))
      refine Go.st (fun _ kq_ => XS.icmpYes X5.here hx rfl (pc0 := 236) (pc' := 259) rfl (hb hby at_236) rfl (by decide) (by decide) (by decide) kq_) ?_
      show Go p e below s _ _ _ (T5.setTop (mkF m 259 #[.val (.int p0), .val (.int p1), .val (.int p2), .val (.int p3), .val (.int p4), .val (.int (1 : Int32)), .val (.ref b3), .val (.ref b5), .val (.int (1 : Int32))] []))
      refine Go.st (fun _ kq_ => XS.iconst X5.here hx rfl (hb hby at_259) kq_) ?_
      show Go p e below s _ _ _ (T5.setTop (mkF m 260 #[.val (.int p0), .val (.int p1), .val (.int p2), .val (.int p3), .val (.int p4), .val (.int (1 : Int32)), .val (.ref b3), .val (.ref b5), .val (.int (1 : Int32))] [(.int (1 : Int32))]))
      refine Go.st (fun _ kq_ => XS.goto X5.here hx rfl (pc0 := 260) (pc' := 264) rfl (hb hby at_260) (by decide) (by decide) kq_) ?_
      show Go p e below s _ _ _ (T5.setTop (mkF m 264 #[.val (.int p0), .val (.int p1), .val (.int p2), .val (.int p3), .val (.int p4), .val (.int (1 : Int32)), .val (.ref b3), .val (.ref b5), .val (.int (1 : Int32))] [(.int (1 : Int32))]))
      refine Go.st (fun _ kq_ => XS.istore X5.here hx rfl (hb hby at_264) rfl (l' := #[.val (.int p0), .val (.int p1), .val (.int p2), .val (.int p3), .val (.int p4), .val (.int (1 : Int32)), .val (.ref b3), .val (.ref b5), .val (.int (1 : Int32))]) rfl kq_) ?_
      show Go p e below s _ _ _ (T5.setTop (mkF m 266 #[.val (.int p0), .val (.int p1), .val (.int p2), .val (.int p3), .val (.int p4), .val (.int (1 : Int32)), .val (.ref b3), .val (.ref b5), .val (.int (1 : Int32))] []))
      refine Go.st (fun _ kq_ => XS.iload X5.here hx rfl (hb hby at_266) rfl kq_) ?_
      show Go p e below s _ _ _ (T5.setTop (mkF m 268 #[.val (.int p0), .val (.int p1), .val (.int p2), .val (.int p3), .val (.int p4), .val (.int (1 : Int32)), .val (.ref b3), .val (.ref b5), .val (.int (1 : Int32))] [(.int (1 : Int32))]))
      exact Go.ret X5 hlk (some (.int (nar .boolean (1 : Int32)))) (fun h => by rw [Bd.returns] at h; cases h) (by exact ⟨rfl, N5⟩) (by decide) (by decide) (fun fs hr => retN X5 hx (t := .boolean) Bd.returns (by simp) (hb hby at_268) hr)
    · show Go p e below s _ _ _ (s₁.setTop (mkF m 6 #[.val (.int p0), .val (.int p1), .val (.int p2), .val (.int p3), .val (.int p4), .unset, .unset, .unset, .unset] [(.int (2 : Int32))]))
      refine Go.st (fun _ kq_ => XS.istore X0.here hx rfl (hb hby at_6) rfl (l' := #[.val (.int p0), .val (.int p1), .val (.int p2), .val (.int p3), .val (.int p4), .val (.int (2 : Int32)), .unset, .unset, .unset]) rfl kq_) ?_
      show Go p e below s _ _ _ (s₁.setTop (mkF m 8 #[.val (.int p0), .val (.int p1), .val (.int p2), .val (.int p3), .val (.int p4), .val (.int (2 : Int32)), .unset, .unset, .unset] []))
      refine Go.st (fun _ kq_ => XS.iload X0.here hx rfl (hb hby at_8) rfl kq_) ?_
      show Go p e below s _ _ _ (s₁.setTop (mkF m 10 #[.val (.int p0), .val (.int p1), .val (.int p2), .val (.int p3), .val (.int p4), .val (.int (2 : Int32)), .unset, .unset, .unset] [(.int (2 : Int32))]))
      obtain ⟨T6, h6, k6, X6, e6, E6, A6, st6⟩ := newP X0 hx hZ (own_w hw 1 rfl) e0 (g := (mkF m 10 #[.val (.int p0), .val (.int p1), .val (.int p2), .val (.int p3), .val (.int p4), .val (.int (2 : Int32)), .unset, .unset, .unset] [(.int (2 : Int32))])) rfl (hb hby at_10) rfl (by decide) (cap := 2) (by decide) (by decide) (by decide) (by decide)
      obtain ⟨b6, g6⟩ : ∃ z, z = h0.size := ⟨_, rfl⟩
      rw [← g6] at A6 st6
      have g_b6 : n0 ≤ b6 := Nat.le_trans (own_old O0) (Nat.le_of_eq g6.symm)
      have O6 := O0.ext E6
      have V_b6 : Arv Z h6 b6 k6 .byte (2 : Int32) [(.int (0 : Int32)), (.int (0 : Int32))] (.int (0 : Int32)) := (Arv.new A6 (by decide)).pad (pad_rep [] (.int (0 : Int32)) 2)
      refine Go.st st6 ?_
      show Go p e below s _ _ _ (T6.setTop (mkF m 12 #[.val (.int p0), .val (.int p1), .val (.int p2), .val (.int p3), .val (.int p4), .val (.int (2 : Int32)), .unset, .unset, .unset] [(.ref b6)]))
      refine Go.st (fun _ kq_ => XS.astore X6.here hx rfl (hb hby at_12) rfl rfl (l' := #[.val (.int p0), .val (.int p1), .val (.int p2), .val (.int p3), .val (.int p4), .val (.int (2 : Int32)), .val (.ref b6), .unset, .unset]) rfl kq_) ?_
      show Go p e below s _ _ _ (T6.setTop (mkF m 14 #[.val (.int p0), .val (.int p1), .val (.int p2), .val (.int p3), .val (.int p4), .val (.int (2 : Int32)), .val (.ref b6), .unset, .unset] []))
      refine Go.st (fun _ kq_ => XS.iload X6.here hx rfl (hb hby at_14) rfl kq_) ?_
      show Go p e below s _ _ _ (T6.setTop (mkF m 16 #[.val (.int p0), .val (.int p1), .val (.int p2), .val (.int p3), .val (.int p4), .val (.int (2 : Int32)), .val (.ref b6), .unset, .unset] [(.int (2 : Int32))]))
      refine Go.st (fun _ kq_ => XS.ifNo X6.here hx rfl (hb hby at_16) rfl (by decide) kq_) ?_
      show Go p e below s _ _ _ (T6.setTop (mkF m 19 #[.val (.int p0), .val (.int p1), .val (.int p2), .val (.int p3), .val (.int p4), .val (.int (2 : Int32)), .val (.ref b6), .unset, .unset] []))
      refine Go.st (fun _ kq_ => XS.aload X6.here hx rfl (hb hby at_19) rfl rfl kq_) ?_
      show Go p e below s _ _ _ (T6.setTop (mkF m 21 #[.val (.int p0), .val (.int p1), .val (.int p2), .val (.int p3), .val (.int p4), .val (.int (2 : Int32)), .val (.ref b6), .unset, .unset] [(.ref b6)]))
      refine Go.st (fun _ kq_ => XS.iconst X6.here hx rfl (hb hby at_21) kq_) ?_
      show Go p e below s _ _ _ (T6.setTop (mkF m 22 #[.val (.int p0), .val (.int p1), .val (.int p2), .val (.int p3), .val (.int p4), .val (.int (2 : Int32)), .val (.ref b6), .unset, .unset] [(.int (0 : Int32)), (.ref b6)]))
      refine Go.st (fun _ kq_ => XS.iloadN X6.here hx rfl (hb hby at_22) rfl kq_) ?_
      show Go p e below s _ _ _ (T6.setTop (mkF m 23 #[.val (.int p0), .val (.int p1), .val (.int p2), .val (.int p3), .val (.int p4), .val (.int (2 : Int32)), .val (.ref b6), .unset, .unset] [(.int p1), (.int (0 : Int32)), (.ref b6)]))
      refine Go.st (fun _ kq_ => XT.i2b X6.here hx rfl (hb hby at_23) rfl kq_) ?_
      show Go p e below s _ _ _ (T6.setTop (mkF m 24 #[.val (.int p0), .val (.int p1), .val (.int p2), .val (.int p3), .val (.int p4), .val (.int (2 : Int32)), .val (.ref b6), .unset, .unset] [(.int (p1.toInt8.toInt32)), (.int (0 : Int32)), (.ref b6)]))
      obtain ⟨T7, h7, X7, e7, W7, V7, st7⟩ := own_stB X6 hx hZ e6 V_b6 (j := (0 : Int32)) (by decide) (by decide) 0 rfl (Nat.le_of_ble_eq_true rfl) (g := (mkF m 24 #[.val (.int p0), .val (.int p1), .val (.int p2), .val (.int p3), .val (.int p4), .val (.int (2 : Int32)), .val (.ref b6), .unset, .unset] [(.int (p1.toInt8.toInt32)), (.int (0 : Int32)), (.ref b6)])) rfl rfl (hb hby at_24)
      have N7 := Fr.snoc X7 N0 g_b6
      have O7 := O6.wr W7 g_b6
      have V_b6 : Arv Z h7 b6 k6 .byte (2 : Int32) [(.int (nar .byte (p1.toInt8.toInt32))), (.int (0 : Int32))] (.int (0 : Int32)) := V7
      refine Go.st st7 ?_
      show Go p e below s _ _ _ (T7.setTop (mkF m 25 #[.val (.int p0), .val (.int p1), .val (.int p2), .val (.int p3), .val (.int p4), .val (.int (2 : Int32)), .val (.ref b6), .unset, .unset] []))
      refine Go.st (fun _ kq_ => XS.iload X7.here hx rfl (hb hby at_25) rfl kq_) ?_
      show Go p e below s _ _ _ (T7.setTop (mkF m 27 #[.val (.int p0), .val (.int p1), .val (.int p2), .val (.int p3), .val (.int p4), .val (.int (2 : Int32)), .val (.ref b6), .unset, .unset] [(.int (2 : Int32))]))
      refine Go.st (fun _ kq_ => XS.iconst X7.here hx rfl (hb hby at_27) kq_) ?_
      show Go p e below s _ _ _ (T7.setTop (mkF m 28 #[.val (.int p0), .val (.int p1), .val (.int p2), .val (.int p3), .val (.int p4), .val (.int (2 : Int32)), .val (.ref b6), .unset, .unset] [(.int (1 : Int32)), (.int (2 : Int32))]))
      refine Go.st (fun _ kq_ => XS.icmpNo X7.here hx rfl (hb hby at_28) rfl (by decide) kq_) ?_
      show Go p e below s _ _ _ (T7.setTop (mkF m 31 #[.val (.int p0), .val (.int p1), .val (.int p2), .val (.int p3), .val (.int p4), .val (.int (2 : Int32)), .val (.ref b6), .unset, .unset] []))
      refine Go.st (fun _ kq_ => XS.aload X7.here hx rfl (hb hby at_31) rfl rfl kq_) ?_
      show Go p e below s _ _ _ (T7.setTop (mkF m 33 #[.val (.int p0), .val (.int p1), .val (.int p2), .val (.int p3), .val (.int p4), .val (.int (2 : Int32)), .val (.ref b6), .unset, .unset] [(.ref b6)]))
      refine Go.st (fun _ kq_ => XS.iconst X7.here hx rfl (hb hby at_33) kq_) ?_
      show Go p e below s _ _ _ (T7.setTop (mkF m 34 #[.val (.int p0), .val (.int p1), .val (.int p2), .val (.int p3), .val (.int p4), .val (.int (2 : Int32)), .val (.ref b6), .unset, .unset] [(.int (1 : Int32)), (.ref b6)]))
      refine Go.st (fun _ kq_ => XS.iloadN X7.here hx rfl (hb hby at_34) rfl kq_) ?_
      show Go p e below s _ _ _ (T7.setTop (mkF m 35 #[.val (.int p0), .val (.int p1), .val (.int p2), .val (.int p3), .val (.int p4), .val (.int (2 : Int32)), .val (.ref b6), .unset, .unset] [(.int p2), (.int (1 : Int32)), (.ref b6)]))
      refine Go.st (fun _ kq_ => XT.i2b X7.here hx rfl (hb hby at_35) rfl kq_) ?_
      show Go p e below s _ _ _ (T7.setTop (mkF m 36 #[.val (.int p0), .val (.int p1), .val (.int p2), .val (.int p3), .val (.int p4), .val (.int (2 : Int32)), .val (.ref b6), .unset, .unset] [(.int (p2.toInt8.toInt32)), (.int (1 : Int32)), (.ref b6)]))
      obtain ⟨T8, h8, X8, e8, W8, V8, st8⟩ := own_stB X7 hx hZ e7 V_b6 (j := (1 : Int32)) (by decide) (by decide) 1 rfl (Nat.le_of_ble_eq_true rfl) (g := (mkF m 36 #[.val (.int p0), .val (.int p1), .val (.int p2), .val (.int p3), .val (.int p4), .val (.int (2 : Int32)), .val (.ref b6), .unset, .unset] [(.int (p2.toInt8.toInt32)), (.int (1 : Int32)), (.ref b6)])) rfl rfl (hb hby at_36)
      have N8 := Fr.snoc X8 N7 g_b6
      have O8 := O7.wr W8 g_b6
      have V_b6 : Arv Z h8 b6 k6 .byte (2 : Int32) [(.int (nar .byte (p1.toInt8.toInt32))), (.int (nar .byte (p2.toInt8.toInt32)))] (.int (0 : Int32)) := V8
      refine Go.st st8 ?_
      show Go p e below s _ _ _ (T8.setTop (mkF m 37 #[.val (.int p0), .val (.int p1), .val (.int p2), .val (.int p3), .val (.int p4), .val (.int (2 : Int32)), .val (.ref b6), .unset, .unset] []))
      refine Go.st (fun _ kq_ => XS.iload X8.here hx rfl (hb hby at_37) rfl kq_) ?_
      show Go p e below s _ _ _ (T8.setTop (mkF m 39 #[.val (.int p0), .val (.int p1), .val (.int p2), .val (.int p3), .val (.int p4), .val (.int (2 : Int32)), .val (.ref b6), .unset, .unset] [(.int (2 : Int32))]))
      refine Go.st (fun _ kq_ => XS.iconst X8.here hx rfl (hb hby at_39) kq_) ?_
      show Go p e below s _ _ _ (T8.setTop (mkF m 40 #[.val (.int p0), .val (.int p1), .val (.int p2), .val (.int p3), .val (.int p4), .val (.int (2 : Int32)), .val (.ref b6), .unset, .unset] [(.int (2 : Int32)), (.int (2 : Int32))]))
      refine Go.st (fun _ kq_ => XS.icmpYes X8.here hx rfl (pc0 := 40) (pc' := 49) rfl (hb hby at_40) rfl (by decide) (by decide) (by decide) kq_) ?_
      show Go p e below s _ _ _ (T8.setTop (mkF m 49 #[.val (.int p0), .val (.int p1), .val (.int p2), .val (.int p3), .val (.int p4), .val (.int (2 : Int32)), .val (.ref b6), .unset, .unset] []))
      refine Go.st (fun _ kq_ => XS.iload X8.here hx rfl (hb hby at_49) rfl kq_) ?_
      show Go p e below s _ _ _ (T8.setTop (mkF m 51 #[.val (.int p0), .val (.int p1), .val (.int p2), .val (.int p3), .val (.int p4), .val (.int (2 : Int32)), .val (.ref b6), .unset, .unset] [(.int (2 : Int32))]))
      refine Go.st (fun _ kq_ => XS.iconst X8.here hx rfl (hb hby at_51) kq_) ?_
      show Go p e below s _ _ _ (T8.setTop (mkF m 52 #[.val (.int p0), .val (.int p1), .val (.int p2), .val (.int p3), .val (.int p4), .val (.int (2 : Int32)), .val (.ref b6), .unset, .unset] [(.int (3 : Int32)), (.int (2 : Int32))]))
      refine Go.st (fun _ kq_ => XS.icmpYes X8.here hx rfl (pc0 := 52) (pc' := 62) rfl (hb hby at_52) rfl (by decide) (by decide) (by decide) kq_) ?_
      show Go p e below s _ _ _ (T8.setTop (mkF m 62 #[.val (.int p0), .val (.int p1), .val (.int p2), .val (.int p3), .val (.int p4), .val (.int (2 : Int32)), .val (.ref b6), .unset, .unset] []))
      refine Go.st (fun _ kq_ => XS.aload X8.here hx rfl (hb hby at_62) rfl rfl kq_) ?_
      show Go p e below s _ _ _ (T8.setTop (mkF m 64 #[.val (.int p0), .val (.int p1), .val (.int p2), .val (.int p3), .val (.int p4), .val (.int (2 : Int32)), .val (.ref b6), .unset, .unset] [(.ref b6)]))
      obtain ⟨_, _, ⟨T9, L9, k9, n9⟩, -, X9, ⟨Lc9, hQ9, l9, y9, z9⟩, st9⟩ := Jvm.LawKit.callS X8 hx (y := (⟨"com/example/duplexwire/duplexwire/protocol/LineFramer", "frame", "([B)[B"⟩ : MethodName)) hown (mvT hZ (own_w hw 2 rfl)) (mvT hZ (own_w hw 3 rfl)) (mvT hZ (own_w hw 4 rfl)) (mvT hZ (own_w hw 5 rfl)) (by decide) (backOf (W := 0) (rmf2 l Z a0 hw [] b6 k6 (nar .byte (p1.toInt8.toInt32)) (nar .byte (p2.toInt8.toInt32)) h8 n0 O8 V_b6) hZ (own_w hw 5 rfl) (own_w hw 4 rfl) (by decide) (by decide)) (g := (mkF m 64 #[.val (.int p0), .val (.int p1), .val (.int p2), .val (.int p3), .val (.int p4), .val (.int (2 : Int32)), .val (.ref b6), .unset, .unset] [(.ref b6)])) rfl (by rw [hml]; rfl) (argsL := [(.ref b6)]) (rest := []) (lenOf pd0_0 rfl) rfl (by show 2 * 0 + _ ≤ _; exact Nat.le_of_eq rfl) (hb hby at_64) (fun _ _ => ⟨rfl, e8, (by decide : 1 + 1 ≤ _), (by decide : 2 + 3 ≤ _)⟩)
      dsimp only [Pt.U, Pt.locs, Pt.cells, Pt.slots] at X9 l9 y9 z9 st9 hQ9
      subst l9 y9 z9
      obtain ⟨b9, kb9, rfl, Nc9, Kc9, gb9, szb9, Vb9⟩ := hQ9
      have N9 := Fr.app N8 Nc9
      have g_b9 : n0 ≤ b9 := gb9
      have ne_b6_b9 : b6 ≠ b9 := Nat.ne_of_lt (Nat.lt_of_lt_of_le V_b6.lt szb9)
      have V_b6 := V_b6.keep Kc9 nin0
      have O9 := O8.keep Kc9 all0
      have V_b9 : Arv Z T9.heap b9 kb9 .byte (3 : Int32) [(.int (nar .byte (p1.toInt8.toInt32))), (.int (nar .byte (p2.toInt8.toInt32))), (.int (10 : Int32))] (.int (0 : Int32)) := Vb9
      refine Go.st st9 ?_
      show Go p e below s _ _ _ (T9.setTop (mkF m 67 #[.val (.int p0), .val (.int p1), .val (.int p2), .val (.int p3), .val (.int p4), .val (.int (2 : Int32)), .val (.ref b6), .unset, .unset] [(.ref b9)]))
      refine Go.st (fun _ kq_ => XS.astore X9.here hx rfl (hb hby at_67) rfl rfl (l' := #[.val (.int p0), .val (.int p1), .val (.int p2), .val (.int p3), .val (.int p4), .val (.int (2 : Int32)), .val (.ref b6), .val (.ref b9), .unset]) rfl kq_) ?_
      show Go p e below s _ _ _ (T9.setTop (mkF m 69 #[.val (.int p0), .val (.int p1), .val (.int p2), .val (.int p3), .val (.int p4), .val (.int (2 : Int32)), .val (.ref b6), .val (.ref b9), .unset] []))
      refine Go.st (fun _ kq_ => XS.aload X9.here hx rfl (hb hby at_69) rfl rfl kq_) ?_
      show Go p e below s _ _ _ (T9.setTop (mkF m 71 #[.val (.int p0), .val (.int p1), .val (.int p2), .val (.int p3), .val (.int p4), .val (.int (2 : Int32)), .val (.ref b6), .val (.ref b9), .unset] [(.ref b9)]))
      refine Go.st (fun _ kq_ => XS.ifnullNo X9.here hx rfl (hb hby at_71) rfl kq_) ?_
      show Go p e below s _ _ _ (T9.setTop (mkF m 74 #[.val (.int p0), .val (.int p1), .val (.int p2), .val (.int p3), .val (.int p4), .val (.int (2 : Int32)), .val (.ref b6), .val (.ref b9), .unset] []))
      refine Go.st (fun _ kq_ => XS.aload X9.here hx rfl (hb hby at_74) rfl rfl kq_) ?_
      show Go p e below s _ _ _ (T9.setTop (mkF m 76 #[.val (.int p0), .val (.int p1), .val (.int p2), .val (.int p3), .val (.int p4), .val (.int (2 : Int32)), .val (.ref b6), .val (.ref b9), .unset] [(.ref b9)]))
      refine Go.st (fun _ kq_ => XS.aload X9.here hx rfl (hb hby at_76) rfl rfl kq_) ?_
      show Go p e below s _ _ _ (T9.setTop (mkF m 78 #[.val (.int p0), .val (.int p1), .val (.int p2), .val (.int p3), .val (.int p4), .val (.int (2 : Int32)), .val (.ref b6), .val (.ref b9), .unset] [(.ref b6), (.ref b9)]))
      refine Go.st (fun _ kq_ => XT.acmpNo X9.here hx rfl (hb hby at_78) rfl rfl rfl (XT.aa_eq_f (fun z => (Ne.symm ne_b6_b9) (Value.ref.inj z))) kq_) ?_
      show Go p e below s _ _ _ (T9.setTop (mkF m 81 #[.val (.int p0), .val (.int p1), .val (.int p2), .val (.int p3), .val (.int p4), .val (.int (2 : Int32)), .val (.ref b6), .val (.ref b9), .unset] []))
      refine Go.st (fun _ kq_ => XS.aload X9.here hx rfl (hb hby at_81) rfl rfl kq_) ?_
      show Go p e below s _ _ _ (T9.setTop (mkF m 83 #[.val (.int p0), .val (.int p1), .val (.int p2), .val (.int p3), .val (.int p4), .val (.int (2 : Int32)), .val (.ref b6), .val (.ref b9), .unset] [(.ref b9)]))
      refine Go.st (fun _ kq_ => own_len X9 hx hZ rfl V_b9 (g := (mkF m 83 #[.val (.int p0), .val (.int p1), .val (.int p2), .val (.int p3), .val (.int p4), .val (.int (2 : Int32)), .val (.ref b6), .val (.ref b9), .unset] [(.ref b9)])) rfl rfl (hb hby at_83) _ kq_) ?_
      show Go p e below s _ _ _ (T9.setTop (mkF m 84 #[.val (.int p0), .val (.int p1), .val (.int p2), .val (.int p3), .val (.int p4), .val (.int (2 : Int32)), .val (.ref b6), .val (.ref b9), .unset] [(.int (3 : Int32))]))
      refine Go.st (fun _ kq_ => XS.iload X9.here hx rfl (hb hby at_84) rfl kq_) ?_
      show Go p e below s _ _ _ (T9.setTop (mkF m 86 #[.val (.int p0), .val (.int p1), .val (.int p2), .val (.int p3), .val (.int p4), .val (.int (2 : Int32)), .val (.ref b6), .val (.ref b9), .unset] [(.int (2 : Int32)), (.int (3 : Int32))]))
      refine Go.st (fun _ kq_ => XS.iconst X9.here hx rfl (hb hby at_86) kq_) ?_
      show Go p e below s _ _ _ (T9.setTop (mkF m 87 #[.val (.int p0), .val (.int p1), .val (.int p2), .val (.int p3), .val (.int p4), .val (.int (2 : Int32)), .val (.ref b6), .val (.ref b9), .unset] [(.int (1 : Int32)), (.int (2 : Int32)), (.int (3 : Int32))]))
      refine Go.st (fun _ kq_ => XS.iadd X9.here hx rfl (hb hby at_87) rfl kq_) ?_
      show Go p e below s _ _ _ (T9.setTop (mkF m 88 #[.val (.int p0), .val (.int p1), .val (.int p2), .val (.int p3), .val (.int p4), .val (.int (2 : Int32)), .val (.ref b6), .val (.ref b9), .unset] [(.int (3 : Int32)), (.int (3 : Int32))]))
      refine Go.st (fun _ kq_ => XS.icmpYes X9.here hx rfl (pc0 := 88) (pc' := 93) rfl (hb hby at_88) rfl (by decide) (by decide) (by decide) kq_) ?_
      show Go p e below s _ _ _ (T9.setTop (mkF m 93 #[.val (.int p0), .val (.int p1), .val (.int p2), .val (.int p3), .val (.int p4), .val (.int (2 : Int32)), .val (.ref b6), .val (.ref b9), .unset] []))
      refine Go.st (fun _ kq_ => XS.aload X9.here hx rfl (hb hby at_93) rfl rfl kq_) ?_
      show Go p e below s _ _ _ (T9.setTop (mkF m 95 #[.val (.int p0), .val (.int p1), .val (.int p2), .val (.int p3), .val (.int p4), .val (.int (2 : Int32)), .val (.ref b6), .val (.ref b9), .unset] [(.ref b6)]))
      refine Go.st (fun _ kq_ => own_len X9 hx hZ rfl V_b6 (g := (mkF m 95 #[.val (.int p0), .val (.int p1), .val (.int p2), .val (.int p3), .val (.int p4), .val (.int (2 : Int32)), .val (.ref b6), .val (.ref b9), .unset] [(.ref b6)])) rfl rfl (hb hby at_95) _ kq_) ?_
      show Go p e below s _ _ _ (T9.setTop (mkF m 96 #[.val (.int p0), .val (.int p1), .val (.int p2), .val (.int p3), .val (.int p4), .val (.int (2 : Int32)), .val (.ref b6), .val (.ref b9), .unset] [(.int (2 : Int32))]))
      refine Go.st (fun _ kq_ => XS.iload X9.here hx rfl (hb hby at_96) rfl kq_) ?_
      show Go p e below s _ _ _ (T9.setTop (mkF m 98 #[.val (.int p0), .val (.int p1), .val (.int p2), .val (.int p3), .val (.int p4), .val (.int (2 : Int32)), .val (.ref b6), .val (.ref b9), .unset] [(.int (2 : Int32)), (.int (2 : Int32))]))
      refine Go.st (fun _ kq_ => XS.icmpYes X9.here hx rfl (pc0 := 98) (pc' := 103) rfl (hb hby at_98) rfl (by decide) (by decide) (by decide) kq_) ?_
      show Go p e below s _ _ _ (T9.setTop (mkF m 103 #[.val (.int p0), .val (.int p1), .val (.int p2), .val (.int p3), .val (.int p4), .val (.int (2 : Int32)), .val (.ref b6), .val (.ref b9), .unset] []))
      refine Go.st (fun _ kq_ => XS.aload X9.here hx rfl (hb hby at_103) rfl rfl kq_) ?_
      show Go p e below s _ _ _ (T9.setTop (mkF m 105 #[.val (.int p0), .val (.int p1), .val (.int p2), .val (.int p3), .val (.int p4), .val (.int (2 : Int32)), .val (.ref b6), .val (.ref b9), .unset] [(.ref b9)]))
      refine Go.st (fun _ kq_ => XS.iload X9.here hx rfl (hb hby at_105) rfl kq_) ?_
      show Go p e below s _ _ _ (T9.setTop (mkF m 107 #[.val (.int p0), .val (.int p1), .val (.int p2), .val (.int p3), .val (.int p4), .val (.int (2 : Int32)), .val (.ref b6), .val (.ref b9), .unset] [(.int (2 : Int32)), (.ref b9)]))
      refine Go.st (fun _ kq_ => own_baloadB X9 hx hZ rfl V_b9 (by decide) (by decide) (v := (.int (10 : Int32))) rfl (g := (mkF m 107 #[.val (.int p0), .val (.int p1), .val (.int p2), .val (.int p3), .val (.int p4), .val (.int (2 : Int32)), .val (.ref b6), .val (.ref b9), .unset] [(.int (2 : Int32)), (.ref b9)])) rfl rfl (hb hby at_107) _ kq_) ?_
      show Go p e below s _ _ _ (T9.setTop (mkF m 108 #[.val (.int p0), .val (.int p1), .val (.int p2), .val (.int p3), .val (.int p4), .val (.int (2 : Int32)), .val (.ref b6), .val (.ref b9), .unset] [(.int (10 : Int32))]))
      refine Go.st (fun _ kq_ => XS.bipush X9.here hx rfl (hb hby at_108) kq_) ?_
      show Go p e below s _ _ _ (T9.setTop (mkF m 110 #[.val (.int p0), .val (.int p1), .val (.int p2), .val (.int p3), .val (.int p4), .val (.int (2 : Int32)), .val (.ref b6), .val (.ref b9), .unset] [(.int (10 : Int32)), (.int (10 : Int32))]))
      refine Go.st (fun _ kq_ => XS.icmpNo X9.here hx rfl (hb hby at_110) rfl (by decide) kq_) ?_
      show Go p e below s _ _ _ (T9.setTop (mkF m 113 #[.val (.int p0), .val (.int p1), .val (.int p2), .val (.int p3), .val (.int p4), .val (.int (2 : Int32)), .val (.ref b6), .val (.ref b9), .unset] []))
      refine Go.st (fun _ kq_ => XS.iconst X9.here hx rfl (hb hby at_113) kq_) ?_
      show Go p e below s _ _ _ (T9.setTop (mkF m 114 #[.val (.int p0), .val (.int p1), .val (.int p2), .val (.int p3), .val (.int p4), .val (.int (2 : Int32)), .val (.ref b6), .val (.ref b9), .unset] [(.int (1 : Int32))]))
      refine Go.st (fun _ kq_ => XS.goto X9.here hx rfl (pc0 := 114) (pc' := 118) rfl (hb hby at_114) (by decide) (by decide) kq_) ?_
      show Go p e below s _ _ _ (T9.setTop (mkF m 118 #[.val (.int p0), .val (.int p1), .val (.int p2), .val (.int p3), .val (.int p4), .val (.int (2 : Int32)), .val (.ref b6), .val (.ref b9), .unset] [(.int (1 : Int32))]))
      refine Go.st (fun _ kq_ => XS.istore X9.here hx rfl (hb hby at_118) rfl (l' := #[.val (.int p0), .val (.int p1), .val (.int p2), .val (.int p3), .val (.int p4), .val (.int (2 : Int32)), .val (.ref b6), .val (.ref b9), .val (.int (1 : Int32))]) rfl kq_) ?_
      show Go p e below s _ _ _ (T9.setTop (mkF m 120 #[.val (.int p0), .val (.int p1), .val (.int p2), .val (.int p3), .val (.int p4), .val (.int (2 : Int32)), .val (.ref b6), .val (.ref b9), .val (.int (1 : Int32))] []))
      refine Go.st (fun _ kq_ => XS.iload X9.here hx rfl (hb hby at_120) rfl kq_) ?_
      show Go p e below s _ _ _ (T9.setTop (mkF m 122 #[.val (.int p0), .val (.int p1), .val (.int p2), .val (.int p3), .val (.int p4), .val (.int (2 : Int32)), .val (.ref b6), .val (.ref b9), .val (.int (1 : Int32))] [(.int (1 : Int32))]))
      refine Go.st (fun _ kq_ => XS.ifNo X9.here hx rfl (hb hby at_122) rfl (by decide) kq_) ?_
      show Go p e below s _ _ _ (T9.setTop (mkF m 125 #[.val (.int p0), .val (.int p1), .val (.int p2), .val (.int p3), .val (.int p4), .val (.int (2 : Int32)), .val (.ref b6), .val (.ref b9), .val (.int (1 : Int32))] []))
      refine Go.st (fun _ kq_ => XS.iload X9.here hx rfl (hb hby at_125) rfl kq_) ?_
      show Go p e below s _ _ _ (T9.setTop (mkF m 127 #[.val (.int p0), .val (.int p1), .val (.int p2), .val (.int p3), .val (.int p4), .val (.int (2 : Int32)), .val (.ref b6), .val (.ref b9), .val (.int (1 : Int32))] [(.int (2 : Int32))]))
      refine Go.st (fun _ kq_ => XS.iconst X9.here hx rfl (hb hby at_127) kq_) ?_
      show Go p e below s _ _ _ (T9.setTop (mkF m 128 #[.val (.int p0), .val (.int p1), .val (.int p2), .val (.int p3), .val (.int p4), .val (.int (2 : Int32)), .val (.ref b6), .val (.ref b9), .val (.int (1 : Int32))] [(.int (1 : Int32)), (.int (2 : Int32))]))
      refine Go.st (fun _ kq_ => XS.icmpNo X9.here hx rfl (hb hby at_128) rfl (by decide) kq_) ?_
      show Go p e below s _ _ _ (T9.setTop (mkF m 131 #[.val (.int p0), .val (.int p1), .val (.int p2), .val (.int p3), .val (.int p4), .val (.int (2 : Int32)), .val (.ref b6), .val (.ref b9), .val (.int (1 : Int32))] []))
      refine Go.st (fun _ kq_ => XS.aload X9.here hx rfl (hb hby at_131) rfl rfl kq_) ?_
      show Go p e below s _ _ _ (T9.setTop (mkF m 133 #[.val (.int p0), .val (.int p1), .val (.int p2), .val (.int p3), .val (.int p4), .val (.int (2 : Int32)), .val (.ref b6), .val (.ref b9), .val (.int (1 : Int32))] [(.ref b9)]))
      refine Go.st (fun _ kq_ => XS.iconst X9.here hx rfl (hb hby at_133) kq_) ?_
      show Go p e below s _ _ _ (T9.setTop (mkF m 134 #[.val (.int p0), .val (.int p1), .val (.int p2), .val (.int p3), .val (.int p4), .val (.int (2 : Int32)), .val (.ref b6), .val (.ref b9), .val (.int (1 : Int32))] [(.int (0 : Int32)), (.ref b9)]))
      refine Go.st (fun _ kq_ => own_baloadB X9 hx hZ rfl V_b9 (by decide) (by decide) (v := (.int (nar .byte (p1.toInt8.toInt32)))) rfl (g := (mkF m 134 #[.val (.int p0), .val (.int p1), .val (.int p2), .val (.int p3), .val (.int p4), .val (.int (2 : Int32)), .val (.ref b6), .val (.ref b9), .val (.int (1 : Int32))] [(.int (0 : Int32)), (.ref b9)])) rfl rfl (hb hby at_134) _ kq_) ?_
      show Go p e below s _ _ _ (T9.setTop (mkF m 135 #[.val (.int p0), .val (.int p1), .val (.int p2), .val (.int p3), .val (.int p4), .val (.int (2 : Int32)), .val (.ref b6), .val (.ref b9), .val (.int (1 : Int32))] [(.int (nar .byte (p1.toInt8.toInt32)))]))
      refine Go.st (fun _ kq_ => XS.iloadN X9.here hx rfl (hb hby at_135) rfl kq_) ?_
      show Go p e below s _ _ _ (T9.setTop (mkF m 136 #[.val (.int p0), .val (.int p1), .val (.int p2), .val (.int p3), .val (.int p4), .val (.int (2 : Int32)), .val (.ref b6), .val (.ref b9), .val (.int (1 : Int32))] [(.int p1), (.int (nar .byte (p1.toInt8.toInt32)))]))
      refine Go.st (fun _ kq_ => XT.i2b X9.here hx rfl (hb hby at_136) rfl kq_) ?_
      show Go p e below s _ _ _ (T9.setTop (mkF m 137 #[.val (.int p0), .val (.int p1), .val (.int p2), .val (.int p3), .val (.int p4), .val (.int (2 : Int32)), .val (.ref b6), .val (.ref b9), .val (.int (1 : Int32))] [(.int (p1.toInt8.toInt32)), (.int (nar .byte (p1.toInt8.toInt32)))]))
      refine Go.st (fun _ kq_ => XS.icmpNo X9.here hx rfl (hb hby at_137) rfl (XT.ii_ne_f (own_nb _)) kq_) ?_
      show Go p e below s _ _ _ (T9.setTop (mkF m 140 #[.val (.int p0), .val (.int p1), .val (.int p2), .val (.int p3), .val (.int p4), .val (.int (2 : Int32)), .val (.ref b6), .val (.ref b9), .val (.int (1 : Int32))] []))
      refine Go.st (fun _ kq_ => XS.aload X9.here hx rfl (hb hby at_140) rfl rfl kq_) ?_
      show Go p e below s _ _ _ (T9.setTop (mkF m 142 #[.val (.int p0), .val (.int p1), .val (.int p2), .val (.int p3), .val (.int p4), .val (.int (2 : Int32)), .val (.ref b6), .val (.ref b9), .val (.int (1 : Int32))] [(.ref b6)]))
      refine Go.st (fun _ kq_ => XS.iconst X9.here hx rfl (hb hby at_142) kq_) ?_
      show Go p e below s _ _ _ (T9.setTop (mkF m 143 #[.val (.int p0), .val (.int p1), .val (.int p2), .val (.int p3), .val (.int p4), .val (.int (2 : Int32)), .val (.ref b6), .val (.ref b9), .val (.int (1 : Int32))] [(.int (0 : Int32)), (.ref b6)]))
      refine Go.st (fun _ kq_ => own_baloadB X9 hx hZ rfl V_b6 (by decide) (by decide) (v := (.int (nar .byte (p1.toInt8.toInt32)))) rfl (g := (mkF m 143 #[.val (.int p0), .val (.int p1), .val (.int p2), .val (.int p3), .val (.int p4), .val (.int (2 : Int32)), .val (.ref b6), .val (.ref b9), .val (.int (1 : Int32))] [(.int (0 : Int32)), (.ref b6)])) rfl rfl (hb hby at_143) _ kq_) ?_
      show Go p e below s _ _ _ (T9.setTop (mkF m 144 #[.val (.int p0), .val (.int p1), .val (.int p2), .val (.int p3), .val (.int p4), .val (.int (2 : Int32)), .val (.ref b6), .val (.ref b9), .val (.int (1 : Int32))] [(.int (nar .byte (p1.toInt8.toInt32)))]))
      refine Go.st (fun _ kq_ => XS.iloadN X9.here hx rfl (hb hby at_144) rfl kq_) ?_
      show Go p e below s _ _ _ (T9.setTop (mkF m 145 #[.val (.int p0), .val (.int p1), .val (.int p2), .val (.int p3), .val (.int p4), .val (.int (2 : Int32)), .val (.ref b6), .val (.ref b9), .val (.int (1 : Int32))] [(.int p1), (.int (nar .byte (p1.toInt8.toInt32)))]))
      refine Go.st (fun _ kq_ => XT.i2b X9.here hx rfl (hb hby at_145) rfl kq_) ?_
      show Go p e below s _ _ _ (T9.setTop (mkF m 146 #[.val (.int p0), .val (.int p1), .val (.int p2), .val (.int p3), .val (.int p4), .val (.int (2 : Int32)), .val (.ref b6), .val (.ref b9), .val (.int (1 : Int32))] [(.int (p1.toInt8.toInt32)), (.int (nar .byte (p1.toInt8.toInt32)))]))
      refine Go.st (fun _ kq_ => XS.icmpNo X9.here hx rfl (hb hby at_146) rfl (XT.ii_ne_f (own_nb _)) kq_) ?_
      show Go p e below s _ _ _ (T9.setTop (mkF m 149 #[.val (.int p0), .val (.int p1), .val (.int p2), .val (.int p3), .val (.int p4), .val (.int (2 : Int32)), .val (.ref b6), .val (.ref b9), .val (.int (1 : Int32))] []))
      refine Go.st (fun _ kq_ => XS.iconst X9.here hx rfl (hb hby at_149) kq_) ?_
      show Go p e below s _ _ _ (T9.setTop (mkF m 150 #[.val (.int p0), .val (.int p1), .val (.int p2), .val (.int p3), .val (.int p4), .val (.int (2 : Int32)), .val (.ref b6), .val (.ref b9), .val (.int (1 : Int32))] [(.int (1 : Int32))]))
      refine Go.st (fun _ kq_ => XS.goto X9.here hx rfl (pc0 := 150) (pc' := 154) rfl (hb hby at_150) (by decide) (by decide) kq_) ?_
      show Go p e below s _ _ _ (T9.setTop (mkF m 154 #[.val (.int p0), .val (.int p1), .val (.int p2), .val (.int p3), .val (.int p4), .val (.int (2 : Int32)), .val (.ref b6), .val (.ref b9), .val (.int (1 : Int32))] [(.int (1 : Int32))]))
      refine Go.st (fun _ kq_ => XS.istore X9.here hx rfl (hb hby at_154) rfl (l' := #[.val (.int p0), .val (.int p1), .val (.int p2), .val (.int p3), .val (.int p4), .val (.int (2 : Int32)), .val (.ref b6), .val (.ref b9), .val (.int (1 : Int32))]) rfl kq_) ?_
      show Go p e below s _ _ _ (T9.setTop (mkF m 156 #[.val (.int p0), .val (.int p1), .val (.int p2), .val (.int p3), .val (.int p4), .val (.int (2 : Int32)), .val (.ref b6), .val (.ref b9), .val (.int (1 : Int32))] []))
      refine Go.st (fun _ kq_ => XS.iload X9.here hx rfl (hb hby at_156) rfl kq_) ?_
      show Go p e below s _ _ _ (T9.setTop (mkF m 158 #[.val (.int p0), .val (.int p1), .val (.int p2), .val (.int p3), .val (.int p4), .val (.int (2 : Int32)), .val (.ref b6), .val (.ref b9), .val (.int (1 : Int32))] [(.int (1 : Int32))]))
      refine Go.st (fun _ kq_ => XS.ifNo X9.here hx rfl (hb hby at_158) rfl (by decide) kq_) ?_
      show Go p e below s _ _ _ (T9.setTop (mkF m 161 #[.val (.int p0), .val (.int p1), .val (.int p2), .val (.int p3), .val (.int p4), .val (.int (2 : Int32)), .val (.ref b6), .val (.ref b9), .val (.int (1 : Int32))] []))
      refine Go.st (fun _ kq_ => XS.iload X9.here hx rfl (hb hby at_161) rfl kq_) ?_
      show Go p e below s _ _ _ (T9.setTop (mkF m 163 #[.val (.int p0), .val (.int p1), .val (.int p2), .val (.int p3), .val (.int p4), .val (.int (2 : Int32)), .val (.ref b6), .val (.ref b9), .val (.int (1 : Int32))] [(.int (2 : Int32))]))
      refine Go.st (fun _ kq_ => XS.iconst X9.here hx rfl (hb hby at_163) kq_) ?_
      show Go p e below s _ _ _ (T9.setTop (mkF m 164 #[.val (.int p0), .val (.int p1), .val (.int p2), .val (.int p3), .val (.int p4), .val (.int (2 : Int32)), .val (.ref b6), .val (.ref b9), .val (.int (1 : Int32))] [(.int (2 : Int32)), (.int (2 : Int32))]))
      refine Go.st (fun _ kq_ => XS.icmpNo X9.here hx rfl (hb hby at_164) rfl (by decide) kq_) ?_
      show Go p e below s _ _ _ (T9.setTop (mkF m 167 #[.val (.int p0), .val (.int p1), .val (.int p2), .val (.int p3), .val (.int p4), .val (.int (2 : Int32)), .val (.ref b6), .val (.ref b9), .val (.int (1 : Int32))] []))
      refine Go.st (fun _ kq_ => XS.aload X9.here hx rfl (hb hby at_167) rfl rfl kq_) ?_
      show Go p e below s _ _ _ (T9.setTop (mkF m 169 #[.val (.int p0), .val (.int p1), .val (.int p2), .val (.int p3), .val (.int p4), .val (.int (2 : Int32)), .val (.ref b6), .val (.ref b9), .val (.int (1 : Int32))] [(.ref b9)]))
      refine Go.st (fun _ kq_ => XS.iconst X9.here hx rfl (hb hby at_169) kq_) ?_
      show Go p e below s _ _ _ (T9.setTop (mkF m 170 #[.val (.int p0), .val (.int p1), .val (.int p2), .val (.int p3), .val (.int p4), .val (.int (2 : Int32)), .val (.ref b6), .val (.ref b9), .val (.int (1 : Int32))] [(.int (1 : Int32)), (.ref b9)]))
      refine Go.st (fun _ kq_ => own_baloadB X9 hx hZ rfl V_b9 (by decide) (by decide) (v := (.int (nar .byte (p2.toInt8.toInt32)))) rfl (g := (mkF m 170 #[.val (.int p0), .val (.int p1), .val (.int p2), .val (.int p3), .val (.int p4), .val (.int (2 : Int32)), .val (.ref b6), .val (.ref b9), .val (.int (1 : Int32))] [(.int (1 : Int32)), (.ref b9)])) rfl rfl (hb hby at_170) _ kq_) ?_
      show Go p e below s _ _ _ (T9.setTop (mkF m 171 #[.val (.int p0), .val (.int p1), .val (.int p2), .val (.int p3), .val (.int p4), .val (.int (2 : Int32)), .val (.ref b6), .val (.ref b9), .val (.int (1 : Int32))] [(.int (nar .byte (p2.toInt8.toInt32)))]))
      refine Go.st (fun _ kq_ => XS.iloadN X9.here hx rfl (hb hby at_171) rfl kq_) ?_
      show Go p e below s _ _ _ (T9.setTop (mkF m 172 #[.val (.int p0), .val (.int p1), .val (.int p2), .val (.int p3), .val (.int p4), .val (.int (2 : Int32)), .val (.ref b6), .val (.ref b9), .val (.int (1 : Int32))] [(.int p2), (.int (nar .byte (p2.toInt8.toInt32)))]))
      refine Go.st (fun _ kq_ => XT.i2b X9.here hx rfl (hb hby at_172) rfl kq_) ?_
      show Go p e below s _ _ _ (T9.setTop (mkF m 173 #[.val (.int p0), .val (.int p1), .val (.int p2), .val (.int p3), .val (.int p4), .val (.int (2 : Int32)), .val (.ref b6), .val (.ref b9), .val (.int (1 : Int32))] [(.int (p2.toInt8.toInt32)), (.int (nar .byte (p2.toInt8.toInt32)))]))
      refine Go.st (fun _ kq_ => XS.icmpNo X9.here hx rfl (hb hby at_173) rfl (XT.ii_ne_f (own_nb _)) kq_) ?_
      show Go p e below s _ _ _ (T9.setTop (mkF m 176 #[.val (.int p0), .val (.int p1), .val (.int p2), .val (.int p3), .val (.int p4), .val (.int (2 : Int32)), .val (.ref b6), .val (.ref b9), .val (.int (1 : Int32))] []))
      refine Go.st (fun _ kq_ => XS.aload X9.here hx rfl (hb hby at_176) rfl rfl kq_) ?_
      show Go p e below s _ _ _ (T9.setTop (mkF m 178 #[.val (.int p0), .val (.int p1), .val (.int p2), .val (.int p3), .val (.int p4), .val (.int (2 : Int32)), .val (.ref b6), .val (.ref b9), .val (.int (1 : Int32))] [(.ref b6)]))
      refine Go.st (fun _ kq_ => XS.iconst X9.here hx rfl (hb hby at_178) kq_) ?_
      show Go p e below s _ _ _ (T9.setTop (mkF m 179 #[.val (.int p0), .val (.int p1), .val (.int p2), .val (.int p3), .val (.int p4), .val (.int (2 : Int32)), .val (.ref b6), .val (.ref b9), .val (.int (1 : Int32))] [(.int (1 : Int32)), (.ref b6)]))
      refine Go.st (fun _ kq_ => own_baloadB X9 hx hZ rfl V_b6 (by decide) (by decide) (v := (.int (nar .byte (p2.toInt8.toInt32)))) rfl (g := (mkF m 179 #[.val (.int p0), .val (.int p1), .val (.int p2), .val (.int p3), .val (.int p4), .val (.int (2 : Int32)), .val (.ref b6), .val (.ref b9), .val (.int (1 : Int32))] [(.int (1 : Int32)), (.ref b6)])) rfl rfl (hb hby at_179) _ kq_) ?_
      show Go p e below s _ _ _ (T9.setTop (mkF m 180 #[.val (.int p0), .val (.int p1), .val (.int p2), .val (.int p3), .val (.int p4), .val (.int (2 : Int32)), .val (.ref b6), .val (.ref b9), .val (.int (1 : Int32))] [(.int (nar .byte (p2.toInt8.toInt32)))]))
      refine Go.st (fun _ kq_ => XS.iloadN X9.here hx rfl (hb hby at_180) rfl kq_) ?_
      show Go p e below s _ _ _ (T9.setTop (mkF m 181 #[.val (.int p0), .val (.int p1), .val (.int p2), .val (.int p3), .val (.int p4), .val (.int (2 : Int32)), .val (.ref b6), .val (.ref b9), .val (.int (1 : Int32))] [(.int p2), (.int (nar .byte (p2.toInt8.toInt32)))]))
      refine Go.st (fun _ kq_ => XT.i2b X9.here hx rfl (hb hby at_181) rfl kq_) ?_
      show Go p e below s _ _ _ (T9.setTop (mkF m 182 #[.val (.int p0), .val (.int p1), .val (.int p2), .val (.int p3), .val (.int p4), .val (.int (2 : Int32)), .val (.ref b6), .val (.ref b9), .val (.int (1 : Int32))] [(.int (p2.toInt8.toInt32)), (.int (nar .byte (p2.toInt8.toInt32)))]))
      refine Go.st (fun _ kq_ => XS.icmpNo X9.here hx rfl (hb hby at_182) rfl (XT.ii_ne_f (own_nb _)) kq_) ?_
      show Go p e below s _ _ _ (T9.setTop (mkF m 185 #[.val (.int p0), .val (.int p1), .val (.int p2), .val (.int p3), .val (.int p4), .val (.int (2 : Int32)), .val (.ref b6), .val (.ref b9), .val (.int (1 : Int32))] []))
      refine Go.st (fun _ kq_ => XS.iconst X9.here hx rfl (hb hby at_185) kq_) ?_
      show Go p e below s _ _ _ (T9.setTop (mkF m 186 #[.val (.int p0), .val (.int p1), .val (.int p2), .val (.int p3), .val (.int p4), .val (.int (2 : Int32)), .val (.ref b6), .val (.ref b9), .val (.int (1 : Int32))] [(.int (1 : Int32))]))
      refine Go.st (fun _ kq_ => XS.goto X9.here hx rfl (pc0 := 186) (pc' := 190) rfl (hb hby at_186) (by decide) (by decide) kq_) ?_
      show Go p e below s _ _ _ (T9.setTop (mkF m 190 #[.val (.int p0), .val (.int p1), .val (.int p2), .val (.int p3), .val (.int p4), .val (.int (2 : Int32)), .val (.ref b6), .val (.ref b9), .val (.int (1 : Int32))] [(.int (1 : Int32))]))
      refine Go.st (fun _ kq_ => XS.istore X9.here hx rfl (hb hby at_190) rfl (l' := #[.val (.int p0), .val (.int p1), .val (.int p2), .val (.int p3), .val (.int p4), .val (.int (2 : Int32)), .val (.ref b6), .val (.ref b9), .val (.int (1 : Int32))]) rfl kq_) ?_
      show Go p e below s _ _ _ (T9.setTop (mkF m 192 #[.val (.int p0), .val (.int p1), .val (.int p2), .val (.int p3), .val (.int p4), .val (.int (2 : Int32)), .val (.ref b6), .val (.ref b9), .val (.int (1 : Int32))] []))
      refine Go.st (fun _ kq_ => XS.iload X9.here hx rfl (hb hby at_192) rfl kq_) ?_
      show Go p e below s _ _ _ (T9.setTop (mkF m 194 #[.val (.int p0), .val (.int p1), .val (.int p2), .val (.int p3), .val (.int p4), .val (.int (2 : Int32)), .val (.ref b6), .val (.ref b9), .val (.int (1 : Int32))] [(.int (1 : Int32))]))
      refine Go.st (fun _ kq_ => XS.ifNo X9.here hx rfl (hb hby at_194) rfl (by decide) kq_) ?_
      show Go p e below s _ _ _ (T9.setTop (mkF m 197 #[.val (.int p0), .val (.int p1), .val (.int p2), .val (.int p3), .val (.int p4), .val (.int (2 : Int32)), .val (.ref b6), .val (.ref b9), .val (.int (1 : Int32))] []))
      refine Go.st (fun _ kq_ => XS.iload X9.here hx rfl (hb hby at_197) rfl kq_) ?_
      show Go p e below s _ _ _ (T9.setTop (mkF m 199 #[.val (.int p0), .val (.int p1), .val (.int p2), .val (.int p3), .val (.int p4), .val (.int (2 : Int32)), .val (.ref b6), .val (.ref b9), .val (.int (1 : Int32))] [(.int (2 : Int32))]))
      refine Go.st (fun _ kq_ => XS.iconst X9.here hx rfl (hb hby at_199) kq_) ?_
      show Go p e below s _ _ _ (T9.setTop (mkF m 200 #[.val (.int p0), .val (.int p1), .val (.int p2), .val (.int p3), .val (.int p4), .val (.int (2 : Int32)), .val (.ref b6), .val (.ref b9), .val (.int (1 : Int32))] [(.int (3 : Int32)), (.int (2 : Int32))]))
      refine Go.st (fun _ kq_ => XS.icmpYes X9.here hx rfl (pc0 := 200) (pc' := 221) rfl (hb hby at_200) rfl (by decide) (by decide) (by decide) kq_) ?_
      show Go p e below s _ _ _ (T9.setTop (mkF m 221 #[.val (.int p0), .val (.int p1), .val (.int p2), .val (.int p3), .val (.int p4), .val (.int (2 : Int32)), .val (.ref b6), .val (.ref b9), .val (.int (1 : Int32))] []))
      refine Go.st (fun _ kq_ => XS.iconst X9.here hx rfl (hb hby at_221) kq_) ?_
      show Go p e below s _ _ _ (T9.setTop (mkF m 222 #[.val (.int p0), .val (.int p1), .val (.int p2), .val (.int p3), .val (.int p4), .val (.int (2 : Int32)), .val (.ref b6), .val (.ref b9), .val (.int (1 : Int32))] [(.int (1 : Int32))]))
      refine Go.st (fun _ kq_ => XS.goto X9.here hx rfl (pc0 := 222) (pc' := 226) rfl (hb hby at_222) (by decide) (by decide) kq_) ?_
      show Go p e below s _ _ _ (T9.setTop (mkF m 226 #[.val (.int p0), .val (.int p1), .val (.int p2), .val (.int p3), .val (.int p4), .val (.int (2 : Int32)), .val (.ref b6), .val (.ref b9), .val (.int (1 : Int32))] [(.int (1 : Int32))]))
      refine Go.st (fun _ kq_ => XS.istore X9.here hx rfl (hb hby at_226) rfl (l' := #[.val (.int p0), .val (.int p1), .val (.int p2), .val (.int p3), .val (.int p4), .val (.int (2 : Int32)), .val (.ref b6), .val (.ref b9), .val (.int (1 : Int32))]) rfl kq_) ?_
      show Go p e below s _ _ _ (T9.setTop (mkF m 228 #[.val (.int p0), .val (.int p1), .val (.int p2), .val (.int p3), .val (.int p4), .val (.int (2 : Int32)), .val (.ref b6), .val (.ref b9), .val (.int (1 : Int32))] []))
      refine Go.st (fun _ kq_ => XS.iload X9.here hx rfl (hb hby at_228) rfl kq_) ?_
      show Go p e below s _ _ _ (T9.setTop (mkF m 230 #[.val (.int p0), .val (.int p1), .val (.int p2), .val (.int p3), .val (.int p4), .val (.int (2 : Int32)), .val (.ref b6), .val (.ref b9), .val (.int (1 : Int32))] [(.int (1 : Int32))]))
      refine Go.st (fun _ kq_ => XS.ifNo X9.here hx rfl (hb hby at_230) rfl (by decide) kq_) ?_
      show Go p e below s _ _ _ (T9.setTop (mkF m 233 #[.val (.int p0), .val (.int p1), .val (.int p2), .val (.int p3), .val (.int p4), .val (.int (2 : Int32)), .val (.ref b6), .val (.ref b9), .val (.int (1 : Int32))] []))
      refine Go.st (fun _ kq_ => XS.iload X9.here hx rfl (hb hby at_233) rfl kq_) ?_
      show Go p e below s _ _ _ (T9.setTop (mkF m 235 #[.val (.int p0), .val (.int p1), .val (.int p2), .val (.int p3), .val (.int p4), .val (.int (2 : Int32)), .val (.ref b6), .val (.ref b9), .val (.int (1 : Int32))] [(.int (2 : Int32))]))
      refine Go.st (fun _ kq_ => XS.iconst X9.here hx rfl (hb hby at_235) kq_) ?_
      show Go p e below s _ _ _ (T9.setTop (mkF m 236 #[.val (.int p0), .val (.int p1), .val (.int p2), .val (.int p3), .val (.int p4), .val (.int (2 : Int32)), .val (.ref b6), .val (.ref b9), .val (.int (1 : Int32))] [(.int (4 : Int32)), (.int (2 : Int32))]))
      refine Go.st (fun _ kq_ => XS.icmpYes X9.here hx rfl (pc0 := 236) (pc' := 259) rfl (hb hby at_236) rfl (by decide) (by decide) (by decide) kq_) ?_
      show Go p e below s _ _ _ (T9.setTop (mkF m 259 #[.val (.int p0), .val (.int p1), .val (.int p2), .val (.int p3), .val (.int p4), .val (.int (2 : Int32)), .val (.ref b6), .val (.ref b9), .val (.int (1 : Int32))] []))
      refine Go.st (fun _ kq_ => XS.iconst X9.here hx rfl (hb hby at_259) kq_) ?_
      show Go p e below s _ _ _ (T9.setTop (mkF m 260 #[.val (.int p0), .val (.int p1), .val (.int p2), .val (.int p3), .val (.int p4), .val (.int (2 : Int32)), .val (.ref b6), .val (.ref b9), .val (.int (1 : Int32))] [(.int (1 : Int32))]))
      refine Go.st (fun _ kq_ => XS.goto X9.here hx rfl (pc0 := 260) (pc' := 264) rfl (hb hby at_260) (by decide) (by decide) kq_) ?_
      show Go p e below s _ _ _ (T9.setTop (mkF m 264 #[.val (.int p0), .val (.int p1), .val (.int p2), .val (.int p3), .val (.int p4), .val (.int (2 : Int32)), .val (.ref b6), .val (.ref b9), .val (.int (1 : Int32))] [(.int (1 : Int32))]))
      refine Go.st (fun _ kq_ => XS.istore X9.here hx rfl (hb hby at_264) rfl (l' := #[.val (.int p0), .val (.int p1), .val (.int p2), .val (.int p3), .val (.int p4), .val (.int (2 : Int32)), .val (.ref b6), .val (.ref b9), .val (.int (1 : Int32))]) rfl kq_) ?_
      show Go p e below s _ _ _ (T9.setTop (mkF m 266 #[.val (.int p0), .val (.int p1), .val (.int p2), .val (.int p3), .val (.int p4), .val (.int (2 : Int32)), .val (.ref b6), .val (.ref b9), .val (.int (1 : Int32))] []))
      refine Go.st (fun _ kq_ => XS.iload X9.here hx rfl (hb hby at_266) rfl kq_) ?_
      show Go p e below s _ _ _ (T9.setTop (mkF m 268 #[.val (.int p0), .val (.int p1), .val (.int p2), .val (.int p3), .val (.int p4), .val (.int (2 : Int32)), .val (.ref b6), .val (.ref b9), .val (.int (1 : Int32))] [(.int (1 : Int32))]))
      exact Go.ret X9 hlk (some (.int (nar .boolean (1 : Int32)))) (fun h => by rw [Bd.returns] at h; cases h) (by exact ⟨rfl, N9⟩) (by decide) (by decide) (fun fs hr => retN X9 hx (t := .boolean) Bd.returns (by simp) (hb hby at_268) hr)
    · show Go p e below s _ _ _ (s₁.setTop (mkF m 6 #[.val (.int p0), .val (.int p1), .val (.int p2), .val (.int p3), .val (.int p4), .unset, .unset, .unset, .unset] [(.int (3 : Int32))]))
      refine Go.st (fun _ kq_ => XS.istore X0.here hx rfl (hb hby at_6) rfl (l' := #[.val (.int p0), .val (.int p1), .val (.int p2), .val (.int p3), .val (.int p4), .val (.int (3 : Int32)), .unset, .unset, .unset]) rfl kq_) ?_
      show Go p e below s _ _ _ (s₁.setTop (mkF m 8 #[.val (.int p0), .val (.int p1), .val (.int p2), .val (.int p3), .val (.int p4), .val (.int (3 : Int32)), .unset, .unset, .unset] []))
      refine Go.st (fun _ kq_ => XS.iload X0.here hx rfl (hb hby at_8) rfl kq_) ?_
      show Go p e below s _ _ _ (s₁.setTop (mkF m 10 #[.val (.int p0), .val (.int p1), .val (.int p2), .val (.int p3), .val (.int p4), .val (.int (3 : Int32)), .unset, .unset, .unset] [(.int (3 : Int32))]))
      obtain ⟨T10, h10, k10, X10, e10, E10, A10, st10⟩ := newP X0 hx hZ (own_w hw 1 rfl) e0 (g := (mkF m 10 #[.val (.int p0), .val (.int p1), .val (.int p2), .val (.int p3), .val (.int p4), .val (.int (3 : Int32)), .unset, .unset, .unset] [(.int (3 : Int32))])) rfl (hb hby at_10) rfl (by decide) (cap := 3) (by decide) (by decide) (by decide) (by decide)
      obtain ⟨b10, g10⟩ : ∃ z, z = h0.size := ⟨_, rfl⟩
      rw [← g10] at A10 st10
      have g_b10 : n0 ≤ b10 := Nat.le_trans (own_old O0) (Nat.le_of_eq g10.symm)
      have O10 := O0.ext E10
      have V_b10 : Arv Z h10 b10 k10 .byte (3 : Int32) [(.int (0 : Int32)), (.int (0 : Int32)), (.int (0 : Int32))] (.int (0 : Int32)) := (Arv.new A10 (by decide)).pad (pad_rep [] (.int (0 : Int32)) 3)
      refine Go.st st10 ?_
      show Go p e below s _ _ _ (T10.setTop (mkF m 12 #[.val (.int p0), .val (.int p1), .val (.int p2), .val (.int p3), .val (.int p4), .val (.int (3 : Int32)), .unset, .unset, .unset] [(.ref b10)]))
      refine Go.st (fun _ kq_ => XS.astore X10.here hx rfl (hb hby at_12) rfl rfl (l' := #[.val (.int p0), .val (.int p1), .val (.int p2), .val (.int p3), .val (.int p4), .val (.int (3 : Int32)), .val (.ref b10), .unset, .unset]) rfl kq_) ?_
      show Go p e below s _ _ _ (T10.setTop (mkF m 14 #[.val (.int p0), .val (.int p1), .val (.int p2), .val (.int p3), .val (.int p4), .val (.int (3 : Int32)), .val (.ref b10), .unset, .unset] []))
      refine Go.st (fun _ kq_ => XS.iload X10.here hx rfl (hb hby at_14) rfl kq_) ?_
      show Go p e below s _ _ _ (T10.setTop (mkF m 16 #[.val (.int p0), .val (.int p1), .val (.int p2), .val (.int p3), .val (.int p4), .val (.int (3 : Int32)), .val (.ref b10), .unset, .unset] [(.int (3 : Int32))]))
      refine Go.st (fun _ kq_ => XS.ifNo X10.here hx rfl (hb hby at_16) rfl (by decide) kq_) ?_
      show Go p e below s _ _ _ (T10.setTop (mkF m 19 #[.val (.int p0), .val (.int p1), .val (.int p2), .val (.int p3), .val (.int p4), .val (.int (3 : Int32)), .val (.ref b10), .unset, .unset] []))
      refine Go.st (fun _ kq_ => XS.aload X10.here hx rfl (hb hby at_19) rfl rfl kq_) ?_
      show Go p e below s _ _ _ (T10.setTop (mkF m 21 #[.val (.int p0), .val (.int p1), .val (.int p2), .val (.int p3), .val (.int p4), .val (.int (3 : Int32)), .val (.ref b10), .unset, .unset] [(.ref b10)]))
      refine Go.st (fun _ kq_ => XS.iconst X10.here hx rfl (hb hby at_21) kq_) ?_
      show Go p e below s _ _ _ (T10.setTop (mkF m 22 #[.val (.int p0), .val (.int p1), .val (.int p2), .val (.int p3), .val (.int p4), .val (.int (3 : Int32)), .val (.ref b10), .unset, .unset] [(.int (0 : Int32)), (.ref b10)]))
      refine Go.st (fun _ kq_ => XS.iloadN X10.here hx rfl (hb hby at_22) rfl kq_) ?_
      show Go p e below s _ _ _ (T10.setTop (mkF m 23 #[.val (.int p0), .val (.int p1), .val (.int p2), .val (.int p3), .val (.int p4), .val (.int (3 : Int32)), .val (.ref b10), .unset, .unset] [(.int p1), (.int (0 : Int32)), (.ref b10)]))
      refine Go.st (fun _ kq_ => XT.i2b X10.here hx rfl (hb hby at_23) rfl kq_) ?_
      show Go p e below s _ _ _ (T10.setTop (mkF m 24 #[.val (.int p0), .val (.int p1), .val (.int p2), .val (.int p3), .val (.int p4), .val (.int (3 : Int32)), .val (.ref b10), .unset, .unset] [(.int (p1.toInt8.toInt32)), (.int (0 : Int32)), (.ref b10)]))
      obtain ⟨T11, h11, X11, e11, W11, V11, st11⟩ := own_stB X10 hx hZ e10 V_b10 (j := (0 : Int32)) (by decide) (by decide) 0 rfl (Nat.le_of_ble_eq_true rfl) (g := (mkF m 24 #[.val (.int p0), .val (.int p1), .val (.int p2), .val (.int p3), .val (.int p4), .val (.int (3 : Int32)), .val (.ref b10), .unset, .unset] [(.int (p1.toInt8.toInt32)), (.int (0 : Int32)), (.ref b10)])) rfl rfl (hb hby at_24)
      have N11 := Fr.snoc X11 N0 g_b10
      have O11 := O10.wr W11 g_b10
      have V_b10 : Arv Z h11 b10 k10 .byte (3 : Int32) [(.int (nar .byte (p1.toInt8.toInt32))), (.int (0 : Int32)), (.int (0 : Int32))] (.int (0 : Int32)) := V11
      refine Go.st st11 ?_
      show Go p e below s _ _ _ (T11.setTop (mkF m 25 #[.val (.int p0), .val (.int p1), .val (.int p2), .val (.int p3), .val (.int p4), .val (.int (3 : Int32)), .val (.ref b10), .unset, .unset] []))
      refine Go.st (fun _ kq_ => XS.iload X11.here hx rfl (hb hby at_25) rfl kq_) ?_
      show Go p e below s _ _ _ (T11.setTop (mkF m 27 #[.val (.int p0), .val (.int p1), .val (.int p2), .val (.int p3), .val (.int p4), .val (.int (3 : Int32)), .val (.ref b10), .unset, .unset] [(.int (3 : Int32))]))
      refine Go.st (fun _ kq_ => XS.iconst X11.here hx rfl (hb hby at_27) kq_) ?_
      show Go p e below s _ _ _ (T11.setTop (mkF m 28 #[.val (.int p0), .val (.int p1), .val (.int p2), .val (.int p3), .val (.int p4), .val (.int (3 : Int32)), .val (.ref b10), .unset, .unset] [(.int (1 : Int32)), (.int (3 : Int32))]))
      refine Go.st (fun _ kq_ => XS.icmpNo X11.here hx rfl (hb hby at_28) rfl (by decide) kq_) ?_
      show Go p e below s _ _ _ (T11.setTop (mkF m 31 #[.val (.int p0), .val (.int p1), .val (.int p2), .val (.int p3), .val (.int p4), .val (.int (3 : Int32)), .val (.ref b10), .unset, .unset] []))
      refine Go.st (fun _ kq_ => XS.aload X11.here hx rfl (hb hby at_31) rfl rfl kq_) ?_
      show Go p e below s _ _ _ (T11.setTop (mkF m 33 #[.val (.int p0), .val (.int p1), .val (.int p2), .val (.int p3), .val (.int p4), .val (.int (3 : Int32)), .val (.ref b10), .unset, .unset] [(.ref b10)]))
      refine Go.st (fun _ kq_ => XS.iconst X11.here hx rfl (hb hby at_33) kq_) ?_
      show Go p e below s _ _ _ (T11.setTop (mkF m 34 #[.val (.int p0), .val (.int p1), .val (.int p2), .val (.int p3), .val (.int p4), .val (.int (3 : Int32)), .val (.ref b10), .unset, .unset] [(.int (1 : Int32)), (.ref b10)]))
      refine Go.st (fun _ kq_ => XS.iloadN X11.here hx rfl (hb hby at_34) rfl kq_) ?_
      show Go p e below s _ _ _ (T11.setTop (mkF m 35 #[.val (.int p0), .val (.int p1), .val (.int p2), .val (.int p3), .val (.int p4), .val (.int (3 : Int32)), .val (.ref b10), .unset, .unset] [(.int p2), (.int (1 : Int32)), (.ref b10)]))
      refine Go.st (fun _ kq_ => XT.i2b X11.here hx rfl (hb hby at_35) rfl kq_) ?_
      show Go p e below s _ _ _ (T11.setTop (mkF m 36 #[.val (.int p0), .val (.int p1), .val (.int p2), .val (.int p3), .val (.int p4), .val (.int (3 : Int32)), .val (.ref b10), .unset, .unset] [(.int (p2.toInt8.toInt32)), (.int (1 : Int32)), (.ref b10)]))
      obtain ⟨T12, h12, X12, e12, W12, V12, st12⟩ := own_stB X11 hx hZ e11 V_b10 (j := (1 : Int32)) (by decide) (by decide) 1 rfl (Nat.le_of_ble_eq_true rfl) (g := (mkF m 36 #[.val (.int p0), .val (.int p1), .val (.int p2), .val (.int p3), .val (.int p4), .val (.int (3 : Int32)), .val (.ref b10), .unset, .unset] [(.int (p2.toInt8.toInt32)), (.int (1 : Int32)), (.ref b10)])) rfl rfl (hb hby at_36)
      have N12 := Fr.snoc X12 N11 g_b10
      have O12 := O11.wr W12 g_b10
      have V_b10 : Arv Z h12 b10 k10 .byte (3 : Int32) [(.int (nar .byte (p1.toInt8.toInt32))), (.int (nar .byte (p2.toInt8.toInt32))), (.int (0 : Int32))] (.int (0 : Int32)) := V12
      refine Go.st st12 ?_
      show Go p e below s _ _ _ (T12.setTop (mkF m 37 #[.val (.int p0), .val (.int p1), .val (.int p2), .val (.int p3), .val (.int p4), .val (.int (3 : Int32)), .val (.ref b10), .unset, .unset] []))
      refine Go.st (fun _ kq_ => XS.iload X12.here hx rfl (hb hby at_37) rfl kq_) ?_
      show Go p e below s _ _ _ (T12.setTop (mkF m 39 #[.val (.int p0), .val (.int p1), .val (.int p2), .val (.int p3), .val (.int p4), .val (.int (3 : Int32)), .val (.ref b10), .unset, .unset] [(.int (3 : Int32))]))
      refine Go.st (fun _ kq_ => XS.iconst X12.here hx rfl (hb hby at_39) kq_) ?_
      show Go p e below s _ _ _ (T12.setTop (mkF m 40 #[.val (.int p0), .val (.int p1), .val (.int p2), .val (.int p3), .val (.int p4), .val (.int (3 : Int32)), .val (.ref b10), .unset, .unset] [(.int (2 : Int32)), (.int (3 : Int32))]))
      refine Go.st (fun _ kq_ => XS.icmpNo X12.here hx rfl (hb hby at_40) rfl (by decide) kq_) ?_
      show Go p e below s _ _ _ (T12.setTop (mkF m 43 #[.val (.int p0), .val (.int p1), .val (.int p2), .val (.int p3), .val (.int p4), .val (.int (3 : Int32)), .val (.ref b10), .unset, .unset] []))
      refine Go.st (fun _ kq_ => XS.aload X12.here hx rfl (hb hby at_43) rfl rfl kq_) ?_
      show Go p e below s _ _ _ (T12.setTop (mkF m 45 #[.val (.int p0), .val (.int p1), .val (.int p2), .val (.int p3), .val (.int p4), .val (.int (3 : Int32)), .val (.ref b10), .unset, .unset] [(.ref b10)]))
      refine Go.st (fun _ kq_ => XS.iconst X12.here hx rfl (hb hby at_45) kq_) ?_
      show Go p e below s _ _ _ (T12.setTop (mkF m 46 #[.val (.int p0), .val (.int p1), .val (.int p2), .val (.int p3), .val (.int p4), .val (.int (3 : Int32)), .val (.ref b10), .unset, .unset] [(.int (2 : Int32)), (.ref b10)]))
      refine Go.st (fun _ kq_ => XS.iloadN X12.here hx rfl (hb hby at_46) rfl kq_) ?_
      show Go p e below s _ _ _ (T12.setTop (mkF m 47 #[.val (.int p0), .val (.int p1), .val (.int p2), .val (.int p3), .val (.int p4), .val (.int (3 : Int32)), .val (.ref b10), .unset, .unset] [(.int p3), (.int (2 : Int32)), (.ref b10)]))
      refine Go.st (fun _ kq_ => XT.i2b X12.here hx rfl (hb hby at_47) rfl kq_) ?_
      show Go p e below s _ _ _ (T12.setTop (mkF m 48 #[.val (.int p0), .val (.int p1), .val (.int p2), .val (.int p3), .val (.int p4), .val (.int (3 : Int32)), .val (.ref b10), .unset, .unset] [(.int (p3.toInt8.toInt32)), (.int (2 : Int32)), (.ref b10)]))
      obtain ⟨T13, h13, X13, e13, W13, V13, st13⟩ := own_stB X12 hx hZ e12 V_b10 (j := (2 : Int32)) (by decide) (by decide) 2 rfl (Nat.le_of_ble_eq_true rfl) (g := (mkF m 48 #[.val (.int p0), .val (.int p1), .val (.int p2), .val (.int p3), .val (.int p4), .val (.int (3 : Int32)), .val (.ref b10), .unset, .unset] [(.int (p3.toInt8.toInt32)), (.int (2 : Int32)), (.ref b10)])) rfl rfl (hb hby at_48)
      have N13 := Fr.snoc X13 N12 g_b10
      have O13 := O12.wr W13 g_b10
      have V_b10 : Arv Z h13 b10 k10 .byte (3 : Int32) [(.int (nar .byte (p1.toInt8.toInt32))), (.int (nar .byte (p2.toInt8.toInt32))), (.int (nar .byte (p3.toInt8.toInt32)))] (.int (0 : Int32)) := V13
      refine Go.st st13 ?_
      show Go p e below s _ _ _ (T13.setTop (mkF m 49 #[.val (.int p0), .val (.int p1), .val (.int p2), .val (.int p3), .val (.int p4), .val (.int (3 : Int32)), .val (.ref b10), .unset, .unset] []))
      refine Go.st (fun _ kq_ => XS.iload X13.here hx rfl (hb hby at_49) rfl kq_) ?_
      show Go p e below s _ _ _ (T13.setTop (mkF m 51 #[.val (.int p0), .val (.int p1), .val (.int p2), .val (.int p3), .val (.int p4), .val (.int (3 : Int32)), .val (.ref b10), .unset, .unset] [(.int (3 : Int32))]))
      refine Go.st (fun _ kq_ => XS.iconst X13.here hx rfl (hb hby at_51) kq_) ?_
      show Go p e below s _ _ _ (T13.setTop (mkF m 52 #[.val (.int p0), .val (.int p1), .val (.int p2), .val (.int p3), .val (.int p4), .val (.int (3 : Int32)), .val (.ref b10), .unset, .unset] [(.int (3 : Int32)), (.int (3 : Int32))]))
      refine Go.st (fun _ kq_ => XS.icmpYes X13.here hx rfl (pc0 := 52) (pc' := 62) rfl (hb hby at_52) rfl (by decide) (by decide) (by decide) kq_) ?_
      show Go p e below s _ _ _ (T13.setTop (mkF m 62 #[.val (.int p0), .val (.int p1), .val (.int p2), .val (.int p3), .val (.int p4), .val (.int (3 : Int32)), .val (.ref b10), .unset, .unset] []))
      refine Go.st (fun _ kq_ => XS.aload X13.here hx rfl (hb hby at_62) rfl rfl kq_) ?_
      show Go p e below s _ _ _ (T13.setTop (mkF m 64 #[.val (.int p0), .val (.int p1), .val (.int p2), .val (.int p3), .val (.int p4), .val (.int (3 : Int32)), .val (.ref b10), .unset, .unset] [(.ref b10)]))
      obtain ⟨_, _, ⟨T14, L14, k14, n14⟩, -, X14, ⟨Lc14, hQ14, l14, y14, z14⟩, st14⟩ := Jvm.LawKit.callS X13 hx (y := (⟨"com/example/duplexwire/duplexwire/protocol/LineFramer", "frame", "([B)[B"⟩ : MethodName)) hown (mvT hZ (own_w hw 2 rfl)) (mvT hZ (own_w hw 3 rfl)) (mvT hZ (own_w hw 4 rfl)) (mvT hZ (own_w hw 5 rfl)) (by decide) (backOf (W := 0) (rmf3 l Z a0 hw [] b10 k10 (nar .byte (p1.toInt8.toInt32)) (nar .byte (p2.toInt8.toInt32)) (nar .byte (p3.toInt8.toInt32)) h13 n0 O13 V_b10) hZ (own_w hw 5 rfl) (own_w hw 4 rfl) (by decide) (by decide)) (g := (mkF m 64 #[.val (.int p0), .val (.int p1), .val (.int p2), .val (.int p3), .val (.int p4), .val (.int (3 : Int32)), .val (.ref b10), .unset, .unset] [(.ref b10)])) rfl (by rw [hml]; rfl) (argsL := [(.ref b10)]) (rest := []) (lenOf pd0_0 rfl) rfl (by show 2 * 0 + _ ≤ _; exact Nat.le_of_eq rfl) (hb hby at_64) (fun _ _ => ⟨rfl, e13, (by decide : 1 + 1 ≤ _), (by decide : 3 + 4 ≤ _)⟩)
      dsimp only [Pt.U, Pt.locs, Pt.cells, Pt.slots] at X14 l14 y14 z14 st14 hQ14
      subst l14 y14 z14
      obtain ⟨b14, kb14, rfl, Nc14, Kc14, gb14, szb14, Vb14⟩ := hQ14
      have N14 := Fr.app N13 Nc14
      have g_b14 : n0 ≤ b14 := gb14
      have ne_b10_b14 : b10 ≠ b14 := Nat.ne_of_lt (Nat.lt_of_lt_of_le V_b10.lt szb14)
      have V_b10 := V_b10.keep Kc14 nin0
      have O14 := O13.keep Kc14 all0
      have V_b14 : Arv Z T14.heap b14 kb14 .byte (4 : Int32) [(.int (nar .byte (p1.toInt8.toInt32))), (.int (nar .byte (p2.toInt8.toInt32))), (.int (nar .byte (p3.toInt8.toInt32))), (.int (10 : Int32))] (.int (0 : Int32)) := Vb14
      refine Go.st st14 ?_
      show Go p e below s _ _ _ (T14.setTop (mkF m 67 #[.val (.int p0), .val (.int p1), .val (.int p2), .val (.int p3), .val (.int p4), .val (.int (3 : Int32)), .val (.ref b10), .unset, .unset] [(.ref b14)]))
      refine Go.st (fun _ kq_ => XS.astore X14.here hx rfl (hb hby at_67) rfl rfl (l' := #[.val (.int p0), .val (.int p1), .val (.int p2), .val (.int p3), .val (.int p4), .val (.int (3 : Int32)), .val (.ref b10), .val (.ref b14), .unset]) rfl kq_) ?_
      show Go p e below s _ _ _ (T14.setTop (mkF m 69 #[.val (.int p0), .val (.int p1), .val (.int p2), .val (.int p3), .val (.int p4), .val (.int (3 : Int32)), .val (.ref b10), .val (.ref b14), .unset] []))
      refine Go.st (fun _ kq_ => XS.aload X14.here hx rfl (hb hby at_69) rfl rfl kq_) ?_
      show Go p e below s _ _ _ (T14.setTop (mkF m 71 #[.val (.int p0), .val (.int p1), .val (.int p2), .val (.int p3), .val (.int p4), .val (.int (3 : Int32)), .val (.ref b10), .val (.ref b14), .unset] [(.ref b14)]))
      refine Go.st (fun _ kq_ => XS.ifnullNo X14.here hx rfl (hb hby at_71) rfl kq_) ?_
      show Go p e below s _ _ _ (T14.setTop (mkF m 74 #[.val (.int p0), .val (.int p1), .val (.int p2), .val (.int p3), .val (.int p4), .val (.int (3 : Int32)), .val (.ref b10), .val (.ref b14), .unset] []))
      refine Go.st (fun _ kq_ => XS.aload X14.here hx rfl (hb hby at_74) rfl rfl kq_) ?_
      show Go p e below s _ _ _ (T14.setTop (mkF m 76 #[.val (.int p0), .val (.int p1), .val (.int p2), .val (.int p3), .val (.int p4), .val (.int (3 : Int32)), .val (.ref b10), .val (.ref b14), .unset] [(.ref b14)]))
      refine Go.st (fun _ kq_ => XS.aload X14.here hx rfl (hb hby at_76) rfl rfl kq_) ?_
      show Go p e below s _ _ _ (T14.setTop (mkF m 78 #[.val (.int p0), .val (.int p1), .val (.int p2), .val (.int p3), .val (.int p4), .val (.int (3 : Int32)), .val (.ref b10), .val (.ref b14), .unset] [(.ref b10), (.ref b14)]))
      refine Go.st (fun _ kq_ => XT.acmpNo X14.here hx rfl (hb hby at_78) rfl rfl rfl (XT.aa_eq_f (fun z => (Ne.symm ne_b10_b14) (Value.ref.inj z))) kq_) ?_
      show Go p e below s _ _ _ (T14.setTop (mkF m 81 #[.val (.int p0), .val (.int p1), .val (.int p2), .val (.int p3), .val (.int p4), .val (.int (3 : Int32)), .val (.ref b10), .val (.ref b14), .unset] []))
      refine Go.st (fun _ kq_ => XS.aload X14.here hx rfl (hb hby at_81) rfl rfl kq_) ?_
      show Go p e below s _ _ _ (T14.setTop (mkF m 83 #[.val (.int p0), .val (.int p1), .val (.int p2), .val (.int p3), .val (.int p4), .val (.int (3 : Int32)), .val (.ref b10), .val (.ref b14), .unset] [(.ref b14)]))
      refine Go.st (fun _ kq_ => own_len X14 hx hZ rfl V_b14 (g := (mkF m 83 #[.val (.int p0), .val (.int p1), .val (.int p2), .val (.int p3), .val (.int p4), .val (.int (3 : Int32)), .val (.ref b10), .val (.ref b14), .unset] [(.ref b14)])) rfl rfl (hb hby at_83) _ kq_) ?_
      show Go p e below s _ _ _ (T14.setTop (mkF m 84 #[.val (.int p0), .val (.int p1), .val (.int p2), .val (.int p3), .val (.int p4), .val (.int (3 : Int32)), .val (.ref b10), .val (.ref b14), .unset] [(.int (4 : Int32))]))
      refine Go.st (fun _ kq_ => XS.iload X14.here hx rfl (hb hby at_84) rfl kq_) ?_
      show Go p e below s _ _ _ (T14.setTop (mkF m 86 #[.val (.int p0), .val (.int p1), .val (.int p2), .val (.int p3), .val (.int p4), .val (.int (3 : Int32)), .val (.ref b10), .val (.ref b14), .unset] [(.int (3 : Int32)), (.int (4 : Int32))]))
      refine Go.st (fun _ kq_ => XS.iconst X14.here hx rfl (hb hby at_86) kq_) ?_
      show Go p e below s _ _ _ (T14.setTop (mkF m 87 #[.val (.int p0), .val (.int p1), .val (.int p2), .val (.int p3), .val (.int p4), .val (.int (3 : Int32)), .val (.ref b10), .val (.ref b14), .unset] [(.int (1 : Int32)), (.int (3 : Int32)), (.int (4 : Int32))]))
      refine Go.st (fun _ kq_ => XS.iadd X14.here hx rfl (hb hby at_87) rfl kq_) ?_
      show Go p e below s _ _ _ (T14.setTop (mkF m 88 #[.val (.int p0), .val (.int p1), .val (.int p2), .val (.int p3), .val (.int p4), .val (.int (3 : Int32)), .val (.ref b10), .val (.ref b14), .unset] [(.int (4 : Int32)), (.int (4 : Int32))]))
      refine Go.st (fun _ kq_ => XS.icmpYes X14.here hx rfl (pc0 := 88) (pc' := 93) rfl (hb hby at_88) rfl (by decide) (by decide) (by decide) kq_) ?_
      show Go p e below s _ _ _ (T14.setTop (mkF m 93 #[.val (.int p0), .val (.int p1), .val (.int p2), .val (.int p3), .val (.int p4), .val (.int (3 : Int32)), .val (.ref b10), .val (.ref b14), .unset] []))
      refine Go.st (fun _ kq_ => XS.aload X14.here hx rfl (hb hby at_93) rfl rfl kq_) ?_
      show Go p e below s _ _ _ (T14.setTop (mkF m 95 #[.val (.int p0), .val (.int p1), .val (.int p2), .val (.int p3), .val (.int p4), .val (.int (3 : Int32)), .val (.ref b10), .val (.ref b14), .unset] [(.ref b10)]))
      refine Go.st (fun _ kq_ => own_len X14 hx hZ rfl V_b10 (g := (mkF m 95 #[.val (.int p0), .val (.int p1), .val (.int p2), .val (.int p3), .val (.int p4), .val (.int (3 : Int32)), .val (.ref b10), .val (.ref b14), .unset] [(.ref b10)])) rfl rfl (hb hby at_95) _ kq_) ?_
      show Go p e below s _ _ _ (T14.setTop (mkF m 96 #[.val (.int p0), .val (.int p1), .val (.int p2), .val (.int p3), .val (.int p4), .val (.int (3 : Int32)), .val (.ref b10), .val (.ref b14), .unset] [(.int (3 : Int32))]))
      refine Go.st (fun _ kq_ => XS.iload X14.here hx rfl (hb hby at_96) rfl kq_) ?_
      show Go p e below s _ _ _ (T14.setTop (mkF m 98 #[.val (.int p0), .val (.int p1), .val (.int p2), .val (.int p3), .val (.int p4), .val (.int (3 : Int32)), .val (.ref b10), .val (.ref b14), .unset] [(.int (3 : Int32)), (.int (3 : Int32))]))
      refine Go.st (fun _ kq_ => XS.icmpYes X14.here hx rfl (pc0 := 98) (pc' := 103) rfl (hb hby at_98) rfl (by decide) (by decide) (by decide) kq_) ?_
      show Go p e below s _ _ _ (T14.setTop (mkF m 103 #[.val (.int p0), .val (.int p1), .val (.int p2), .val (.int p3), .val (.int p4), .val (.int (3 : Int32)), .val (.ref b10), .val (.ref b14), .unset] []))
      refine Go.st (fun _ kq_ => XS.aload X14.here hx rfl (hb hby at_103) rfl rfl kq_) ?_
      show Go p e below s _ _ _ (T14.setTop (mkF m 105 #[.val (.int p0), .val (.int p1), .val (.int p2), .val (.int p3), .val (.int p4), .val (.int (3 : Int32)), .val (.ref b10), .val (.ref b14), .unset] [(.ref b14)]))
      refine Go.st (fun _ kq_ => XS.iload X14.here hx rfl (hb hby at_105) rfl kq_) ?_
      show Go p e below s _ _ _ (T14.setTop (mkF m 107 #[.val (.int p0), .val (.int p1), .val (.int p2), .val (.int p3), .val (.int p4), .val (.int (3 : Int32)), .val (.ref b10), .val (.ref b14), .unset] [(.int (3 : Int32)), (.ref b14)]))
      refine Go.st (fun _ kq_ => own_baloadB X14 hx hZ rfl V_b14 (by decide) (by decide) (v := (.int (10 : Int32))) rfl (g := (mkF m 107 #[.val (.int p0), .val (.int p1), .val (.int p2), .val (.int p3), .val (.int p4), .val (.int (3 : Int32)), .val (.ref b10), .val (.ref b14), .unset] [(.int (3 : Int32)), (.ref b14)])) rfl rfl (hb hby at_107) _ kq_) ?_
      show Go p e below s _ _ _ (T14.setTop (mkF m 108 #[.val (.int p0), .val (.int p1), .val (.int p2), .val (.int p3), .val (.int p4), .val (.int (3 : Int32)), .val (.ref b10), .val (.ref b14), .unset] [(.int (10 : Int32))]))
      refine Go.st (fun _ kq_ => XS.bipush X14.here hx rfl (hb hby at_108) kq_) ?_
      show Go p e below s _ _ _ (T14.setTop (mkF m 110 #[.val (.int p0), .val (.int p1), .val (.int p2), .val (.int p3), .val (.int p4), .val (.int (3 : Int32)), .val (.ref b10), .val (.ref b14), .unset] [(.int (10 : Int32)), (.int (10 : Int32))]))
      refine Go.st (fun _ kq_ => XS.icmpNo X14.here hx rfl (hb hby at_110) rfl (by decide) kq_) ?_
      show Go p e below s _ _ _ (T14.setTop (mkF m 113 #[.val (.int p0), .val (.int p1), .val (.int p2), .val (.int p3), .val (.int p4), .val (.int (3 : Int32)), .val (.ref b10), .val (.ref b14), .unset] []))
      refine Go.st (fun _ kq_ => XS.iconst X14.here hx rfl (hb hby at_113) kq_) ?_
      show Go p e below s _ _ _ (T14.setTop (mkF m 114 #[.val (.int p0), .val (.int p1), .val (.int p2), .val (.int p3), .val (.int p4), .val (.int (3 : Int32)), .val (.ref b10), .val (.ref b14), .unset] [(.int (1 : Int32))]))
      refine Go.st (fun _ kq_ => XS.goto X14.here hx rfl (pc0 := 114) (pc' := 118) rfl (hb hby at_114) (by decide) (by decide) kq_) ?_
      show Go p e below s _ _ _ (T14.setTop (mkF m 118 #[.val (.int p0), .val (.int p1), .val (.int p2), .val (.int p3), .val (.int p4), .val (.int (3 : Int32)), .val (.ref b10), .val (.ref b14), .unset] [(.int (1 : Int32))]))
      refine Go.st (fun _ kq_ => XS.istore X14.here hx rfl (hb hby at_118) rfl (l' := #[.val (.int p0), .val (.int p1), .val (.int p2), .val (.int p3), .val (.int p4), .val (.int (3 : Int32)), .val (.ref b10), .val (.ref b14), .val (.int (1 : Int32))]) rfl kq_) ?_
      show Go p e below s _ _ _ (T14.setTop (mkF m 120 #[.val (.int p0), .val (.int p1), .val (.int p2), .val (.int p3), .val (.int p4), .val (.int (3 : Int32)), .val (.ref b10), .val (.ref b14), .val (.int (1 : Int32))] []))
      refine Go.st (fun _ kq_ => XS.iload X14.here hx rfl (hb hby at_120) rfl kq_) ?_
      show Go p e below s _ _ _ (T14.setTop (mkF m 122 #[.val (.int p0), .val (.int p1), .val (.int p2), .val (.int p3), .val (.int p4), .val (.int (3 : Int32)), .val (.ref b10), .val (.ref b14), .val (.int (1 : Int32))] [(.int (1 : Int32))]))
      refine Go.st (fun _ kq_ => XS.ifNo X14.here hx rfl (hb hby at_122) rfl (by decide) kq_) ?_
      show Go p e below s _ _ _ (T14.setTop (mkF m 125 #[.val (.int p0), .val (.int p1), .val (.int p2), .val (.int p3), .val (.int p4), .val (.int (3 : Int32)), .val (.ref b10), .val (.ref b14), .val (.int (1 : Int32))] []))
      refine Go.st (fun _ kq_ => XS.iload X14.here hx rfl (hb hby at_125) rfl kq_) ?_
      show Go p e below s _ _ _ (T14.setTop (mkF m 127 #[.val (.int p0), .val (.int p1), .val (.int p2), .val (.int p3), .val (.int p4), .val (.int (3 : Int32)), .val (.ref b10), .val (.ref b14), .val (.int (1 : Int32))] [(.int (3 : Int32))]))
      refine Go.st (fun _ kq_ => XS.iconst X14.here hx rfl (hb hby at_127) kq_) ?_
      show Go p e below s _ _ _ (T14.setTop (mkF m 128 #[.val (.int p0), .val (.int p1), .val (.int p2), .val (.int p3), .val (.int p4), .val (.int (3 : Int32)), .val (.ref b10), .val (.ref b14), .val (.int (1 : Int32))] [(.int (1 : Int32)), (.int (3 : Int32))]))
      refine Go.st (fun _ kq_ => XS.icmpNo X14.here hx rfl (hb hby at_128) rfl (by decide) kq_) ?_
      show Go p e below s _ _ _ (T14.setTop (mkF m 131 #[.val (.int p0), .val (.int p1), .val (.int p2), .val (.int p3), .val (.int p4), .val (.int (3 : Int32)), .val (.ref b10), .val (.ref b14), .val (.int (1 : Int32))] []))
      refine Go.st (fun _ kq_ => XS.aload X14.here hx rfl (hb hby at_131) rfl rfl kq_) ?_
      show Go p e below s _ _ _ (T14.setTop (mkF m 133 #[.val (.int p0), .val (.int p1), .val (.int p2), .val (.int p3), .val (.int p4), .val (.int (3 : Int32)), .val (.ref b10), .val (.ref b14), .val (.int (1 : Int32))] [(.ref b14)]))
      refine Go.st (fun _ kq_ => XS.iconst X14.here hx rfl (hb hby at_133) kq_) ?_
      show Go p e below s _ _ _ (T14.setTop (mkF m 134 #[.val (.int p0), .val (.int p1), .val (.int p2), .val (.int p3), .val (.int p4), .val (.int (3 : Int32)), .val (.ref b10), .val (.ref b14), .val (.int (1 : Int32))] [(.int (0 : Int32)), (.ref b14)]))
      refine Go.st (fun _ kq_ => own_baloadB X14 hx hZ rfl V_b14 (by decide) (by decide) (v := (.int (nar .byte (p1.toInt8.toInt32)))) rfl (g := (mkF m 134 #[.val (.int p0), .val (.int p1), .val (.int p2), .val (.int p3), .val (.int p4), .val (.int (3 : Int32)), .val (.ref b10), .val (.ref b14), .val (.int (1 : Int32))] [(.int (0 : Int32)), (.ref b14)])) rfl rfl (hb hby at_134) _ kq_) ?_
      show Go p e below s _ _ _ (T14.setTop (mkF m 135 #[.val (.int p0), .val (.int p1), .val (.int p2), .val (.int p3), .val (.int p4), .val (.int (3 : Int32)), .val (.ref b10), .val (.ref b14), .val (.int (1 : Int32))] [(.int (nar .byte (p1.toInt8.toInt32)))]))
      refine Go.st (fun _ kq_ => XS.iloadN X14.here hx rfl (hb hby at_135) rfl kq_) ?_
      show Go p e below s _ _ _ (T14.setTop (mkF m 136 #[.val (.int p0), .val (.int p1), .val (.int p2), .val (.int p3), .val (.int p4), .val (.int (3 : Int32)), .val (.ref b10), .val (.ref b14), .val (.int (1 : Int32))] [(.int p1), (.int (nar .byte (p1.toInt8.toInt32)))]))
      refine Go.st (fun _ kq_ => XT.i2b X14.here hx rfl (hb hby at_136) rfl kq_) ?_
      show Go p e below s _ _ _ (T14.setTop (mkF m 137 #[.val (.int p0), .val (.int p1), .val (.int p2), .val (.int p3), .val (.int p4), .val (.int (3 : Int32)), .val (.ref b10), .val (.ref b14), .val (.int (1 : Int32))] [(.int (p1.toInt8.toInt32)), (.int (nar .byte (p1.toInt8.toInt32)))]))
      refine Go.st (fun _ kq_ => XS.icmpNo X14.here hx rfl (hb hby at_137) rfl (XT.ii_ne_f (own_nb _)) kq_) ?_
      show Go p e below s _ _ _ (T14.setTop (mkF m 140 #[.val (.int p0), .val (.int p1), .val (.int p2), .val (.int p3), .val (.int p4), .val (.int (3 : Int32)), .val (.ref b10), .val (.ref b14), .val (.int (1 : Int32))] []))
      refine Go.st (fun _ kq_ => XS.aload X14.here hx rfl (hb hby at_140) rfl rfl kq_) ?_
      show Go p e below s _ _ _ (T14.setTop (mkF m 142 #[.val (.int p0), .val (.int p1), .val (.int p2), .val (.int p3), .val (.int p4), .val (.int (3 : Int32)), .val (.ref b10), .val (.ref b14), .val (.int (1 : Int32))] [(.ref b10)]))
      refine Go.st (fun _ kq_ => XS.iconst X14.here hx rfl (hb hby at_142) kq_) ?_
      show Go p e below s _ _ _ (T14.setTop (mkF m 143 #[.val (.int p0), .val (.int p1), .val (.int p2), .val (.int p3), .val (.int p4), .val (.int (3 : Int32)), .val (.ref b10), .val (.ref b14), .val (.int (1 : Int32))] [(.int (0 : Int32)), (.ref b10)]))
      refine Go.st (fun _ kq_ => own_baloadB X14 hx hZ rfl V_b10 (by decide) (by decide) (v := (.int (nar .byte (p1.toInt8.toInt32)))) rfl (g := (mkF m 143 #[.val (.int p0), .val (.int p1), .val (.int p2), .val (.int p3), .val (.int p4), .val (.int (3 : Int32)), .val (.ref b10), .val (.ref b14), .val (.int (1 : Int32))] [(.int (0 : Int32)), (.ref b10)])) rfl rfl (hb hby at_143) _ kq_) ?_
      show Go p e below s _ _ _ (T14.setTop (mkF m 144 #[.val (.int p0), .val (.int p1), .val (.int p2), .val (.int p3), .val (.int p4), .val (.int (3 : Int32)), .val (.ref b10), .val (.ref b14), .val (.int (1 : Int32))] [(.int (nar .byte (p1.toInt8.toInt32)))]))
      refine Go.st (fun _ kq_ => XS.iloadN X14.here hx rfl (hb hby at_144) rfl kq_) ?_
      show Go p e below s _ _ _ (T14.setTop (mkF m 145 #[.val (.int p0), .val (.int p1), .val (.int p2), .val (.int p3), .val (.int p4), .val (.int (3 : Int32)), .val (.ref b10), .val (.ref b14), .val (.int (1 : Int32))] [(.int p1), (.int (nar .byte (p1.toInt8.toInt32)))]))
      refine Go.st (fun _ kq_ => XT.i2b X14.here hx rfl (hb hby at_145) rfl kq_) ?_
      show Go p e below s _ _ _ (T14.setTop (mkF m 146 #[.val (.int p0), .val (.int p1), .val (.int p2), .val (.int p3), .val (.int p4), .val (.int (3 : Int32)), .val (.ref b10), .val (.ref b14), .val (.int (1 : Int32))] [(.int (p1.toInt8.toInt32)), (.int (nar .byte (p1.toInt8.toInt32)))]))
      refine Go.st (fun _ kq_ => XS.icmpNo X14.here hx rfl (hb hby at_146) rfl (XT.ii_ne_f (own_nb _)) kq_) ?_
      show Go p e below s _ _ _ (T14.setTop (mkF m 149 #[.val (.int p0), .val (.int p1), .val (.int p2), .val (.int p3), .val (.int p4), .val (.int (3 : Int32)), .val (.ref b10), .val (.ref b14), .val (.int (1 : Int32))] []))
      refine Go.st (fun _ kq_ => XS.iconst X14.here hx rfl (hb hby at_149) kq_) ?_
      show Go p e below s _ _ _ (T14.setTop (mkF m 150 #[.val (.int p0), .val (.int p1), .val (.int p2), .val (.int p3), .val (.int p4), .val (.int (3 : Int32)), .val (.ref b10), .val (.ref b14), .val (.int (1 : Int32))] [(.int (1 : Int32))]))
      refine Go.st (fun _ kq_ => XS.goto X14.here hx rfl (pc0 := 150) (pc' := 154) rfl (hb hby at_150) (by decide) (by decide) kq_) ?_
      show Go p e below s _ _ _ (T14.setTop (mkF m 154 #[.val (.int p0), .val (.int p1), .val (.int p2), .val (.int p3), .val (.int p4), .val (.int (3 : Int32)), .val (.ref b10), .val (.ref b14), .val (.int (1 : Int32))] [(.int (1 : Int32))]))
      refine Go.st (fun _ kq_ => XS.istore X14.here hx rfl (hb hby at_154) rfl (l' := #[.val (.int p0), .val (.int p1), .val (.int p2), .val (.int p3), .val (.int p4), .val (.int (3 : Int32)), .val (.ref b10), .val (.ref b14), .val (.int (1 : Int32))]) rfl kq_) ?_
      show Go p e below s _ _ _ (T14.setTop (mkF m 156 #[.val (.int p0), .val (.int p1), .val (.int p2), .val (.int p3), .val (.int p4), .val (.int (3 : Int32)), .val (.ref b10), .val (.ref b14), .val (.int (1 : Int32))] []))
      refine Go.st (fun _ kq_ => XS.iload X14.here hx rfl (hb hby at_156) rfl kq_) ?_
      show Go p e below s _ _ _ (T14.setTop (mkF m 158 #[.val (.int p0), .val (.int p1), .val (.int p2), .val (.int p3), .val (.int p4), .val (.int (3 : Int32)), .val (.ref b10), .val (.ref b14), .val (.int (1 : Int32))] [(.int (1 : Int32))]))
      refine Go.st (fun _ kq_ => XS.ifNo X14.here hx rfl (hb hby at_158) rfl (by decide) kq_) ?_
      show Go p e below s _ _ _ (T14.setTop (mkF m 161 #[.val (.int p0), .val (.int p1), .val (.int p2), .val (.int p3), .val (.int p4), .val (.int (3 : Int32)), .val (.ref b10), .val (.ref b14), .val (.int (1 : Int32))] []))
      refine Go.st (fun _ kq_ => XS.iload X14.here hx rfl (hb hby at_161) rfl kq_) ?_
      show Go p e below s _ _ _ (T14.setTop (mkF m 163 #[.val (.int p0), .val (.int p1), .val (.int p2), .val (.int p3), .val (.int p4), .val (.int (3 : Int32)), .val (.ref b10), .val (.ref b14), .val (.int (1 : Int32))] [(.int (3 : Int32))]))
      refine Go.st (fun _ kq_ => XS.iconst X14.here hx rfl (hb hby at_163) kq_) ?_
      show Go p e below s _ _ _ (T14.setTop (mkF m 164 #[.val (.int p0), .val (.int p1), .val (.int p2), .val (.int p3), .val (.int p4), .val (.int (3 : Int32)), .val (.ref b10), .val (.ref b14), .val (.int (1 : Int32))] [(.int (2 : Int32)), (.int (3 : Int32))]))
      refine Go.st (fun _ kq_ => XS.icmpNo X14.here hx rfl (hb hby at_164) rfl (by decide) kq_) ?_
      show Go p e below s _ _ _ (T14.setTop (mkF m 167 #[.val (.int p0), .val (.int p1), .val (.int p2), .val (.int p3), .val (.int p4), .val (.int (3 : Int32)), .val (.ref b10), .val (.ref b14), .val (.int (1 : Int32))] []))
      refine Go.st (fun _ kq_ => XS.aload X14.here hx rfl (hb hby at_167) rfl rfl kq_) ?_
      show Go p e below s _ _ _ (T14.setTop (mkF m 169 #[.val (.int p0), .val (.int p1), .val (.int p2), .val (.int p3), .val (.int p4), .val (.int (3 : Int32)), .val (.ref b10), .val (.ref b14), .val (.int (1 : Int32))] [(.ref b14)]))
      refine Go.st (fun _ kq_ => XS.iconst X14.here hx rfl (hb hby at_169) kq_) ?_
      show Go p e below s _ _ _ (T14.setTop (mkF m 170 #[.val (.int p0), .val (.int p1), .val (.int p2), .val (.int p3), .val (.int p4), .val (.int (3 : Int32)), .val (.ref b10), .val (.ref b14), .val (.int (1 : Int32))] [(.int (1 : Int32)), (.ref b14)]))
      refine Go.st (fun _ kq_ => own_baloadB X14 hx hZ rfl V_b14 (by decide) (by decide) (v := (.int (nar .byte (p2.toInt8.toInt32)))) rfl (g := (mkF m 170 #[.val (.int p0), .val (.int p1), .val (.int p2), .val (.int p3), .val (.int p4), .val (.int (3 : Int32)), .val (.ref b10), .val (.ref b14), .val (.int (1 : Int32))] [(.int (1 : Int32)), (.ref b14)])) rfl rfl (hb hby at_170) _ kq_) ?_
      show Go p e below s _ _ _ (T14.setTop (mkF m 171 #[.val (.int p0), .val (.int p1), .val (.int p2), .val (.int p3), .val (.int p4), .val (.int (3 : Int32)), .val (.ref b10), .val (.ref b14), .val (.int (1 : Int32))] [(.int (nar .byte (p2.toInt8.toInt32)))]))
      refine Go.st (fun _ kq_ => XS.iloadN X14.here hx rfl (hb hby at_171) rfl kq_) ?_
      show Go p e below s _ _ _ (T14.setTop (mkF m 172 #[.val (.int p0), .val (.int p1), .val (.int p2), .val (.int p3), .val (.int p4), .val (.int (3 : Int32)), .val (.ref b10), .val (.ref b14), .val (.int (1 : Int32))] [(.int p2), (.int (nar .byte (p2.toInt8.toInt32)))]))
      refine Go.st (fun _ kq_ => XT.i2b X14.here hx rfl (hb hby at_172) rfl kq_) ?_
      show Go p e below s _ _ _ (T14.setTop (mkF m 173 #[.val (.int p0), .val (.int p1), .val (.int p2), .val (.int p3), .val (.int p4), .val (.int (3 : Int32)), .val (.ref b10), .val (.ref b14), .val (.int (1 : Int32))] [(.int (p2.toInt8.toInt32)), (.int (nar .byte (p2.toInt8.toInt32)))]))
      refine Go.st (fun _ kq_ => XS.icmpNo X14.here hx rfl (hb hby at_173) rfl (XT.ii_ne_f (own_nb _)) kq_) ?_
      show Go p e below s _ _ _ (T14.setTop (mkF m 176 #[.val (.int p0), .val (.int p1), .val (.int p2), .val (.int p3), .val (.int p4), .val (.int (3 : Int32)), .val (.ref b10), .val (.ref b14), .val (.int (1 : Int32))] []))
      refine Go.st (fun _ kq_ => XS.aload X14.here hx rfl (hb hby at_176) rfl rfl kq_) ?_
      show Go p e below s _ _ _ (T14.setTop (mkF m 178 #[.val (.int p0), .val (.int p1), .val (.int p2), .val (.int p3), .val (.int p4), .val (.int (3 : Int32)), .val (.ref b10), .val (.ref b14), .val (.int (1 : Int32))] [(.ref b10)]))
      refine Go.st (fun _ kq_ => XS.iconst X14.here hx rfl (hb hby at_178) kq_) ?_
      show Go p e below s _ _ _ (T14.setTop (mkF m 179 #[.val (.int p0), .val (.int p1), .val (.int p2), .val (.int p3), .val (.int p4), .val (.int (3 : Int32)), .val (.ref b10), .val (.ref b14), .val (.int (1 : Int32))] [(.int (1 : Int32)), (.ref b10)]))
      refine Go.st (fun _ kq_ => own_baloadB X14 hx hZ rfl V_b10 (by decide) (by decide) (v := (.int (nar .byte (p2.toInt8.toInt32)))) rfl (g := (mkF m 179 #[.val (.int p0), .val (.int p1), .val (.int p2), .val (.int p3), .val (.int p4), .val (.int (3 : Int32)), .val (.ref b10), .val (.ref b14), .val (.int (1 : Int32))] [(.int (1 : Int32)), (.ref b10)])) rfl rfl (hb hby at_179) _ kq_) ?_
      show Go p e below s _ _ _ (T14.setTop (mkF m 180 #[.val (.int p0), .val (.int p1), .val (.int p2), .val (.int p3), .val (.int p4), .val (.int (3 : Int32)), .val (.ref b10), .val (.ref b14), .val (.int (1 : Int32))] [(.int (nar .byte (p2.toInt8.toInt32)))]))
      refine Go.st (fun _ kq_ => XS.iloadN X14.here hx rfl (hb hby at_180) rfl kq_) ?_
      show Go p e below s _ _ _ (T14.setTop (mkF m 181 #[.val (.int p0), .val (.int p1), .val (.int p2), .val (.int p3), .val (.int p4), .val (.int (3 : Int32)), .val (.ref b10), .val (.ref b14), .val (.int (1 : Int32))] [(.int p2), (.int (nar .byte (p2.toInt8.toInt32)))]))
      refine Go.st (fun _ kq_ => XT.i2b X14.here hx rfl (hb hby at_181) rfl kq_) ?_
      show Go p e below s _ _ _ (T14.setTop (mkF m 182 #[.val (.int p0), .val (.int p1), .val (.int p2), .val (.int p3), .val (.int p4), .val (.int (3 : Int32)), .val (.ref b10), .val (.ref b14), .val (.int (1 : Int32))] [(.int (p2.toInt8.toInt32)), (.int (nar .byte (p2.toInt8.toInt32)))]))
      refine Go.st (fun _ kq_ => XS.icmpNo X14.here hx rfl (hb hby at_182) rfl (XT.ii_ne_f (own_nb _)) kq_) ?_
      show Go p e below s _ _ _ (T14.setTop (mkF m 185 #[.val (.int p0), .val (.int p1), .val (.int p2), .val (.int p3), .val (.int p4), .val (.int (3 : Int32)), .val (.ref b10), .val (.ref b14), .val (.int (1 : Int32))] []))
      refine Go.st (fun _ kq_ => XS.iconst X14.here hx rfl (hb hby at_185) kq_) ?_
      show Go p e below s _ _ _ (T14.setTop (mkF m 186 #[.val (.int p0), .val (.int p1), .val (.int p2), .val (.int p3), .val (.int p4), .val (.int (3 : Int32)), .val (.ref b10), .val (.ref b14), .val (.int (1 : Int32))] [(.int (1 : Int32))]))
      refine Go.st (fun _ kq_ => XS.goto X14.here hx rfl (pc0 := 186) (pc' := 190) rfl (hb hby at_186) (by decide) (by decide) kq_) ?_
      show Go p e below s _ _ _ (T14.setTop (mkF m 190 #[.val (.int p0), .val (.int p1), .val (.int p2), .val (.int p3), .val (.int p4), .val (.int (3 : Int32)), .val (.ref b10), .val (.ref b14), .val (.int (1 : Int32))] [(.int (1 : Int32))]))
      refine Go.st (fun _ kq_ => XS.istore X14.here hx rfl (hb hby at_190) rfl (l' := #[.val (.int p0), .val (.int p1), .val (.int p2), .val (.int p3), .val (.int p4), .val (.int (3 : Int32)), .val (.ref b10), .val (.ref b14), .val (.int (1 : Int32))]) rfl kq_) ?_
      show Go p e below s _ _ _ (T14.setTop (mkF m 192 #[.val (.int p0), .val (.int p1), .val (.int p2), .val (.int p3), .val (.int p4), .val (.int (3 : Int32)), .val (.ref b10), .val (.ref b14), .val (.int (1 : Int32))] []))
      refine Go.st (fun _ kq_ => XS.iload X14.here hx rfl (hb hby at_192) rfl kq_) ?_
      show Go p e below s _ _ _ (T14.setTop (mkF m 194 #[.val (.int p0), .val (.int p1), .val (.int p2), .val (.int p3), .val (.int p4), .val (.int (3 : Int32)), .val (.ref b10), .val (.ref b14), .val (.int (1 : Int32))] [(.int (1 : Int32))]))
      refine Go.st (fun _ kq_ => XS.ifNo X14.here hx rfl (hb hby at_194) rfl (by decide) kq_) ?_
      show Go p e below s _ _ _ (T14.setTop (mkF m 197 #[.val (.int p0), .val (.int p1), .val (.int p2), .val (.int p3), .val (.int p4), .val (.int (3 : Int32)), .val (.ref b10), .val (.ref b14), .val (.int (1 : Int32))] []))
      refine Go.st (fun _ kq_ => XS.iload X14.here hx rfl (hb hby at_197) rfl kq_) ?_
      show Go p e below s _ _ _ (T14.setTop (mkF m 199 #[.val (.int p0), .val (.int p1), .val (.int p2), .val (.int p3), .val (.int p4), .val (.int (3 : Int32)), .val (.ref b10), .val (.ref b14), .val (.int (1 : Int32))] [(.int (3 : Int32))]))
      refine Go.st (fun _ kq_ => XS.iconst X14.here hx rfl (hb hby at_199) kq_) ?_
      show Go p e below s _ _ _ (T14.setTop (mkF m 200 #[.val (.int p0), .val (.int p1), .val (.int p2), .val (.int p3), .val (.int p4), .val (.int (3 : Int32)), .val (.ref b10), .val (.ref b14), .val (.int (1 : Int32))] [(.int (3 : Int32)), (.int (3 : Int32))]))
      refine Go.st (fun _ kq_ => XS.icmpNo X14.here hx rfl (hb hby at_200) rfl (by decide) kq_) ?_
      show Go p e below s _ _ _ (T14.setTop (mkF m 203 #[.val (.int p0), .val (.int p1), .val (.int p2), .val (.int p3), .val (.int p4), .val (.int (3 : Int32)), .val (.ref b10), .val (.ref b14), .val (.int (1 : Int32))] []))
      refine Go.st (fun _ kq_ => XS.aload X14.here hx rfl (hb hby at_203) rfl rfl kq_) ?_
      show Go p e below s _ _ _ (T14.setTop (mkF m 205 #[.val (.int p0), .val (.int p1), .val (.int p2), .val (.int p3), .val (.int p4), .val (.int (3 : Int32)), .val (.ref b10), .val (.ref b14), .val (.int (1 : Int32))] [(.ref b14)]))
      refine Go.st (fun _ kq_ => XS.iconst X14.here hx rfl (hb hby at_205) kq_) ?_
      show Go p e below s _ _ _ (T14.setTop (mkF m 206 #[.val (.int p0), .val (.int p1), .val (.int p2), .val (.int p3), .val (.int p4), .val (.int (3 : Int32)), .val (.ref b10), .val (.ref b14), .val (.int (1 : Int32))] [(.int (2 : Int32)), (.ref b14)]))
      refine Go.st (fun _ kq_ => own_baloadB X14 hx hZ rfl V_b14 (by decide) (by decide) (v := (.int (nar .byte (p3.toInt8.toInt32)))) rfl (g := (mkF m 206 #[.val (.int p0), .val (.int p1), .val (.int p2), .val (.int p3), .val (.int p4), .val (.int (3 : Int32)), .val (.ref b10), .val (.ref b14), .val (.int (1 : Int32))] [(.int (2 : Int32)), (.ref b14)])) rfl rfl (hb hby at_206) _ kq_) ?_
      show Go p e below s _ _ _ (T14.setTop (mkF m 207 #[.val (.int p0), .val (.int p1), .val (.int p2), .val (.int p3), .val (.int p4), .val (.int (3 : Int32)), .val (.ref b10), .val (.ref b14), .val (.int (1 : Int32))] [(.int (nar .byte (p3.toInt8.toInt32)))]))
      refine Go.st (fun _ kq_ => XS.iloadN X14.here hx rfl (hb hby at_207) rfl kq_) ?_
      show Go p e below s _ _ _ (T14.setTop (mkF m 208 #[.val (.int p0), .val (.int p1), .val (.int p2), .val (.int p3), .val (.int p4), .val (.int (3 : Int32)), .val (.ref b10), .val (.ref b14), .val (.int (1 : Int32))] [(.int p3), (.int (nar .byte (p3.toInt8.toInt32)))]))
      refine Go.st (fun _ kq_ => XT.i2b X14.here hx rfl (hb hby at_208) rfl kq_) ?_
      show Go p e below s _ _ _ (T14.setTop (mkF m 209 #[.val (.int p0), .val (.int p1), .val (.int p2), .val (.int p3), .val (.int p4), .val (.int (3 : Int32)), .val (.ref b10), .val (.ref b14), .val (.int (1 : Int32))] [(.int (p3.toInt8.toInt32)), (.int (nar .byte (p3.toInt8.toInt32)))]))
      refine Go.st (fun _ kq_ => XS.icmpNo X14.here hx rfl (hb hby at_209) rfl (XT.ii_ne_f (own_nb _)) kq_) ?_
      show Go p e below s _ _ _ (T14.setTop (mkF m 212 #[.val (.int p0), .val (.int p1), .val (.int p2), .val (.int p3), .val (.int p4), .val (.int (3 : Int32)), .val (.ref b10), .val (.ref b14), .val (.int (1 : Int32))] []))
      refine Go.st (fun _ kq_ => XS.aload X14.here hx rfl (hb hby at_212) rfl rfl kq_) ?_
      show Go p e below s _ _ _ (T14.setTop (mkF m 214 #[.val (.int p0), .val (.int p1), .val (.int p2), .val (.int p3), .val (.int p4), .val (.int (3 : Int32)), .val (.ref b10), .val (.ref b14), .val (.int (1 : Int32))] [(.ref b10)]))
      refine Go.st (fun _ kq_ => XS.iconst X14.here hx rfl (hb hby at_214) kq_) ?_
      show Go p e below s _ _ _ (T14.setTop (mkF m 215 #[.val (.int p0), .val (.int p1), .val (.int p2), .val (.int p3), .val (.int p4), .val (.int (3 : Int32)), .val (.ref b10), .val (.ref b14), .val (.int (1 : Int32))] [(.int (2 : Int32)), (.ref b10)]))
      refine Go.st (fun _ kq_ => own_baloadB X14 hx hZ rfl V_b10 (by decide) (by decide) (v := (.int (nar .byte (p3.toInt8.toInt32)))) rfl (g := (mkF m 215 #[.val (.int p0), .val (.int p1), .val (.int p2), .val (.int p3), .val (.int p4), .val (.int (3 : Int32)), .val (.ref b10), .val (.ref b14), .val (.int (1 : Int32))] [(.int (2 : Int32)), (.ref b10)])) rfl rfl (hb hby at_215) _ kq_) ?_
      show Go p e below s _ _ _ (T14.setTop (mkF m 216 #[.val (.int p0), .val (.int p1), .val (.int p2), .val (.int p3), .val (.int p4), .val (.int (3 : Int32)), .val (.ref b10), .val (.ref b14), .val (.int (1 : Int32))] [(.int (nar .byte (p3.toInt8.toInt32)))]))
      refine Go.st (fun _ kq_ => XS.iloadN X14.here hx rfl (hb hby at_216) rfl kq_) ?_
      show Go p e below s _ _ _ (T14.setTop (mkF m 217 #[.val (.int p0), .val (.int p1), .val (.int p2), .val (.int p3), .val (.int p4), .val (.int (3 : Int32)), .val (.ref b10), .val (.ref b14), .val (.int (1 : Int32))] [(.int p3), (.int (nar .byte (p3.toInt8.toInt32)))]))
      refine Go.st (fun _ kq_ => XT.i2b X14.here hx rfl (hb hby at_217) rfl kq_) ?_
      show Go p e below s _ _ _ (T14.setTop (mkF m 218 #[.val (.int p0), .val (.int p1), .val (.int p2), .val (.int p3), .val (.int p4), .val (.int (3 : Int32)), .val (.ref b10), .val (.ref b14), .val (.int (1 : Int32))] [(.int (p3.toInt8.toInt32)), (.int (nar .byte (p3.toInt8.toInt32)))]))
      refine Go.st (fun _ kq_ => XS.icmpNo X14.here hx rfl (hb hby at_218) rfl (XT.ii_ne_f (own_nb _)) kq_) ?_
      show Go p e below s _ _ _ (T14.setTop (mkF m 221 #[.val (.int p0), .val (.int p1), .val (.int p2), .val (.int p3), .val (.int p4), .val (.int (3 : Int32)), .val (.ref b10), .val (.ref b14), .val (.int (1 : Int32))] []))
      refine Go.st (fun _ kq_ => XS.iconst X14.here hx rfl (hb hby at_221) kq_) ?_
      show Go p e below s _ _ _ (T14.setTop (mkF m 222 #[.val (.int p0), .val (.int p1), .val (.int p2), .val (.int p3), .val (.int p4), .val (.int (3 : Int32)), .val (.ref b10), .val (.ref b14), .val (.int (1 : Int32))] [(.int (1 : Int32))]))
      refine Go.st (fun _ kq_ => XS.goto X14.here hx rfl (pc0 := 222) (pc' := 226) rfl (hb hby at_222) (by decide) (by decide) kq_) ?_
      show Go p e below s _ _ _ (T14.setTop (mkF m 226 #[.val (.int p0), .val (.int p1), .val (.int p2), .val (.int p3), .val (.int p4), .val (.int (3 : Int32)), .val (.ref b10), .val (.ref b14), .val (.int (1 : Int32))] [(.int (1 : Int32))]))
      refine Go.st (fun _ kq_ => XS.istore X14.here hx rfl (hb hby at_226) rfl (l' := #[.val (.int p0), .val (.int p1), .val (.int p2), .val (.int p3), .val (.int p4), .val (.int (3 : Int32)), .val (.ref b10), .val (.ref b14), .val (.int (1 : Int32))]) rfl kq_) ?_
      show Go p e below s _ _ _ (T14.setTop (mkF m 228 #[.val (.int p0), .val (.int p1), .val (.int p2), .val (.int p3), .val (.int p4), .val (.int (3 : Int32)), .val (.ref b10), .val (.ref b14), .val (.int (1 : Int32))] []))
      refine Go.st (fun _ kq_ => XS.iload X14.here hx rfl (hb hby at_228) rfl kq_) ?_
      show Go p e below s _ _ _ (T14.setTop (mkF m 230 #[.val (.int p0), .val (.int p1), .val (.int p2), .val (.int p3), .val (.int p4), .val (.int (3 : Int32)), .val (.ref b10), .val (.ref b14), .val (.int (1 : Int32))] [(.int (1 : Int32))]))
      refine Go.st (fun _ kq_ => XS.ifNo X14.here hx rfl (hb hby at_230) rfl (by decide) kq_) ?_
      show Go p e below s _ _ _ (T14.setTop (mkF m 233 #[.val (.int p0), .val (.int p1), .val (.int p2), .val (.int p3), .val (.int p4), .val (.int (3 : Int32)), .val (.ref b10), .val (.ref b14), .val (.int (1 : Int32))] []))
      refine Go.st (fun _ kq_ => XS.iload X14.here hx rfl (hb hby at_233) rfl kq_) ?_
      show Go p e below s _ _ _ (T14.setTop (mkF m 235 #[.val (.int p0), .val (.int p1), .val (.int p2), .val (.int p3), .val (.int p4), .val (.int (3 : Int32)), .val (.ref b10), .val (.ref b14), .val (.int (1 : Int32))] [(.int (3 : Int32))]))
      refine Go.st (fun _ kq_ => XS.iconst X14.here hx rfl (hb hby at_235) kq_) ?_
      show Go p e below s _ _ _ (T14.setTop (mkF m 236 #[.val (.int p0), .val (.int p1), .val (.int p2), .val (.int p3), .val (.int p4), .val (.int (3 : Int32)), .val (.ref b10), .val (.ref b14), .val (.int (1 : Int32))] [(.int (4 : Int32)), (.int (3 : Int32))]))
      refine Go.st (fun _ kq_ => XS.icmpYes X14.here hx rfl (pc0 := 236) (pc' := 259) rfl (hb hby at_236) rfl (by decide) (by decide) (by decide) kq_) ?_
      show Go p e below s _ _ _ (T14.setTop (mkF m 259 #[.val (.int p0), .val (.int p1), .val (.int p2), .val (.int p3), .val (.int p4), .val (.int (3 : Int32)), .val (.ref b10), .val (.ref b14), .val (.int (1 : Int32))] []))
      refine Go.st (fun _ kq_ => XS.iconst X14.here hx rfl (hb hby at_259) kq_) ?_
      show Go p e below s _ _ _ (T14.setTop (mkF m 260 #[.val (.int p0), .val (.int p1), .val (.int p2), .val (.int p3), .val (.int p4), .val (.int (3 : Int32)), .val (.ref b10), .val (.ref b14), .val (.int (1 : Int32))] [(.int (1 : Int32))]))
      refine Go.st (fun _ kq_ => XS.goto X14.here hx rfl (pc0 := 260) (pc' := 264) rfl (hb hby at_260) (by decide) (by decide) kq_) ?_
      show Go p e below s _ _ _ (T14.setTop (mkF m 264 #[.val (.int p0), .val (.int p1), .val (.int p2), .val (.int p3), .val (.int p4), .val (.int (3 : Int32)), .val (.ref b10), .val (.ref b14), .val (.int (1 : Int32))] [(.int (1 : Int32))]))
      refine Go.st (fun _ kq_ => XS.istore X14.here hx rfl (hb hby at_264) rfl (l' := #[.val (.int p0), .val (.int p1), .val (.int p2), .val (.int p3), .val (.int p4), .val (.int (3 : Int32)), .val (.ref b10), .val (.ref b14), .val (.int (1 : Int32))]) rfl kq_) ?_
      show Go p e below s _ _ _ (T14.setTop (mkF m 266 #[.val (.int p0), .val (.int p1), .val (.int p2), .val (.int p3), .val (.int p4), .val (.int (3 : Int32)), .val (.ref b10), .val (.ref b14), .val (.int (1 : Int32))] []))
      refine Go.st (fun _ kq_ => XS.iload X14.here hx rfl (hb hby at_266) rfl kq_) ?_
      show Go p e below s _ _ _ (T14.setTop (mkF m 268 #[.val (.int p0), .val (.int p1), .val (.int p2), .val (.int p3), .val (.int p4), .val (.int (3 : Int32)), .val (.ref b10), .val (.ref b14), .val (.int (1 : Int32))] [(.int (1 : Int32))]))
      exact Go.ret X14 hlk (some (.int (nar .boolean (1 : Int32)))) (fun h => by rw [Bd.returns] at h; cases h) (by exact ⟨rfl, N14⟩) (by decide) (by decide) (fun fs hr => retN X14 hx (t := .boolean) Bd.returns (by simp) (hb hby at_268) hr)
    · show Go p e below s _ _ _ (s₁.setTop (mkF m 6 #[.val (.int p0), .val (.int p1), .val (.int p2), .val (.int p3), .val (.int p4), .unset, .unset, .unset, .unset] [(.int (4 : Int32))]))
      refine Go.st (fun _ kq_ => XS.istore X0.here hx rfl (hb hby at_6) rfl (l' := #[.val (.int p0), .val (.int p1), .val (.int p2), .val (.int p3), .val (.int p4), .val (.int (4 : Int32)), .unset, .unset, .unset]) rfl kq_) ?_
      show Go p e below s _ _ _ (s₁.setTop (mkF m 8 #[.val (.int p0), .val (.int p1), .val (.int p2), .val (.int p3), .val (.int p4), .val (.int (4 : Int32)), .unset, .unset, .unset] []))
      refine Go.st (fun _ kq_ => XS.iload X0.here hx rfl (hb hby at_8) rfl kq_) ?_
      show Go p e below s _ _ _ (s₁.setTop (mkF m 10 #[.val (.int p0), .val (.int p1), .val (.int p2), .val (.int p3), .val (.int p4), .val (.int (4 : Int32)), .unset, .unset, .unset] [(.int (4 : Int32))]))
      obtain ⟨T15, h15, k15, X15, e15, E15, A15, st15⟩ := newP X0 hx hZ (own_w hw 1 rfl) e0 (g := (mkF m 10 #[.val (.int p0), .val (.int p1), .val (.int p2), .val (.int p3), .val (.int p4), .val (.int (4 : Int32)), .unset, .unset, .unset] [(.int (4 : Int32))])) rfl (hb hby at_10) rfl (by decide) (cap := 4) (by decide) (by decide) (by decide) (by decide)
      obtain ⟨b15, g15⟩ : ∃ z, z = h0.size := ⟨_, rfl⟩
      rw [← g15] at A15 st15
      have g_b15 : n0 ≤ b15 := Nat.le_trans (own_old O0) (Nat.le_of_eq g15.symm)
      have O15 := O0.ext E15
      have V_b15 : Arv Z h15 b15 k15 .byte (4 : Int32) [(.int (0 : Int32)), (.int (0 : Int32)), (.int (0 : Int32)), (.int (0 : Int32))] (.int (0 : Int32)) := (Arv.new A15 (by decide)).pad (pad_rep [] (.int (0 : Int32)) 4)
      refine Go.st st15 ?_
      show Go p e below s _ _ _ (T15.setTop (mkF m 12 #[.val (.int p0), .val (.int p1), .val (.int p2), .val (.int p3), .val (.int p4), .val (.int (4 : Int32)), .unset, .unset, .unset] [(.ref b15)]))
      refine Go.st (fun _ kq_ => XS.astore X15.here hx rfl (hb hby at_12) rfl rfl (l' := #[.val (.int p0), .val (.int p1), .val (.int p2), .val (.int p3), .val (.int p4), .val (.int (4 : Int32)), .val (.ref b15), .unset, .unset]) rfl kq_) ?_
      show Go p e below s _ _ _ (T15.setTop (mkF m 14 #[.val (.int p0), .val (.int p1), .val (.int p2), .val (.int p3), .val (.int p4), .val (.int (4 : Int32)), .val (.ref b15), .unset, .unset] []))
      refine Go.st (fun _ kq_ => XS.iload X15.here hx rfl (hb hby at_14) rfl kq_) ?_
      show Go p e below s _ _ _ (T15.setTop (mkF m 16 #[.val (.int p0), .val (.int p1), .val (.int p2), .val (.int p3), .val (.int p4), .val (.int (4 : Int32)), .val (.ref b15), .unset, .unset] [(.int (4 : Int32))]))
      refine Go.st (fun _ kq_ => XS.ifNo X15.here hx rfl (hb hby at_16) rfl (by decide) kq_) ?_
      show Go p e below s _ _ _ (T15.setTop (mkF m 19 #[.val (.int p0), .val (.int p1), .val (.int p2), .val (.int p3), .val (.int p4), .val (.int (4 : Int32)), .val (.ref b15), .unset, .unset] []))
      refine Go.st (fun _ kq_ => XS.aload X15.here hx rfl (hb hby at_19) rfl rfl kq_) ?_
      show Go p e below s _ _ _ (T15.setTop (mkF m 21 #[.val (.int p0), .val (.int p1), .val (.int p2), .val (.int p3), .val (.int p4), .val (.int (4 : Int32)), .val (.ref b15), .unset, .unset] [(.ref b15)]))
      refine Go.st (fun _ kq_ => XS.iconst X15.here hx rfl (hb hby at_21) kq_) ?_
      show Go p e below s _ _ _ (T15.setTop (mkF m 22 #[.val (.int p0), .val (.int p1), .val (.int p2), .val (.int p3), .val (.int p4), .val (.int (4 : Int32)), .val (.ref b15), .unset, .unset] [(.int (0 : Int32)), (.ref b15)]))
      refine Go.st (fun _ kq_ => XS.iloadN X15.here hx rfl (hb hby at_22) rfl kq_) ?_
      show Go p e below s _ _ _ (T15.setTop (mkF m 23 #[.val (.int p0), .val (.int p1), .val (.int p2), .val (.int p3), .val (.int p4), .val (.int (4 : Int32)), .val (.ref b15), .unset, .unset] [(.int p1), (.int (0 : Int32)), (.ref b15)]))
      refine Go.st (fun _ kq_ => XT.i2b X15.here hx rfl (hb hby at_23) rfl kq_) ?_
      show Go p e below s _ _ _ (T15.setTop (mkF m 24 #[.val (.int p0), .val (.int p1), .val (.int p2), .val (.int p3), .val (.int p4), .val (.int (4 : Int32)), .val (.ref b15), .unset, .unset] [(.int (p1.toInt8.toInt32)), (.int (0 : Int32)), (.ref b15)]))
      obtain ⟨T16, h16, X16, e16, W16, V16, st16⟩ := own_stB X15 hx hZ e15 V_b15 (j := (0 : Int32)) (by decide) (by decide) 0 rfl (Nat.le_of_ble_eq_true rfl) (g := (mkF m 24 #[.val (.int p0), .val (.int p1), .val (.int p2), .val (.int p3), .val (.int p4), .val (.int (4 : Int32)), .val (.ref b15), .unset, .unset] [(.int (p1.toInt8.toInt32)), (.int (0 : Int32)), (.ref b15)])) rfl rfl (hb hby at_24)
      have N16 := Fr.snoc X16 N0 g_b15
      have O16 := O15.wr W16 g_b15
      have V_b15 : Arv Z h16 b15 k15 .byte (4 : Int32) [(.int (nar .byte (p1.toInt8.toInt32))), (.int (0 : Int32)), (.int (0 : Int32)), (.int (0 : Int32))] (.int (0 : Int32)) := V16
      refine Go.st st16 ?_
      show Go p e below s _ _ _ (T16.setTop (mkF m 25 #[.val (.int p0), .val (.int p1), .val (.int p2), .val (.int p3), .val (.int p4), .val (.int (4 : Int32)), .val (.ref b15), .unset, .unset] []))
      refine Go.st (fun _ kq_ => XS.iload X16.here hx rfl (hb hby at_25) rfl kq_) ?_
      show Go p e below s _ _ _ (T16.setTop (mkF m 27 #[.val (.int p0), .val (.int p1), .val (.int p2), .val (.int p3), .val (.int p4), .val (.int (4 : Int32)), .val (.ref b15), .unset, .unset] [(.int (4 : Int32))]))
      refine Go.st (fun _ kq_ => XS.iconst X16.here hx rfl (hb hby at_27) kq_) ?_
      show Go p e below s _ _ _ (T16.setTop (mkF m 28 #[.val (.int p0), .val (.int p1), .val (.int p2), .val (.int p3), .val (.int p4), .val (.int (4 : Int32)), .val (.ref b15), .unset, .unset] [(.int (1 : Int32)), (.int (4 : Int32))]))
      refine Go.st (fun _ kq_ => XS.icmpNo X16.here hx rfl (hb hby at_28) rfl (by decide) kq_) ?_
      show Go p e below s _ _ _ (T16.setTop (mkF m 31 #[.val (.int p0), .val (.int p1), .val (.int p2), .val (.int p3), .val (.int p4), .val (.int (4 : Int32)), .val (.ref b15), .unset, .unset] []))
      refine Go.st (fun _ kq_ => XS.aload X16.here hx rfl (hb hby at_31) rfl rfl kq_) ?_
      show Go p e below s _ _ _ (T16.setTop (mkF m 33 #[.val (.int p0), .val (.int p1), .val (.int p2), .val (.int p3), .val (.int p4), .val (.int (4 : Int32)), .val (.ref b15), .unset, .unset] [(.ref b15)]))
      refine Go.st (fun _ kq_ => XS.iconst X16.here hx rfl (hb hby at_33) kq_) ?_
      show Go p e below s _ _ _ (T16.setTop (mkF m 34 #[.val (.int p0), .val (.int p1), .val (.int p2), .val (.int p3), .val (.int p4), .val (.int (4 : Int32)), .val (.ref b15), .unset, .unset] [(.int (1 : Int32)), (.ref b15)]))
      refine Go.st (fun _ kq_ => XS.iloadN X16.here hx rfl (hb hby at_34) rfl kq_) ?_
      show Go p e below s _ _ _ (T16.setTop (mkF m 35 #[.val (.int p0), .val (.int p1), .val (.int p2), .val (.int p3), .val (.int p4), .val (.int (4 : Int32)), .val (.ref b15), .unset, .unset] [(.int p2), (.int (1 : Int32)), (.ref b15)]))
      refine Go.st (fun _ kq_ => XT.i2b X16.here hx rfl (hb hby at_35) rfl kq_) ?_
      show Go p e below s _ _ _ (T16.setTop (mkF m 36 #[.val (.int p0), .val (.int p1), .val (.int p2), .val (.int p3), .val (.int p4), .val (.int (4 : Int32)), .val (.ref b15), .unset, .unset] [(.int (p2.toInt8.toInt32)), (.int (1 : Int32)), (.ref b15)]))
      obtain ⟨T17, h17, X17, e17, W17, V17, st17⟩ := own_stB X16 hx hZ e16 V_b15 (j := (1 : Int32)) (by decide) (by decide) 1 rfl (Nat.le_of_ble_eq_true rfl) (g := (mkF m 36 #[.val (.int p0), .val (.int p1), .val (.int p2), .val (.int p3), .val (.int p4), .val (.int (4 : Int32)), .val (.ref b15), .unset, .unset] [(.int (p2.toInt8.toInt32)), (.int (1 : Int32)), (.ref b15)])) rfl rfl (hb hby at_36)
      have N17 := Fr.snoc X17 N16 g_b15
      have O17 := O16.wr W17 g_b15
      have V_b15 : Arv Z h17 b15 k15 .byte (4 : Int32) [(.int (nar .byte (p1.toInt8.toInt32))), (.int (nar .byte (p2.toInt8.toInt32))), (.int (0 : Int32)), (.int (0 : Int32))] (.int (0 : Int32)) := V17
      refine Go.st st17 ?_
      show Go p e below s _ _ _ (T17.setTop (mkF m 37 #[.val (.int p0), .val (.int p1), .val (.int p2), .val (.int p3), .val (.int p4), .val (.int (4 : Int32)), .val (.ref b15), .unset, .unset] []))
      refine Go.st (fun _ kq_ => XS.iload X17.here hx rfl (hb hby at_37) rfl kq_) ?_
      show Go p e below s _ _ _ (T17.setTop (mkF m 39 #[.val (.int p0), .val (.int p1), .val (.int p2), .val (.int p3), .val (.int p4), .val (.int (4 : Int32)), .val (.ref b15), .unset, .unset] [(.int (4 : Int32))]))
      refine Go.st (fun _ kq_ => XS.iconst X17.here hx rfl (hb hby at_39) kq_) ?_
      show Go p e below s _ _ _ (T17.setTop (mkF m 40 #[.val (.int p0), .val (.int p1), .val (.int p2), .val (.int p3), .val (.int p4), .val (.int (4 : Int32)), .val (.ref b15), .unset, .unset] [(.int (2 : Int32)), (.int (4 : Int32))]))
      refine Go.st (fun _ kq_ => XS.icmpNo X17.here hx rfl (hb hby at_40) rfl (by decide) kq_) ?_
      show Go p e below s _ _ _ (T17.setTop (mkF m 43 #[.val (.int p0), .val (.int p1), .val (.int p2), .val (.int p3), .val (.int p4), .val (.int (4 : Int32)), .val (.ref b15), .unset, .unset] []))
      refine Go.st (fun _ kq_ => XS.aload X17.here hx rfl (hb hby at_43) rfl rfl kq_) ?_
      show Go p e below s _ _ _ (T17.setTop (mkF m 45 #[.val (.int p0), .val (.int p1), .val (.int p2), .val (.int p3), .val (.int p4), .val (.int (4 : Int32)), .val (.ref b15), .unset, .unset] [(.ref b15)]))
      refine Go.st (fun _ kq_ => XS.iconst X17.here hx rfl (hb hby at_45) kq_) ?_
      show Go p e below s _ _ _ (T17.setTop (mkF m 46 #[.val (.int p0), .val (.int p1), .val (.int p2), .val (.int p3), .val (.int p4), .val (.int (4 : Int32)), .val (.ref b15), .unset, .unset] [(.int (2 : Int32)), (.ref b15)]))
      refine Go.st (fun _ kq_ => XS.iloadN X17.here hx rfl (hb hby at_46) rfl kq_) ?_
      show Go p e below s _ _ _ (T17.setTop (mkF m 47 #[.val (.int p0), .val (.int p1), .val (.int p2), .val (.int p3), .val (.int p4), .val (.int (4 : Int32)), .val (.ref b15), .unset, .unset] [(.int p3), (.int (2 : Int32)), (.ref b15)]))
      refine Go.st (fun _ kq_ => XT.i2b X17.here hx rfl (hb hby at_47) rfl kq_) ?_
      show Go p e below s _ _ _ (T17.setTop (mkF m 48 #[.val (.int p0), .val (.int p1), .val (.int p2), .val (.int p3), .val (.int p4), .val (.int (4 : Int32)), .val (.ref b15), .unset, .unset] [(.int (p3.toInt8.toInt32)), (.int (2 : Int32)), (.ref b15)]))
      obtain ⟨T18, h18, X18, e18, W18, V18, st18⟩ := own_stB X17 hx hZ e17 V_b15 (j := (2 : Int32)) (by decide) (by decide) 2 rfl (Nat.le_of_ble_eq_true rfl) (g := (mkF m 48 #[.val (.int p0), .val (.int p1), .val (.int p2), .val (.int p3), .val (.int p4), .val (.int (4 : Int32)), .val (.ref b15), .unset, .unset] [(.int (p3.toInt8.toInt32)), (.int (2 : Int32)), (.ref b15)])) rfl rfl (hb hby at_48)
      have N18 := Fr.snoc X18 N17 g_b15
      have O18 := O17.wr W18 g_b15
      have V_b15 : Arv Z h18 b15 k15 .byte (4 : Int32) [(.int (nar .byte (p1.toInt8.toInt32))), (.int (nar .byte (p2.toInt8.toInt32))), (.int (nar .byte (p3.toInt8.toInt32))), (.int (0 : Int32))] (.int (0 : Int32)) := V18
      refine Go.st st18 ?_
      show Go p e below s _ _ _ (T18.setTop (mkF m 49 #[.val (.int p0), .val (.int p1), .val (.int p2), .val (.int p3), .val (.int p4), .val (.int (4 : Int32)), .val (.ref b15), .unset, .unset] []))
      refine Go.st (fun _ kq_ => XS.iload X18.here hx rfl (hb hby at_49) rfl kq_) ?_
      show Go p e below s _ _ _ (T18.setTop (mkF m 51 #[.val (.int p0), .val (.int p1), .val (.int p2), .val (.int p3), .val (.int p4), .val (.int (4 : Int32)), .val (.ref b15), .unset, .unset] [(.int (4 : Int32))]))
      refine Go.st (fun _ kq_ => XS.iconst X18.here hx rfl (hb hby at_51) kq_) ?_
      show Go p e below s _ _ _ (T18.setTop (mkF m 52 #[.val (.int p0), .val (.int p1), .val (.int p2), .val (.int p3), .val (.int p4), .val (.int (4 : Int32)), .val (.ref b15), .unset, .unset] [(.int (3 : Int32)), (.int (4 : Int32))]))
      refine Go.st (fun _ kq_ => XS.icmpNo X18.here hx rfl (hb hby at_52) rfl (by decide) kq_) ?_
      show Go p e below s _ _ _ (T18.setTop (mkF m 55 #[.val (.int p0), .val (.int p1), .val (.int p2), .val (.int p3), .val (.int p4), .val (.int (4 : Int32)), .val (.ref b15), .unset, .unset] []))
      refine Go.st (fun _ kq_ => XS.aload X18.here hx rfl (hb hby at_55) rfl rfl kq_) ?_
      show Go p e below s _ _ _ (T18.setTop (mkF m 57 #[.val (.int p0), .val (.int p1), .val (.int p2), .val (.int p3), .val (.int p4), .val (.int (4 : Int32)), .val (.ref b15), .unset, .unset] [(.ref b15)]))
      refine Go.st (fun _ kq_ => XS.iconst X18.here hx rfl (hb hby at_57) kq_) ?_
      show Go p e below s _ _ _ (T18.setTop (mkF m 58 #[.val (.int p0), .val (.int p1), .val (.int p2), .val (.int p3), .val (.int p4), .val (.int (4 : Int32)), .val (.ref b15), .unset, .unset] [(.int (3 : Int32)), (.ref b15)]))
      refine Go.st (fun _ kq_ => XS.iload X18.here hx rfl (hb hby at_58) rfl kq_) ?_
      show Go p e below s _ _ _ (T18.setTop (mkF m 60 #[.val (.int p0), .val (.int p1), .val (.int p2), .val (.int p3), .val (.int p4), .val (.int (4 : Int32)), .val (.ref b15), .unset, .unset] [(.int p4), (.int (3 : Int32)), (.ref b15)]))
      refine Go.st (fun _ kq_ => XT.i2b X18.here hx rfl (hb hby at_60) rfl kq_) ?_
      show Go p e below s _ _ _ (T18.setTop (mkF m 61 #[.val (.int p0), .val (.int p1), .val (.int p2), .val (.int p3), .val (.int p4), .val (.int (4 : Int32)), .val (.ref b15), .unset, .unset] [(.int (p4.toInt8.toInt32)), (.int (3 : Int32)), (.ref b15)]))
      obtain ⟨T19, h19, X19, e19, W19, V19, st19⟩ := own_stB X18 hx hZ e18 V_b15 (j := (3 : Int32)) (by decide) (by decide) 3 rfl (Nat.le_of_ble_eq_true rfl) (g := (mkF m 61 #[.val (.int p0), .val (.int p1), .val (.int p2), .val (.int p3), .val (.int p4), .val (.int (4 : Int32)), .val (.ref b15), .unset, .unset] [(.int (p4.toInt8.toInt32)), (.int (3 : Int32)), (.ref b15)])) rfl rfl (hb hby at_61)
      have N19 := Fr.snoc X19 N18 g_b15
      have O19 := O18.wr W19 g_b15
      have V_b15 : Arv Z h19 b15 k15 .byte (4 : Int32) [(.int (nar .byte (p1.toInt8.toInt32))), (.int (nar .byte (p2.toInt8.toInt32))), (.int (nar .byte (p3.toInt8.toInt32))), (.int (nar .byte (p4.toInt8.toInt32)))] (.int (0 : Int32)) := V19
      refine Go.st st19 ?_
      show Go p e below s _ _ _ (T19.setTop (mkF m 62 #[.val (.int p0), .val (.int p1), .val (.int p2), .val (.int p3), .val (.int p4), .val (.int (4 : Int32)), .val (.ref b15), .unset, .unset] []))
      refine Go.st (fun _ kq_ => XS.aload X19.here hx rfl (hb hby at_62) rfl rfl kq_) ?_
      show Go p e below s _ _ _ (T19.setTop (mkF m 64 #[.val (.int p0), .val (.int p1), .val (.int p2), .val (.int p3), .val (.int p4), .val (.int (4 : Int32)), .val (.ref b15), .unset, .unset] [(.ref b15)]))
      obtain ⟨_, _, ⟨T20, L20, k20, n20⟩, -, X20, ⟨Lc20, hQ20, l20, y20, z20⟩, st20⟩ := Jvm.LawKit.callS X19 hx (y := (⟨"com/example/duplexwire/duplexwire/protocol/LineFramer", "frame", "([B)[B"⟩ : MethodName)) hown (mvT hZ (own_w hw 2 rfl)) (mvT hZ (own_w hw 3 rfl)) (mvT hZ (own_w hw 4 rfl)) (mvT hZ (own_w hw 5 rfl)) (by decide) (backOf (W := 0) (rmf4 l Z a0 hw [] b15 k15 (nar .byte (p1.toInt8.toInt32)) (nar .byte (p2.toInt8.toInt32)) (nar .byte (p3.toInt8.toInt32)) (nar .byte (p4.toInt8.toInt32)) h19 n0 O19 V_b15) hZ (own_w hw 5 rfl) (own_w hw 4 rfl) (by decide) (by decide)) (g := (mkF m 64 #[.val (.int p0), .val (.int p1), .val (.int p2), .val (.int p3), .val (.int p4), .val (.int (4 : Int32)), .val (.ref b15), .unset, .unset] [(.ref b15)])) rfl (by rw [hml]; rfl) (argsL := [(.ref b15)]) (rest := []) (lenOf pd0_0 rfl) rfl (by show 2 * 0 + _ ≤ _; exact Nat.le_of_eq rfl) (hb hby at_64) (fun _ _ => ⟨rfl, e19, (by decide : 1 + 1 ≤ _), (by decide : 4 + 5 ≤ _)⟩)
      dsimp only [Pt.U, Pt.locs, Pt.cells, Pt.slots] at X20 l20 y20 z20 st20 hQ20
      subst l20 y20 z20
      obtain ⟨b20, kb20, rfl, Nc20, Kc20, gb20, szb20, Vb20⟩ := hQ20
      have N20 := Fr.app N19 Nc20
      have g_b20 : n0 ≤ b20 := gb20
      have ne_b15_b20 : b15 ≠ b20 := Nat.ne_of_lt (Nat.lt_of_lt_of_le V_b15.lt szb20)
      have V_b15 := V_b15.keep Kc20 nin0
      have O20 := O19.keep Kc20 all0
      have V_b20 : Arv Z T20.heap b20 kb20 .byte (5 : Int32) [(.int (nar .byte (p1.toInt8.toInt32))), (.int (nar .byte (p2.toInt8.toInt32))), (.int (nar .byte (p3.toInt8.toInt32))), (.int (nar .byte (p4.toInt8.toInt32))), (.int (10 : Int32))] (.int (0 : Int32)) := Vb20
      refine Go.st st20 ?_
      show Go p e below s _ _ _ (T20.setTop (mkF m 67 #[.val (.int p0), .val (.int p1), .val (.int p2), .val (.int p3), .val (.int p4), .val (.int (4 : Int32)), .val (.ref b15), .unset, .unset] [(.ref b20)]))
      refine Go.st (fun _ kq_ => XS.astore X20.here hx rfl (hb hby at_67) rfl rfl (l' := #[.val (.int p0), .val (.int p1), .val (.int p2), .val (.int p3), .val (.int p4), .val (.int (4 : Int32)), .val (.ref b15), .val (.ref b20), .unset]) rfl kq_) ?_
      show Go p e below s _ _ _ (T20.setTop (mkF m 69 #[.val (.int p0), .val (.int p1), .val (.int p2), .val (.int p3), .val (.int p4), .val (.int (4 : Int32)), .val (.ref b15), .val (.ref b20), .unset] []))
      refine Go.st (fun _ kq_ => XS.aload X20.here hx rfl (hb hby at_69) rfl rfl kq_) ?_
      show Go p e below s _ _ _ (T20.setTop (mkF m 71 #[.val (.int p0), .val (.int p1), .val (.int p2), .val (.int p3), .val (.int p4), .val (.int (4 : Int32)), .val (.ref b15), .val (.ref b20), .unset] [(.ref b20)]))
      refine Go.st (fun _ kq_ => XS.ifnullNo X20.here hx rfl (hb hby at_71) rfl kq_) ?_
      show Go p e below s _ _ _ (T20.setTop (mkF m 74 #[.val (.int p0), .val (.int p1), .val (.int p2), .val (.int p3), .val (.int p4), .val (.int (4 : Int32)), .val (.ref b15), .val (.ref b20), .unset] []))
      refine Go.st (fun _ kq_ => XS.aload X20.here hx rfl (hb hby at_74) rfl rfl kq_) ?_
      show Go p e below s _ _ _ (T20.setTop (mkF m 76 #[.val (.int p0), .val (.int p1), .val (.int p2), .val (.int p3), .val (.int p4), .val (.int (4 : Int32)), .val (.ref b15), .val (.ref b20), .unset] [(.ref b20)]))
      refine Go.st (fun _ kq_ => XS.aload X20.here hx rfl (hb hby at_76) rfl rfl kq_) ?_
      show Go p e below s _ _ _ (T20.setTop (mkF m 78 #[.val (.int p0), .val (.int p1), .val (.int p2), .val (.int p3), .val (.int p4), .val (.int (4 : Int32)), .val (.ref b15), .val (.ref b20), .unset] [(.ref b15), (.ref b20)]))
      refine Go.st (fun _ kq_ => XT.acmpNo X20.here hx rfl (hb hby at_78) rfl rfl rfl (XT.aa_eq_f (fun z => (Ne.symm ne_b15_b20) (Value.ref.inj z))) kq_) ?_
      show Go p e below s _ _ _ (T20.setTop (mkF m 81 #[.val (.int p0), .val (.int p1), .val (.int p2), .val (.int p3), .val (.int p4), .val (.int (4 : Int32)), .val (.ref b15), .val (.ref b20), .unset] []))
      refine Go.st (fun _ kq_ => XS.aload X20.here hx rfl (hb hby at_81) rfl rfl kq_) ?_
      show Go p e below s _ _ _ (T20.setTop (mkF m 83 #[.val (.int p0), .val (.int p1), .val (.int p2), .val (.int p3), .val (.int p4), .val (.int (4 : Int32)), .val (.ref b15), .val (.ref b20), .unset] [(.ref b20)]))
      refine Go.st (fun _ kq_ => own_len X20 hx hZ rfl V_b20 (g := (mkF m 83 #[.val (.int p0), .val (.int p1), .val (.int p2), .val (.int p3), .val (.int p4), .val (.int (4 : Int32)), .val (.ref b15), .val (.ref b20), .unset] [(.ref b20)])) rfl rfl (hb hby at_83) _ kq_) ?_
      show Go p e below s _ _ _ (T20.setTop (mkF m 84 #[.val (.int p0), .val (.int p1), .val (.int p2), .val (.int p3), .val (.int p4), .val (.int (4 : Int32)), .val (.ref b15), .val (.ref b20), .unset] [(.int (5 : Int32))]))
      refine Go.st (fun _ kq_ => XS.iload X20.here hx rfl (hb hby at_84) rfl kq_) ?_
      show Go p e below s _ _ _ (T20.setTop (mkF m 86 #[.val (.int p0), .val (.int p1), .val (.int p2), .val (.int p3), .val (.int p4), .val (.int (4 : Int32)), .val (.ref b15), .val (.ref b20), .unset] [(.int (4 : Int32)), (.int (5 : Int32))]))
      refine Go.st (fun _ kq_ => XS.iconst X20.here hx rfl (hb hby at_86) kq_) ?_
      show Go p e below s _ _ _ (T20.setTop (mkF m 87 #[.val (.int p0), .val (.int p1), .val (.int p2), .val (.int p3), .val (.int p4), .val (.int (4 : Int32)), .val (.ref b15), .val (.ref b20), .unset] [(.int (1 : Int32)), (.int (4 : Int32)), (.int (5 : Int32))]))
      refine Go.st (fun _ kq_ => XS.iadd X20.here hx rfl (hb hby at_87) rfl kq_) ?_
      show Go p e below s _ _ _ (T20.setTop (mkF m 88 #[.val (.int p0), .val (.int p1), .val (.int p2), .val (.int p3), .val (.int p4), .val (.int (4 : Int32)), .val (.ref b15), .val (.ref b20), .unset] [(.int (5 : Int32)), (.int (5 : Int32))]))
      refine Go.st (fun _ kq_ => XS.icmpYes X20.here hx rfl (pc0 := 88) (pc' := 93) rfl (hb hby at_88) rfl (by decide) (by decide) (by decide) kq_) ?_
      show Go p e below s _ _ _ (T20.setTop (mkF m 93 #[.val (.int p0), .val (.int p1), .val (.int p2), .val (.int p3), .val (.int p4), .val (.int (4 : Int32)), .val (.ref b15), .val (.ref b20), .unset] []))
      refine Go.st (fun _ kq_ => XS.aload X20.here hx rfl (hb hby at_93) rfl rfl kq_) ?_
      show Go p e below s _ _ _ (T20.setTop (mkF m 95 #[.val (.int p0), .val (.int p1), .val (.int p2), .val (.int p3), .val (.int p4), .val (.int (4 : Int32)), .val (.ref b15), .val (.ref b20), .unset] [(.ref b15)]))
      refine Go.st (fun _ kq_ => own_len X20 hx hZ rfl V_b15 (g := (mkF m 95 #[.val (.int p0), .val (.int p1), .val (.int p2), .val (.int p3), .val (.int p4), .val (.int (4 : Int32)), .val (.ref b15), .val (.ref b20), .unset] [(.ref b15)])) rfl rfl (hb hby at_95) _ kq_) ?_
      show Go p e below s _ _ _ (T20.setTop (mkF m 96 #[.val (.int p0), .val (.int p1), .val (.int p2), .val (.int p3), .val (.int p4), .val (.int (4 : Int32)), .val (.ref b15), .val (.ref b20), .unset] [(.int (4 : Int32))]))
      refine Go.st (fun _ kq_ => XS.iload X20.here hx rfl (hb hby at_96) rfl kq_) ?_
      show Go p e below s _ _ _ (T20.setTop (mkF m 98 #[.val (.int p0), .val (.int p1), .val (.int p2), .val (.int p3), .val (.int p4), .val (.int (4 : Int32)), .val (.ref b15), .val (.ref b20), .unset] [(.int (4 : Int32)), (.int (4 : Int32))]))
      refine Go.st (fun _ kq_ => XS.icmpYes X20.here hx rfl (pc0 := 98) (pc' := 103) rfl (hb hby at_98) rfl (by decide) (by decide) (by decide) kq_) ?_
      show Go p e below s _ _ _ (T20.setTop (mkF m 103 #[.val (.int p0), .val (.int p1), .val (.int p2), .val (.int p3), .val (.int p4), .val (.int (4 : Int32)), .val (.ref b15), .val (.ref b20), .unset] []))
      refine Go.st (fun _ kq_ => XS.aload X20.here hx rfl (hb hby at_103) rfl rfl kq_) ?_
      show Go p e below s _ _ _ (T20.setTop (mkF m 105 #[.val (.int p0), .val (.int p1), .val (.int p2), .val (.int p3), .val (.int p4), .val (.int (4 : Int32)), .val (.ref b15), .val (.ref b20), .unset] [(.ref b20)]))
      refine Go.st (fun _ kq_ => XS.iload X20.here hx rfl (hb hby at_105) rfl kq_) ?_
      show Go p e below s _ _ _ (T20.setTop (mkF m 107 #[.val (.int p0), .val (.int p1), .val (.int p2), .val (.int p3), .val (.int p4), .val (.int (4 : Int32)), .val (.ref b15), .val (.ref b20), .unset] [(.int (4 : Int32)), (.ref b20)]))
      refine Go.st (fun _ kq_ => own_baloadB X20 hx hZ rfl V_b20 (by decide) (by decide) (v := (.int (10 : Int32))) rfl (g := (mkF m 107 #[.val (.int p0), .val (.int p1), .val (.int p2), .val (.int p3), .val (.int p4), .val (.int (4 : Int32)), .val (.ref b15), .val (.ref b20), .unset] [(.int (4 : Int32)), (.ref b20)])) rfl rfl (hb hby at_107) _ kq_) ?_
      show Go p e below s _ _ _ (T20.setTop (mkF m 108 #[.val (.int p0), .val (.int p1), .val (.int p2), .val (.int p3), .val (.int p4), .val (.int (4 : Int32)), .val (.ref b15), .val (.ref b20), .unset] [(.int (10 : Int32))]))
      refine Go.st (fun _ kq_ => XS.bipush X20.here hx rfl (hb hby at_108) kq_) ?_
      show Go p e below s _ _ _ (T20.setTop (mkF m 110 #[.val (.int p0), .val (.int p1), .val (.int p2), .val (.int p3), .val (.int p4), .val (.int (4 : Int32)), .val (.ref b15), .val (.ref b20), .unset] [(.int (10 : Int32)), (.int (10 : Int32))]))
      refine Go.st (fun _ kq_ => XS.icmpNo X20.here hx rfl (hb hby at_110) rfl (by decide) kq_) ?_
      show Go p e below s _ _ _ (T20.setTop (mkF m 113 #[.val (.int p0), .val (.int p1), .val (.int p2), .val (.int p3), .val (.int p4), .val (.int (4 : Int32)), .val (.ref b15), .val (.ref b20), .unset] []))
      refine Go.st (fun _ kq_ => XS.iconst X20.here hx rfl (hb hby at_113) kq_) ?_
      show Go p e below s _ _ _ (T20.setTop (mkF m 114 #[.val (.int p0), .val (.int p1), .val (.int p2), .val (.int p3), .val (.int p4), .val (.int (4 : Int32)), .val (.ref b15), .val (.ref b20), .unset] [(.int (1 : Int32))]))
      refine Go.st (fun _ kq_ => XS.goto X20.here hx rfl (pc0 := 114) (pc' := 118) rfl (hb hby at_114) (by decide) (by decide) kq_) ?_
      show Go p e below s _ _ _ (T20.setTop (mkF m 118 #[.val (.int p0), .val (.int p1), .val (.int p2), .val (.int p3), .val (.int p4), .val (.int (4 : Int32)), .val (.ref b15), .val (.ref b20), .unset] [(.int (1 : Int32))]))
      refine Go.st (fun _ kq_ => XS.istore X20.here hx rfl (hb hby at_118) rfl (l' := #[.val (.int p0), .val (.int p1), .val (.int p2), .val (.int p3), .val (.int p4), .val (.int (4 : Int32)), .val (.ref b15), .val (.ref b20), .val (.int (1 : Int32))]) rfl kq_) ?_
      show Go p e below s _ _ _ (T20.setTop (mkF m 120 #[.val (.int p0), .val (.int p1), .val (.int p2), .val (.int p3), .val (.int p4), .val (.int (4 : Int32)), .val (.ref b15), .val (.ref b20), .val (.int (1 : Int32))] []))
      refine Go.st (fun _ kq_ => XS.iload X20.here hx rfl (hb hby at_120) rfl kq_) ?_
      show Go p e below s _ _ _ (T20.setTop (mkF m 122 #[.val (.int p0), .val (.int p1), .val (.int p2), .val (.int p3), .val (.int p4), .val (.int (4 : Int32)), .val (.ref b15), .val (.ref b20), .val (.int (1 : Int32))] [(.int (1 : Int32))]))
      refine Go.st (fun _ kq_ => XS.ifNo X20.here hx rfl (hb hby at_122) rfl (by decide) kq_) ?_
      show Go p e below s _ _ _ (T20.setTop (mkF m 125 #[.val (.int p0), .val (.int p1), .val (.int p2), .val (.int p3), .val (.int p4), .val (.int (4 : Int32)), .val (.ref b15), .val (.ref b20), .val (.int (1 : Int32))] []))
      refine Go.st (fun _ kq_ => XS.iload X20.here hx rfl (hb hby at_125) rfl kq_) ?_
      show Go p e below s _ _ _ (T20.setTop (mkF m 127 #[.val (.int p0), .val (.int p1), .val (.int p2), .val (.int p3), .val (.int p4), .val (.int (4 : Int32)), .val (.ref b15), .val (.ref b20), .val (.int (1 : Int32))] [(.int (4 : Int32))]))
      refine Go.st (fun _ kq_ => XS.iconst X20.here hx rfl (hb hby at_127) kq_) ?_
      show Go p e below s _ _ _ (T20.setTop (mkF m 128 #[.val (.int p0), .val (.int p1), .val (.int p2), .val (.int p3), .val (.int p4), .val (.int (4 : Int32)), .val (.ref b15), .val (.ref b20), .val (.int (1 : Int32))] [(.int (1 : Int32)), (.int (4 : Int32))]))
      refine Go.st (fun _ kq_ => XS.icmpNo X20.here hx rfl (hb hby at_128) rfl (by decide) kq_) ?_
      show Go p e below s _ _ _ (T20.setTop (mkF m 131 #[.val (.int p0), .val (.int p1), .val (.int p2), .val (.int p3), .val (.int p4), .val (.int (4 : Int32)), .val (.ref b15), .val (.ref b20), .val (.int (1 : Int32))] []))
      refine Go.st (fun _ kq_ => XS.aload X20.here hx rfl (hb hby at_131) rfl rfl kq_) ?_
      show Go p e below s _ _ _ (T20.setTop (mkF m 133 #[.val (.int p0), .val (.int p1), .val (.int p2), .val (.int p3), .val (.int p4), .val (.int (4 : Int32)), .val (.ref b15), .val (.ref b20), .val (.int (1 : Int32))] [(.ref b20)]))
      refine Go.st (fun _ kq_ => XS.iconst X20.here hx rfl (hb hby at_133) kq_) ?_
      show Go p e below s _ _ _ (T20.setTop (mkF m 134 #[.val (.int p0), .val (.int p1), .val (.int p2), .val (.int p3), .val (.int p4), .val (.int (4 : Int32)), .val (.ref b15), .val (.ref b20), .val (.int (1 : Int32))] [(.int (0 : Int32)), (.ref b20)]))
      refine Go.st (fun _ kq_ => own_baloadB X20 hx hZ rfl V_b20 (by decide) (by decide) (v := (.int (nar .byte (p1.toInt8.toInt32)))) rfl (g := (mkF m 134 #[.val (.int p0), .val (.int p1), .val (.int p2), .val (.int p3), .val (.int p4), .val (.int (4 : Int32)), .val (.ref b15), .val (.ref b20), .val (.int (1 : Int32))] [(.int (0 : Int32)), (.ref b20)])) rfl rfl (hb hby at_134) _ kq_) ?_
      show Go p e below s _ _ _ (T20.setTop (mkF m 135 #[.val (.int p0), .val (.int p1), .val (.int p2), .val (.int p3), .val (.int p4), .val (.int (4 : Int32)), .val (.ref b15), .val (.ref b20), .val (.int (1 : Int32))] [(.int (nar .byte (p1.toInt8.toInt32)))]))
      refine Go.st (fun _ kq_ => XS.iloadN X20.here hx rfl (hb hby at_135) rfl kq_) ?_
      show Go p e below s _ _ _ (T20.setTop (mkF m 136 #[.val (.int p0), .val (.int p1), .val (.int p2), .val (.int p3), .val (.int p4), .val (.int (4 : Int32)), .val (.ref b15), .val (.ref b20), .val (.int (1 : Int32))] [(.int p1), (.int (nar .byte (p1.toInt8.toInt32)))]))
      refine Go.st (fun _ kq_ => XT.i2b X20.here hx rfl (hb hby at_136) rfl kq_) ?_
      show Go p e below s _ _ _ (T20.setTop (mkF m 137 #[.val (.int p0), .val (.int p1), .val (.int p2), .val (.int p3), .val (.int p4), .val (.int (4 : Int32)), .val (.ref b15), .val (.ref b20), .val (.int (1 : Int32))] [(.int (p1.toInt8.toInt32)), (.int (nar .byte (p1.toInt8.toInt32)))]))
      refine Go.st (fun _ kq_ => XS.icmpNo X20.here hx rfl (hb hby at_137) rfl (XT.ii_ne_f (own_nb _)) kq_) ?_
      show Go p e below s _ _ _ (T20.setTop (mkF m 140 #[.val (.int p0), .val (.int p1), .val (.int p2), .val (.int p3), .val (.int p4), .val (.int (4 : Int32)), .val (.ref b15), .val (.ref b20), .val (.int (1 : Int32))] []))
      refine Go.st (fun _ kq_ => XS.aload X20.here hx rfl (hb hby at_140) rfl rfl kq_) ?_
      show Go p e below s _ _ _ (T20.setTop (mkF m 142 #[.val (.int p0), .val (.int p1), .val (.int p2), .val (.int p3), .val (.int p4), .val (.int (4 : Int32)), .val (.ref b15), .val (.ref b20), .val (.int (1 : Int32))] [(.ref b15)]))
      refine Go.st (fun _ kq_ => XS.iconst X20.here hx rfl (hb hby at_142) kq_) ?_
      show Go p e below s _ _ _ (T20.setTop (mkF m 143 #[.val (.int p0), .val (.int p1), .val (.int p2), .val (.int p3), .val (.int p4), .val (.int (4 : Int32)), .val (.ref b15), .val (.ref b20), .val (.int (1 : Int32))] [(.int (0 : Int32)), (.ref b15)]))
      refine Go.st (fun _ kq_ => own_baloadB X20 hx hZ rfl V_b15 (by decide) (by decide) (v := (.int (nar .byte (p1.toInt8.toInt32)))) rfl (g := (mkF m 143 #[.val (.int p0), .val (.int p1), .val (.int p2), .val (.int p3), .val (.int p4), .val (.int (4 : Int32)), .val (.ref b15), .val (.ref b20), .val (.int (1 : Int32))] [(.int (0 : Int32)), (.ref b15)])) rfl rfl (hb hby at_143) _ kq_) ?_
      show Go p e below s _ _ _ (T20.setTop (mkF m 144 #[.val (.int p0), .val (.int p1), .val (.int p2), .val (.int p3), .val (.int p4), .val (.int (4 : Int32)), .val (.ref b15), .val (.ref b20), .val (.int (1 : Int32))] [(.int (nar .byte (p1.toInt8.toInt32)))]))
      refine Go.st (fun _ kq_ => XS.iloadN X20.here hx rfl (hb hby at_144) rfl kq_) ?_
      show Go p e below s _ _ _ (T20.setTop (mkF m 145 #[.val (.int p0), .val (.int p1), .val (.int p2), .val (.int p3), .val (.int p4), .val (.int (4 : Int32)), .val (.ref b15), .val (.ref b20), .val (.int (1 : Int32))] [(.int p1), (.int (nar .byte (p1.toInt8.toInt32)))]))
      refine Go.st (fun _ kq_ => XT.i2b X20.here hx rfl (hb hby at_145) rfl kq_) ?_
      show Go p e below s _ _ _ (T20.setTop (mkF m 146 #[.val (.int p0), .val (.int p1), .val (.int p2), .val (.int p3), .val (.int p4), .val (.int (4 : Int32)), .val (.ref b15), .val (.ref b20), .val (.int (1 : Int32))] [(.int (p1.toInt8.toInt32)), (.int (nar .byte (p1.toInt8.toInt32)))]))
      refine Go.st (fun _ kq_ => XS.icmpNo X20.here hx rfl (hb hby at_146) rfl (XT.ii_ne_f (own_nb _)) kq_) ?_
      show Go p e below s _ _ _ (T20.setTop (mkF m 149 #[.val (.int p0), .val (.int p1), .val (.int p2), .val (.int p3), .val (.int p4), .val (.int (4 : Int32)), .val (.ref b15), .val (.ref b20), .val (.int (1 : Int32))] []))
      refine Go.st (fun _ kq_ => XS.iconst X20.here hx rfl (hb hby at_149) kq_) ?_
      show Go p e below s _ _ _ (T20.setTop (mkF m 150 #[.val (.int p0), .val (.int p1), .val (.int p2), .val (.int p3), .val (.int p4), .val (.int (4 : Int32)), .val (.ref b15), .val (.ref b20), .val (.int (1 : Int32))] [(.int (1 : Int32))]))
      refine Go.st (fun _ kq_ => XS.goto X20.here hx rfl (pc0 := 150) (pc' := 154) rfl (hb hby at_150) (by decide) (by decide) kq_) ?_
      show Go p e below s _ _ _ (T20.setTop (mkF m 154 #[.val (.int p0), .val (.int p1), .val (.int p2), .val (.int p3), .val (.int p4), .val (.int (4 : Int32)), .val (.ref b15), .val (.ref b20), .val (.int (1 : Int32))] [(.int (1 : Int32))]))
      refine Go.st (fun _ kq_ => XS.istore X20.here hx rfl (hb hby at_154) rfl (l' := #[.val (.int p0), .val (.int p1), .val (.int p2), .val (.int p3), .val (.int p4), .val (.int (4 : Int32)), .val (.ref b15), .val (.ref b20), .val (.int (1 : Int32))]) rfl kq_) ?_
      show Go p e below s _ _ _ (T20.setTop (mkF m 156 #[.val (.int p0), .val (.int p1), .val (.int p2), .val (.int p3), .val (.int p4), .val (.int (4 : Int32)), .val (.ref b15), .val (.ref b20), .val (.int (1 : Int32))] []))
      refine Go.st (fun _ kq_ => XS.iload X20.here hx rfl (hb hby at_156) rfl kq_) ?_
      show Go p e below s _ _ _ (T20.setTop (mkF m 158 #[.val (.int p0), .val (.int p1), .val (.int p2), .val (.int p3), .val (.int p4), .val (.int (4 : Int32)), .val (.ref b15), .val (.ref b20), .val (.int (1 : Int32))] [(.int (1 : Int32))]))
      refine Go.st (fun _ kq_ => XS.ifNo X20.here hx rfl (hb hby at_158) rfl (by decide) kq_) ?_
      show Go p e below s _ _ _ (T20.setTop (mkF m 161 #[.val (.int p0), .val (.int p1), .val (.int p2), .val (.int p3), .val (.int p4), .val (.int (4 : Int32)), .val (.ref b15), .val (.ref b20), .val (.int (1 : Int32))] []))
      refine Go.st (fun _ kq_ => XS.iload X20.here hx rfl (hb hby at_161) rfl kq_) ?_
      show Go p e below s _ _ _ (T20.setTop (mkF m 163 #[.val (.int p0), .val (.int p1), .val (.int p2), .val (.int p3), .val (.int p4), .val (.int (4 : Int32)), .val (.ref b15), .val (.ref b20), .val (.int (1 : Int32))] [(.int (4 : Int32))]))
      refine Go.st (fun _ kq_ => XS.iconst X20.here hx rfl (hb hby at_163) kq_) ?_
      show Go p e below s _ _ _ (T20.setTop (mkF m 164 #[.val (.int p0), .val (.int p1), .val (.int p2), .val (.int p3), .val (.int p4), .val (.int (4 : Int32)), .val (.ref b15), .val (.ref b20), .val (.int (1 : Int32))] [(.int (2 : Int32)), (.int (4 : Int32))]))
      refine Go.st (fun _ kq_ => XS.icmpNo X20.here hx rfl (hb hby at_164) rfl (by decide) kq_) ?_
      show Go p e below s _ _ _ (T20.setTop (mkF m 167 #[.val (.int p0), .val (.int p1), .val (.int p2), .val (.int p3), .val (.int p4), .val (.int (4 : Int32)), .val (.ref b15), .val (.ref b20), .val (.int (1 : Int32))] []))
      refine Go.st (fun _ kq_ => XS.aload X20.here hx rfl (hb hby at_167) rfl rfl kq_) ?_
      show Go p e below s _ _ _ (T20.setTop (mkF m 169 #[.val (.int p0), .val (.int p1), .val (.int p2), .val (.int p3), .val (.int p4), .val (.int (4 : Int32)), .val (.ref b15), .val (.ref b20), .val (.int (1 : Int32))] [(.ref b20)]))
      refine Go.st (fun _ kq_ => XS.iconst X20.here hx rfl (hb hby at_169) kq_) ?_
      show Go p e below s _ _ _ (T20.setTop (mkF m 170 #[.val (.int p0), .val (.int p1), .val (.int p2), .val (.int p3), .val (.int p4), .val (.int (4 : Int32)), .val (.ref b15), .val (.ref b20), .val (.int (1 : Int32))] [(.int (1 : Int32)), (.ref b20)]))
      refine Go.st (fun _ kq_ => own_baloadB X20 hx hZ rfl V_b20 (by decide) (by decide) (v := (.int (nar .byte (p2.toInt8.toInt32)))) rfl (g := (mkF m 170 #[.val (.int p0), .val (.int p1), .val (.int p2), .val (.int p3), .val (.int p4), .val (.int (4 : Int32)), .val (.ref b15), .val (.ref b20), .val (.int (1 : Int32))] [(.int (1 : Int32)), (.ref b20)])) rfl rfl (hb hby at_170) _ kq_) ?_
      show Go p e below s _ _ _ (T20.setTop (mkF m 171 #[.val (.int p0), .val (.int p1), .val (.int p2), .val (.int p3), .val (.int p4), .val (.int (4 : Int32)), .val (.ref b15), .val (.ref b20), .val (.int (1 : Int32))] [(.int (nar .byte (p2.toInt8.toInt32)))]))
      refine Go.st (fun _ kq_ => XS.iloadN X20.here hx rfl (hb hby at_171) rfl kq_) ?_
      show Go p e below s _ _ _ (T20.setTop (mkF m 172 #[.val (.int p0), .val (.int p1), .val (.int p2), .val (.int p3), .val (.int p4), .val (.int (4 : Int32)), .val (.ref b15), .val (.ref b20), .val (.int (1 : Int32))] [(.int p2), (.int (nar .byte (p2.toInt8.toInt32)))]))
      refine Go.st (fun _ kq_ => XT.i2b X20.here hx rfl (hb hby at_172) rfl kq_) ?_
      show Go p e below s _ _ _ (T20.setTop (mkF m 173 #[.val (.int p0), .val (.int p1), .val (.int p2), .val (.int p3), .val (.int p4), .val (.int (4 : Int32)), .val (.ref b15), .val (.ref b20), .val (.int (1 : Int32))] [(.int (p2.toInt8.toInt32)), (.int (nar .byte (p2.toInt8.toInt32)))]))
      refine Go.st (fun _ kq_ => XS.icmpNo X20.here hx rfl (hb hby at_173) rfl (XT.ii_ne_f (own_nb _)) kq_) ?_
      show Go p e below s _ _ _ (T20.setTop (mkF m 176 #[.val (.int p0), .val (.int p1), .val (.int p2), .val (.int p3), .val (.int p4), .val (.int (4 : Int32)), .val (.ref b15), .val (.ref b20), .val (.int (1 : Int32))] []))
      refine Go.st (fun _ kq_ => XS.aload X20.here hx rfl (hb hby at_176) rfl rfl kq_) ?_
      show Go p e below s _ _ _ (T20.setTop (mkF m 178 #[.val (.int p0), .val (.int p1), .val (.int p2), .val (.int p3), .val (.int p4), .val (.int (4 : Int32)), .val (.ref b15), .val (.ref b20), .val (.int (1 : Int32))] [(.ref b15)]))
      refine Go.st (fun _ kq_ => XS.iconst X20.here hx rfl (hb hby at_178) kq_) ?_
      show Go p e below s _ _ _ (T20.setTop (mkF m 179 #[.val (.int p0), .val (.int p1), .val (.int p2), .val (.int p3), .val (.int p4), .val (.int (4 : Int32)), .val (.ref b15), .val (.ref b20), .val (.int (1 : Int32))] [(.int (1 : Int32)), (.ref b15)]))
      refine Go.st (fun _ kq_ => own_baloadB X20 hx hZ rfl V_b15 (by decide) (by decide) (v := (.int (nar .byte (p2.toInt8.toInt32)))) rfl (g := (mkF m 179 #[.val (.int p0), .val (.int p1), .val (.int p2), .val (.int p3), .val (.int p4), .val (.int (4 : Int32)), .val (.ref b15), .val (.ref b20), .val (.int (1 : Int32))] [(.int (1 : Int32)), (.ref b15)])) rfl rfl (hb hby at_179) _ kq_) ?_
      show Go p e below s _ _ _ (T20.setTop (mkF m 180 #[.val (.int p0), .val (.int p1), .val (.int p2), .val (.int p3), .val (.int p4), .val (.int (4 : Int32)), .val (.ref b15), .val (.ref b20), .val (.int (1 : Int32))] [(.int (nar .byte (p2.toInt8.toInt32)))]))
      refine Go.st (fun _ kq_ => XS.iloadN X20.here hx rfl (hb hby at_180) rfl kq_) ?_
      show Go p e below s _ _ _ (T20.setTop (mkF m 181 #[.val (.int p0), .val (.int p1), .val (.int p2), .val (.int p3), .val (.int p4), .val (.int (4 : Int32)), .val (.ref b15), .val (.ref b20), .val (.int (1 : Int32))] [(.int p2), (.int (nar .byte (p2.toInt8.toInt32)))]))
      refine Go.st (fun _ kq_ => XT.i2b X20.here hx rfl (hb hby at_181) rfl kq_) ?_
      show Go p e below s _ _ _ (T20.setTop (mkF m 182 #[.val (.int p0), .val (.int p1), .val (.int p2), .val (.int p3), .val (.int p4), .val (.int (4 : Int32)), .val (.ref b15), .val (.ref b20), .val (.int (1 : Int32))] [(.int (p2.toInt8.toInt32)), (.int (nar .byte (p2.toInt8.toInt32)))]))
      refine Go.st (fun _ kq_ => XS.icmpNo X20.here hx rfl (hb hby at_182) rfl (XT.ii_ne_f (own_nb _)) kq_) ?_
      show Go p e below s _ _ _ (T20.setTop (mkF m 185 #[.val (.int p0), .val (.int p1), .val (.int p2), .val (.int p3), .val (.int p4), .val (.int (4 : Int32)), .val (.ref b15), .val (.ref b20), .val (.int (1 : Int32))] []))
      refine Go.st (fun _ kq_ => XS.iconst X20.here hx rfl (hb hby at_185) kq_) ?_
      show Go p e below s _ _ _ (T20.setTop (mkF m 186 #[.val (.int p0), .val (.int p1), .val (.int p2), .val (.int p3), .val (.int p4), .val (.int (4 : Int32)), .val (.ref b15), .val (.ref b20), .val (.int (1 : Int32))] [(.int (1 : Int32))]))
      refine Go.st (fun _ kq_ => XS.goto X20.here hx rfl (pc0 := 186) (pc' := 190) rfl (hb hby at_186) (by decide) (by decide) kq_) ?_
      show Go p e below s _ _ _ (T20.setTop (mkF m 190 #[.val (.int p0), .val (.int p1), .val (.int p2), .val (.int p3), .val (.int p4), .val (.int (4 : Int32)), .val (.ref b15), .val (.ref b20), .val (.int (1 : Int32))] [(.int (1 : Int32))]))
      refine Go.st (fun _ kq_ => XS.istore X20.here hx rfl (hb hby at_190) rfl (l' := #[.val (.int p0), .val (.int p1), .val (.int p2), .val (.int p3), .val (.int p4), .val (.int (4 : Int32)), .val (.ref b15), .val (.ref b20), .val (.int (1 : Int32))]) rfl kq_) ?_
      show Go p e below s _ _ _ (T20.setTop (mkF m 192 #[.val (.int p0), .val (.int p1), .val (.int p2), .val (.int p3), .val (.int p4), .val (.int (4 : Int32)), .val (.ref b15), .val (.ref b20), .val (.int (1 : Int32))] []))
      refine Go.st (fun _ kq_ => XS.iload X20.here hx rfl (hb hby at_192) rfl kq_) ?_
      show Go p e below s _ _ _ (T20.setTop (mkF m 194 #[.val (.int p0), .val (.int p1), .val (.int p2), .val (.int p3), .val (.int p4), .val (.int (4 : Int32)), .val (.ref b15), .val (.ref b20), .val (.int (1 : Int32))] [(.int (1 : Int32))]))
      refine Go.st (fun _ kq_ => XS.ifNo X20.here hx rfl (hb hby at_194) rfl (by decide) kq_) ?_
      show Go p e below s _ _ _ (T20.setTop (mkF m 197 #[.val (.int p0), .val (.int p1), .val (.int p2), .val (.int p3), .val (.int p4), .val (.int (4 : Int32)), .val (.ref b15), .val (.ref b20), .val (.int (1 : Int32))] []))
      refine Go.st (fun _ kq_ => XS.iload X20.here hx rfl (hb hby at_197) rfl kq_) ?_
      show Go p e below s _ _ _ (T20.setTop (mkF m 199 #[.val (.int p0), .val (.int p1), .val (.int p2), .val (.int p3), .val (.int p4), .val (.int (4 : Int32)), .val (.ref b15), .val (.ref b20), .val (.int (1 : Int32))] [(.int (4 : Int32))]))
      refine Go.st (fun _ kq_ => XS.iconst X20.here hx rfl (hb hby at_199) kq_) ?_
      show Go p e below s _ _ _ (T20.setTop (mkF m 200 #[.val (.int p0), .val (.int p1), .val (.int p2), .val (.int p3), .val (.int p4), .val (.int (4 : Int32)), .val (.ref b15), .val (.ref b20), .val (.int (1 : Int32))] [(.int (3 : Int32)), (.int (4 : Int32))]))
      refine Go.st (fun _ kq_ => XS.icmpNo X20.here hx rfl (hb hby at_200) rfl (by decide) kq_) ?_
      show Go p e below s _ _ _ (T20.setTop (mkF m 203 #[.val (.int p0), .val (.int p1), .val (.int p2), .val (.int p3), .val (.int p4), .val (.int (4 : Int32)), .val (.ref b15), .val (.ref b20), .val (.int (1 : Int32))] []))
      refine Go.st (fun _ kq_ => XS.aload X20.here hx rfl (hb hby at_203) rfl rfl kq_) ?_
      show Go p e below s _ _ _ (T20.setTop (mkF m 205 #[.val (.int p0), .val (.int p1), .val (.int p2), .val (.int p3), .val (.int p4), .val (.int (4 : Int32)), .val (.ref b15), .val (.ref b20), .val (.int (1 : Int32))] [(.ref b20)]))
      refine Go.st (fun _ kq_ => XS.iconst X20.here hx rfl (hb hby at_205) kq_) ?_
      show Go p e below s _ _ _ (T20.setTop (mkF m 206 #[.val (.int p0), .val (.int p1), .val (.int p2), .val (.int p3), .val (.int p4), .val (.int (4 : Int32)), .val (.ref b15), .val (.ref b20), .val (.int (1 : Int32))] [(.int (2 : Int32)), (.ref b20)]))
      refine Go.st (fun _ kq_ => own_baloadB X20 hx hZ rfl V_b20 (by decide) (by decide) (v := (.int (nar .byte (p3.toInt8.toInt32)))) rfl (g := (mkF m 206 #[.val (.int p0), .val (.int p1), .val (.int p2), .val (.int p3), .val (.int p4), .val (.int (4 : Int32)), .val (.ref b15), .val (.ref b20), .val (.int (1 : Int32))] [(.int (2 : Int32)), (.ref b20)])) rfl rfl (hb hby at_206) _ kq_) ?_
      show Go p e below s _ _ _ (T20.setTop (mkF m 207 #[.val (.int p0), .val (.int p1), .val (.int p2), .val (.int p3), .val (.int p4), .val (.int (4 : Int32)), .val (.ref b15), .val (.ref b20), .val (.int (1 : Int32))] [(.int (nar .byte (p3.toInt8.toInt32)))]))
      refine Go.st (fun _ kq_ => XS.iloadN X20.here hx rfl (hb hby at_207) rfl kq_) ?_
      show Go p e below s _ _ _ (T20.setTop (mkF m 208 #[.val (.int p0), .val (.int p1), .val (.int p2), .val (.int p3), .val (.int p4), .val (.int (4 : Int32)), .val (.ref b15), .val (.ref b20), .val (.int (1 : Int32))] [(.int p3), (.int (nar .byte (p3.toInt8.toInt32)))]))
      refine Go.st (fun _ kq_ => XT.i2b X20.here hx rfl (hb hby at_208) rfl kq_) ?_
      show Go p e below s _ _ _ (T20.setTop (mkF m 209 #[.val (.int p0), .val (.int p1), .val (.int p2), .val (.int p3), .val (.int p4), .val (.int (4 : Int32)), .val (.ref b15), .val (.ref b20), .val (.int (1 : Int32))] [(.int (p3.toInt8.toInt32)), (.int (nar .byte (p3.toInt8.toInt32)))]))
      refine Go.st (fun _ kq_ => XS.icmpNo X20.here hx rfl (hb hby at_209) rfl (XT.ii_ne_f (own_nb _)) kq_) ?_
      show Go p e below s _ _ _ (T20.setTop (mkF m 212 #[.val (.int p0), .val (.int p1), .val (.int p2), .val (.int p3), .val (.int p4), .val (.int (4 : Int32)), .val (.ref b15), .val (.ref b20), .val (.int (1 : Int32))] []))
      refine Go.st (fun _ kq_ => XS.aload X20.here hx rfl (hb hby at_212) rfl rfl kq_) ?_
      show Go p e below s _ _ _ (T20.setTop (mkF m 214 #[.val (.int p0), .val (.int p1), .val (.int p2), .val (.int p3), .val (.int p4), .val (.int (4 : Int32)), .val (.ref b15), .val (.ref b20), .val (.int (1 : Int32))] [(.ref b15)]))
      refine Go.st (fun _ kq_ => XS.iconst X20.here hx rfl (hb hby at_214) kq_) ?_
      show Go p e below s _ _ _ (T20.setTop (mkF m 215 #[.val (.int p0), .val (.int p1), .val (.int p2), .val (.int p3), .val (.int p4), .val (.int (4 : Int32)), .val (.ref b15), .val (.ref b20), .val (.int (1 : Int32))] [(.int (2 : Int32)), (.ref b15)]))
      refine Go.st (fun _ kq_ => own_baloadB X20 hx hZ rfl V_b15 (by decide) (by decide) (v := (.int (nar .byte (p3.toInt8.toInt32)))) rfl (g := (mkF m 215 #[.val (.int p0), .val (.int p1), .val (.int p2), .val (.int p3), .val (.int p4), .val (.int (4 : Int32)), .val (.ref b15), .val (.ref b20), .val (.int (1 : Int32))] [(.int (2 : Int32)), (.ref b15)])) rfl rfl (hb hby at_215) _ kq_) ?_
      show Go p e below s _ _ _ (T20.setTop (mkF m 216 #[.val (.int p0), .val (.int p1), .val (.int p2), .val (.int p3), .val (.int p4), .val (.int (4 : Int32)), .val (.ref b15), .val (.ref b20), .val (.int (1 : Int32))] [(.int (nar .byte (p3.toInt8.toInt32)))]))
      refine Go.st (fun _ kq_ => XS.iloadN X20.here hx rfl (hb hby at_216) rfl kq_) ?_
      show Go p e below s _ _ _ (T20.setTop (mkF m 217 #[.val (.int p0), .val (.int p1), .val (.int p2), .val (.int p3), .val (.int p4), .val (.int (4 : Int32)), .val (.ref b15), .val (.ref b20), .val (.int (1 : Int32))] [(.int p3), (.int (nar .byte (p3.toInt8.toInt32)))]))
      refine Go.st (fun _ kq_ => XT.i2b X20.here hx rfl (hb hby at_217) rfl kq_) ?_
      show Go p e below s _ _ _ (T20.setTop (mkF m 218 #[.val (.int p0), .val (.int p1), .val (.int p2), .val (.int p3), .val (.int p4), .val (.int (4 : Int32)), .val (.ref b15), .val (.ref b20), .val (.int (1 : Int32))] [(.int (p3.toInt8.toInt32)), (.int (nar .byte (p3.toInt8.toInt32)))]))
      refine Go.st (fun _ kq_ => XS.icmpNo X20.here hx rfl (hb hby at_218) rfl (XT.ii_ne_f (own_nb _)) kq_) ?_
      show Go p e below s _ _ _ (T20.setTop (mkF m 221 #[.val (.int p0), .val (.int p1), .val (.int p2), .val (.int p3), .val (.int p4), .val (.int (4 : Int32)), .val (.ref b15), .val (.ref b20), .val (.int (1 : Int32))] []))
      refine Go.st (fun _ kq_ => XS.iconst X20.here hx rfl (hb hby at_221) kq_) ?_
      show Go p e below s _ _ _ (T20.setTop (mkF m 222 #[.val (.int p0), .val (.int p1), .val (.int p2), .val (.int p3), .val (.int p4), .val (.int (4 : Int32)), .val (.ref b15), .val (.ref b20), .val (.int (1 : Int32))] [(.int (1 : Int32))]))
      refine Go.st (fun _ kq_ => XS.goto X20.here hx rfl (pc0 := 222) (pc' := 226) rfl (hb hby at_222) (by decide) (by decide) kq_) ?_
      show Go p e below s _ _ _ (T20.setTop (mkF m 226 #[.val (.int p0), .val (.int p1), .val (.int p2), .val (.int p3), .val (.int p4), .val (.int (4 : Int32)), .val (.ref b15), .val (.ref b20), .val (.int (1 : Int32))] [(.int (1 : Int32))]))
      refine Go.st (fun _ kq_ => XS.istore X20.here hx rfl (hb hby at_226) rfl (l' := #[.val (.int p0), .val (.int p1), .val (.int p2), .val (.int p3), .val (.int p4), .val (.int (4 : Int32)), .val (.ref b15), .val (.ref b20), .val (.int (1 : Int32))]) rfl kq_) ?_
      show Go p e below s _ _ _ (T20.setTop (mkF m 228 #[.val (.int p0), .val (.int p1), .val (.int p2), .val (.int p3), .val (.int p4), .val (.int (4 : Int32)), .val (.ref b15), .val (.ref b20), .val (.int (1 : Int32))] []))
      refine Go.st (fun _ kq_ => XS.iload X20.here hx rfl (hb hby at_228) rfl kq_) ?_
      show Go p e below s _ _ _ (T20.setTop (mkF m 230 #[.val (.int p0), .val (.int p1), .val (.int p2), .val (.int p3), .val (.int p4), .val (.int (4 : Int32)), .val (.ref b15), .val (.ref b20), .val (.int (1 : Int32))] [(.int (1 : Int32))]))
      refine Go.st (fun _ kq_ => XS.ifNo X20.here hx rfl (hb hby at_230) rfl (by decide) kq_) ?_
      show Go p e below s _ _ _ (T20.setTop (mkF m 233 #[.val (.int p0), .val (.int p1), .val (.int p2), .val (.int p3), .val (.int p4), .val (.int (4 : Int32)), .val (.ref b15), .val (.ref b20), .val (.int (1 : Int32))] []))
      refine Go.st (fun _ kq_ => XS.iload X20.here hx rfl (hb hby at_233) rfl kq_) ?_
      show Go p e below s _ _ _ (T20.setTop (mkF m 235 #[.val (.int p0), .val (.int p1), .val (.int p2), .val (.int p3), .val (.int p4), .val (.int (4 : Int32)), .val (.ref b15), .val (.ref b20), .val (.int (1 : Int32))] [(.int (4 : Int32))]))
      refine Go.st (fun _ kq_ => XS.iconst X20.here hx rfl (hb hby at_235) kq_) ?_
      show Go p e below s _ _ _ (T20.setTop (mkF m 236 #[.val (.int p0), .val (.int p1), .val (.int p2), .val (.int p3), .val (.int p4), .val (.int (4 : Int32)), .val (.ref b15), .val (.ref b20), .val (.int (1 : Int32))] [(.int (4 : Int32)), (.int (4 : Int32))]))
      refine Go.st (fun _ kq_ => XS.icmpNo X20.here hx rfl (hb hby at_236) rfl (by decide) kq_) ?_
      show Go p e below s _ _ _ (T20.setTop (mkF m 239 #[.val (.int p0), .val (.int p1), .val (.int p2), .val (.int p3), .val (.int p4), .val (.int (4 : Int32)), .val (.ref b15), .val (.ref b20), .val (.int (1 : Int32))] []))
      refine Go.st (fun _ kq_ => XS.aload X20.here hx rfl (hb hby at_239) rfl rfl kq_) ?_
      show Go p e below s _ _ _ (T20.setTop (mkF m 241 #[.val (.int p0), .val (.int p1), .val (.int p2), .val (.int p3), .val (.int p4), .val (.int (4 : Int32)), .val (.ref b15), .val (.ref b20), .val (.int (1 : Int32))] [(.ref b20)]))
      refine Go.st (fun _ kq_ => XS.iconst X20.here hx rfl (hb hby at_241) kq_) ?_
      show Go p e below s _ _ _ (T20.setTop (mkF m 242 #[.val (.int p0), .val (.int p1), .val (.int p2), .val (.int p3), .val (.int p4), .val (.int (4 : Int32)), .val (.ref b15), .val (.ref b20), .val (.int (1 : Int32))] [(.int (3 : Int32)), (.ref b20)]))
      refine Go.st (fun _ kq_ => own_baloadB X20 hx hZ rfl V_b20 (by decide) (by decide) (v := (.int (nar .byte (p4.toInt8.toInt32)))) rfl (g := (mkF m 242 #[.val (.int p0), .val (.int p1), .val (.int p2), .val (.int p3), .val (.int p4), .val (.int (4 : Int32)), .val (.ref b15), .val (.ref b20), .val (.int (1 : Int32))] [(.int (3 : Int32)), (.ref b20)])) rfl rfl (hb hby at_242) _ kq_) ?_
      show Go p e below s _ _ _ (T20.setTop (mkF m 243 #[.val (.int p0), .val (.int p1), .val (.int p2), .val (.int p3), .val (.int p4), .val (.int (4 : Int32)), .val (.ref b15), .val (.ref b20), .val (.int (1 : Int32))] [(.int (nar .byte (p4.toInt8.toInt32)))]))
      refine Go.st (fun _ kq_ => XS.iload X20.here hx rfl (hb hby at_243) rfl kq_) ?_
      show Go p e below s _ _ _ (T20.setTop (mkF m 245 #[.val (.int p0), .val (.int p1), .val (.int p2), .val (.int p3), .val (.int p4), .val (.int (4 : Int32)), .val (.ref b15), .val (.ref b20), .val (.int (1 : Int32))] [(.int p4), (.int (nar .byte (p4.toInt8.toInt32)))]))
      refine Go.st (fun _ kq_ => XT.i2b X20.here hx rfl (hb hby at_245) rfl kq_) ?_
      show Go p e below s _ _ _ (T20.setTop (mkF m 246 #[.val (.int p0), .val (.int p1), .val (.int p2), .val (.int p3), .val (.int p4), .val (.int (4 : Int32)), .val (.ref b15), .val (.ref b20), .val (.int (1 : Int32))] [(.int (p4.toInt8.toInt32)), (.int (nar .byte (p4.toInt8.toInt32)))]))
      refine Go.st (fun _ kq_ => XS.icmpNo X20.here hx rfl (hb hby at_246) rfl (XT.ii_ne_f (own_nb _)) kq_) ?_
      show Go p e below s _ _ _ (T20.setTop (mkF m 249 #[.val (.int p0), .val (.int p1), .val (.int p2), .val (.int p3), .val (.int p4), .val (.int (4 : Int32)), .val (.ref b15), .val (.ref b20), .val (.int (1 : Int32))] []))
      refine Go.st (fun _ kq_ => XS.aload X20.here hx rfl (hb hby at_249) rfl rfl kq_) ?_
      show Go p e below s _ _ _ (T20.setTop (mkF m 251 #[.val (.int p0), .val (.int p1), .val (.int p2), .val (.int p3), .val (.int p4), .val (.int (4 : Int32)), .val (.ref b15), .val (.ref b20), .val (.int (1 : Int32))] [(.ref b15)]))
      refine Go.st (fun _ kq_ => XS.iconst X20.here hx rfl (hb hby at_251) kq_) ?_
      show Go p e below s _ _ _ (T20.setTop (mkF m 252 #[.val (.int p0), .val (.int p1), .val (.int p2), .val (.int p3), .val (.int p4), .val (.int (4 : Int32)), .val (.ref b15), .val (.ref b20), .val (.int (1 : Int32))] [(.int (3 : Int32)), (.ref b15)]))
      refine Go.st (fun _ kq_ => own_baloadB X20 hx hZ rfl V_b15 (by decide) (by decide) (v := (.int (nar .byte (p4.toInt8.toInt32)))) rfl (g := (mkF m 252 #[.val (.int p0), .val (.int p1), .val (.int p2), .val (.int p3), .val (.int p4), .val (.int (4 : Int32)), .val (.ref b15), .val (.ref b20), .val (.int (1 : Int32))] [(.int (3 : Int32)), (.ref b15)])) rfl rfl (hb hby at_252) _ kq_) ?_
      show Go p e below s _ _ _ (T20.setTop (mkF m 253 #[.val (.int p0), .val (.int p1), .val (.int p2), .val (.int p3), .val (.int p4), .val (.int (4 : Int32)), .val (.ref b15), .val (.ref b20), .val (.int (1 : Int32))] [(.int (nar .byte (p4.toInt8.toInt32)))]))
      refine Go.st (fun _ kq_ => XS.iload X20.here hx rfl (hb hby at_253) rfl kq_) ?_
      show Go p e below s _ _ _ (T20.setTop (mkF m 255 #[.val (.int p0), .val (.int p1), .val (.int p2), .val (.int p3), .val (.int p4), .val (.int (4 : Int32)), .val (.ref b15), .val (.ref b20), .val (.int (1 : Int32))] [(.int p4), (.int (nar .byte (p4.toInt8.toInt32)))]))
      refine Go.st (fun _ kq_ => XT.i2b X20.here hx rfl (hb hby at_255) rfl kq_) ?_
      show Go p e below s _ _ _ (T20.setTop (mkF m 256 #[.val (.int p0), .val (.int p1), .val (.int p2), .val (.int p3), .val (.int p4), .val (.int (4 : Int32)), .val (.ref b15), .val (.ref b20), .val (.int (1 : Int32))] [(.int (p4.toInt8.toInt32)), (.int (nar .byte (p4.toInt8.toInt32)))]))
      refine Go.st (fun _ kq_ => XS.icmpNo X20.here hx rfl (hb hby at_256) rfl (XT.ii_ne_f (own_nb _)) kq_) ?_
      show Go p e below s _ _ _ (T20.setTop (mkF m 259 #[.val (.int p0), .val (.int p1), .val (.int p2), .val (.int p3), .val (.int p4), .val (.int (4 : Int32)), .val (.ref b15), .val (.ref b20), .val (.int (1 : Int32))] []))
      refine Go.st (fun _ kq_ => XS.iconst X20.here hx rfl (hb hby at_259) kq_) ?_
      show Go p e below s _ _ _ (T20.setTop (mkF m 260 #[.val (.int p0), .val (.int p1), .val (.int p2), .val (.int p3), .val (.int p4), .val (.int (4 : Int32)), .val (.ref b15), .val (.ref b20), .val (.int (1 : Int32))] [(.int (1 : Int32))]))
      refine Go.st (fun _ kq_ => XS.goto X20.here hx rfl (pc0 := 260) (pc' := 264) rfl (hb hby at_260) (by decide) (by decide) kq_) ?_
      show Go p e below s _ _ _ (T20.setTop (mkF m 264 #[.val (.int p0), .val (.int p1), .val (.int p2), .val (.int p3), .val (.int p4), .val (.int (4 : Int32)), .val (.ref b15), .val (.ref b20), .val (.int (1 : Int32))] [(.int (1 : Int32))]))
      refine Go.st (fun _ kq_ => XS.istore X20.here hx rfl (hb hby at_264) rfl (l' := #[.val (.int p0), .val (.int p1), .val (.int p2), .val (.int p3), .val (.int p4), .val (.int (4 : Int32)), .val (.ref b15), .val (.ref b20), .val (.int (1 : Int32))]) rfl kq_) ?_
      show Go p e below s _ _ _ (T20.setTop (mkF m 266 #[.val (.int p0), .val (.int p1), .val (.int p2), .val (.int p3), .val (.int p4), .val (.int (4 : Int32)), .val (.ref b15), .val (.ref b20), .val (.int (1 : Int32))] []))
      refine Go.st (fun _ kq_ => XS.iload X20.here hx rfl (hb hby at_266) rfl kq_) ?_
      show Go p e below s _ _ _ (T20.setTop (mkF m 268 #[.val (.int p0), .val (.int p1), .val (.int p2), .val (.int p3), .val (.int p4), .val (.int (4 : Int32)), .val (.ref b15), .val (.ref b20), .val (.int (1 : Int32))] [(.int (1 : Int32))]))
      exact Go.ret X20 hlk (some (.int (nar .boolean (1 : Int32)))) (fun h => by rw [Bd.returns] at h; cases h) (by exact ⟨rfl, N20⟩) (by decide) (by decide) (fun fs hr => retN X20 hx (t := .boolean) Bd.returns (by simp) (hb hby at_268) hr)
  obtain ⟨s2, o2, st2, r2⟩ := G
  exact ⟨s2, o2, castTop (ef0 m p0 p1 p2 p3 p4) st2, r2⟩
set_option maxRecDepth 65536 in
set_option maxHeartbeats 40000000 in
theorem comes_1 {Post : Tables → Env → Array Value → State → Outcome → State → Prop} (hpost : ∀ tb e args s v u, (limb_1_1.after args s (.returned v) u = true ∧ limb_1_2.after args s (.returned v) u = true ∧ True) → FrameEnd s (.returned v) u (Jvm.fieldLocs frame_1_writes args s ++ Jvm.arrayLocs frame_1_arrays args s ++ Jvm.staticLocs frame_1_statics s) 16 128 → Post tb e args s (.returned v) u) :
    ArmFor flags0 classFile x code maxLocals ret World_1 tables_1 room_1 Calls_1 rest_1 Pre_1 Post := by
  intro l hfl _ _ p e ha hc hk s m args below hf hA hF happ hP
  obtain ⟨hcalls, hrest, hpre⟩ := hP
  obtain ⟨-, -, -, hnamed, -, -, -, hat⟩ := (Spec.applies_iff hf).mp happ
  obtain ⟨hg, hn⟩ := and_e (Cond.before_iff.mp (show (Jvm.Cond.and given_1 narrow_1).before args s = true from hpre))
  obtain ⟨h1, r1⟩ := and_e hg
  obtain ⟨a0, r2⟩ := and_e r1
  obtain ⟨a1, r3⟩ := and_e r2
  obtain ⟨a2, r4⟩ := and_e r3
  obtain ⟨a3, r5⟩ := and_e r4
  obtain ⟨w0, w1, w2, w3, w4, rfl⟩ : ∃ w0 w1 w2 w3 w4 : Value, args = #[w0, w1, w2, w3, w4] := by
    have hs : args.size = 5 := by simpa [Cond.value, given_1] using h1
    obtain ⟨L⟩ := args
    match L, hs with
    | [w0, w1, w2, w3, w4], _ => exact ⟨w0, w1, w2, w3, w4, rfl⟩
  have hw := fun d (hd : d ∈ tables_1) => atoms_spec (ws := Jvm.Cond.code x code maxLocals ret :: tables_1) hat d (List.mem_cons_of_mem _ hd)
  have hfit : Fit s := fun {y c} hc i hi => by
    obtain ⟨ha, rfl⟩ := Array.getElem?_eq_some_iff.mp hc
    have q := List.all_eq_true.mp ((Array.all_eq_true_iff_forall_mem.mp hF) _ (Array.getElem_mem ha)) i (List.mem_range.mpr hi)
    simpa [Array.getElem?_eq_getElem hi] using q
  obtain ⟨i0, ei0⟩ := is_v a0
  obtain rfl : w0 = (.int i0) := Option.some.inj ei0
  obtain ⟨i1, ei1⟩ := is_v a1
  obtain rfl : w1 = (.int i1) := Option.some.inj ei1
  obtain ⟨i2, ei2⟩ := is_v a2
  obtain rfl : w2 = (.int i2) := Option.some.inj ei2
  obtain ⟨i3, ei3⟩ := is_v a3
  obtain rfl : w3 = (.int i3) := Option.some.inj ei3
  obtain ⟨i4, ei4⟩ := is_v r5
  obtain rfl : w4 = (.int i4) := Option.some.inj ei4
  obtain ⟨n, o, h1, h2, h3, _, L, rfl, ⟨rfl, N⟩, hq⟩ := rm0 l s _ hw tables_1 i0 i1 i2 i3 i4 s.heap s.heap.size (Old.start s) p e ha hc hk s m _ below hf ((Spec.applies_iff_loose hf).mp happ).1 ⟨rfl, State.Warmed39.refl s, rfl⟩ trivial
  refine ⟨n, _, h1, h2, h3, hpost _ _ _ _ _ _ ⟨Cond.after_iff.mpr rfl, Cond.after_iff.mpr (eq_i res_at (Term.int_eval (1)) rfl), trivial⟩ ⟨hq.1, hq.2.1, (hq.2.2.sift fun y hy => Or.inr (N y hy)).mono (by decide) (by decide)⟩⟩
theorem main_1_1 : Claimed_1_1 := comes_1 fun _ _ _ _ _ _ h hF => ⟨h.1, hF⟩
theorem main_1_2 : Claimed_1_2 := comes_1 fun _ _ _ _ _ _ h hF => ⟨h.2.1, hF⟩
end Jvm.Pilot.@@N@@
namespace Jvm.Pilot.@@N@@
open Jvm Jvm.ClassFile Sem Op Lib Jvm.Free Jvm.Stand Jvm.Pilot.@@N@@.Jvm.D
/-! MADE BY PROGRAM (witnessworld.py) out of the Statement's table words and the real class files: 13 classes; the members and pool entries that the words name. The judged class is class 1, her method 1. -/
namespace start1
open Jvm.ClassFile
def u (s : String) : CpInfo := .utf8 (stringToUtf16 s)
/-- a pool by its gaps: so many unusable entries, then the entry; so many at the end -/
def gap : Nat → List CpInfo → List CpInfo
  | 0, r => r
  | n + 1, r => .unusable :: gap n r
def poolList (es : List (Nat × CpInfo)) (last : Nat) : List CpInfo := es.foldr (fun e r => gap e.1 (e.2 :: r)) (gap last [])
def pool (es : List (Nat × CpInfo)) (last : Nat) : Array CpInfo := ⟨poolList es last⟩
def fileOf (pool : Array CpInfo) (this : Nat) (attrs : Array Attribute := #[]) (ms : Array MethodInfo := #[]) (fl : Nat := 33) (sup : Nat := 0) (ifs : Array Nat := #[]) (fds : Array FieldInfo := #[]) : ClassFile where
  minorVersion := 0
  majorVersion := 65
  constantPool := pool
  accessFlags := fl
  thisClass := this
  superClass := sup
  interfaces := ifs
  fields := fds
  methods := ms
  attributes := attrs
def plain (name : String) (sup : Option ClassId) : Class where
  name := name
  kind := .ordinary
  loader := none
  accessFlags := 33
  super := sup
  interfaces := #[]
  cf := none
  fields := #[]
  methods := #[]
  instanceTypes := #[]
  staticTypes := #[]
  resolved := #[]
  callSites := []
  init := .initialized
  statics := none
  mirror := none

def pool0 : Array CpInfo := pool [(5, u "<init>"), (0, u "()V"), (1, .class_ 10), (1, u "java/lang/Object")] 113

def k0m0 : Method := { name := "<init>", desc := "()V", sig := { parameters := [], returnType := none }, accessFlags := 1, code := none }
/-- java/lang/Object -/
def k0 : Class := { plain "java/lang/Object" none with
  accessFlags := 33
  interfaces := #[]
  cf := some (fileOf pool0 8 #[] #[{ accessFlags := 1, nameIndex := 5, descriptorIndex := 6, attributes := #[] }] 33 0 #[] #[])
  fields := #[]
  methods := #[k0m0]
  instanceTypes := #[]
  staticTypes := #[]
  resolved := Array.replicate 124 none
  statics := none }

def pool1 : Array CpInfo := pool [(2, .class_ 4), (1, u "java/lang/Object"), (0, u "<init>"), (0, u "()V"), (0, .integer 2147483647), (0, .methodref 9 10), (0, .class_ 11), (0, .nameAndType 12 13), (0, u "com/example/duplexwire/duplexwire/protocol/LineFramer"), (0, u "frame"), (0, u "([B)[B"), (0, .class_ 15), (0, u "com/example/duplexwire/duplexwire/protocol/LineFramerFramePinLaw"), (2, u "law"), (0, u "(IIIII)Z")] 5

def k1m0 : Method := { name := "<init>", desc := "()V", sig := { parameters := [], returnType := none }, accessFlags := 1, code := none }
def k1c1 : Code := { maxStack := 3, maxLocals := 9, code := code, exceptionTable := #[], attributes := #[] }
def k1m1 : Method := { name := "law", desc := "(IIIII)Z", sig := { parameters := [.int, .int, .int, .int, .int], returnType := some .boolean }, accessFlags := 9, code := some k1c1 }
/-- com/example/duplexwire/duplexwire/protocol/LineFramerFramePinLaw -/
def k1 : Class := { plain "com/example/duplexwire/duplexwire/protocol/LineFramerFramePinLaw" (some 0) with
  accessFlags := 49
  interfaces := #[]
  cf := some (fileOf pool1 14 #[] #[{ accessFlags := 1, nameIndex := 5, descriptorIndex := 6, attributes := #[] }, { accessFlags := 9, nameIndex := 18, descriptorIndex := 19, attributes := #[] }] 49 2 #[] #[])
  fields := #[]
  methods := #[k1m0, k1m1]
  instanceTypes := #[]
  staticTypes := #[]
  resolved := Array.replicate 25 none
  statics := none }

def pool2 : Array CpInfo := pool [(3, .class_ 4), (0, u "com/example/duplexwire/duplexwire/protocol/Framer"), (0, .class_ 6), (0, u "java/lang/Object"), (0, u "LONGEST_FRAME"), (0, u "I"), (9, .class_ 19), (0, u "com/example/duplexwire/duplexwire/protocol/Framer$Frames")] 2

/-- com/example/duplexwire/duplexwire/protocol/Framer -/
def k2 : Class := { plain "com/example/duplexwire/duplexwire/protocol/Framer" (some 0) with
  accessFlags := 1537
  interfaces := #[]
  cf := some (fileOf pool2 3 #[.nestMembers #[18]] #[] 1537 5 #[] #[{ accessFlags := 25, nameIndex := 7, descriptorIndex := 8, attributes := #[] }])
  fields := #[{ name := "LONGEST_FRAME", type := .int, accessFlags := 25, slot := 0, constantValue := 0 }]
  methods := #[]
  instanceTypes := #[]
  staticTypes := #[.int]
  resolved := Array.replicate 22 none
  statics := none }

def pool3 : Array CpInfo := pool [(2, .class_ 4), (1, u "java/lang/Object"), (3, .class_ 10), (1, u "com/example/duplexwire/duplexwire/protocol/LineFramer"), (0, u "NOTHING"), (0, u "[B"), (2, u "held"), (0, .class_ 17), (0, u "com/example/duplexwire/duplexwire/protocol/Framer"), (12, u "maxFrame"), (0, u "I"), (0, .methodref 33 34), (0, .class_ 35), (0, .nameAndType 36 37), (0, u "java/util/Arrays"), (0, u "copyOf"), (0, u "([BI)[B"), (31, u "heldLength"), (6, u "frame"), (21, u "([B)[B")] 24

def k3c0 : Code := { maxStack := 3, maxLocals := 2, code := prog_6_method_2_code, exceptionTable := #[], attributes := #[] }
def k3m0 : Method := { name := "frame", desc := "([B)[B", sig := { parameters := [(.array .byte)], returnType := some (.array .byte) }, accessFlags := 8, code := some k3c0 }
/-- com/example/duplexwire/duplexwire/protocol/LineFramer -/
def k3 : Class := { plain "com/example/duplexwire/duplexwire/protocol/LineFramer" (some 0) with
  accessFlags := 49
  interfaces := #[2]
  cf := some (fileOf pool3 8 #[] #[{ accessFlags := 8, nameIndex := 76, descriptorIndex := 98, attributes := #[] }] 49 2 #[16] #[{ accessFlags := 26, nameIndex := 11, descriptorIndex := 12, attributes := #[] }, { accessFlags := 18, nameIndex := 30, descriptorIndex := 31, attributes := #[] }, { accessFlags := 2, nameIndex := 15, descriptorIndex := 12, attributes := #[] }, { accessFlags := 2, nameIndex := 69, descriptorIndex := 31, attributes := #[] }])
  fields := #[{ name := "NOTHING", type := (.array .byte), accessFlags := 26, slot := 0, constantValue := 0 }, { name := "maxFrame", type := .int, accessFlags := 18, slot := 0, constantValue := 0 }, { name := "held", type := (.array .byte), accessFlags := 2, slot := 1, constantValue := 0 }, { name := "heldLength", type := .int, accessFlags := 2, slot := 2, constantValue := 0 }]
  methods := #[k3m0]
  instanceTypes := #[.int, (.array .byte), .int]
  staticTypes := #[(.array .byte)]
  resolved := Array.replicate 123 none
  statics := none }

def pool4 : Array CpInfo := pool [(2, .class_ 4), (1, u "java/lang/Object"), (0, u "<init>"), (0, u "()V"), (7, .class_ 16), (1, u "java/util/Arrays"), (57, .class_ 76), (1, u "java/util/Arrays$NaturalOrder"), (36, .class_ 115), (1, u "java/util/Arrays$LegacyMergeSort"), (1, u "Z"), (32, .methodref 151 152), (0, .class_ 153), (0, .nameAndType 154 155), (0, u "java/lang/System"), (0, u "arraycopy"), (0, u "(Ljava/lang/Object;ILjava/lang/Object;II)V"), (146, u "copyOf"), (1, .methodref 305 306), (0, .class_ 307), (0, .nameAndType 308 309), (0, u "java/lang/Math"), (0, u "min"), (0, u "(II)I"), (65, .class_ 376), (0, u "java/util/Arrays$ArrayList"), (68, u "$assertionsDisabled"), (269, u "MIN_ARRAY_SORT_GRAN"), (0, u "I"), (2, u "INSERTIONSORT_THRESHOLD"), (149, u "([BI)[B"), (105, .class_ 976), (0, u "java/util/Arrays$ArrayItr")] 52

def k4m0 : Method := { name := "<init>", desc := "()V", sig := { parameters := [], returnType := none }, accessFlags := 2, code := none }
def k4c1 : Code := { maxStack := 6, maxLocals := 3, code := jdk_65_method_121_code, exceptionTable := #[], attributes := #[] }
def k4m1 : Method := { name := "copyOf", desc := "([BI)[B", sig := { parameters := [(.array .byte), .int], returnType := some (.array .byte) }, accessFlags := 9, code := some k4c1 }
/-- java/util/Arrays -/
def k4 : Class := { plain "java/util/Arrays" (some 0) with
  accessFlags := 49
  interfaces := #[]
  cf := some (fileOf pool4 14 #[.nestMembers #[975, 375, 113, 74]] #[{ accessFlags := 2, nameIndex := 5, descriptorIndex := 6, attributes := #[] }, { accessFlags := 9, nameIndex := 302, descriptorIndex := 869, attributes := #[] }] 49 2 #[] #[{ accessFlags := 26, nameIndex := 715, descriptorIndex := 716, attributes := #[] }, { accessFlags := 26, nameIndex := 719, descriptorIndex := 716, attributes := #[] }, { accessFlags := 4120, nameIndex := 445, descriptorIndex := 117, attributes := #[] }])
  fields := #[{ name := "MIN_ARRAY_SORT_GRAN", type := .int, accessFlags := 26, slot := 0, constantValue := 0 }, { name := "INSERTIONSORT_THRESHOLD", type := .int, accessFlags := 26, slot := 1, constantValue := 0 }, { name := "$assertionsDisabled", type := .boolean, accessFlags := 4120, slot := 2, constantValue := 0 }]
  methods := #[k4m0, k4m1]
  instanceTypes := #[]
  staticTypes := #[.int, .int, .boolean]
  resolved := Array.replicate 1029 none
  statics := none }

def pool5 : Array CpInfo := pool [(1, .class_ 2), (0, u "java/lang/Math"), (1, .class_ 6), (1, u "java/lang/Object"), (0, u "<init>"), (0, u "()V"), (89, .class_ 100), (1, u "java/lang/Math$RandomNumberGeneratorHolder"), (71, u "negativeZeroFloatBits"), (0, u "J"), (2, u "negativeZeroDoubleBits"), (24, u "min"), (43, u "$assertionsDisabled"), (0, u "Z"), (88, u "(II)I"), (2, u "twoToTheDoubleScaleDown"), (0, u "D"), (4, u "twoToTheDoubleScaleUp"), (9, u "E"), (3, u "PI"), (2, u "TAU"), (2, u "DEGREES_TO_RADIANS"), (0, u "RADIANS_TO_DEGREES")] 94

def k5m0 : Method := { name := "<init>", desc := "()V", sig := { parameters := [], returnType := none }, accessFlags := 2, code := none }
def k5c1 : Code := { maxStack := 2, maxLocals := 2, code := jdk_29_method_69_code, exceptionTable := #[], attributes := #[] }
def k5m1 : Method := { name := "min", desc := "(II)I", sig := { parameters := [.int, .int], returnType := some .int }, accessFlags := 9, code := some k5c1 }
/-- java/lang/Math -/
def k5 : Class := { plain "java/lang/Math" (some 0) with
  accessFlags := 49
  interfaces := #[]
  cf := some (fileOf pool5 1 #[.nestMembers #[98]] #[{ accessFlags := 2, nameIndex := 7, descriptorIndex := 8, attributes := #[] }, { accessFlags := 9, nameIndex := 201, descriptorIndex := 335, attributes := #[] }] 49 4 #[] #[{ accessFlags := 25, nameIndex := 354, descriptorIndex := 339, attributes := #[] }, { accessFlags := 25, nameIndex := 358, descriptorIndex := 339, attributes := #[] }, { accessFlags := 25, nameIndex := 361, descriptorIndex := 339, attributes := #[] }, { accessFlags := 26, nameIndex := 364, descriptorIndex := 339, attributes := #[] }, { accessFlags := 26, nameIndex := 365, descriptorIndex := 339, attributes := #[] }, { accessFlags := 26, nameIndex := 172, descriptorIndex := 173, attributes := #[] }, { accessFlags := 26, nameIndex := 176, descriptorIndex := 173, attributes := #[] }, { accessFlags := 8, nameIndex := 344, descriptorIndex := 339, attributes := #[] }, { accessFlags := 8, nameIndex := 338, descriptorIndex := 339, attributes := #[] }, { accessFlags := 4120, nameIndex := 245, descriptorIndex := 246, attributes := #[] }])
  fields := #[{ name := "E", type := .double, accessFlags := 25, slot := 0, constantValue := 0 }, { name := "PI", type := .double, accessFlags := 25, slot := 1, constantValue := 0 }, { name := "TAU", type := .double, accessFlags := 25, slot := 2, constantValue := 0 }, { name := "DEGREES_TO_RADIANS", type := .double, accessFlags := 26, slot := 3, constantValue := 0 }, { name := "RADIANS_TO_DEGREES", type := .double, accessFlags := 26, slot := 4, constantValue := 0 }, { name := "negativeZeroFloatBits", type := .long, accessFlags := 26, slot := 5, constantValue := 0 }, { name := "negativeZeroDoubleBits", type := .long, accessFlags := 26, slot := 6, constantValue := 0 }, { name := "twoToTheDoubleScaleUp", type := .double, accessFlags := 8, slot := 7, constantValue := 0 }, { name := "twoToTheDoubleScaleDown", type := .double, accessFlags := 8, slot := 8, constantValue := 0 }, { name := "$assertionsDisabled", type := .boolean, accessFlags := 4120, slot := 9, constantValue := 0 }]
  methods := #[k5m0, k5m1]
  instanceTypes := #[]
  staticTypes := #[.double, .double, .double, .double, .double, .long, .long, .double, .double, .boolean]
  resolved := Array.replicate 460 none
  statics := none }

def pool6 : Array CpInfo := pool [(2, .class_ 4), (1, u "java/lang/Object"), (0, u "<init>"), (0, u "()V"), (1, .class_ 10), (1, u "java/lang/System"), (0, u "allowSecurityManager"), (0, u "I"), (16, u "cons"), (0, u "Ljava/io/Console;"), (77, .class_ 110), (1, u "java/lang/System$CallersHolder"), (43, u "initialErrStream"), (0, u "Ljava/io/PrintStream;"), (19, u "security"), (0, u "Ljava/lang/SecurityManager;"), (31, .class_ 209), (0, u "java/lang/System$1"), (7, u "props"), (0, u "Ljava/util/Properties;"), (2, u "lineSeparator"), (0, u "Ljava/lang/String;"), (96, .class_ 321), (1, u "java/lang/System$LoggerFinder"), (5, .class_ 328), (0, u "java/lang/System$Logger"), (67, u "err"), (2, u "out"), (91, u "notSupportedJnuEncoding"), (15, u "in"), (17, u "initialIn"), (0, u "Ljava/io/InputStream;"), (35, u "bootLayer"), (0, u "Ljava/lang/ModuleLayer;"), (99, .class_ 664), (0, u "java/lang/System$2"), (9, u "NEVER"), (2, u "MAYBE"), (49, u "arraycopy"), (0, u "(Ljava/lang/Object;ILjava/lang/Object;II)V"), (72, .class_ 802), (0, u "java/lang/System$Logger$Level")] 31

def k6m0 : Method := { name := "<init>", desc := "()V", sig := { parameters := [], returnType := none }, accessFlags := 2, code := none }
def k6m1 : Method := { name := "arraycopy", desc := "(Ljava/lang/Object;ILjava/lang/Object;II)V", sig := { parameters := [(.object "java/lang/Object"), .int, (.object "java/lang/Object"), .int, .int], returnType := none }, accessFlags := 265, code := none }
/-- java/lang/System -/
def k6 : Class := { plain "java/lang/System" (some 0) with
  accessFlags := 49
  interfaces := #[]
  cf := some (fileOf pool6 8 #[.nestMembers #[319, 327, 801, 108, 663, 208]] #[{ accessFlags := 2, nameIndex := 5, descriptorIndex := 6, attributes := #[] }, { accessFlags := 265, nameIndex := 727, descriptorIndex := 728, attributes := #[] }] 49 2 #[] #[{ accessFlags := 25, nameIndex := 507, descriptorIndex := 526, attributes := #[] }, { accessFlags := 25, nameIndex := 399, descriptorIndex := 155, attributes := #[] }, { accessFlags := 25, nameIndex := 396, descriptorIndex := 155, attributes := #[] }, { accessFlags := 10, nameIndex := 525, descriptorIndex := 526, attributes := #[] }, { accessFlags := 26, nameIndex := 674, descriptorIndex := 12, attributes := #[] }, { accessFlags := 26, nameIndex := 677, descriptorIndex := 12, attributes := #[] }, { accessFlags := 10, nameIndex := 11, descriptorIndex := 12, attributes := #[] }, { accessFlags := 74, nameIndex := 175, descriptorIndex := 176, attributes := #[] }, { accessFlags := 10, nameIndex := 491, descriptorIndex := 222, attributes := #[] }, { accessFlags := 74, nameIndex := 29, descriptorIndex := 30, attributes := #[] }, { accessFlags := 74, nameIndex := 154, descriptorIndex := 155, attributes := #[] }, { accessFlags := 10, nameIndex := 217, descriptorIndex := 218, attributes := #[] }, { accessFlags := 10, nameIndex := 221, descriptorIndex := 222, attributes := #[] }, { accessFlags := 8, nameIndex := 562, descriptorIndex := 563, attributes := #[] }])
  fields := #[{ name := "in", type := (.object "java/io/InputStream"), accessFlags := 25, slot := 0, constantValue := 0 }, { name := "out", type := (.object "java/io/PrintStream"), accessFlags := 25, slot := 1, constantValue := 0 }, { name := "err", type := (.object "java/io/PrintStream"), accessFlags := 25, slot := 2, constantValue := 0 }, { name := "initialIn", type := (.object "java/io/InputStream"), accessFlags := 10, slot := 3, constantValue := 0 }, { name := "NEVER", type := .int, accessFlags := 26, slot := 4, constantValue := 0 }, { name := "MAYBE", type := .int, accessFlags := 26, slot := 5, constantValue := 0 }, { name := "allowSecurityManager", type := .int, accessFlags := 10, slot := 6, constantValue := 0 }, { name := "security", type := (.object "java/lang/SecurityManager"), accessFlags := 74, slot := 7, constantValue := 0 }, { name := "notSupportedJnuEncoding", type := (.object "java/lang/String"), accessFlags := 10, slot := 8, constantValue := 0 }, { name := "cons", type := (.object "java/io/Console"), accessFlags := 74, slot := 9, constantValue := 0 }, { name := "initialErrStream", type := (.object "java/io/PrintStream"), accessFlags := 74, slot := 10, constantValue := 0 }, { name := "props", type := (.object "java/util/Properties"), accessFlags := 10, slot := 11, constantValue := 0 }, { name := "lineSeparator", type := (.object "java/lang/String"), accessFlags := 10, slot := 12, constantValue := 0 }, { name := "bootLayer", type := (.object "java/lang/ModuleLayer"), accessFlags := 8, slot := 13, constantValue := 0 }]
  methods := #[k6m0, k6m1]
  instanceTypes := #[]
  staticTypes := #[(.object "java/io/InputStream"), (.object "java/io/PrintStream"), (.object "java/io/PrintStream"), (.object "java/io/InputStream"), .int, .int, .int, (.object "java/lang/SecurityManager"), (.object "java/lang/String"), (.object "java/io/Console"), (.object "java/io/PrintStream"), (.object "java/util/Properties"), (.object "java/lang/String"), (.object "java/lang/ModuleLayer")]
  resolved := Array.replicate 834 none
  statics := none }

def pool7 : Array CpInfo := pool [(1, u "java/lang/Cloneable"), (0, .class_ 1), (0, u "java/lang/Object"), (0, .class_ 3)] 3

/-- java/lang/Cloneable -/
def k7 : Class := { plain "java/lang/Cloneable" (some 0) with
  accessFlags := 1537
  interfaces := #[]
  cf := some (fileOf pool7 2 #[] #[] 1537 4 #[] #[])
  fields := #[]
  methods := #[]
  instanceTypes := #[]
  staticTypes := #[]
  resolved := Array.replicate 8 none
  statics := none }

def pool8 : Array CpInfo := pool [(1, u "java/io/Serializable"), (0, .class_ 1), (0, u "java/lang/Object"), (0, .class_ 3)] 3

/-- java/io/Serializable -/
def k8 : Class := { plain "java/io/Serializable" (some 0) with
  accessFlags := 1537
  interfaces := #[]
  cf := some (fileOf pool8 2 #[] #[] 1537 4 #[] #[])
  fields := #[]
  methods := #[]
  instanceTypes := #[]
  staticTypes := #[]
  resolved := Array.replicate 8 none
  statics := none }

/-- the primitive byte -/
def k9 : Class := { plain "byte" none with kind := .primitive 'B', accessFlags := 0x411 }
/-- [B -/
def k10 : Class := { plain "[B" (some 0) with kind := .array 9 .byte, interfaces := #[7, 8], accessFlags := 1041 }

/-- the primitive int -/
def k11 : Class := { plain "int" none with kind := .primitive 'I', accessFlags := 0x411 }
/-- [I -/
def k12 : Class := { plain "[I" (some 0) with kind := .array 11 .int, interfaces := #[7, 8], accessFlags := 1041 }

def heap : Heap := #[]
def classes : Array Class := #[k0, k1, k2, k3, k4, k5, k6, k7, k8, k9, k10, k11, k12]
def interned : List (Array UInt16 × Addr) := []
def slotsUsed : Nat := 0
def theMethod : MethodId := ⟨1, 1⟩
def args0 : Array Value := #[.int 7, .int 1, .int 2, .int 3, .int 4]
def aboutOver (below : List Frame) : State where
  vm := { classes := classes, interned := interned.toArray }
  heap := heap
  slotsUsed := slotsUsed
  threads := #[{ frames := .invoking theMethod args0 :: below }]
def below0 : List Frame := [.native { method := ⟨0, 0⟩, args := #[] }]
def about1 : State := aboutOver below0
def p0 : Program := .bare "" "" ""
def e0 : Env := launch0.env 0 0 0
theorem w_frames : about1.frames = Frame.invoking theMethod args0 :: below0 := rfl
set_option maxRecDepth 65536 in
theorem w_args : argsFit about1.vm theMethod args0 = true := by decide +kernel
set_option maxRecDepth 65536 in
theorem w_heap : heapFits about1 = true := by decide +kernel
set_option maxRecDepth 65536 in
theorem w_runnable : about1.curStatus? = some .runnable := by decide +kernel
set_option maxRecDepth 65536 in
theorem w_alone : about1.alone = true := by decide +kernel
set_option maxRecDepth 65536 in
theorem w_named : about1.methodNamed? x = some theMethod := by decide +kernel
set_option maxRecDepth 65536 in
theorem w_hears : about1.hears theMethod below0 = true := by decide +kernel
set_option maxRecDepth 65536 in
theorem w_ripe : about1.ripe theMethod args0 below0 = true := by decide +kernel
theorem w_running : about1.status = .running := rfl
set_option maxRecDepth 65536 in
theorem w_room : about1.hasRoom e0.platform room_1 = true :=
  launch0.hasRoom_least _ room_1 (by decide +kernel) (by decide +kernel) (by decide +kernel) (by decide +kernel) (by decide +kernel) (by decide +kernel)
theorem allAtoms_all (ts : List Jvm.Cond) (a : Array Jvm.Value) (st : Jvm.State) : (allAtoms ts).before a st = ts.all (fun c => c.before a st) := by
  induction ts with
  | nil => rfl
  | cons c t ih =>
    show (Jvm.Cond.and c (allAtoms t)).before a st = _
    rw [Jvm.Cond.before_and, ih, List.all_cons]
def words1 : List Jvm.Cond := Jvm.Cond.code x code maxLocals ret :: tables_1
/-- a 'code' word, met by the world's own term for the bytes: nothing is compared byte by byte -/
theorem code_word {y : MethodName} {bytes : ByteArray} {mx : Nat} {rt : Option FieldType} {a : Array Value} {s : State} {m : MethodId} {meth : Method} {c : Code} (h1 : s.methodNamed? y = some m) (h2 : s.vm.method? m = some meth) (h3 : meth.code = some c) (h4 : c.code = bytes)
    (h5 : (c.maxLocals == mx && c.exceptionTable.isEmpty && decide (c.maxStack ≤ mostOperands) && decide (meth.sig.returnType = rt) && !meth.locks && decide (parseMethodDescriptor y.desc = some meth.sig)) = true) : (Jvm.Cond.code y bytes mx rt).before a s = true := by
  simp only [Bool.and_eq_true, beq_iff_eq, Bool.not_eq_true', decide_eq_true_eq] at h5
  obtain ⟨⟨⟨⟨⟨g1, g2⟩, g3⟩, g4⟩, g5⟩, g6⟩ := h5
  simp [Cond.before, Cond.holds, Cond.value, h1, h2, h3, h4, g1, g2, g3, g4, g5, g6]
def isCode : Jvm.Cond → Bool
  | .code _ _ _ _ => true
  | _ => false
theorem all_split {L : List Jvm.Cond} {P : Jvm.Cond → Bool} (h1 : L.all (fun c => isCode c || P c) = true) (h2 : ∀ c ∈ L.filter isCode, P c = true) : L.all P = true := by
  refine List.all_eq_true.mpr fun c hc => ?_
  have h := List.all_eq_true.mp h1 c hc
  rcases Bool.eq_false_or_eq_true (isCode c) with hi | hi
  · exact h2 c (List.mem_filter.mpr ⟨hc, hi⟩)
  · simpa [hi] using h
set_option maxRecDepth 65536 in
theorem w_c0 : (Jvm.Cond.code x code maxLocals ret).before args0 about1 = true := code_word (m := ⟨1, 1⟩) (meth := k1m1) (c := k1c1) (by decide +kernel) rfl rfl rfl (by decide +kernel)
set_option maxRecDepth 65536 in
theorem w_c1 : (Jvm.Cond.code ({ cls := "com/example/duplexwire/duplexwire/protocol/LineFramer", name := "frame", desc := "([B)[B" } : Jvm.MethodName) prog_6_method_2_code (2 : Nat) (Option.some (Jvm.ClassFile.FieldType.array Jvm.ClassFile.FieldType.byte))).before args0 about1 = true := code_word (m := ⟨3, 0⟩) (meth := k3m0) (c := k3c0) (by decide +kernel) rfl rfl rfl (by decide +kernel)
set_option maxRecDepth 65536 in
theorem w_c2 : (Jvm.Cond.code ({ cls := "java/util/Arrays", name := "copyOf", desc := "([BI)[B" } : Jvm.MethodName) jdk_65_method_121_code (3 : Nat) (Option.some (Jvm.ClassFile.FieldType.array Jvm.ClassFile.FieldType.byte))).before args0 about1 = true := code_word (m := ⟨4, 1⟩) (meth := k4m1) (c := k4c1) (by decide +kernel) rfl rfl rfl (by decide +kernel)
set_option maxRecDepth 65536 in
theorem w_c3 : (Jvm.Cond.code ({ cls := "java/lang/Math", name := "min", desc := "(II)I" } : Jvm.MethodName) jdk_29_method_69_code (2 : Nat) (Option.some Jvm.ClassFile.FieldType.int)).before args0 about1 = true := code_word (m := ⟨5, 1⟩) (meth := k5m1) (c := k5c1) (by decide +kernel) rfl rfl rfl (by decide +kernel)
def codes1 : List Jvm.Cond := [Jvm.Cond.code x code maxLocals ret, Jvm.Cond.code ({ cls := "com/example/duplexwire/duplexwire/protocol/LineFramer", name := "frame", desc := "([B)[B" } : Jvm.MethodName) prog_6_method_2_code (2 : Nat) (Option.some (Jvm.ClassFile.FieldType.array Jvm.ClassFile.FieldType.byte)), Jvm.Cond.code ({ cls := "java/util/Arrays", name := "copyOf", desc := "([BI)[B" } : Jvm.MethodName) jdk_65_method_121_code (3 : Nat) (Option.some (Jvm.ClassFile.FieldType.array Jvm.ClassFile.FieldType.byte)), Jvm.Cond.code ({ cls := "java/lang/Math", name := "min", desc := "(II)I" } : Jvm.MethodName) jdk_29_method_69_code (2 : Nat) (Option.some Jvm.ClassFile.FieldType.int)]
set_option maxRecDepth 65536 in
theorem codes_eq : words1.filter isCode = codes1 := rfl
theorem w_codes : ∀ c ∈ words1.filter isCode, c.before args0 about1 = true := by
  rw [codes_eq]
  intro c hc
  simp only [codes1, List.mem_cons, List.not_mem_nil, or_false] at hc
  rcases hc with rfl | rfl | rfl | rfl
  · exact w_c0
  · exact w_c1
  · exact w_c2
  · exact w_c3
set_option maxRecDepth 65536 in
theorem w_t1 : words1.all (fun c => isCode c || c.before args0 about1) = true := by decide +kernel
theorem w_tables : (allAtoms (Jvm.Cond.code x code maxLocals ret :: tables_1)).before args0 about1 = true := by
  rw [allAtoms_all]
  show words1.all (fun c => c.before args0 about1) = true
  refine all_split ?_ w_codes
  rw [w_t1]
set_option maxRecDepth 65536 in
theorem w_case : (Jvm.Cond.and given_1 narrow_1).before args0 about1 = true := by decide +kernel
theorem w_applies : (headSpec (Jvm.Cond.code x code maxLocals ret :: tables_1) room_1).applies x e0.platform about1 = true :=
  (Spec.applies_iff w_frames).mpr ⟨w_running, w_runnable, w_alone, w_named, w_hears, w_ripe, w_room, w_tables⟩
theorem atStart : AtStart classFile x code maxLocals ret World_1 tables_1 room_1 Calls_1 rest_1 Pre_1 launch0 p0 e0 about1 theMethod args0 below0 :=
  ⟨lists_1, trivial, launch0.admits_env _ _ _, launch0.least_env, fairChoices_fair.cas, fairChoices_fair.clock, w_frames, w_args, w_heap, w_applies, trivial, trivial, w_case⟩
end start1
theorem witness_1 : WitnessClaimed_1 := ⟨start1.p0, start1.e0, start1.about1, start1.theMethod, start1.args0, start1.below0, start1.atStart⟩
end Jvm.Pilot.@@N@@
