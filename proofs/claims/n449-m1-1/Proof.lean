import JvmDerived
import JvmDerived.Pilot.@@N@@Statement
import JvmDerived.Pilot.@@N@@Code
set_option linter.unusedVariables false
set_option linter.unusedSimpArgs false
namespace Jvm.RoadKit
open Sem ClassFile Op Lib Jvm.Stand Jvm.Free Jvm.LawKit
section New
variable {p : Program} {l : Launch} {e : Env} {R : Room} {s : State} {m : MethodId} {args : Array Value} {below : List Frame} {meth : Method} {c : Code} {T : State} {locs : List Loc} {cells slots : Nat}
theorem retI (X : Stand p l e R s m args below meth c T locs cells slots) (hx : p.tables.exec = Jvm.exec) {pc : Nat} {Ls : Array Slot} {z : Int32} {rest : List Value} (hret : meth.sig.returnType = some .int) (hd : decode c.code pc = .ok (.ireturn, 1)) {fs : List Frame}
    (hl : ∀ (f : JFrame) (acts : List Action), f.method = m → f.locked = none → f.entered = [] → (doReturn e (T.setTop f) acts (some (.int z))).1 = T.setFrames fs) : Steps p.tables e below (T.setTop (mkF m pc Ls (.int z :: rest))) (T.setFrames fs) := by
  have hm' : T.vm.method? m = some meth := X.method'
  have hn : narrow .int (.int z) = .int z := rfl
  show Steps p.tables e below (T.setTop { method := m, pc := pc, locals := Ls, stack := _ :: rest, locked := none }) _
  jvm_step X.here [X.here.top, hx, hd, hm', hret, hn]
  first | (intro acts; rw [hl _ acts rfl rfl rfl]) | rw [hl _ _ rfl rfl rfl]
  exact Steps.refl _
end New
end Jvm.RoadKit
namespace Jvm.Pilot.@@N@@
open Jvm Jvm.ClassFile Sem Op Lib Jvm.Free Jvm.Stand Jvm.LawKit Jvm.RoadKit Bundle Jvm.Pilot.@@N@@.Jvm.D
/-! own small kit: a walk forward, state by state -/
section OwnKit
variable {p : Program} {l : Launch} {e : Env} {R : Room} {s : State} {m : MethodId} {args : Array Value} {below : List Frame} {meth : Method} {c : Code} {T : State} {locs : List Loc} {cells slots : Nat} {rc rs : Nat} {Q : Option Value → Heap → List Loc → Prop} {Z : State} {h h' : Heap} {a b : Addr} {S S' : State}
/-- from S the run comes to its return, and Q holds there -/
def Go (p : Program) (e : Env) (below : List Frame) (s : State) (rc rs : Nat) (Q : Option Value → Heap → List Loc → Prop) (S : State) : Prop :=
  ∃ s₂ o, Steps p.tables e below S s₂ ∧ s₂.status = .running ∧ Ended s₂ below o ∧ ∃ v L, o = .returned v ∧ Q v s₂.heap L ∧ FrameEnd s o s₂ L rc rs
theorem Go.st (k : ∀ t, Steps p.tables e below S' t → Steps p.tables e below S t) (g : Go p e below s rc rs Q S') : Go p e below s rc rs Q S := by
  obtain ⟨x, y, z, r⟩ := g
  exact ⟨x, y, k x z, r⟩
theorem Go.tr (k : Steps p.tables e below S S') (g : Go p e below s rc rs Q S') : Go p e below s rc rs Q S := by
  obtain ⟨x, y, z, r⟩ := g
  exact ⟨x, y, k.trans z, r⟩
theorem Go.ret (X : Stand p l e R s m args below meth c T locs cells slots) (hlk : meth.locks = false) (v : Option Value) (hv : meth.sig.returnType = none → v = none) {g : JFrame} (hQ : Q v T.heap locs) (hc : cells ≤ rc) (hs : slots ≤ rs)
    (k : ∀ fs, (∀ (f : JFrame) (acts : List Action), f.method = m → f.locked = none → f.entered = [] → (doReturn e (T.setTop f) acts v).1 = T.setFrames fs) → Steps p.tables e below (T.setTop g) (T.setFrames fs)) : Go p e below s rc rs Q (T.setTop g) := by
  obtain ⟨fs, hr, hrun, hended, hW, hsame⟩ := X.leave (v := v) hv hlk
  exact ⟨_, _, k fs hr, hrun, hended, _, _, rfl, hQ, ⟨_, rfl⟩, hW, hsame.mono hc hs⟩
theorem own_w {a0 : Array Value} (hw : ∀ d ∈ tables_1, d.before a0 Z = true) (k : Nat) {d : Jvm.Cond} (q : tables_1[k]? = some d) : d.before a0 Z = true := hw _ (List.mem_of_getElem? q)
theorem own_idx {n j : Int32} {cl : Cell} (S : cl.slots.size = n.toNatClampNeg) (q1 : ¬ j < 0) (q2 : j < n) : ¬ (j < 0 ∨ cl.slots.size ≤ j.toNatClampNeg) := inb_of S ⟨q1, q2⟩
theorem own_iaload (X : Stand p l e R s m args below meth c T locs cells slots) (hx : p.tables.exec = Jvm.exec) (hZ : Z.Warmed39 s.vm) (eT : T.heap = h) {k : ClassId} {n : Int32} {vs : List Value} {d : Value} (V : Arv Z h a k .int n vs d) {j : Int32} (q1 : ¬ j < 0) (q2 : j < n) {v : Value} (hv : vs.getD j.toNatClampNeg d = v) {g : JFrame} (hg : g.method = m) {rest : List Value} (hs : g.stack = .int j :: .ref a :: rest) (hd : decode c.code g.pc = .ok (.iaload, 1)) (t : State) (kk : Steps p.tables e below (T.setTop { g with pc := g.pc + 1, stack := v :: rest }) t) : Steps p.tables e below (T.setTop g) t := by
  obtain ⟨cl, A, -, S, -, H, -⟩ := V
  have hin := own_idx S q1 q2
  exact X.iaload hx (j := j) (v := v) (by rw [eT]; exact A.1) (State.isArrayOf_alike hZ.alike A.2.1) A.2.2 hin (H.at hin hv) (g := g) hg hs hd _ kk
theorem own_laload (X : Stand p l e R s m args below meth c T locs cells slots) (hx : p.tables.exec = Jvm.exec) (hZ : Z.Warmed39 s.vm) (eT : T.heap = h) {k : ClassId} {n : Int32} {vs : List Value} {d : Value} (V : Arv Z h a k .long n vs d) {j : Int32} (q1 : ¬ j < 0) (q2 : j < n) {v : Value} (hv : vs.getD j.toNatClampNeg d = v) {g : JFrame} (hg : g.method = m) {rest : List Value} (hs : g.stack = .int j :: .ref a :: rest) (hd : decode c.code g.pc = .ok (.laload, 1)) (t : State) (kk : Steps p.tables e below (T.setTop { g with pc := g.pc + 1, stack := v :: rest }) t) : Steps p.tables e below (T.setTop g) t := by
  obtain ⟨cl, A, -, S, -, H, -⟩ := V
  have hin := own_idx S q1 q2
  exact X.laload hx (j := j) (v := v) (by rw [eT]; exact A.1) (State.isArrayOf_alike hZ.alike A.2.1) A.2.2 hin (H.at hin hv) (g := g) hg hs hd _ kk
theorem own_caload (X : Stand p l e R s m args below meth c T locs cells slots) (hx : p.tables.exec = Jvm.exec) (hZ : Z.Warmed39 s.vm) (eT : T.heap = h) {k : ClassId} {n : Int32} {vs : List Value} {d : Value} (V : Arv Z h a k .char n vs d) {j : Int32} (q1 : ¬ j < 0) (q2 : j < n) {v : Value} (hv : vs.getD j.toNatClampNeg d = v) {g : JFrame} (hg : g.method = m) {rest : List Value} (hs : g.stack = .int j :: .ref a :: rest) (hd : decode c.code g.pc = .ok (.caload, 1)) (t : State) (kk : Steps p.tables e below (T.setTop { g with pc := g.pc + 1, stack := v :: rest }) t) : Steps p.tables e below (T.setTop g) t := by
  obtain ⟨cl, A, -, S, -, H, -⟩ := V
  have hin := own_idx S q1 q2
  exact X.caload hx (j := j) (v := v) (by rw [eT]; exact A.1) (State.isArrayOf_alike hZ.alike A.2.1) A.2.2 hin (H.at hin hv) (g := g) hg hs hd _ kk
theorem own_baloadB (X : Stand p l e R s m args below meth c T locs cells slots) (hx : p.tables.exec = Jvm.exec) (hZ : Z.Warmed39 s.vm) (eT : T.heap = h) {k : ClassId} {n : Int32} {vs : List Value} {d : Value} (V : Arv Z h a k .byte n vs d) {j : Int32} (q1 : ¬ j < 0) (q2 : j < n) {v : Value} (hv : vs.getD j.toNatClampNeg d = v) {g : JFrame} (hg : g.method = m) {rest : List Value} (hs : g.stack = .int j :: .ref a :: rest) (hd : decode c.code g.pc = .ok (.baload, 1)) (t : State) (kk : Steps p.tables e below (T.setTop { g with pc := g.pc + 1, stack := v :: rest }) t) : Steps p.tables e below (T.setTop g) t := by
  obtain ⟨cl, A, -, S, -, H, -⟩ := V
  have hin := own_idx S q1 q2
  exact X.baloadBytes hx (j := j) (v := v) (by rw [eT]; exact A.1) (State.isArrayOf_alike hZ.alike A.2.1) A.2.2 hin (H.at hin hv) (g := g) hg hs hd _ kk
theorem own_baloadZ (X : Stand p l e R s m args below meth c T locs cells slots) (hx : p.tables.exec = Jvm.exec) (hZ : Z.Warmed39 s.vm) (eT : T.heap = h) {k : ClassId} {n : Int32} {vs : List Value} {d : Value} (V : Arv Z h a k .boolean n vs d) {j : Int32} (q1 : ¬ j < 0) (q2 : j < n) {v : Value} (hv : vs.getD j.toNatClampNeg d = v) {g : JFrame} (hg : g.method = m) {rest : List Value} (hs : g.stack = .int j :: .ref a :: rest) (hd : decode c.code g.pc = .ok (.baload, 1)) (t : State) (kk : Steps p.tables e below (T.setTop { g with pc := g.pc + 1, stack := v :: rest }) t) : Steps p.tables e below (T.setTop g) t := by
  obtain ⟨cl, A, -, S, -, H, -⟩ := V
  have hin := own_idx S q1 q2
  exact X.baloadBooleans hx (j := j) (v := v) (by rw [eT]; exact A.1) (State.isArrayOf_alike hZ.alike A.2.1) A.2.2 hin (H.at hin hv) (g := g) hg hs hd _ kk
theorem own_aaload (X : Stand p l e R s m args below meth c T locs cells slots) (hx : p.tables.exec = Jvm.exec) (hZ : Z.Warmed39 s.vm) (eT : T.heap = h) {k : ClassId} {n : Int32} {vs : List Value} {d : Value} {ty : FieldType} (V : Arv Z h a k ty n vs d) (hty : ty.isReference = true) {j : Int32} (q1 : ¬ j < 0) (q2 : j < n) {v : Value} (hv : vs.getD j.toNatClampNeg d = v) {g : JFrame} (hg : g.method = m) {rest : List Value} (hs : g.stack = .int j :: .ref a :: rest) (hd : decode c.code g.pc = .ok (.aaload, 1)) (t : State) (kk : Steps p.tables e below (T.setTop { g with pc := g.pc + 1, stack := v :: rest }) t) : Steps p.tables e below (T.setTop g) t := by
  obtain ⟨cl, A, -, S, -, H, -⟩ := V
  have hin := own_idx S q1 q2
  exact X.aaload hx (j := j) (v := v) (by rw [eT]; exact A.1) (State.isArrayOf_alike hZ.alike A.2.1) hty A.2.2 hin (H.at hin hv) (g := g) hg hs hd _ kk
theorem own_len (X : Stand p l e R s m args below meth c T locs cells slots) (hx : p.tables.exec = Jvm.exec) (hZ : Z.Warmed39 s.vm) (eT : T.heap = h) {k : ClassId} {n : Int32} {vs : List Value} {d : Value} {ty : FieldType} (V : Arv Z h a k ty n vs d) {g : JFrame} (hg : g.method = m) {rest : List Value} (hs : g.stack = .ref a :: rest) (hd : decode c.code g.pc = .ok (.arraylength, 1)) (t : State) (kk : Steps p.tables e below (T.setTop { g with pc := g.pc + 1, stack := .int n :: rest }) t) : Steps p.tables e below (T.setTop g) t := by
  obtain ⟨cl, A, -, S, N, -, -⟩ := V
  refine X.arraylength hx (by rw [eT]; exact A.1) (State.isArrayOf_alike hZ.alike A.2.1) (g := g) hg hs hd _ ?_
  rw [len_of S N]
  exact kk
theorem own_stI (X : Stand p l e R s m args below meth c T locs cells slots) (hx : p.tables.exec = Jvm.exec) (hZ : Z.Warmed39 s.vm) (eT : T.heap = h) {k : ClassId} {n : Int32} {vs : List Value} {d : Value} (V : Arv Z h a k .int n vs d) {j x : Int32} (q1 : ¬ j < 0) (q2 : j < n) (i : Nat) (hi : j.toNatClampNeg = i) (hl : i < vs.length) {g : JFrame} (hg : g.method = m) {rest : List Value} (hs : g.stack = .int x :: .int j :: .ref a :: rest) (hd : decode c.code g.pc = .ok (.iastore, 1)) :
    ∃ T' h', Stand p l e R s m args below meth c T' (locs ++ [⟨a, j.toNatClampNeg⟩]) cells slots ∧ T'.heap = h' ∧ Wr h h' a j.toNatClampNeg (.int x) ∧ Arv Z h' a k .int n (vs.set i (.int x)) d ∧ ∀ t, Steps p.tables e below (T'.setTop { g with pc := g.pc + 1, stack := rest }) t → Steps p.tables e below (T.setTop g) t := by
  obtain ⟨cl, A, q, S, N, H, G⟩ := V
  obtain ⟨T', h', X', e', W', st⟩ := stI X hx hZ eT A (own_idx S q1 q2) (g := g) hg hs hd
  exact ⟨T', h', X', e', W', Arv.set A q S N H G rfl W' i hi hl, st⟩
theorem own_stJ (X : Stand p l e R s m args below meth c T locs cells slots) (hx : p.tables.exec = Jvm.exec) (hZ : Z.Warmed39 s.vm) (eT : T.heap = h) {k : ClassId} {n : Int32} {vs : List Value} {d : Value} (V : Arv Z h a k .long n vs d) {j : Int32} {x : Int64} (q1 : ¬ j < 0) (q2 : j < n) (i : Nat) (hi : j.toNatClampNeg = i) (hl : i < vs.length) {g : JFrame} (hg : g.method = m) {rest : List Value} (hs : g.stack = .long x :: .int j :: .ref a :: rest) (hd : decode c.code g.pc = .ok (.lastore, 1)) :
    ∃ T' h', Stand p l e R s m args below meth c T' (locs ++ [⟨a, j.toNatClampNeg⟩]) cells slots ∧ T'.heap = h' ∧ Wr h h' a j.toNatClampNeg (.long x) ∧ Arv Z h' a k .long n (vs.set i (.long x)) d ∧ ∀ t, Steps p.tables e below (T'.setTop { g with pc := g.pc + 1, stack := rest }) t → Steps p.tables e below (T.setTop g) t := by
  obtain ⟨cl, A, q, S, N, H, G⟩ := V
  obtain ⟨T', h', X', e', W', st⟩ := stJ X hx hZ eT A (own_idx S q1 q2) (g := g) hg hs hd
  exact ⟨T', h', X', e', W', Arv.set A q S N H G rfl W' i hi hl, st⟩
theorem own_stC (X : Stand p l e R s m args below meth c T locs cells slots) (hx : p.tables.exec = Jvm.exec) (hZ : Z.Warmed39 s.vm) (eT : T.heap = h) {k : ClassId} {n : Int32} {vs : List Value} {d : Value} (V : Arv Z h a k .char n vs d) {j x : Int32} (q1 : ¬ j < 0) (q2 : j < n) (i : Nat) (hi : j.toNatClampNeg = i) (hl : i < vs.length) {g : JFrame} (hg : g.method = m) {rest : List Value} (hs : g.stack = .int x :: .int j :: .ref a :: rest) (hd : decode c.code g.pc = .ok (.castore, 1)) :
    ∃ T' h', Stand p l e R s m args below meth c T' (locs ++ [⟨a, j.toNatClampNeg⟩]) cells slots ∧ T'.heap = h' ∧ Wr h h' a j.toNatClampNeg (.int (nar .char x)) ∧ Arv Z h' a k .char n (vs.set i (.int (nar .char x))) d ∧ ∀ t, Steps p.tables e below (T'.setTop { g with pc := g.pc + 1, stack := rest }) t → Steps p.tables e below (T.setTop g) t := by
  obtain ⟨cl, A, q, S, N, H, G⟩ := V
  obtain ⟨T', h', X', e', W', st⟩ := stC X hx hZ eT A (own_idx S q1 q2) (g := g) hg hs hd
  exact ⟨T', h', X', e', W', Arv.set A q S N H G (fits_nar_char _) W' i hi hl, st⟩
theorem own_stB (X : Stand p l e R s m args below meth c T locs cells slots) (hx : p.tables.exec = Jvm.exec) (hZ : Z.Warmed39 s.vm) (eT : T.heap = h) {k : ClassId} {n : Int32} {vs : List Value} {d : Value} (V : Arv Z h a k .byte n vs d) {j x : Int32} (q1 : ¬ j < 0) (q2 : j < n) (i : Nat) (hi : j.toNatClampNeg = i) (hl : i < vs.length) {g : JFrame} (hg : g.method = m) {rest : List Value} (hs : g.stack = .int x :: .int j :: .ref a :: rest) (hd : decode c.code g.pc = .ok (.bastore, 1)) :
    ∃ T' h', Stand p l e R s m args below meth c T' (locs ++ [⟨a, j.toNatClampNeg⟩]) cells slots ∧ T'.heap = h' ∧ Wr h h' a j.toNatClampNeg (.int (nar .byte x)) ∧ Arv Z h' a k .byte n (vs.set i (.int (nar .byte x))) d ∧ ∀ t, Steps p.tables e below (T'.setTop { g with pc := g.pc + 1, stack := rest }) t → Steps p.tables e below (T.setTop g) t := by
  obtain ⟨cl, A, q, S, N, H, G⟩ := V
  obtain ⟨T', h', X', e', W', st⟩ := stB X hx hZ eT A (own_idx S q1 q2) (g := g) hg hs hd
  exact ⟨T', h', X', e', W', Arv.set A q S N H G (fits_nar_byte _) W' i hi hl, st⟩
theorem own_stZ (X : Stand p l e R s m args below meth c T locs cells slots) (hx : p.tables.exec = Jvm.exec) (hZ : Z.Warmed39 s.vm) (eT : T.heap = h) {k : ClassId} {n : Int32} {vs : List Value} {d : Value} (V : Arv Z h a k .boolean n vs d) {j x : Int32} (q1 : ¬ j < 0) (q2 : j < n) (i : Nat) (hi : j.toNatClampNeg = i) (hl : i < vs.length) {g : JFrame} (hg : g.method = m) {rest : List Value} (hs : g.stack = .int x :: .int j :: .ref a :: rest) (hd : decode c.code g.pc = .ok (.bastore, 1)) :
    ∃ T' h', Stand p l e R s m args below meth c T' (locs ++ [⟨a, j.toNatClampNeg⟩]) cells slots ∧ T'.heap = h' ∧ Wr h h' a j.toNatClampNeg (.int (nar .boolean x)) ∧ Arv Z h' a k .boolean n (vs.set i (.int (nar .boolean x))) d ∧ ∀ t, Steps p.tables e below (T'.setTop { g with pc := g.pc + 1, stack := rest }) t → Steps p.tables e below (T.setTop g) t := by
  obtain ⟨cl, A, q, S, N, H, G⟩ := V
  obtain ⟨T', h', X', e', W', st⟩ := stZ X hx hZ eT A (own_idx S q1 q2) (g := g) hg hs hd
  exact ⟨T', h', X', e', W', Arv.set A q S N H G (fits_nar_bool _) W' i hi hl, st⟩
theorem own_old {n0 : Nat} (O : Old Z n0 h) : n0 ≤ h.size := O.1 ▸ O.2.1
theorem own_res {z z' y : Int32} (hq : y = z') (hz : z = z') : some (Value.int z) = some (Value.int y) := by rw [hq, hz]
theorem own_resJ {z z' y : Int64} (hq : y = z') (hz : z = z') : some (Value.long z) = some (Value.long y) := by rw [hq, hz]
theorem own_narR {v : Value} {t : FieldType} (q : v.isRef = true) (r : t.isReference = true := by rfl) : narrow t v = v := by
  rcases ref_cases q with rfl | ⟨_, rfl⟩ <;> cases t <;> first | rfl | (simp [FieldType.isReference] at r)
theorem own_fitR {v : Value} {t : FieldType} (q : v.isRef = true) (r : t.isReference = true := by rfl) : fits t v = true := by
  rcases ref_cases q with rfl | ⟨_, rfl⟩ <;> cases t <;> first | rfl | (simp [FieldType.isReference] at r)
theorem own_fld {ar : Array Value} {t : Term} {x : Addr} {C n d : String} {k : Int32} (ht : t.eval ar s none [] s = some (.ref x)) (q : (Jvm.Cond.eq (.field t C n d) (.int k)).value ar s none s [] = some true) : Fld s s.heap x C n d (.int k) := by
  obtain ⟨u, w, e1, e2, -, k2⟩ := cmp_v (Or.inl q)
  have e3 : (Term.int k).eval ar s none [] s = some (.int k) := Term.int_eval k
  rw [e3] at e2
  obtain rfl := Option.some.inj e2
  obtain ⟨z, rfl⟩ := k2
  have e4 : z = k := gotT (Cond.eq_ints e1 e3) q
  subst e4
  rw [fld_at ht] at e1
  exact Fld.start e1
theorem own_neI {u w : Int32} (q : u ≠ w) : Value.int u ≠ Value.int w := fun z => q (Value.int.inj z)
theorem own_stR (X : Stand p l e R s m args below meth c T locs cells slots) (hx : p.tables.exec = Jvm.exec) (hZ : Z.Warmed39 s.vm) (eT : T.heap = h) {k : ClassId} {n : Int32} {vs : List Value} {d : Value} {ty : FieldType} {C : String} (V : Arv Z h a k ty n vs d) (hty : ty.isReference = true) (O : Ovr Z k C) {y : Addr} (I : Ins Z h y C true) {j : Int32} (q1 : ¬ j < 0) (q2 : j < n) (i : Nat) (hi : j.toNatClampNeg = i) (hl : i < vs.length) {g : JFrame} (hg : g.method = m) {rest : List Value} (hs : g.stack = .ref y :: .int j :: .ref a :: rest) (hd : decode c.code g.pc = .ok (.aastore, 1)) :
    ∃ T' h', Stand p l e R s m args below meth c T' (locs ++ [⟨a, j.toNatClampNeg⟩]) cells slots ∧ T'.heap = h' ∧ Wr h h' a j.toNatClampNeg (.ref y) ∧ Arv Z h' a k ty n (vs.set i (.ref y)) d ∧ ∀ t, Steps p.tables e below (T'.setTop { g with pc := g.pc + 1, stack := rest }) t → Steps p.tables e below (T.setTop g) t := by
  obtain ⟨cl, A, q, S, N, H, G⟩ := V
  obtain ⟨T', h', X', e', W', st⟩ := stR X hx hZ eT A (own_idx S q1 q2) hty (Sto.ofV A q O I) (g := g) hg hs hd
  exact ⟨T', h', X', e', W', Arv.set A q S N H G (own_fitR rfl hty) W' i hi hl, st⟩
theorem own_dupx2 (X : Stand p l e R s m args below meth c T locs cells slots) (hx : p.tables.exec = Jvm.exec) {g : JFrame} (hg : g.method = m) {x y z : Value} {rest : List Value} (hd : decode c.code g.pc = .ok (.dup_x2, 1)) (hs : g.stack = x :: y :: z :: rest) (hc : x.category = 1) (hc' : y.category = 1) (hc'' : z.category = 1) (t : State) (kk : Steps p.tables e below (T.setTop { g with pc := g.pc + 1, stack := x :: y :: z :: x :: rest }) t) : Steps p.tables e below (T.setTop g) t := by
  subst hg
  jvm_step X.here [X.here.top, hx, hd, dup_x2.wp_sem, hs, hc, hc', hc'']
  exact kk
end OwnKit
theorem own_lt (x y : Int32) : (x < y) = (x.toInt < y.toInt) := propext Int32.lt_iff_toInt_lt
theorem own_eq (x y : Int32) : (x = y) = (x.toInt = y.toInt) := propext Int32.toInt_inj.symm
theorem own_turn (z : Int32) (h : 255 < z) : 0 ≤ ((z &&& 255) + (XT.ushr z 8)).toInt ∧ ((z &&& 255) + (XT.ushr z 8)).toInt < z.toInt ∧ ((z &&& 255) + (XT.ushr z 8)).toInt % 255 = z.toInt % 255 ∧ 0 < ((z &&& 255) + (XT.ushr z 8)).toInt := by
  have h1 := c_mask z 255 8 (by decide) (by decide)
  have h2 : (XT.ushr z 8).toInt = (z.toInt % 4294967296) / (2 ^ 8 : Nat) := c_iushr z 8 8 (by decide) (by decide)
  have h3 := c_iadd (z &&& 255) (XT.ushr z 8)
  have h4 := rng32 ((z &&& 255) + (XT.ushr z 8))
  have h5 := rng32 z
  rw [own_lt] at h
  have h6 : (255 : Int32).toInt = 255 := rfl
  have h7 : z.toInt % 4294967296 = z.toInt := Int.emod_eq_of_lt (by omega) (by omega)
  rw [h7] at h2
  have h8 : (z &&& 255).toInt = z.toInt % 256 := h1
  have h9 : (XT.ushr z 8).toInt = z.toInt / 256 := h2
  have h10 : ((z &&& 255) + (XT.ushr z 8)).toInt = (z &&& 255).toInt + (XT.ushr z 8).toInt := XT.add32 (by unfold XT.fits32; omega)
  rw [h10, h8, h9]
  omega
theorem own_big (z : Int32) (h : 255 < z) : 0 < z.toInt := by
  rw [own_lt] at h
  have h6 : (255 : Int32).toInt = 255 := rfl
  omega
theorem own_neg (f : Int32) : ((-f) &&& 255).toInt = (-f.toInt) % 256 := by
  have h1 := c_mask (-f) 255 8 (by decide) (by decide)
  have h2 := c_ineg f
  omega
/-- the sum as it is carried -/
def OfCarry (p f : Int32) : Prop := 0 ≤ f.toInt ∧ f.toInt ≤ 255 ∧ f.toInt % 255 = p.toInt % 255 ∧ (0 < p.toInt → 0 < f.toInt) ∧ (p.toInt = 0 → f.toInt = 0)
theorem own_pos (x : Int32) : 0 ≤ (x &&& 2147483647).toInt := by
  have h1 := c_mask x 2147483647 31 (by decide) (by decide)
  omega
theorem own_c0 (p f : Int32) (h0 : p = 0) (q : OfCarry p f) : ((-f) &&& 255) = 0 := by
  rw [own_eq, own_neg]
  subst h0
  obtain ⟨a1, a2, a3, a4, a5⟩ := q
  have h6 : (0 : Int32).toInt = 0 := rfl
  omega
theorem own_cz (p : Int32) (hp : 0 ≤ p.toInt) (h0 : ¬ p = 0) : ((p - 1) % 255 + 1).toInt = (p.toInt - 1) % 255 + 1 := by
  rw [own_eq] at h0
  have h6 : (0 : Int32).toInt = 0 := rfl
  have h7 : (1 : Int32).toInt = 1 := rfl
  have h1 := c_isub p 1
  have h2 := rng32 p
  have h3 := rng32 (p - 1)
  have h4 := (c_irem (p - 1) 255 255 (by decide)).1 (by omega)
  have h5 := c_iadd ((p - 1) % 255) 1
  have h8 := rng32 ((p - 1) % 255 + 1)
  omega
theorem own_c1 (p : Int32) (hp : 0 ≤ p.toInt) (h0 : ¬ p = 0) : ¬ ((p - 1) % 255 + 1) = 0 := by
  have h1 := own_cz p hp h0
  rw [own_eq, h1]
  have h6 : (0 : Int32).toInt = 0 := rfl
  omega
theorem own_c2 (p f : Int32) (hp : 0 ≤ p.toInt) (h0 : ¬ p = 0) (q : OfCarry p f) : ((-f) &&& 255) = (256 - ((p - 1) % 255 + 1)) := by
  have h1 := own_cz p hp h0
  obtain ⟨a1, a2, a3, a4, a5⟩ := q
  rw [own_eq] at h0
  have h6 : (0 : Int32).toInt = 0 := rfl
  have h9 : (256 : Int32).toInt = 256 := rfl
  have h2 := c_isub 256 ((p - 1) % 255 + 1)
  have h3 := rng32 (256 - ((p - 1) % 255 + 1))
  rw [own_eq, own_neg]
  omega
theorem own_s0 (p : Int32) (hp : 0 ≤ p.toInt) (h0 : (p % 256) = 0) : ((-p) &&& 255) = 0 := by
  have h4 := (c_irem p 256 256 (by decide)).1 hp
  rw [own_eq] at h0
  rw [own_eq, own_neg]
  have h6 : (0 : Int32).toInt = 0 := rfl
  omega
theorem own_s1 (p : Int32) (hp : 0 ≤ p.toInt) (h0 : ¬ (p % 256) = 0) : ((-p) &&& 255) = (256 - (p % 256)) := by
  have h4 := (c_irem p 256 256 (by decide)).1 hp
  rw [own_eq] at h0
  rw [own_eq, own_neg]
  have h6 : (0 : Int32).toInt = 0 := rfl
  have h9 : (256 : Int32).toInt = 256 := rfl
  have h2 := c_isub 256 (p % 256)
  have h3 := rng32 (256 - (p % 256))
  omega
theorem d1_0 : decode prog_66_method_5_code 0 = .ok (.iload_n 1, 1) := by decide +kernel
theorem d1_1 : decode prog_66_method_5_code 1 = .ok (.istore_n 2, 1) := by decide +kernel
theorem d1_2 : decode prog_66_method_5_code 2 = .ok (.aload_n 0, 1) := by decide +kernel
theorem d1_3 : decode prog_66_method_5_code 3 = .ok (.getstatic 7, 3) := by decide +kernel
theorem d1_6 : decode prog_66_method_5_code 6 = .ok (.if_acmp .ne 24, 3) := by decide +kernel
theorem d1_9 : decode prog_66_method_5_code 9 = .ok (.iload_n 2, 1) := by decide +kernel
theorem d1_10 : decode prog_66_method_5_code 10 = .ok (.sipush 255, 3) := by decide +kernel
theorem d1_13 : decode prog_66_method_5_code 13 = .ok (.if_icmp .le 17, 3) := by decide +kernel
theorem d1_16 : decode prog_66_method_5_code 16 = .ok (.iload_n 2, 1) := by decide +kernel
theorem d1_17 : decode prog_66_method_5_code 17 = .ok (.sipush 255, 3) := by decide +kernel
theorem d1_20 : decode prog_66_method_5_code 20 = .ok (.iand, 1) := by decide +kernel
theorem d1_21 : decode prog_66_method_5_code 21 = .ok (.iload_n 2, 1) := by decide +kernel
theorem d1_22 : decode prog_66_method_5_code 22 = .ok (.bipush 8, 2) := by decide +kernel
theorem d1_24 : decode prog_66_method_5_code 24 = .ok (.iushr, 1) := by decide +kernel
theorem d1_25 : decode prog_66_method_5_code 25 = .ok (.iadd, 1) := by decide +kernel
theorem d1_26 : decode prog_66_method_5_code 26 = .ok (.istore_n 2, 1) := by decide +kernel
theorem d1_27 : decode prog_66_method_5_code 27 = .ok (.goto (-18), 3) := by decide +kernel
theorem d1_30 : decode prog_66_method_5_code 30 = .ok (.iload_n 2, 1) := by decide +kernel
theorem d1_31 : decode prog_66_method_5_code 31 = .ok (.ineg, 1) := by decide +kernel
theorem d1_32 : decode prog_66_method_5_code 32 = .ok (.sipush 255, 3) := by decide +kernel
theorem d1_35 : decode prog_66_method_5_code 35 = .ok (.iand, 1) := by decide +kernel
theorem d1_36 : decode prog_66_method_5_code 36 = .ok (.ireturn, 1) := by decide +kernel
theorem pn1 : plainName "com/example/assayline/assayline/protocol/colon/Checksum" = true := by first | (simp [plainName, overriddenIn]; done) | decide +kernel
theorem ef1 (m : MethodId) (x0 : Addr) (x1 : Int32) : entryFrame m #[(.ref x0), (.int x1)] 3 = mkF m 0 #[.val (.ref x0), .val (.int x1), .unset] [] := by first | (simp [entryFrame, mkF, argsToLocals, Value.category, maxLocals]; done) | rfl
def Q1 (Z : State) (a : Addr) (aC : Addr) (p1 : Int32) (h0 : Heap) (n0 : Nat) (v : Option Value) (h : Heap) (L : List Loc) : Prop := ∃ f : Int32, v = some (.int ((-f) &&& 255)) ∧ ((¬ (.ref a : Value) = .ref aC ∧ f = p1) ∨ ((.ref a : Value) = .ref aC ∧ OfCarry p1 f)) ∧ Fr n0 L ∧ h = h0
set_option maxRecDepth 65536 in
set_option maxHeartbeats 40000000 in
theorem rm1 (l : Launch) (Z : State) (a0 : Array Value) (hw : ∀ d ∈ tables_1, d.before a0 Z = true) (ws : List Jvm.Cond) (a : Addr) (aC : Addr) (p1 : Int32) (h0 : Heap) (n0 : Nat) (O0 : Old Z n0 h0) (SC : Sta Z Z.heap "com/example/assayline/assayline/protocol/colon/Checksum" "CARRY" "Lcom/example/assayline/assayline/protocol/colon/Checksum;" (.ref aC)) (hp : 0 ≤ p1.toInt) :
    MetFree l (⟨"com/example/assayline/assayline/protocol/colon/Checksum", "of", "(I)I"⟩ : MethodName) (head1 (Jvm.Cond.code (⟨"com/example/assayline/assayline/protocol/colon/Checksum", "of", "(I)I"⟩ : MethodName) prog_66_method_5_code 3 (some .int) :: ws) ({ frames := 0, cells := 0, slots := 0, locals := 0 } : Room)) (fun A_ U_ => A_ = #[(.ref a), (.int p1)] ∧ Z.Warmed39 U_.vm ∧ U_.heap = h0) (fun _ _ _ _ _ => True) (fun _ U o U' => ∃ v L, o = .returned v ∧ Q1 Z a aC p1 h0 n0 v U'.heap L ∧ FrameEnd U o U' L ({ frames := 0, cells := 0, slots := 0, locals := 0 } : Room).cells ({ frames := 0, cells := 0, slots := 0, locals := 0 } : Room).slots) := by
  refine MetFree.of_bodySF (plainFor_of_name pn1) hisR ?_
  intro p e s m args below meth cd s₁ Bd hml0 hP hK
  obtain ⟨rfl, hZ, hh⟩ := hP
  have hx := Bd.exec
  have hby := Bd.bytes
  have hlk : meth.locks = false := BodyLoose.notSynchronized Bd
  have hml : cd.maxLocals = 3 := hml0
  have hown : s.vm.findClass "com/example/assayline/assayline/protocol/colon/Checksum" = some m.cls := findClass_of_methodNamed Bd.named
  have hnm := (name_of_methodNamed Bd.named Bd.method).1
  have X0 : Stand p l e ({ frames := 0, cells := 0, slots := 0, locals := 0 } : Room) s m #[(.ref a), (.int p1)] below meth cd s₁ [] 0 0 := Stand.of_body Bd
  have e0 : s₁.heap = h0 := by rw [← hh, Bd.state]; rfl
  have N0 := Fr.nil n0
  have G : Go p e below s 0 0 (Q1 Z a aC p1 h0 n0) (s₁.setTop (mkF m 0 #[.val (.ref a), .val (.int p1), .unset] [])) := by
    show Go p e below s _ _ _ (s₁.setTop (mkF m 0 #[.val (.ref a), .val (.int p1), .unset] []))
    refine Go.st (fun _ kq_ => XS.iloadN X0.here hx rfl (hb hby d1_0) rfl kq_) ?_
    show Go p e below s _ _ _ (s₁.setTop (mkF m 1 #[.val (.ref a), .val (.int p1), .unset] [(.int p1)]))
    refine Go.st (fun _ kq_ => XS.istoreN X0.here hx rfl (hb hby d1_1) rfl (l' := #[.val (.ref a), .val (.int p1), .val (.int p1)]) rfl kq_) ?_
    show Go p e below s _ _ _ (s₁.setTop (mkF m 2 #[.val (.ref a), .val (.int p1), .val (.int p1)] []))
    refine Go.st (fun _ kq_ => XS.aloadN X0.here hx rfl (hb hby d1_2) rfl rfl kq_) ?_
    show Go p e below s _ _ _ (s₁.setTop (mkF m 3 #[.val (.ref a), .val (.int p1), .val (.int p1)] [(.ref a)]))
    obtain ⟨T1, X1, e1, st1⟩ := getS X0 hx hZ hown (host := "") (own_w hw 9 rfl) Via.refl e0 (SC.ext O0.2) (g := (mkF m 3 #[.val (.ref a), .val (.int p1), .val (.int p1)] [(.ref a)])) rfl (hb hby d1_3)
    refine Go.st st1 ?_
    show Go p e below s _ _ _ (T1.setTop (mkF m 6 #[.val (.ref a), .val (.int p1), .val (.int p1)] [(.ref aC), (.ref a)]))
    by_cases c6_2 : ((.ref a) : Value) = (.ref aC)
    · refine Go.st (fun _ kq_ => XT.acmpNo X1.here hx rfl (hb hby d1_6) rfl rfl rfl (XT.aa_ne_f c6_2) kq_) ?_
      show Go p e below s _ _ _ (T1.setTop (mkF m 9 #[.val (.ref a), .val (.int p1), .val (.int p1)] []))
      have LP : ∀ (n : Nat) (z : Int32), z.toInt.toNat = n → 0 ≤ z.toInt → z.toInt % 255 = p1.toInt % 255 → (0 < p1.toInt → 0 < z.toInt) → (p1.toInt = 0 → z.toInt = 0) → Go p e below s 0 0 (Q1 Z a aC p1 h0 n0) (T1.setTop (mkF m 9 #[.val (.ref a), .val (.int p1), .val (.int z)] [])) := by
        intro n
        induction n using Nat.strongRecOn with
        | ind n ih =>
          intro z hn h0z hm hpz hqz
          refine Go.st (fun _ kq_ => XS.iloadN X1.here hx rfl (hb hby d1_9) rfl kq_) ?_
          show Go p e below s _ _ _ (T1.setTop (mkF m 10 #[.val (.ref a), .val (.int p1), .val (.int z)] [(.int z)]))
          refine Go.st (fun _ kq_ => XS.sipush X1.here hx rfl (hb hby d1_10) kq_) ?_
          show Go p e below s _ _ _ (T1.setTop (mkF m 13 #[.val (.ref a), .val (.int p1), .val (.int z)] [(.int (255 : Int32)), (.int z)]))
          by_cases c13_3 : (255 : Int32) < z
          · refine Go.st (fun _ kq_ => XS.icmpNo X1.here hx rfl (hb hby d1_13) rfl (XT.ii_le_f c13_3) kq_) ?_
            show Go p e below s _ _ _ (T1.setTop (mkF m 16 #[.val (.ref a), .val (.int p1), .val (.int z)] []))
            refine Go.st (fun _ kq_ => XS.iloadN X1.here hx rfl (hb hby d1_16) rfl kq_) ?_
            show Go p e below s _ _ _ (T1.setTop (mkF m 17 #[.val (.ref a), .val (.int p1), .val (.int z)] [(.int z)]))
            refine Go.st (fun _ kq_ => XS.sipush X1.here hx rfl (hb hby d1_17) kq_) ?_
            show Go p e below s _ _ _ (T1.setTop (mkF m 20 #[.val (.ref a), .val (.int p1), .val (.int z)] [(.int (255 : Int32)), (.int z)]))
            refine Go.st (fun _ kq_ => XS.iand X1.here hx rfl (hb hby d1_20) rfl kq_) ?_
            show Go p e below s _ _ _ (T1.setTop (mkF m 21 #[.val (.ref a), .val (.int p1), .val (.int z)] [(.int (z &&& (255 : Int32)))]))
            refine Go.st (fun _ kq_ => XS.iloadN X1.here hx rfl (hb hby d1_21) rfl kq_) ?_
            show Go p e below s _ _ _ (T1.setTop (mkF m 22 #[.val (.ref a), .val (.int p1), .val (.int z)] [(.int z), (.int (z &&& (255 : Int32)))]))
            refine Go.st (fun _ kq_ => XS.bipush X1.here hx rfl (hb hby d1_22) kq_) ?_
            show Go p e below s _ _ _ (T1.setTop (mkF m 24 #[.val (.ref a), .val (.int p1), .val (.int z)] [(.int (8 : Int32)), (.int z), (.int (z &&& (255 : Int32)))]))
            refine Go.st (fun _ kq_ => XT.iushr X1.here hx rfl (hb hby d1_24) rfl kq_) ?_
            show Go p e below s _ _ _ (T1.setTop (mkF m 25 #[.val (.ref a), .val (.int p1), .val (.int z)] [(.int (XT.ushr z (8 : Int32))), (.int (z &&& (255 : Int32)))]))
            refine Go.st (fun _ kq_ => XS.iadd X1.here hx rfl (hb hby d1_25) rfl kq_) ?_
            show Go p e below s _ _ _ (T1.setTop (mkF m 26 #[.val (.ref a), .val (.int p1), .val (.int z)] [(.int ((z &&& (255 : Int32)) + (XT.ushr z (8 : Int32))))]))
            refine Go.st (fun _ kq_ => XS.istoreN X1.here hx rfl (hb hby d1_26) rfl (l' := #[.val (.ref a), .val (.int p1), .val (.int ((z &&& (255 : Int32)) + (XT.ushr z (8 : Int32))))]) rfl kq_) ?_
            show Go p e below s _ _ _ (T1.setTop (mkF m 27 #[.val (.ref a), .val (.int p1), .val (.int ((z &&& (255 : Int32)) + (XT.ushr z (8 : Int32))))] []))
            refine Go.st (fun _ kq_ => XS.goto X1.here hx rfl (pc0 := 27) (pc' := 9) rfl (hb hby d1_27) (by decide) (by decide) kq_) ?_
            show Go p e below s _ _ _ (T1.setTop (mkF m 9 #[.val (.ref a), .val (.int p1), .val (.int ((z &&& (255 : Int32)) + (XT.ushr z (8 : Int32))))] []))
            exact ih _ (by have := own_turn z c13_3; omega) _ rfl (own_turn z c13_3).1 ((own_turn z c13_3).2.2.1.trans hm) (fun _ => (own_turn z c13_3).2.2.2) (fun q => absurd (own_big z c13_3) (by rw [hqz q]; decide))
          · refine Go.st (fun _ kq_ => XS.icmpYes X1.here hx rfl (pc0 := 13) (pc' := 30) rfl (hb hby d1_13) rfl (XT.ii_le_t c13_3) (by decide) (by decide) kq_) ?_
            show Go p e below s _ _ _ (T1.setTop (mkF m 30 #[.val (.ref a), .val (.int p1), .val (.int z)] []))
            refine Go.st (fun _ kq_ => XS.iloadN X1.here hx rfl (hb hby d1_30) rfl kq_) ?_
            show Go p e below s _ _ _ (T1.setTop (mkF m 31 #[.val (.ref a), .val (.int p1), .val (.int z)] [(.int z)]))
            refine Go.st (fun _ kq_ => XS.ineg X1.here hx rfl (hb hby d1_31) rfl kq_) ?_
            show Go p e below s _ _ _ (T1.setTop (mkF m 32 #[.val (.ref a), .val (.int p1), .val (.int z)] [(.int (-z))]))
            refine Go.st (fun _ kq_ => XS.sipush X1.here hx rfl (hb hby d1_32) kq_) ?_
            show Go p e below s _ _ _ (T1.setTop (mkF m 35 #[.val (.ref a), .val (.int p1), .val (.int z)] [(.int (255 : Int32)), (.int (-z))]))
            refine Go.st (fun _ kq_ => XS.iand X1.here hx rfl (hb hby d1_35) rfl kq_) ?_
            show Go p e below s _ _ _ (T1.setTop (mkF m 36 #[.val (.ref a), .val (.int p1), .val (.int z)] [(.int ((-z) &&& (255 : Int32)))]))
            exact Go.ret X1 hlk (some (.int ((-z) &&& (255 : Int32)))) (fun h => by rw [Bd.returns] at h; cases h) (by rw [e1]; exact ⟨z, rfl, Or.inr ⟨c6_2, h0z, (by have := c13_3; rw [own_lt] at this; exact Int.not_lt.mp this), hm, hpz, hqz⟩, N0, rfl⟩) (by decide) (by decide) (fun fs hr => retI X1 hx Bd.returns (hb hby d1_36) hr)
      exact LP _ p1 rfl hp rfl (fun q => q) (fun q => q)
    · refine Go.st (fun _ kq_ => XT.acmpYes X1.here hx rfl (pc0 := 6) (pc' := 30) rfl (hb hby d1_6) rfl rfl rfl (XT.aa_ne_t c6_2) (by decide) (by decide) kq_) ?_
      show Go p e below s _ _ _ (T1.setTop (mkF m 30 #[.val (.ref a), .val (.int p1), .val (.int p1)] []))
      refine Go.st (fun _ kq_ => XS.iloadN X1.here hx rfl (hb hby d1_30) rfl kq_) ?_
      show Go p e below s _ _ _ (T1.setTop (mkF m 31 #[.val (.ref a), .val (.int p1), .val (.int p1)] [(.int p1)]))
      refine Go.st (fun _ kq_ => XS.ineg X1.here hx rfl (hb hby d1_31) rfl kq_) ?_
      show Go p e below s _ _ _ (T1.setTop (mkF m 32 #[.val (.ref a), .val (.int p1), .val (.int p1)] [(.int (-p1))]))
      refine Go.st (fun _ kq_ => XS.sipush X1.here hx rfl (hb hby d1_32) kq_) ?_
      show Go p e below s _ _ _ (T1.setTop (mkF m 35 #[.val (.ref a), .val (.int p1), .val (.int p1)] [(.int (255 : Int32)), (.int (-p1))]))
      refine Go.st (fun _ kq_ => XS.iand X1.here hx rfl (hb hby d1_35) rfl kq_) ?_
      show Go p e below s _ _ _ (T1.setTop (mkF m 36 #[.val (.ref a), .val (.int p1), .val (.int p1)] [(.int ((-p1) &&& (255 : Int32)))]))
      exact Go.ret X1 hlk (some (.int ((-p1) &&& (255 : Int32)))) (fun h => by rw [Bd.returns] at h; cases h) (by rw [e1]; exact ⟨p1, rfl, Or.inl ⟨c6_2, rfl⟩, N0, rfl⟩) (by decide) (by decide) (fun fs hr => retI X1 hx Bd.returns (hb hby d1_36) hr)
  obtain ⟨s2, o2, st2, r2⟩ := G
  exact ⟨s2, o2, castTop (ef1 m a p1) st2, r2⟩
theorem pd0_0 : parseMethodDescriptor "(I)I" = some ⟨[.int], some .int⟩ := by decide +kernel
theorem pn0 : plainName "com/example/assayline/assayline/protocol/colon/ChecksumOfPinLaw" = true := by first | (simp [plainName, overriddenIn]; done) | decide +kernel
theorem ef0 (m : MethodId) (x0 : Int32) (x1 : Int32) : entryFrame m #[(.int x0), (.int x1)] maxLocals = mkF m 0 #[.val (.int x0), .val (.int x1), .unset, .unset, .unset, .unset, .unset, .unset] [] := by first | (simp [entryFrame, mkF, argsToLocals, Value.category, maxLocals]; done) | rfl
def Q0 (Z : State) (p0 : Int32) (p1 : Int32) (aC : Addr) (aS : Addr) (h0 : Heap) (n0 : Nat) (v : Option Value) (h : Heap) (L : List Loc) : Prop := v = some (.int 1) ∧ Fr n0 L
set_option maxRecDepth 65536 in
set_option maxHeartbeats 40000000 in
theorem rm0 (l : Launch) (Z : State) (a0 : Array Value) (hw : ∀ d ∈ tables_1, d.before a0 Z = true) (ws : List Jvm.Cond) (p0 : Int32) (p1 : Int32) (aC : Addr) (aS : Addr) (h0 : Heap) (n0 : Nat) (O0 : Old Z n0 h0) (SC : Sta Z Z.heap "com/example/assayline/assayline/protocol/colon/Checksum" "CARRY" "Lcom/example/assayline/assayline/protocol/colon/Checksum;" (.ref aC)) (SS : Sta Z Z.heap "com/example/assayline/assayline/protocol/colon/Checksum" "SUM" "Lcom/example/assayline/assayline/protocol/colon/Checksum;" (.ref aS)) (EC : Exa Z Z.heap aC "com/example/assayline/assayline/protocol/colon/Checksum") (ES : Exa Z Z.heap aS "com/example/assayline/assayline/protocol/colon/Checksum") (hne : aS ≠ aC) :
    MetFree l x (head1 (Jvm.Cond.code x code maxLocals ret :: ws) room_1) (fun A_ U_ => A_ = #[(.int p0), (.int p1)] ∧ Z.Warmed39 U_.vm ∧ U_.heap = h0) (fun _ _ _ _ _ => True) (fun _ U o U' => ∃ v L, o = .returned v ∧ Q0 Z p0 p1 aC aS h0 n0 v U'.heap L ∧ FrameEnd U o U' L room_1.cells room_1.slots) := by
  refine MetFree.of_bodySF (plainFor_of_name pn0) hisR ?_
  intro p e s m args below meth cd s₁ Bd hml0 hP hK
  obtain ⟨rfl, hZ, hh⟩ := hP
  have hx := Bd.exec
  have hby := Bd.bytes
  have hlk : meth.locks = false := BodyLoose.notSynchronized Bd
  have hml : cd.maxLocals = 8 := hml0
  have hown : s.vm.findClass "com/example/assayline/assayline/protocol/colon/ChecksumOfPinLaw" = some m.cls := findClass_of_methodNamed Bd.named
  have hnm := (name_of_methodNamed Bd.named Bd.method).1
  have X0 : Stand p l e room_1 s m #[(.int p0), (.int p1)] below meth cd s₁ [] 0 0 := Stand.of_body Bd
  have e0 : s₁.heap = h0 := by rw [← hh, Bd.state]; rfl
  have N0 := Fr.nil n0
  have G : Go p e below s room_1.cells room_1.slots (Q0 Z p0 p1 aC aS h0 n0) (s₁.setTop (mkF m 0 #[.val (.int p0), .val (.int p1), .unset, .unset, .unset, .unset, .unset, .unset] [])) := by
    show Go p e below s _ _ _ (s₁.setTop (mkF m 0 #[.val (.int p0), .val (.int p1), .unset, .unset, .unset, .unset, .unset, .unset] []))
    refine Go.st (fun _ kq_ => XS.iloadN X0.here hx rfl (hb hby at_0) rfl kq_) ?_
    show Go p e below s _ _ _ (s₁.setTop (mkF m 1 #[.val (.int p0), .val (.int p1), .unset, .unset, .unset, .unset, .unset, .unset] [(.int p0)]))
    refine Go.st (fun _ kq_ => X0.ldcI hx hown (mvT hZ (own_w hw 0 rfl)) rfl (hb hby at_1) kq_) ?_
    show Go p e below s _ _ _ (s₁.setTop (mkF m 3 #[.val (.int p0), .val (.int p1), .unset, .unset, .unset, .unset, .unset, .unset] [(.int (2147483647 : Int32)), (.int p0)]))
    refine Go.st (fun _ kq_ => XS.iand X0.here hx rfl (hb hby at_3) rfl kq_) ?_
    show Go p e below s _ _ _ (s₁.setTop (mkF m 4 #[.val (.int p0), .val (.int p1), .unset, .unset, .unset, .unset, .unset, .unset] [(.int (p0 &&& (2147483647 : Int32)))]))
    refine Go.st (fun _ kq_ => XS.istoreN X0.here hx rfl (hb hby at_4) rfl (l' := #[.val (.int p0), .val (.int p1), .val (.int (p0 &&& (2147483647 : Int32))), .unset, .unset, .unset, .unset, .unset]) rfl kq_) ?_
    show Go p e below s _ _ _ (s₁.setTop (mkF m 5 #[.val (.int p0), .val (.int p1), .val (.int (p0 &&& (2147483647 : Int32))), .unset, .unset, .unset, .unset, .unset] []))
    refine Go.st (fun _ kq_ => XS.iloadN X0.here hx rfl (hb hby at_5) rfl kq_) ?_
    show Go p e below s _ _ _ (s₁.setTop (mkF m 6 #[.val (.int p0), .val (.int p1), .val (.int (p0 &&& (2147483647 : Int32))), .unset, .unset, .unset, .unset, .unset] [(.int p1)]))
    refine Go.st (fun _ kq_ => XS.iconst X0.here hx rfl (hb hby at_6) kq_) ?_
    show Go p e below s _ _ _ (s₁.setTop (mkF m 7 #[.val (.int p0), .val (.int p1), .val (.int (p0 &&& (2147483647 : Int32))), .unset, .unset, .unset, .unset, .unset] [(.int (1 : Int32)), (.int p1)]))
    refine Go.st (fun _ kq_ => XS.iand X0.here hx rfl (hb hby at_7) rfl kq_) ?_
    show Go p e below s _ _ _ (s₁.setTop (mkF m 8 #[.val (.int p0), .val (.int p1), .val (.int (p0 &&& (2147483647 : Int32))), .unset, .unset, .unset, .unset, .unset] [(.int (p1 &&& (1 : Int32)))]))
    by_cases c8_1 : (p1 &&& (1 : Int32)) = (0 : Int32)
    · refine Go.st (fun _ kq_ => XS.ifYes X0.here hx rfl (pc0 := 8) (pc' := 15) rfl (hb hby at_8) rfl (XT.i0_eq_t c8_1) (by decide) (by decide) kq_) ?_
      show Go p e below s _ _ _ (s₁.setTop (mkF m 15 #[.val (.int p0), .val (.int p1), .val (.int (p0 &&& (2147483647 : Int32))), .unset, .unset, .unset, .unset, .unset] []))
      refine Go.st (fun _ kq_ => XS.iconst X0.here hx rfl (hb hby at_15) kq_) ?_
      show Go p e below s _ _ _ (s₁.setTop (mkF m 16 #[.val (.int p0), .val (.int p1), .val (.int (p0 &&& (2147483647 : Int32))), .unset, .unset, .unset, .unset, .unset] [(.int (0 : Int32))]))
      refine Go.st (fun _ kq_ => XS.istoreN X0.here hx rfl (hb hby at_16) rfl (l' := #[.val (.int p0), .val (.int p1), .val (.int (p0 &&& (2147483647 : Int32))), .val (.int (0 : Int32)), .unset, .unset, .unset, .unset]) rfl kq_) ?_
      show Go p e below s _ _ _ (s₁.setTop (mkF m 17 #[.val (.int p0), .val (.int p1), .val (.int (p0 &&& (2147483647 : Int32))), .val (.int (0 : Int32)), .unset, .unset, .unset, .unset] []))
      refine Go.st (fun _ kq_ => XS.iloadN X0.here hx rfl (hb hby at_17) rfl kq_) ?_
      show Go p e below s _ _ _ (s₁.setTop (mkF m 18 #[.val (.int p0), .val (.int p1), .val (.int (p0 &&& (2147483647 : Int32))), .val (.int (0 : Int32)), .unset, .unset, .unset, .unset] [(.int (0 : Int32))]))
      refine Go.st (fun _ kq_ => XS.ifYes X0.here hx rfl (pc0 := 18) (pc' := 27) rfl (hb hby at_18) rfl (by decide) (by decide) (by decide) kq_) ?_
      show Go p e below s _ _ _ (s₁.setTop (mkF m 27 #[.val (.int p0), .val (.int p1), .val (.int (p0 &&& (2147483647 : Int32))), .val (.int (0 : Int32)), .unset, .unset, .unset, .unset] []))
      obtain ⟨T2, X2, e2, st2⟩ := getS X0 hx hZ hown (host := "") (own_w hw 10 rfl) Via.refl e0 (SS.ext O0.2) (g := (mkF m 27 #[.val (.int p0), .val (.int p1), .val (.int (p0 &&& (2147483647 : Int32))), .val (.int (0 : Int32)), .unset, .unset, .unset, .unset] [])) rfl (hb hby at_27)
      refine Go.st st2 ?_
      show Go p e below s _ _ _ (T2.setTop (mkF m 30 #[.val (.int p0), .val (.int p1), .val (.int (p0 &&& (2147483647 : Int32))), .val (.int (0 : Int32)), .unset, .unset, .unset, .unset] [(.ref aS)]))
      refine Go.st (fun _ kq_ => XS.astore X2.here hx rfl (hb hby at_30) rfl rfl (l' := #[.val (.int p0), .val (.int p1), .val (.int (p0 &&& (2147483647 : Int32))), .val (.int (0 : Int32)), .val (.ref aS), .unset, .unset, .unset]) rfl kq_) ?_
      show Go p e below s _ _ _ (T2.setTop (mkF m 32 #[.val (.int p0), .val (.int p1), .val (.int (p0 &&& (2147483647 : Int32))), .val (.int (0 : Int32)), .val (.ref aS), .unset, .unset, .unset] []))
      refine Go.st (fun _ kq_ => XS.aload X2.here hx rfl (hb hby at_32) rfl rfl kq_) ?_
      show Go p e below s _ _ _ (T2.setTop (mkF m 34 #[.val (.int p0), .val (.int p1), .val (.int (p0 &&& (2147483647 : Int32))), .val (.int (0 : Int32)), .val (.ref aS), .unset, .unset, .unset] [(.ref aS)]))
      refine Go.st (fun _ kq_ => XS.iloadN X2.here hx rfl (hb hby at_34) rfl kq_) ?_
      show Go p e below s _ _ _ (T2.setTop (mkF m 35 #[.val (.int p0), .val (.int p1), .val (.int (p0 &&& (2147483647 : Int32))), .val (.int (0 : Int32)), .val (.ref aS), .unset, .unset, .unset] [(.int (p0 &&& (2147483647 : Int32))), (.ref aS)]))
      obtain ⟨cq3, kq3, qa3, qb3, qc3⟩ := isOf hZ e2 (ES.ext O0.2)
      obtain ⟨_, _, ⟨T3, L3, k3, n3⟩, -, X3, ⟨Lc3, hQ3, l3, y3, z3⟩, st3⟩ := X2.virtualBack hx (y := (⟨"com/example/assayline/assayline/protocol/colon/Checksum", "of", "(I)I"⟩ : MethodName)) (z := (⟨"com/example/assayline/assayline/protocol/colon/Checksum", "of", "(I)I"⟩ : MethodName)) hown (mvT hZ (own_w hw 4 rfl)) (mvT hZ (own_w hw 5 rfl)) (notFace_of_selects (args := #[]) (mvT hZ (own_w hw 7 rfl))) (mvT hZ (own_w hw 7 rfl)) (mvT hZ (own_w hw 6 rfl)) (by decide) (backOf (W := 0) (rm1 l Z a0 hw [] aS aC (p0 &&& (2147483647 : Int32)) h0 n0 O0 SC (own_pos p0)) hZ (own_w hw 8 rfl) (own_w hw 2 rfl) (by decide) (by decide)) qa3 qc3 (g := (mkF m 35 #[.val (.int p0), .val (.int p1), .val (.int (p0 &&& (2147483647 : Int32))), .val (.int (0 : Int32)), .val (.ref aS), .unset, .unset, .unset] [(.int (p0 &&& (2147483647 : Int32))), (.ref aS)])) rfl (by rw [hml]; rfl) (Steps.refl _) (argsL := [(.int (p0 &&& (2147483647 : Int32)))]) (rest := []) (lenOf pd0_0 rfl) rfl (by show 2 * 0 + _ ≤ _; exact Nat.le_of_eq rfl) (hb hby at_35) (fun _ _ => ⟨rfl, e2, (by decide : 0 + 0 ≤ _), (by decide : 0 + 0 ≤ _)⟩)
      dsimp only [Pt.U, Pt.locs, Pt.cells, Pt.slots] at X3 l3 y3 z3 st3 hQ3
      subst l3 y3 z3
      obtain ⟨f, rfl, hd, Nc3, e3⟩ := hQ3
      obtain rfl : f = (p0 &&& (2147483647 : Int32)) := hd.elim (fun q => q.2) (fun q => absurd (Value.ref.inj q.1) hne)
      have N3 := Fr.app N0 Nc3
      refine Go.tr st3 ?_
      show Go p e below s _ _ _ (T3.setTop (mkF m 38 #[.val (.int p0), .val (.int p1), .val (.int (p0 &&& (2147483647 : Int32))), .val (.int (0 : Int32)), .val (.ref aS), .unset, .unset, .unset] [(.int ((-(p0 &&& (2147483647 : Int32))) &&& (255 : Int32)))]))
      refine Go.st (fun _ kq_ => XS.istore X3.here hx rfl (hb hby at_38) rfl (l' := #[.val (.int p0), .val (.int p1), .val (.int (p0 &&& (2147483647 : Int32))), .val (.int (0 : Int32)), .val (.ref aS), .val (.int ((-(p0 &&& (2147483647 : Int32))) &&& (255 : Int32))), .unset, .unset]) rfl kq_) ?_
      show Go p e below s _ _ _ (T3.setTop (mkF m 40 #[.val (.int p0), .val (.int p1), .val (.int (p0 &&& (2147483647 : Int32))), .val (.int (0 : Int32)), .val (.ref aS), .val (.int ((-(p0 &&& (2147483647 : Int32))) &&& (255 : Int32))), .unset, .unset] []))
      refine Go.st (fun _ kq_ => XS.iloadN X3.here hx rfl (hb hby at_40) rfl kq_) ?_
      show Go p e below s _ _ _ (T3.setTop (mkF m 41 #[.val (.int p0), .val (.int p1), .val (.int (p0 &&& (2147483647 : Int32))), .val (.int (0 : Int32)), .val (.ref aS), .val (.int ((-(p0 &&& (2147483647 : Int32))) &&& (255 : Int32))), .unset, .unset] [(.int (0 : Int32))]))
      refine Go.st (fun _ kq_ => XS.ifYes X3.here hx rfl (pc0 := 41) (pc' := 68) rfl (hb hby at_41) rfl (by decide) (by decide) (by decide) kq_) ?_
      show Go p e below s _ _ _ (T3.setTop (mkF m 68 #[.val (.int p0), .val (.int p1), .val (.int (p0 &&& (2147483647 : Int32))), .val (.int (0 : Int32)), .val (.ref aS), .val (.int ((-(p0 &&& (2147483647 : Int32))) &&& (255 : Int32))), .unset, .unset] []))
      refine Go.st (fun _ kq_ => XS.iloadN X3.here hx rfl (hb hby at_68) rfl kq_) ?_
      show Go p e below s _ _ _ (T3.setTop (mkF m 69 #[.val (.int p0), .val (.int p1), .val (.int (p0 &&& (2147483647 : Int32))), .val (.int (0 : Int32)), .val (.ref aS), .val (.int ((-(p0 &&& (2147483647 : Int32))) &&& (255 : Int32))), .unset, .unset] [(.int (p0 &&& (2147483647 : Int32)))]))
      refine Go.st (fun _ kq_ => XS.sipush X3.here hx rfl (hb hby at_69) kq_) ?_
      show Go p e below s _ _ _ (T3.setTop (mkF m 72 #[.val (.int p0), .val (.int p1), .val (.int (p0 &&& (2147483647 : Int32))), .val (.int (0 : Int32)), .val (.ref aS), .val (.int ((-(p0 &&& (2147483647 : Int32))) &&& (255 : Int32))), .unset, .unset] [(.int (256 : Int32)), (.int (p0 &&& (2147483647 : Int32)))]))
      refine Go.st (fun _ kq_ => iremM X3 hx rfl (hb hby at_72) rfl (by decide) kq_) ?_
      show Go p e below s _ _ _ (T3.setTop (mkF m 73 #[.val (.int p0), .val (.int p1), .val (.int (p0 &&& (2147483647 : Int32))), .val (.int (0 : Int32)), .val (.ref aS), .val (.int ((-(p0 &&& (2147483647 : Int32))) &&& (255 : Int32))), .unset, .unset] [(.int ((p0 &&& (2147483647 : Int32)) % (256 : Int32)))]))
      refine Go.st (fun _ kq_ => XS.istore X3.here hx rfl (hb hby at_73) rfl (l' := #[.val (.int p0), .val (.int p1), .val (.int (p0 &&& (2147483647 : Int32))), .val (.int (0 : Int32)), .val (.ref aS), .val (.int ((-(p0 &&& (2147483647 : Int32))) &&& (255 : Int32))), .val (.int ((p0 &&& (2147483647 : Int32)) % (256 : Int32))), .unset]) rfl kq_) ?_
      show Go p e below s _ _ _ (T3.setTop (mkF m 75 #[.val (.int p0), .val (.int p1), .val (.int (p0 &&& (2147483647 : Int32))), .val (.int (0 : Int32)), .val (.ref aS), .val (.int ((-(p0 &&& (2147483647 : Int32))) &&& (255 : Int32))), .val (.int ((p0 &&& (2147483647 : Int32)) % (256 : Int32))), .unset] []))
      refine Go.st (fun _ kq_ => XS.iload X3.here hx rfl (hb hby at_75) rfl kq_) ?_
      show Go p e below s _ _ _ (T3.setTop (mkF m 77 #[.val (.int p0), .val (.int p1), .val (.int (p0 &&& (2147483647 : Int32))), .val (.int (0 : Int32)), .val (.ref aS), .val (.int ((-(p0 &&& (2147483647 : Int32))) &&& (255 : Int32))), .val (.int ((p0 &&& (2147483647 : Int32)) % (256 : Int32))), .unset] [(.int ((p0 &&& (2147483647 : Int32)) % (256 : Int32)))]))
      by_cases c77_4 : ((p0 &&& (2147483647 : Int32)) % (256 : Int32)) = (0 : Int32)
      · refine Go.st (fun _ kq_ => XS.ifNo X3.here hx rfl (hb hby at_77) rfl (XT.i0_ne_f c77_4) kq_) ?_
        show Go p e below s _ _ _ (T3.setTop (mkF m 80 #[.val (.int p0), .val (.int p1), .val (.int (p0 &&& (2147483647 : Int32))), .val (.int (0 : Int32)), .val (.ref aS), .val (.int ((-(p0 &&& (2147483647 : Int32))) &&& (255 : Int32))), .val (.int ((p0 &&& (2147483647 : Int32)) % (256 : Int32))), .unset] []))
        refine Go.st (fun _ kq_ => XS.iconst X3.here hx rfl (hb hby at_80) kq_) ?_
        show Go p e below s _ _ _ (T3.setTop (mkF m 81 #[.val (.int p0), .val (.int p1), .val (.int (p0 &&& (2147483647 : Int32))), .val (.int (0 : Int32)), .val (.ref aS), .val (.int ((-(p0 &&& (2147483647 : Int32))) &&& (255 : Int32))), .val (.int ((p0 &&& (2147483647 : Int32)) % (256 : Int32))), .unset] [(.int (0 : Int32))]))
        refine Go.st (fun _ kq_ => XS.istore X3.here hx rfl (hb hby at_81) rfl (l' := #[.val (.int p0), .val (.int p1), .val (.int (p0 &&& (2147483647 : Int32))), .val (.int (0 : Int32)), .val (.ref aS), .val (.int ((-(p0 &&& (2147483647 : Int32))) &&& (255 : Int32))), .val (.int ((p0 &&& (2147483647 : Int32)) % (256 : Int32))), .val (.int (0 : Int32))]) rfl kq_) ?_
        show Go p e below s _ _ _ (T3.setTop (mkF m 83 #[.val (.int p0), .val (.int p1), .val (.int (p0 &&& (2147483647 : Int32))), .val (.int (0 : Int32)), .val (.ref aS), .val (.int ((-(p0 &&& (2147483647 : Int32))) &&& (255 : Int32))), .val (.int ((p0 &&& (2147483647 : Int32)) % (256 : Int32))), .val (.int (0 : Int32))] []))
        refine Go.st (fun _ kq_ => XS.goto X3.here hx rfl (pc0 := 83) (pc' := 94) rfl (hb hby at_83) (by decide) (by decide) kq_) ?_
        show Go p e below s _ _ _ (T3.setTop (mkF m 94 #[.val (.int p0), .val (.int p1), .val (.int (p0 &&& (2147483647 : Int32))), .val (.int (0 : Int32)), .val (.ref aS), .val (.int ((-(p0 &&& (2147483647 : Int32))) &&& (255 : Int32))), .val (.int ((p0 &&& (2147483647 : Int32)) % (256 : Int32))), .val (.int (0 : Int32))] []))
        refine Go.st (fun _ kq_ => XS.iload X3.here hx rfl (hb hby at_94) rfl kq_) ?_
        show Go p e below s _ _ _ (T3.setTop (mkF m 96 #[.val (.int p0), .val (.int p1), .val (.int (p0 &&& (2147483647 : Int32))), .val (.int (0 : Int32)), .val (.ref aS), .val (.int ((-(p0 &&& (2147483647 : Int32))) &&& (255 : Int32))), .val (.int ((p0 &&& (2147483647 : Int32)) % (256 : Int32))), .val (.int (0 : Int32))] [(.int ((-(p0 &&& (2147483647 : Int32))) &&& (255 : Int32)))]))
        refine Go.st (fun _ kq_ => XS.iload X3.here hx rfl (hb hby at_96) rfl kq_) ?_
        show Go p e below s _ _ _ (T3.setTop (mkF m 98 #[.val (.int p0), .val (.int p1), .val (.int (p0 &&& (2147483647 : Int32))), .val (.int (0 : Int32)), .val (.ref aS), .val (.int ((-(p0 &&& (2147483647 : Int32))) &&& (255 : Int32))), .val (.int ((p0 &&& (2147483647 : Int32)) % (256 : Int32))), .val (.int (0 : Int32))] [(.int (0 : Int32)), (.int ((-(p0 &&& (2147483647 : Int32))) &&& (255 : Int32)))]))
        refine Go.st (fun _ kq_ => XS.icmpNo X3.here hx rfl (hb hby at_98) rfl (XT.ii_ne_f (own_s0 _ (own_pos p0) c77_4)) kq_) ?_
        show Go p e below s _ _ _ (T3.setTop (mkF m 101 #[.val (.int p0), .val (.int p1), .val (.int (p0 &&& (2147483647 : Int32))), .val (.int (0 : Int32)), .val (.ref aS), .val (.int ((-(p0 &&& (2147483647 : Int32))) &&& (255 : Int32))), .val (.int ((p0 &&& (2147483647 : Int32)) % (256 : Int32))), .val (.int (0 : Int32))] []))
        refine Go.st (fun _ kq_ => XS.iconst X3.here hx rfl (hb hby at_101) kq_) ?_
        show Go p e below s _ _ _ (T3.setTop (mkF m 102 #[.val (.int p0), .val (.int p1), .val (.int (p0 &&& (2147483647 : Int32))), .val (.int (0 : Int32)), .val (.ref aS), .val (.int ((-(p0 &&& (2147483647 : Int32))) &&& (255 : Int32))), .val (.int ((p0 &&& (2147483647 : Int32)) % (256 : Int32))), .val (.int (0 : Int32))] [(.int (1 : Int32))]))
        refine Go.st (fun _ kq_ => XS.goto X3.here hx rfl (pc0 := 102) (pc' := 106) rfl (hb hby at_102) (by decide) (by decide) kq_) ?_
        show Go p e below s _ _ _ (T3.setTop (mkF m 106 #[.val (.int p0), .val (.int p1), .val (.int (p0 &&& (2147483647 : Int32))), .val (.int (0 : Int32)), .val (.ref aS), .val (.int ((-(p0 &&& (2147483647 : Int32))) &&& (255 : Int32))), .val (.int ((p0 &&& (2147483647 : Int32)) % (256 : Int32))), .val (.int (0 : Int32))] [(.int (1 : Int32))]))
        exact Go.ret X3 hlk (some (.int (nar .boolean (1 : Int32)))) (fun h => by rw [Bd.returns] at h; cases h) (by rw [e3]; exact ⟨rfl, N3⟩) (by decide) (by decide) (fun fs hr => retN X3 hx (t := .boolean) Bd.returns (by simp) (hb hby at_106) hr)
      · refine Go.st (fun _ kq_ => XS.ifYes X3.here hx rfl (pc0 := 77) (pc' := 86) rfl (hb hby at_77) rfl (XT.i0_ne_t c77_4) (by decide) (by decide) kq_) ?_
        show Go p e below s _ _ _ (T3.setTop (mkF m 86 #[.val (.int p0), .val (.int p1), .val (.int (p0 &&& (2147483647 : Int32))), .val (.int (0 : Int32)), .val (.ref aS), .val (.int ((-(p0 &&& (2147483647 : Int32))) &&& (255 : Int32))), .val (.int ((p0 &&& (2147483647 : Int32)) % (256 : Int32))), .unset] []))
        refine Go.st (fun _ kq_ => XS.sipush X3.here hx rfl (hb hby at_86) kq_) ?_
        show Go p e below s _ _ _ (T3.setTop (mkF m 89 #[.val (.int p0), .val (.int p1), .val (.int (p0 &&& (2147483647 : Int32))), .val (.int (0 : Int32)), .val (.ref aS), .val (.int ((-(p0 &&& (2147483647 : Int32))) &&& (255 : Int32))), .val (.int ((p0 &&& (2147483647 : Int32)) % (256 : Int32))), .unset] [(.int (256 : Int32))]))
        refine Go.st (fun _ kq_ => XS.iload X3.here hx rfl (hb hby at_89) rfl kq_) ?_
        show Go p e below s _ _ _ (T3.setTop (mkF m 91 #[.val (.int p0), .val (.int p1), .val (.int (p0 &&& (2147483647 : Int32))), .val (.int (0 : Int32)), .val (.ref aS), .val (.int ((-(p0 &&& (2147483647 : Int32))) &&& (255 : Int32))), .val (.int ((p0 &&& (2147483647 : Int32)) % (256 : Int32))), .unset] [(.int ((p0 &&& (2147483647 : Int32)) % (256 : Int32))), (.int (256 : Int32))]))
        refine Go.st (fun _ kq_ => XS.isub X3.here hx rfl (hb hby at_91) rfl kq_) ?_
        show Go p e below s _ _ _ (T3.setTop (mkF m 92 #[.val (.int p0), .val (.int p1), .val (.int (p0 &&& (2147483647 : Int32))), .val (.int (0 : Int32)), .val (.ref aS), .val (.int ((-(p0 &&& (2147483647 : Int32))) &&& (255 : Int32))), .val (.int ((p0 &&& (2147483647 : Int32)) % (256 : Int32))), .unset] [(.int ((256 : Int32) - ((p0 &&& (2147483647 : Int32)) % (256 : Int32))))]))
        refine Go.st (fun _ kq_ => XS.istore X3.here hx rfl (hb hby at_92) rfl (l' := #[.val (.int p0), .val (.int p1), .val (.int (p0 &&& (2147483647 : Int32))), .val (.int (0 : Int32)), .val (.ref aS), .val (.int ((-(p0 &&& (2147483647 : Int32))) &&& (255 : Int32))), .val (.int ((p0 &&& (2147483647 : Int32)) % (256 : Int32))), .val (.int ((256 : Int32) - ((p0 &&& (2147483647 : Int32)) % (256 : Int32))))]) rfl kq_) ?_
        show Go p e below s _ _ _ (T3.setTop (mkF m 94 #[.val (.int p0), .val (.int p1), .val (.int (p0 &&& (2147483647 : Int32))), .val (.int (0 : Int32)), .val (.ref aS), .val (.int ((-(p0 &&& (2147483647 : Int32))) &&& (255 : Int32))), .val (.int ((p0 &&& (2147483647 : Int32)) % (256 : Int32))), .val (.int ((256 : Int32) - ((p0 &&& (2147483647 : Int32)) % (256 : Int32))))] []))
        refine Go.st (fun _ kq_ => XS.iload X3.here hx rfl (hb hby at_94) rfl kq_) ?_
        show Go p e below s _ _ _ (T3.setTop (mkF m 96 #[.val (.int p0), .val (.int p1), .val (.int (p0 &&& (2147483647 : Int32))), .val (.int (0 : Int32)), .val (.ref aS), .val (.int ((-(p0 &&& (2147483647 : Int32))) &&& (255 : Int32))), .val (.int ((p0 &&& (2147483647 : Int32)) % (256 : Int32))), .val (.int ((256 : Int32) - ((p0 &&& (2147483647 : Int32)) % (256 : Int32))))] [(.int ((-(p0 &&& (2147483647 : Int32))) &&& (255 : Int32)))]))
        refine Go.st (fun _ kq_ => XS.iload X3.here hx rfl (hb hby at_96) rfl kq_) ?_
        show Go p e below s _ _ _ (T3.setTop (mkF m 98 #[.val (.int p0), .val (.int p1), .val (.int (p0 &&& (2147483647 : Int32))), .val (.int (0 : Int32)), .val (.ref aS), .val (.int ((-(p0 &&& (2147483647 : Int32))) &&& (255 : Int32))), .val (.int ((p0 &&& (2147483647 : Int32)) % (256 : Int32))), .val (.int ((256 : Int32) - ((p0 &&& (2147483647 : Int32)) % (256 : Int32))))] [(.int ((256 : Int32) - ((p0 &&& (2147483647 : Int32)) % (256 : Int32)))), (.int ((-(p0 &&& (2147483647 : Int32))) &&& (255 : Int32)))]))
        refine Go.st (fun _ kq_ => XS.icmpNo X3.here hx rfl (hb hby at_98) rfl (XT.ii_ne_f (own_s1 _ (own_pos p0) c77_4)) kq_) ?_
        show Go p e below s _ _ _ (T3.setTop (mkF m 101 #[.val (.int p0), .val (.int p1), .val (.int (p0 &&& (2147483647 : Int32))), .val (.int (0 : Int32)), .val (.ref aS), .val (.int ((-(p0 &&& (2147483647 : Int32))) &&& (255 : Int32))), .val (.int ((p0 &&& (2147483647 : Int32)) % (256 : Int32))), .val (.int ((256 : Int32) - ((p0 &&& (2147483647 : Int32)) % (256 : Int32))))] []))
        refine Go.st (fun _ kq_ => XS.iconst X3.here hx rfl (hb hby at_101) kq_) ?_
        show Go p e below s _ _ _ (T3.setTop (mkF m 102 #[.val (.int p0), .val (.int p1), .val (.int (p0 &&& (2147483647 : Int32))), .val (.int (0 : Int32)), .val (.ref aS), .val (.int ((-(p0 &&& (2147483647 : Int32))) &&& (255 : Int32))), .val (.int ((p0 &&& (2147483647 : Int32)) % (256 : Int32))), .val (.int ((256 : Int32) - ((p0 &&& (2147483647 : Int32)) % (256 : Int32))))] [(.int (1 : Int32))]))
        refine Go.st (fun _ kq_ => XS.goto X3.here hx rfl (pc0 := 102) (pc' := 106) rfl (hb hby at_102) (by decide) (by decide) kq_) ?_
        show Go p e below s _ _ _ (T3.setTop (mkF m 106 #[.val (.int p0), .val (.int p1), .val (.int (p0 &&& (2147483647 : Int32))), .val (.int (0 : Int32)), .val (.ref aS), .val (.int ((-(p0 &&& (2147483647 : Int32))) &&& (255 : Int32))), .val (.int ((p0 &&& (2147483647 : Int32)) % (256 : Int32))), .val (.int ((256 : Int32) - ((p0 &&& (2147483647 : Int32)) % (256 : Int32))))] [(.int (1 : Int32))]))
        exact Go.ret X3 hlk (some (.int (nar .boolean (1 : Int32)))) (fun h => by rw [Bd.returns] at h; cases h) (by rw [e3]; exact ⟨rfl, N3⟩) (by decide) (by decide) (fun fs hr => retN X3 hx (t := .boolean) Bd.returns (by simp) (hb hby at_106) hr)
    · refine Go.st (fun _ kq_ => XS.ifNo X0.here hx rfl (hb hby at_8) rfl (XT.i0_eq_f c8_1) kq_) ?_
      show Go p e below s _ _ _ (s₁.setTop (mkF m 11 #[.val (.int p0), .val (.int p1), .val (.int (p0 &&& (2147483647 : Int32))), .unset, .unset, .unset, .unset, .unset] []))
      refine Go.st (fun _ kq_ => XS.iconst X0.here hx rfl (hb hby at_11) kq_) ?_
      show Go p e below s _ _ _ (s₁.setTop (mkF m 12 #[.val (.int p0), .val (.int p1), .val (.int (p0 &&& (2147483647 : Int32))), .unset, .unset, .unset, .unset, .unset] [(.int (1 : Int32))]))
      refine Go.st (fun _ kq_ => XS.goto X0.here hx rfl (pc0 := 12) (pc' := 16) rfl (hb hby at_12) (by decide) (by decide) kq_) ?_
      show Go p e below s _ _ _ (s₁.setTop (mkF m 16 #[.val (.int p0), .val (.int p1), .val (.int (p0 &&& (2147483647 : Int32))), .unset, .unset, .unset, .unset, .unset] [(.int (1 : Int32))]))
      refine Go.st (fun _ kq_ => XS.istoreN X0.here hx rfl (hb hby at_16) rfl (l' := #[.val (.int p0), .val (.int p1), .val (.int (p0 &&& (2147483647 : Int32))), .val (.int (1 : Int32)), .unset, .unset, .unset, .unset]) rfl kq_) ?_
      show Go p e below s _ _ _ (s₁.setTop (mkF m 17 #[.val (.int p0), .val (.int p1), .val (.int (p0 &&& (2147483647 : Int32))), .val (.int (1 : Int32)), .unset, .unset, .unset, .unset] []))
      refine Go.st (fun _ kq_ => XS.iloadN X0.here hx rfl (hb hby at_17) rfl kq_) ?_
      show Go p e below s _ _ _ (s₁.setTop (mkF m 18 #[.val (.int p0), .val (.int p1), .val (.int (p0 &&& (2147483647 : Int32))), .val (.int (1 : Int32)), .unset, .unset, .unset, .unset] [(.int (1 : Int32))]))
      refine Go.st (fun _ kq_ => XS.ifNo X0.here hx rfl (hb hby at_18) rfl (by decide) kq_) ?_
      show Go p e below s _ _ _ (s₁.setTop (mkF m 21 #[.val (.int p0), .val (.int p1), .val (.int (p0 &&& (2147483647 : Int32))), .val (.int (1 : Int32)), .unset, .unset, .unset, .unset] []))
      obtain ⟨T5, X5, e5, st5⟩ := getS X0 hx hZ hown (host := "") (own_w hw 1 rfl) Via.refl e0 (SC.ext O0.2) (g := (mkF m 21 #[.val (.int p0), .val (.int p1), .val (.int (p0 &&& (2147483647 : Int32))), .val (.int (1 : Int32)), .unset, .unset, .unset, .unset] [])) rfl (hb hby at_21)
      refine Go.st st5 ?_
      show Go p e below s _ _ _ (T5.setTop (mkF m 24 #[.val (.int p0), .val (.int p1), .val (.int (p0 &&& (2147483647 : Int32))), .val (.int (1 : Int32)), .unset, .unset, .unset, .unset] [(.ref aC)]))
      refine Go.st (fun _ kq_ => XS.goto X5.here hx rfl (pc0 := 24) (pc' := 30) rfl (hb hby at_24) (by decide) (by decide) kq_) ?_
      show Go p e below s _ _ _ (T5.setTop (mkF m 30 #[.val (.int p0), .val (.int p1), .val (.int (p0 &&& (2147483647 : Int32))), .val (.int (1 : Int32)), .unset, .unset, .unset, .unset] [(.ref aC)]))
      refine Go.st (fun _ kq_ => XS.astore X5.here hx rfl (hb hby at_30) rfl rfl (l' := #[.val (.int p0), .val (.int p1), .val (.int (p0 &&& (2147483647 : Int32))), .val (.int (1 : Int32)), .val (.ref aC), .unset, .unset, .unset]) rfl kq_) ?_
      show Go p e below s _ _ _ (T5.setTop (mkF m 32 #[.val (.int p0), .val (.int p1), .val (.int (p0 &&& (2147483647 : Int32))), .val (.int (1 : Int32)), .val (.ref aC), .unset, .unset, .unset] []))
      refine Go.st (fun _ kq_ => XS.aload X5.here hx rfl (hb hby at_32) rfl rfl kq_) ?_
      show Go p e below s _ _ _ (T5.setTop (mkF m 34 #[.val (.int p0), .val (.int p1), .val (.int (p0 &&& (2147483647 : Int32))), .val (.int (1 : Int32)), .val (.ref aC), .unset, .unset, .unset] [(.ref aC)]))
      refine Go.st (fun _ kq_ => XS.iloadN X5.here hx rfl (hb hby at_34) rfl kq_) ?_
      show Go p e below s _ _ _ (T5.setTop (mkF m 35 #[.val (.int p0), .val (.int p1), .val (.int (p0 &&& (2147483647 : Int32))), .val (.int (1 : Int32)), .val (.ref aC), .unset, .unset, .unset] [(.int (p0 &&& (2147483647 : Int32))), (.ref aC)]))
      obtain ⟨cq6, kq6, qa6, qb6, qc6⟩ := isOf hZ e5 (EC.ext O0.2)
      obtain ⟨_, _, ⟨T6, L6, k6, n6⟩, -, X6, ⟨Lc6, hQ6, l6, y6, z6⟩, st6⟩ := X5.virtualBack hx (y := (⟨"com/example/assayline/assayline/protocol/colon/Checksum", "of", "(I)I"⟩ : MethodName)) (z := (⟨"com/example/assayline/assayline/protocol/colon/Checksum", "of", "(I)I"⟩ : MethodName)) hown (mvT hZ (own_w hw 4 rfl)) (mvT hZ (own_w hw 5 rfl)) (notFace_of_selects (args := #[]) (mvT hZ (own_w hw 7 rfl))) (mvT hZ (own_w hw 7 rfl)) (mvT hZ (own_w hw 6 rfl)) (by decide) (backOf (W := 0) (rm1 l Z a0 hw [] aC aC (p0 &&& (2147483647 : Int32)) h0 n0 O0 SC (own_pos p0)) hZ (own_w hw 8 rfl) (own_w hw 2 rfl) (by decide) (by decide)) qa6 qc6 (g := (mkF m 35 #[.val (.int p0), .val (.int p1), .val (.int (p0 &&& (2147483647 : Int32))), .val (.int (1 : Int32)), .val (.ref aC), .unset, .unset, .unset] [(.int (p0 &&& (2147483647 : Int32))), (.ref aC)])) rfl (by rw [hml]; rfl) (Steps.refl _) (argsL := [(.int (p0 &&& (2147483647 : Int32)))]) (rest := []) (lenOf pd0_0 rfl) rfl (by show 2 * 0 + _ ≤ _; exact Nat.le_of_eq rfl) (hb hby at_35) (fun _ _ => ⟨rfl, e5, (by decide : 0 + 0 ≤ _), (by decide : 0 + 0 ≤ _)⟩)
      dsimp only [Pt.U, Pt.locs, Pt.cells, Pt.slots] at X6 l6 y6 z6 st6 hQ6
      subst l6 y6 z6
      obtain ⟨f, rfl, hd, Nc6, e6⟩ := hQ6
      have hof : OfCarry (p0 &&& (2147483647 : Int32)) f := hd.elim (fun q => absurd rfl q.1) (fun q => q.2)
      have N6 := Fr.app N0 Nc6
      refine Go.tr st6 ?_
      show Go p e below s _ _ _ (T6.setTop (mkF m 38 #[.val (.int p0), .val (.int p1), .val (.int (p0 &&& (2147483647 : Int32))), .val (.int (1 : Int32)), .val (.ref aC), .unset, .unset, .unset] [(.int ((-f) &&& (255 : Int32)))]))
      refine Go.st (fun _ kq_ => XS.istore X6.here hx rfl (hb hby at_38) rfl (l' := #[.val (.int p0), .val (.int p1), .val (.int (p0 &&& (2147483647 : Int32))), .val (.int (1 : Int32)), .val (.ref aC), .val (.int ((-f) &&& (255 : Int32))), .unset, .unset]) rfl kq_) ?_
      show Go p e below s _ _ _ (T6.setTop (mkF m 40 #[.val (.int p0), .val (.int p1), .val (.int (p0 &&& (2147483647 : Int32))), .val (.int (1 : Int32)), .val (.ref aC), .val (.int ((-f) &&& (255 : Int32))), .unset, .unset] []))
      refine Go.st (fun _ kq_ => XS.iloadN X6.here hx rfl (hb hby at_40) rfl kq_) ?_
      show Go p e below s _ _ _ (T6.setTop (mkF m 41 #[.val (.int p0), .val (.int p1), .val (.int (p0 &&& (2147483647 : Int32))), .val (.int (1 : Int32)), .val (.ref aC), .val (.int ((-f) &&& (255 : Int32))), .unset, .unset] [(.int (1 : Int32))]))
      refine Go.st (fun _ kq_ => XS.ifNo X6.here hx rfl (hb hby at_41) rfl (by decide) kq_) ?_
      show Go p e below s _ _ _ (T6.setTop (mkF m 44 #[.val (.int p0), .val (.int p1), .val (.int (p0 &&& (2147483647 : Int32))), .val (.int (1 : Int32)), .val (.ref aC), .val (.int ((-f) &&& (255 : Int32))), .unset, .unset] []))
      refine Go.st (fun _ kq_ => XS.iloadN X6.here hx rfl (hb hby at_44) rfl kq_) ?_
      show Go p e below s _ _ _ (T6.setTop (mkF m 45 #[.val (.int p0), .val (.int p1), .val (.int (p0 &&& (2147483647 : Int32))), .val (.int (1 : Int32)), .val (.ref aC), .val (.int ((-f) &&& (255 : Int32))), .unset, .unset] [(.int (p0 &&& (2147483647 : Int32)))]))
      by_cases c45_7 : (p0 &&& (2147483647 : Int32)) = (0 : Int32)
      · refine Go.st (fun _ kq_ => XS.ifNo X6.here hx rfl (hb hby at_45) rfl (XT.i0_ne_f c45_7) kq_) ?_
        show Go p e below s _ _ _ (T6.setTop (mkF m 48 #[.val (.int p0), .val (.int p1), .val (.int (p0 &&& (2147483647 : Int32))), .val (.int (1 : Int32)), .val (.ref aC), .val (.int ((-f) &&& (255 : Int32))), .unset, .unset] []))
        refine Go.st (fun _ kq_ => XS.iconst X6.here hx rfl (hb hby at_48) kq_) ?_
        show Go p e below s _ _ _ (T6.setTop (mkF m 49 #[.val (.int p0), .val (.int p1), .val (.int (p0 &&& (2147483647 : Int32))), .val (.int (1 : Int32)), .val (.ref aC), .val (.int ((-f) &&& (255 : Int32))), .unset, .unset] [(.int (0 : Int32))]))
        refine Go.st (fun _ kq_ => XS.istore X6.here hx rfl (hb hby at_49) rfl (l' := #[.val (.int p0), .val (.int p1), .val (.int (p0 &&& (2147483647 : Int32))), .val (.int (1 : Int32)), .val (.ref aC), .val (.int ((-f) &&& (255 : Int32))), .val (.int (0 : Int32)), .unset]) rfl kq_) ?_
        show Go p e below s _ _ _ (T6.setTop (mkF m 51 #[.val (.int p0), .val (.int p1), .val (.int (p0 &&& (2147483647 : Int32))), .val (.int (1 : Int32)), .val (.ref aC), .val (.int ((-f) &&& (255 : Int32))), .val (.int (0 : Int32)), .unset] []))
        refine Go.st (fun _ kq_ => XS.goto X6.here hx rfl (pc0 := 51) (pc' := 75) rfl (hb hby at_51) (by decide) (by decide) kq_) ?_
        show Go p e below s _ _ _ (T6.setTop (mkF m 75 #[.val (.int p0), .val (.int p1), .val (.int (p0 &&& (2147483647 : Int32))), .val (.int (1 : Int32)), .val (.ref aC), .val (.int ((-f) &&& (255 : Int32))), .val (.int (0 : Int32)), .unset] []))
        refine Go.st (fun _ kq_ => XS.iload X6.here hx rfl (hb hby at_75) rfl kq_) ?_
        show Go p e below s _ _ _ (T6.setTop (mkF m 77 #[.val (.int p0), .val (.int p1), .val (.int (p0 &&& (2147483647 : Int32))), .val (.int (1 : Int32)), .val (.ref aC), .val (.int ((-f) &&& (255 : Int32))), .val (.int (0 : Int32)), .unset] [(.int (0 : Int32))]))
        refine Go.st (fun _ kq_ => XS.ifNo X6.here hx rfl (hb hby at_77) rfl (by decide) kq_) ?_
        show Go p e below s _ _ _ (T6.setTop (mkF m 80 #[.val (.int p0), .val (.int p1), .val (.int (p0 &&& (2147483647 : Int32))), .val (.int (1 : Int32)), .val (.ref aC), .val (.int ((-f) &&& (255 : Int32))), .val (.int (0 : Int32)), .unset] []))
        refine Go.st (fun _ kq_ => XS.iconst X6.here hx rfl (hb hby at_80) kq_) ?_
        show Go p e below s _ _ _ (T6.setTop (mkF m 81 #[.val (.int p0), .val (.int p1), .val (.int (p0 &&& (2147483647 : Int32))), .val (.int (1 : Int32)), .val (.ref aC), .val (.int ((-f) &&& (255 : Int32))), .val (.int (0 : Int32)), .unset] [(.int (0 : Int32))]))
        refine Go.st (fun _ kq_ => XS.istore X6.here hx rfl (hb hby at_81) rfl (l' := #[.val (.int p0), .val (.int p1), .val (.int (p0 &&& (2147483647 : Int32))), .val (.int (1 : Int32)), .val (.ref aC), .val (.int ((-f) &&& (255 : Int32))), .val (.int (0 : Int32)), .val (.int (0 : Int32))]) rfl kq_) ?_
        show Go p e below s _ _ _ (T6.setTop (mkF m 83 #[.val (.int p0), .val (.int p1), .val (.int (p0 &&& (2147483647 : Int32))), .val (.int (1 : Int32)), .val (.ref aC), .val (.int ((-f) &&& (255 : Int32))), .val (.int (0 : Int32)), .val (.int (0 : Int32))] []))
        refine Go.st (fun _ kq_ => XS.goto X6.here hx rfl (pc0 := 83) (pc' := 94) rfl (hb hby at_83) (by decide) (by decide) kq_) ?_
        show Go p e below s _ _ _ (T6.setTop (mkF m 94 #[.val (.int p0), .val (.int p1), .val (.int (p0 &&& (2147483647 : Int32))), .val (.int (1 : Int32)), .val (.ref aC), .val (.int ((-f) &&& (255 : Int32))), .val (.int (0 : Int32)), .val (.int (0 : Int32))] []))
        refine Go.st (fun _ kq_ => XS.iload X6.here hx rfl (hb hby at_94) rfl kq_) ?_
        show Go p e below s _ _ _ (T6.setTop (mkF m 96 #[.val (.int p0), .val (.int p1), .val (.int (p0 &&& (2147483647 : Int32))), .val (.int (1 : Int32)), .val (.ref aC), .val (.int ((-f) &&& (255 : Int32))), .val (.int (0 : Int32)), .val (.int (0 : Int32))] [(.int ((-f) &&& (255 : Int32)))]))
        refine Go.st (fun _ kq_ => XS.iload X6.here hx rfl (hb hby at_96) rfl kq_) ?_
        show Go p e below s _ _ _ (T6.setTop (mkF m 98 #[.val (.int p0), .val (.int p1), .val (.int (p0 &&& (2147483647 : Int32))), .val (.int (1 : Int32)), .val (.ref aC), .val (.int ((-f) &&& (255 : Int32))), .val (.int (0 : Int32)), .val (.int (0 : Int32))] [(.int (0 : Int32)), (.int ((-f) &&& (255 : Int32)))]))
        refine Go.st (fun _ kq_ => XS.icmpNo X6.here hx rfl (hb hby at_98) rfl (XT.ii_ne_f (own_c0 _ _ c45_7 hof)) kq_) ?_
        show Go p e below s _ _ _ (T6.setTop (mkF m 101 #[.val (.int p0), .val (.int p1), .val (.int (p0 &&& (2147483647 : Int32))), .val (.int (1 : Int32)), .val (.ref aC), .val (.int ((-f) &&& (255 : Int32))), .val (.int (0 : Int32)), .val (.int (0 : Int32))] []))
        refine Go.st (fun _ kq_ => XS.iconst X6.here hx rfl (hb hby at_101) kq_) ?_
        show Go p e below s _ _ _ (T6.setTop (mkF m 102 #[.val (.int p0), .val (.int p1), .val (.int (p0 &&& (2147483647 : Int32))), .val (.int (1 : Int32)), .val (.ref aC), .val (.int ((-f) &&& (255 : Int32))), .val (.int (0 : Int32)), .val (.int (0 : Int32))] [(.int (1 : Int32))]))
        refine Go.st (fun _ kq_ => XS.goto X6.here hx rfl (pc0 := 102) (pc' := 106) rfl (hb hby at_102) (by decide) (by decide) kq_) ?_
        show Go p e below s _ _ _ (T6.setTop (mkF m 106 #[.val (.int p0), .val (.int p1), .val (.int (p0 &&& (2147483647 : Int32))), .val (.int (1 : Int32)), .val (.ref aC), .val (.int ((-f) &&& (255 : Int32))), .val (.int (0 : Int32)), .val (.int (0 : Int32))] [(.int (1 : Int32))]))
        exact Go.ret X6 hlk (some (.int (nar .boolean (1 : Int32)))) (fun h => by rw [Bd.returns] at h; cases h) (by rw [e6]; exact ⟨rfl, N6⟩) (by decide) (by decide) (fun fs hr => retN X6 hx (t := .boolean) Bd.returns (by simp) (hb hby at_106) hr)
      · refine Go.st (fun _ kq_ => XS.ifYes X6.here hx rfl (pc0 := 45) (pc' := 54) rfl (hb hby at_45) rfl (XT.i0_ne_t c45_7) (by decide) (by decide) kq_) ?_
        show Go p e below s _ _ _ (T6.setTop (mkF m 54 #[.val (.int p0), .val (.int p1), .val (.int (p0 &&& (2147483647 : Int32))), .val (.int (1 : Int32)), .val (.ref aC), .val (.int ((-f) &&& (255 : Int32))), .unset, .unset] []))
        refine Go.st (fun _ kq_ => XS.iloadN X6.here hx rfl (hb hby at_54) rfl kq_) ?_
        show Go p e below s _ _ _ (T6.setTop (mkF m 55 #[.val (.int p0), .val (.int p1), .val (.int (p0 &&& (2147483647 : Int32))), .val (.int (1 : Int32)), .val (.ref aC), .val (.int ((-f) &&& (255 : Int32))), .unset, .unset] [(.int (p0 &&& (2147483647 : Int32)))]))
        refine Go.st (fun _ kq_ => XS.iconst X6.here hx rfl (hb hby at_55) kq_) ?_
        show Go p e below s _ _ _ (T6.setTop (mkF m 56 #[.val (.int p0), .val (.int p1), .val (.int (p0 &&& (2147483647 : Int32))), .val (.int (1 : Int32)), .val (.ref aC), .val (.int ((-f) &&& (255 : Int32))), .unset, .unset] [(.int (1 : Int32)), (.int (p0 &&& (2147483647 : Int32)))]))
        refine Go.st (fun _ kq_ => XS.isub X6.here hx rfl (hb hby at_56) rfl kq_) ?_
        show Go p e below s _ _ _ (T6.setTop (mkF m 57 #[.val (.int p0), .val (.int p1), .val (.int (p0 &&& (2147483647 : Int32))), .val (.int (1 : Int32)), .val (.ref aC), .val (.int ((-f) &&& (255 : Int32))), .unset, .unset] [(.int ((p0 &&& (2147483647 : Int32)) - (1 : Int32)))]))
        refine Go.st (fun _ kq_ => XS.sipush X6.here hx rfl (hb hby at_57) kq_) ?_
        show Go p e below s _ _ _ (T6.setTop (mkF m 60 #[.val (.int p0), .val (.int p1), .val (.int (p0 &&& (2147483647 : Int32))), .val (.int (1 : Int32)), .val (.ref aC), .val (.int ((-f) &&& (255 : Int32))), .unset, .unset] [(.int (255 : Int32)), (.int ((p0 &&& (2147483647 : Int32)) - (1 : Int32)))]))
        refine Go.st (fun _ kq_ => iremM X6 hx rfl (hb hby at_60) rfl (by decide) kq_) ?_
        show Go p e below s _ _ _ (T6.setTop (mkF m 61 #[.val (.int p0), .val (.int p1), .val (.int (p0 &&& (2147483647 : Int32))), .val (.int (1 : Int32)), .val (.ref aC), .val (.int ((-f) &&& (255 : Int32))), .unset, .unset] [(.int (((p0 &&& (2147483647 : Int32)) - (1 : Int32)) % (255 : Int32)))]))
        refine Go.st (fun _ kq_ => XS.iconst X6.here hx rfl (hb hby at_61) kq_) ?_
        show Go p e below s _ _ _ (T6.setTop (mkF m 62 #[.val (.int p0), .val (.int p1), .val (.int (p0 &&& (2147483647 : Int32))), .val (.int (1 : Int32)), .val (.ref aC), .val (.int ((-f) &&& (255 : Int32))), .unset, .unset] [(.int (1 : Int32)), (.int (((p0 &&& (2147483647 : Int32)) - (1 : Int32)) % (255 : Int32)))]))
        refine Go.st (fun _ kq_ => XS.iadd X6.here hx rfl (hb hby at_62) rfl kq_) ?_
        show Go p e below s _ _ _ (T6.setTop (mkF m 63 #[.val (.int p0), .val (.int p1), .val (.int (p0 &&& (2147483647 : Int32))), .val (.int (1 : Int32)), .val (.ref aC), .val (.int ((-f) &&& (255 : Int32))), .unset, .unset] [(.int ((((p0 &&& (2147483647 : Int32)) - (1 : Int32)) % (255 : Int32)) + (1 : Int32)))]))
        refine Go.st (fun _ kq_ => XS.istore X6.here hx rfl (hb hby at_63) rfl (l' := #[.val (.int p0), .val (.int p1), .val (.int (p0 &&& (2147483647 : Int32))), .val (.int (1 : Int32)), .val (.ref aC), .val (.int ((-f) &&& (255 : Int32))), .val (.int ((((p0 &&& (2147483647 : Int32)) - (1 : Int32)) % (255 : Int32)) + (1 : Int32))), .unset]) rfl kq_) ?_
        show Go p e below s _ _ _ (T6.setTop (mkF m 65 #[.val (.int p0), .val (.int p1), .val (.int (p0 &&& (2147483647 : Int32))), .val (.int (1 : Int32)), .val (.ref aC), .val (.int ((-f) &&& (255 : Int32))), .val (.int ((((p0 &&& (2147483647 : Int32)) - (1 : Int32)) % (255 : Int32)) + (1 : Int32))), .unset] []))
        refine Go.st (fun _ kq_ => XS.goto X6.here hx rfl (pc0 := 65) (pc' := 75) rfl (hb hby at_65) (by decide) (by decide) kq_) ?_
        show Go p e below s _ _ _ (T6.setTop (mkF m 75 #[.val (.int p0), .val (.int p1), .val (.int (p0 &&& (2147483647 : Int32))), .val (.int (1 : Int32)), .val (.ref aC), .val (.int ((-f) &&& (255 : Int32))), .val (.int ((((p0 &&& (2147483647 : Int32)) - (1 : Int32)) % (255 : Int32)) + (1 : Int32))), .unset] []))
        refine Go.st (fun _ kq_ => XS.iload X6.here hx rfl (hb hby at_75) rfl kq_) ?_
        show Go p e below s _ _ _ (T6.setTop (mkF m 77 #[.val (.int p0), .val (.int p1), .val (.int (p0 &&& (2147483647 : Int32))), .val (.int (1 : Int32)), .val (.ref aC), .val (.int ((-f) &&& (255 : Int32))), .val (.int ((((p0 &&& (2147483647 : Int32)) - (1 : Int32)) % (255 : Int32)) + (1 : Int32))), .unset] [(.int ((((p0 &&& (2147483647 : Int32)) - (1 : Int32)) % (255 : Int32)) + (1 : Int32)))]))
        refine Go.st (fun _ kq_ => XS.ifYes X6.here hx rfl (pc0 := 77) (pc' := 86) rfl (hb hby at_77) rfl (XT.i0_ne_t (own_c1 _ (own_pos p0) c45_7)) (by decide) (by decide) kq_) ?_
        show Go p e below s _ _ _ (T6.setTop (mkF m 86 #[.val (.int p0), .val (.int p1), .val (.int (p0 &&& (2147483647 : Int32))), .val (.int (1 : Int32)), .val (.ref aC), .val (.int ((-f) &&& (255 : Int32))), .val (.int ((((p0 &&& (2147483647 : Int32)) - (1 : Int32)) % (255 : Int32)) + (1 : Int32))), .unset] []))
        refine Go.st (fun _ kq_ => XS.sipush X6.here hx rfl (hb hby at_86) kq_) ?_
        show Go p e below s _ _ _ (T6.setTop (mkF m 89 #[.val (.int p0), .val (.int p1), .val (.int (p0 &&& (2147483647 : Int32))), .val (.int (1 : Int32)), .val (.ref aC), .val (.int ((-f) &&& (255 : Int32))), .val (.int ((((p0 &&& (2147483647 : Int32)) - (1 : Int32)) % (255 : Int32)) + (1 : Int32))), .unset] [(.int (256 : Int32))]))
        refine Go.st (fun _ kq_ => XS.iload X6.here hx rfl (hb hby at_89) rfl kq_) ?_
        show Go p e below s _ _ _ (T6.setTop (mkF m 91 #[.val (.int p0), .val (.int p1), .val (.int (p0 &&& (2147483647 : Int32))), .val (.int (1 : Int32)), .val (.ref aC), .val (.int ((-f) &&& (255 : Int32))), .val (.int ((((p0 &&& (2147483647 : Int32)) - (1 : Int32)) % (255 : Int32)) + (1 : Int32))), .unset] [(.int ((((p0 &&& (2147483647 : Int32)) - (1 : Int32)) % (255 : Int32)) + (1 : Int32))), (.int (256 : Int32))]))
        refine Go.st (fun _ kq_ => XS.isub X6.here hx rfl (hb hby at_91) rfl kq_) ?_
        show Go p e below s _ _ _ (T6.setTop (mkF m 92 #[.val (.int p0), .val (.int p1), .val (.int (p0 &&& (2147483647 : Int32))), .val (.int (1 : Int32)), .val (.ref aC), .val (.int ((-f) &&& (255 : Int32))), .val (.int ((((p0 &&& (2147483647 : Int32)) - (1 : Int32)) % (255 : Int32)) + (1 : Int32))), .unset] [(.int ((256 : Int32) - ((((p0 &&& (2147483647 : Int32)) - (1 : Int32)) % (255 : Int32)) + (1 : Int32))))]))
        refine Go.st (fun _ kq_ => XS.istore X6.here hx rfl (hb hby at_92) rfl (l' := #[.val (.int p0), .val (.int p1), .val (.int (p0 &&& (2147483647 : Int32))), .val (.int (1 : Int32)), .val (.ref aC), .val (.int ((-f) &&& (255 : Int32))), .val (.int ((((p0 &&& (2147483647 : Int32)) - (1 : Int32)) % (255 : Int32)) + (1 : Int32))), .val (.int ((256 : Int32) - ((((p0 &&& (2147483647 : Int32)) - (1 : Int32)) % (255 : Int32)) + (1 : Int32))))]) rfl kq_) ?_
        show Go p e below s _ _ _ (T6.setTop (mkF m 94 #[.val (.int p0), .val (.int p1), .val (.int (p0 &&& (2147483647 : Int32))), .val (.int (1 : Int32)), .val (.ref aC), .val (.int ((-f) &&& (255 : Int32))), .val (.int ((((p0 &&& (2147483647 : Int32)) - (1 : Int32)) % (255 : Int32)) + (1 : Int32))), .val (.int ((256 : Int32) - ((((p0 &&& (2147483647 : Int32)) - (1 : Int32)) % (255 : Int32)) + (1 : Int32))))] []))
        refine Go.st (fun _ kq_ => XS.iload X6.here hx rfl (hb hby at_94) rfl kq_) ?_
        show Go p e below s _ _ _ (T6.setTop (mkF m 96 #[.val (.int p0), .val (.int p1), .val (.int (p0 &&& (2147483647 : Int32))), .val (.int (1 : Int32)), .val (.ref aC), .val (.int ((-f) &&& (255 : Int32))), .val (.int ((((p0 &&& (2147483647 : Int32)) - (1 : Int32)) % (255 : Int32)) + (1 : Int32))), .val (.int ((256 : Int32) - ((((p0 &&& (2147483647 : Int32)) - (1 : Int32)) % (255 : Int32)) + (1 : Int32))))] [(.int ((-f) &&& (255 : Int32)))]))
        refine Go.st (fun _ kq_ => XS.iload X6.here hx rfl (hb hby at_96) rfl kq_) ?_
        show Go p e below s _ _ _ (T6.setTop (mkF m 98 #[.val (.int p0), .val (.int p1), .val (.int (p0 &&& (2147483647 : Int32))), .val (.int (1 : Int32)), .val (.ref aC), .val (.int ((-f) &&& (255 : Int32))), .val (.int ((((p0 &&& (2147483647 : Int32)) - (1 : Int32)) % (255 : Int32)) + (1 : Int32))), .val (.int ((256 : Int32) - ((((p0 &&& (2147483647 : Int32)) - (1 : Int32)) % (255 : Int32)) + (1 : Int32))))] [(.int ((256 : Int32) - ((((p0 &&& (2147483647 : Int32)) - (1 : Int32)) % (255 : Int32)) + (1 : Int32)))), (.int ((-f) &&& (255 : Int32)))]))
        refine Go.st (fun _ kq_ => XS.icmpNo X6.here hx rfl (hb hby at_98) rfl (XT.ii_ne_f (own_c2 _ _ (own_pos p0) c45_7 hof)) kq_) ?_
        show Go p e below s _ _ _ (T6.setTop (mkF m 101 #[.val (.int p0), .val (.int p1), .val (.int (p0 &&& (2147483647 : Int32))), .val (.int (1 : Int32)), .val (.ref aC), .val (.int ((-f) &&& (255 : Int32))), .val (.int ((((p0 &&& (2147483647 : Int32)) - (1 : Int32)) % (255 : Int32)) + (1 : Int32))), .val (.int ((256 : Int32) - ((((p0 &&& (2147483647 : Int32)) - (1 : Int32)) % (255 : Int32)) + (1 : Int32))))] []))
        refine Go.st (fun _ kq_ => XS.iconst X6.here hx rfl (hb hby at_101) kq_) ?_
        show Go p e below s _ _ _ (T6.setTop (mkF m 102 #[.val (.int p0), .val (.int p1), .val (.int (p0 &&& (2147483647 : Int32))), .val (.int (1 : Int32)), .val (.ref aC), .val (.int ((-f) &&& (255 : Int32))), .val (.int ((((p0 &&& (2147483647 : Int32)) - (1 : Int32)) % (255 : Int32)) + (1 : Int32))), .val (.int ((256 : Int32) - ((((p0 &&& (2147483647 : Int32)) - (1 : Int32)) % (255 : Int32)) + (1 : Int32))))] [(.int (1 : Int32))]))
        refine Go.st (fun _ kq_ => XS.goto X6.here hx rfl (pc0 := 102) (pc' := 106) rfl (hb hby at_102) (by decide) (by decide) kq_) ?_
        show Go p e below s _ _ _ (T6.setTop (mkF m 106 #[.val (.int p0), .val (.int p1), .val (.int (p0 &&& (2147483647 : Int32))), .val (.int (1 : Int32)), .val (.ref aC), .val (.int ((-f) &&& (255 : Int32))), .val (.int ((((p0 &&& (2147483647 : Int32)) - (1 : Int32)) % (255 : Int32)) + (1 : Int32))), .val (.int ((256 : Int32) - ((((p0 &&& (2147483647 : Int32)) - (1 : Int32)) % (255 : Int32)) + (1 : Int32))))] [(.int (1 : Int32))]))
        exact Go.ret X6 hlk (some (.int (nar .boolean (1 : Int32)))) (fun h => by rw [Bd.returns] at h; cases h) (by rw [e6]; exact ⟨rfl, N6⟩) (by decide) (by decide) (fun fs hr => retN X6 hx (t := .boolean) Bd.returns (by simp) (hb hby at_106) hr)
  obtain ⟨s2, o2, st2, r2⟩ := G
  exact ⟨s2, o2, castTop (ef0 m p0 p1) st2, r2⟩
set_option maxRecDepth 65536 in
set_option maxHeartbeats 40000000 in
theorem comes_1 {Post : Tables → Env → Array Value → State → Outcome → State → Prop} (hpost : ∀ tb e args s v u, (limb_1_1.after args s (.returned v) u = true ∧ limb_1_2.after args s (.returned v) u = true ∧ True) → FrameEnd s (.returned v) u (Jvm.fieldLocs frame_1_writes args s ++ Jvm.arrayLocs frame_1_arrays args s ++ Jvm.staticLocs frame_1_statics s) 0 0 → Post tb e args s (.returned v) u) :
    ArmFor flags0 classFile x code maxLocals ret World_1 tables_1 room_1 Calls_1 rest_1 Pre_1 Post := by
  intro l hfl _ _ p e ha hc hk s m args below hf hA hF happ hP
  obtain ⟨hcalls, hrest, hpre⟩ := hP
  obtain ⟨-, -, -, hnamed, -, -, -, hat⟩ := (Spec.applies_iff hf).mp happ
  obtain ⟨hg, hn⟩ := and_e (Cond.before_iff.mp (show (Jvm.Cond.and given_1 narrow_1).before args s = true from hpre))
  obtain ⟨h1, r1⟩ := and_e hg
  obtain ⟨a0, r2⟩ := and_e r1
  obtain ⟨w0, w1, rfl⟩ : ∃ w0 w1 : Value, args = #[w0, w1] := by
    have hs : args.size = 2 := by simpa [Cond.value, given_1] using h1
    obtain ⟨L⟩ := args
    match L, hs with
    | [w0, w1], _ => exact ⟨w0, w1, rfl⟩
  have hw := fun d (hd : d ∈ tables_1) => atoms_spec (ws := Jvm.Cond.code x code maxLocals ret :: tables_1) hat d (List.mem_cons_of_mem _ hd)
  have hfit : Fit s := fun {y c} hc i hi => by
    obtain ⟨ha, rfl⟩ := Array.getElem?_eq_some_iff.mp hc
    have q := List.all_eq_true.mp ((Array.all_eq_true_iff_forall_mem.mp hF) _ (Array.getElem_mem ha)) i (List.mem_range.mpr hi)
    simpa [Array.getElem?_eq_getElem hi] using q
  obtain ⟨i0, ei0⟩ := is_v a0
  obtain rfl : w0 = (.int i0) := Option.some.inj ei0
  obtain ⟨i1, ei1⟩ := is_v r2
  obtain rfl : w1 = (.int i1) := Option.some.inj ei1
  obtain ⟨q0, hn0⟩ := and_e hn
  obtain ⟨q1, hn1⟩ := and_e hn0
  obtain ⟨q2, hn2⟩ := and_e hn1
  have q3 := hn2
  obtain ⟨a_CARRY, v_CARRY⟩ := exa_v q0
  have S_CARRY : Sta s s.heap "com/example/assayline/assayline/protocol/colon/Checksum" "CARRY" "Lcom/example/assayline/assayline/protocol/colon/Checksum;" (.ref a_CARRY) := Sta.start v_CARRY (Or.inr ⟨own_w hw 2 rfl, own_w hw 3 rfl⟩)
  have E_CARRY : Exa s s.heap a_CARRY "com/example/assayline/assayline/protocol/colon/Checksum" := Exa.start v_CARRY q0
  obtain ⟨a_SUM, v_SUM⟩ := exa_v q1
  have S_SUM : Sta s s.heap "com/example/assayline/assayline/protocol/colon/Checksum" "SUM" "Lcom/example/assayline/assayline/protocol/colon/Checksum;" (.ref a_SUM) := Sta.start v_SUM (Or.inr ⟨own_w hw 2 rfl, own_w hw 11 rfl⟩)
  have E_SUM : Exa s s.heap a_SUM "com/example/assayline/assayline/protocol/colon/Checksum" := Exa.start v_SUM q1
  have F_SUM_ordinal : Fld s s.heap a_SUM "java/lang/Enum" "ordinal" "I" (.int 0) := own_fld v_SUM q2
  have F_CARRY_ordinal : Fld s s.heap a_CARRY "java/lang/Enum" "ordinal" "I" (.int 1) := own_fld v_CARRY q3
  obtain ⟨n, o, h1, h2, h3, _, L, rfl, ⟨rfl, N⟩, hq⟩ := rm0 l s _ hw tables_1 i0 i1 a_CARRY a_SUM s.heap s.heap.size (Old.start s) S_CARRY S_SUM E_CARRY E_SUM (F_SUM_ordinal.ne F_CARRY_ordinal (own_neI (by decide))) p e ha hc hk s m _ below hf ((Spec.applies_iff_loose hf).mp happ).1 ⟨rfl, State.Warmed39.refl s, rfl⟩ trivial
  refine ⟨n, _, h1, h2, h3, hpost _ _ _ _ _ _ ⟨Cond.after_iff.mpr rfl, Cond.after_iff.mpr (eq_i res_at (Term.int_eval (1)) rfl), trivial⟩ ⟨hq.1, hq.2.1, (hq.2.2.sift fun y hy => Or.inr (N y hy)).mono (by decide) (by decide)⟩⟩
theorem main_1_1 : Claimed_1_1 := comes_1 fun _ _ _ _ _ _ h hF => ⟨h.1, hF⟩
theorem main_1_2 : Claimed_1_2 := comes_1 fun _ _ _ _ _ _ h hF => ⟨h.2.1, hF⟩
end Jvm.Pilot.@@N@@
namespace Jvm.Pilot.@@N@@
open Jvm Jvm.ClassFile Sem Op Lib Jvm.Free Jvm.Stand Jvm.Pilot.@@N@@.Jvm.D
/-! MADE BY PROGRAM (witnessworld.py) out of the Statement's table words and the real class files: 12 classes; the members and pool entries that the words name. The judged class is class 1, her method 1. -/
namespace start1
open Jvm.ClassFile
def u (s : String) : CpInfo := .utf8 (stringToUtf16 s)
/-- a pool by its gaps: so many unusable entries, then the entry; so many at the end -/
def gap : Nat → List CpInfo → List CpInfo
  | 0, r => r
  | n + 1, r => .unusable :: gap n r
def poolList (es : List (Nat × CpInfo)) (last : Nat) : List CpInfo := es.foldr (fun e r => gap e.1 (e.2 :: r)) (gap last [])
def pool (es : List (Nat × CpInfo)) (last : Nat) : Array CpInfo := ⟨poolList es last⟩
def fileOf (pool : Array CpInfo) (this : Nat) (attrs : Array Attribute := #[]) (ms : Array MethodInfo := #[]) (fl : Nat := 33) (sup : Nat := 0) (ifs : Array Nat := #[]) (fds : Array FieldInfo := #[]) : ClassFile where
  minorVersion := 0
  majorVersion := 65
  constantPool := pool
  accessFlags := fl
  thisClass := this
  superClass := sup
  interfaces := ifs
  fields := fds
  methods := ms
  attributes := attrs
def plain (name : String) (sup : Option ClassId) : Class where
  name := name
  kind := .ordinary
  loader := none
  accessFlags := 33
  super := sup
  interfaces := #[]
  cf := none
  fields := #[]
  methods := #[]
  instanceTypes := #[]
  staticTypes := #[]
  resolved := #[]
  callSites := []
  init := .initialized
  statics := none
  mirror := none

def pool0 : Array CpInfo := pool [(5, u "<init>"), (0, u "()V"), (1, .class_ 10), (1, u "java/lang/Object")] 113

def k0m0 : Method := { name := "<init>", desc := "()V", sig := { parameters := [], returnType := none }, accessFlags := 1, code := none }
/-- java/lang/Object -/
def k0 : Class := { plain "java/lang/Object" none with
  accessFlags := 33
  interfaces := #[]
  cf := some (fileOf pool0 8 #[] #[{ accessFlags := 1, nameIndex := 5, descriptorIndex := 6, attributes := #[] }] 33 0 #[] #[])
  fields := #[]
  methods := #[k0m0]
  instanceTypes := #[]
  staticTypes := #[]
  resolved := Array.replicate 124 none
  statics := none }

def pool1 : Array CpInfo := pool [(2, .class_ 4), (1, u "java/lang/Object"), (0, u "<init>"), (0, u "()V"), (0, .integer 2147483647), (0, .fieldref 9 10), (0, .class_ 11), (0, .nameAndType 12 13), (0, u "com/example/assayline/assayline/protocol/colon/Checksum"), (0, u "CARRY"), (0, u "Lcom/example/assayline/assayline/protocol/colon/Checksum;"), (0, .fieldref 9 15), (0, .nameAndType 16 13), (0, u "SUM"), (0, .methodref 9 18), (0, .nameAndType 19 20), (0, u "of"), (0, u "(I)I"), (0, .class_ 22), (0, u "com/example/assayline/assayline/protocol/colon/ChecksumOfPinLaw"), (2, u "law"), (0, u "(II)Z")] 3

def k1m0 : Method := { name := "<init>", desc := "()V", sig := { parameters := [], returnType := none }, accessFlags := 2, code := none }
def k1c1 : Code := { maxStack := 2, maxLocals := 8, code := code, exceptionTable := #[], attributes := #[] }
def k1m1 : Method := { name := "law", desc := "(II)Z", sig := { parameters := [.int, .int], returnType := some .boolean }, accessFlags := 9, code := some k1c1 }
/-- com/example/assayline/assayline/protocol/colon/ChecksumOfPinLaw -/
def k1 : Class := { plain "com/example/assayline/assayline/protocol/colon/ChecksumOfPinLaw" (some 0) with
  accessFlags := 49
  interfaces := #[]
  cf := some (fileOf pool1 21 #[] #[{ accessFlags := 2, nameIndex := 5, descriptorIndex := 6, attributes := #[] }, { accessFlags := 9, nameIndex := 25, descriptorIndex := 26, attributes := #[] }] 49 2 #[] #[])
  fields := #[]
  methods := #[k1m0, k1m1]
  instanceTypes := #[]
  staticTypes := #[]
  resolved := Array.replicate 30 none
  statics := none }

def pool2 : Array CpInfo := pool [(1, .class_ 2), (0, u "java/lang/constant/Constable"), (0, .class_ 4), (0, u "java/lang/Object")] 6

/-- java/lang/constant/Constable -/
def k2 : Class := { plain "java/lang/constant/Constable" (some 0) with
  accessFlags := 1537
  interfaces := #[]
  cf := some (fileOf pool2 1 #[] #[] 1537 3 #[] #[])
  fields := #[]
  methods := #[]
  instanceTypes := #[]
  staticTypes := #[]
  resolved := Array.replicate 11 none
  statics := none }

def pool3 : Array CpInfo := pool [(1, .class_ 2), (0, u "java/lang/Comparable"), (0, .class_ 4), (0, u "java/lang/Object")] 7

/-- java/lang/Comparable -/
def k3 : Class := { plain "java/lang/Comparable" (some 0) with
  accessFlags := 1537
  interfaces := #[]
  cf := some (fileOf pool3 1 #[] #[] 1537 3 #[] #[])
  fields := #[]
  methods := #[]
  instanceTypes := #[]
  staticTypes := #[]
  resolved := Array.replicate 12 none
  statics := none }

def pool4 : Array CpInfo := pool [(1, .class_ 2), (0, u "java/io/Serializable"), (0, .class_ 4), (0, u "java/lang/Object")] 2

/-- java/io/Serializable -/
def k4 : Class := { plain "java/io/Serializable" (some 0) with
  accessFlags := 1537
  interfaces := #[]
  cf := some (fileOf pool4 1 #[] #[] 1537 3 #[] #[])
  fields := #[]
  methods := #[]
  instanceTypes := #[]
  staticTypes := #[]
  resolved := Array.replicate 7 none
  statics := none }

def pool5 : Array CpInfo := pool [(2, .class_ 4), (1, u "java/lang/Enum"), (0, u "name"), (0, u "Ljava/lang/String;"), (2, u "ordinal"), (0, u "I"), (1, .class_ 14), (1, u "java/lang/Object"), (4, u "hash"), (86, .class_ 108), (1, u "java/lang/Enum$EnumDesc"), (2, .class_ 112), (0, u "java/lang/constant/Constable"), (0, .class_ 114), (0, u "java/lang/Comparable"), (0, .class_ 116), (0, u "java/io/Serializable")] 87

/-- java/lang/Enum -/
def k5 : Class := { plain "java/lang/Enum" (some 0) with
  accessFlags := 1057
  interfaces := #[2, 3, 4]
  cf := some (fileOf pool5 2 #[.nestMembers #[106]] #[] 1057 12 #[111, 113, 115] #[{ accessFlags := 18, nameIndex := 5, descriptorIndex := 6, attributes := #[] }, { accessFlags := 18, nameIndex := 9, descriptorIndex := 10, attributes := #[] }, { accessFlags := 2, nameIndex := 19, descriptorIndex := 10, attributes := #[] }])
  fields := #[{ name := "name", type := (.object "java/lang/String"), accessFlags := 18, slot := 0, constantValue := 0 }, { name := "ordinal", type := .int, accessFlags := 18, slot := 1, constantValue := 0 }, { name := "hash", type := .int, accessFlags := 2, slot := 2, constantValue := 0 }]
  methods := #[]
  instanceTypes := #[(.object "java/lang/String"), .int, .int]
  staticTypes := #[]
  resolved := Array.replicate 204 none
  statics := none }

def pool6 : Array CpInfo := pool [(1, .class_ 2), (0, u "com/example/assayline/assayline/protocol/colon/Checksum"), (2, u "SUM"), (0, u "Lcom/example/assayline/assayline/protocol/colon/Checksum;"), (0, .fieldref 1 8), (0, .nameAndType 9 6), (0, u "CARRY"), (2, u "$VALUES"), (0, u "[Lcom/example/assayline/assayline/protocol/colon/Checksum;"), (6, .class_ 22), (1, u "java/lang/Enum"), (8, u "text"), (0, u "Ljava/lang/String;"), (15, u "LOW_BYTE"), (0, u "I"), (10, u "of"), (0, u "(I)I")] 6

def k6c0 : Code := { maxStack := 3, maxLocals := 3, code := prog_66_method_5_code, exceptionTable := #[], attributes := #[] }
def k6m0 : Method := { name := "of", desc := "(I)I", sig := { parameters := [.int], returnType := some .int }, accessFlags := 1, code := some k6c0 }
/-- com/example/assayline/assayline/protocol/colon/Checksum -/
def k6 : Class := { plain "com/example/assayline/assayline/protocol/colon/Checksum" (some 5) with
  accessFlags := 16433
  interfaces := #[]
  cf := some (fileOf pool6 1 #[] #[{ accessFlags := 1, nameIndex := 60, descriptorIndex := 61, attributes := #[] }] 16433 20 #[] #[{ accessFlags := 16409, nameIndex := 5, descriptorIndex := 6, attributes := #[] }, { accessFlags := 16409, nameIndex := 9, descriptorIndex := 6, attributes := #[] }, { accessFlags := 26, nameIndex := 48, descriptorIndex := 49, attributes := #[] }, { accessFlags := 18, nameIndex := 31, descriptorIndex := 32, attributes := #[] }, { accessFlags := 4122, nameIndex := 12, descriptorIndex := 13, attributes := #[] }])
  fields := #[{ name := "SUM", type := (.object "com/example/assayline/assayline/protocol/colon/Checksum"), accessFlags := 16409, slot := 0, constantValue := 0 }, { name := "CARRY", type := (.object "com/example/assayline/assayline/protocol/colon/Checksum"), accessFlags := 16409, slot := 1, constantValue := 0 }, { name := "LOW_BYTE", type := .int, accessFlags := 26, slot := 2, constantValue := 0 }, { name := "text", type := (.object "java/lang/String"), accessFlags := 18, slot := 3, constantValue := 0 }, { name := "$VALUES", type := (.array (.object "com/example/assayline/assayline/protocol/colon/Checksum")), accessFlags := 4122, slot := 3, constantValue := 0 }]
  methods := #[k6m0]
  instanceTypes := #[(.object "java/lang/String"), .int, .int, (.object "java/lang/String")]
  staticTypes := #[(.object "com/example/assayline/assayline/protocol/colon/Checksum"), (.object "com/example/assayline/assayline/protocol/colon/Checksum"), .int, (.array (.object "com/example/assayline/assayline/protocol/colon/Checksum"))]
  resolved := Array.replicate 68 none
  statics := some 0 }

def pool7 : Array CpInfo := pool [(1, u "java/lang/Cloneable"), (0, .class_ 1), (0, u "java/lang/Object"), (0, .class_ 3)] 3

/-- java/lang/Cloneable -/
def k7 : Class := { plain "java/lang/Cloneable" (some 0) with
  accessFlags := 1537
  interfaces := #[]
  cf := some (fileOf pool7 2 #[] #[] 1537 4 #[] #[])
  fields := #[]
  methods := #[]
  instanceTypes := #[]
  staticTypes := #[]
  resolved := Array.replicate 8 none
  statics := none }

/-- the primitive byte -/
def k8 : Class := { plain "byte" none with kind := .primitive 'B', accessFlags := 0x411 }
/-- [B -/
def k9 : Class := { plain "[B" (some 0) with kind := .array 8 .byte, interfaces := #[7, 4], accessFlags := 1041 }

/-- the primitive int -/
def k10 : Class := { plain "int" none with kind := .primitive 'I', accessFlags := 0x411 }
/-- [I -/
def k11 : Class := { plain "[I" (some 0) with kind := .array 10 .int, interfaces := #[7, 4], accessFlags := 1041 }

def heap : Heap := #[{ cls := 6, slots := #[.ref 1, .ref 2, .int 0, .null], vm := .statics 6 },
  { cls := 6, slots := #[.null, .int 0, .int 0, .null], vm := .none },
  { cls := 6, slots := #[.null, .int 1, .int 0, .null], vm := .none }]
def classes : Array Class := #[k0, k1, k2, k3, k4, k5, k6, k7, k8, k9, k10, k11]
def interned : List (Array UInt16 × Addr) := []
def slotsUsed : Nat := 12
def theMethod : MethodId := ⟨1, 1⟩
def args0 : Array Value := #[.int 5, .int 3]
def aboutOver (below : List Frame) : State where
  vm := { classes := classes, interned := interned.toArray }
  heap := heap
  slotsUsed := slotsUsed
  threads := #[{ frames := .invoking theMethod args0 :: below }]
def below0 : List Frame := [.native { method := ⟨0, 0⟩, args := #[] }]
def about1 : State := aboutOver below0
def p0 : Program := .bare "" "" ""
def e0 : Env := launch0.env 0 0 0
theorem w_frames : about1.frames = Frame.invoking theMethod args0 :: below0 := rfl
set_option maxRecDepth 65536 in
theorem w_args : argsFit about1.vm theMethod args0 = true := by decide +kernel
set_option maxRecDepth 65536 in
theorem w_heap : heapFits about1 = true := by decide +kernel
set_option maxRecDepth 65536 in
theorem w_runnable : about1.curStatus? = some .runnable := by decide +kernel
set_option maxRecDepth 65536 in
theorem w_alone : about1.alone = true := by decide +kernel
set_option maxRecDepth 65536 in
theorem w_named : about1.methodNamed? x = some theMethod := by decide +kernel
set_option maxRecDepth 65536 in
theorem w_hears : about1.hears theMethod below0 = true := by decide +kernel
set_option maxRecDepth 65536 in
theorem w_ripe : about1.ripe theMethod args0 below0 = true := by decide +kernel
theorem w_running : about1.status = .running := rfl
set_option maxRecDepth 65536 in
theorem w_room : about1.hasRoom e0.platform room_1 = true :=
  launch0.hasRoom_least _ room_1 (by decide +kernel) (by decide +kernel) (by decide +kernel) (by decide +kernel) (by decide +kernel) (by decide +kernel)
theorem allAtoms_all (ts : List Jvm.Cond) (a : Array Jvm.Value) (st : Jvm.State) : (allAtoms ts).before a st = ts.all (fun c => c.before a st) := by
  induction ts with
  | nil => rfl
  | cons c t ih =>
    show (Jvm.Cond.and c (allAtoms t)).before a st = _
    rw [Jvm.Cond.before_and, ih, List.all_cons]
def words1 : List Jvm.Cond := Jvm.Cond.code x code maxLocals ret :: tables_1
/-- a 'code' word, met by the world's own term for the bytes: nothing is compared byte by byte -/
theorem code_word {y : MethodName} {bytes : ByteArray} {mx : Nat} {rt : Option FieldType} {a : Array Value} {s : State} {m : MethodId} {meth : Method} {c : Code} (h1 : s.methodNamed? y = some m) (h2 : s.vm.method? m = some meth) (h3 : meth.code = some c) (h4 : c.code = bytes)
    (h5 : (c.maxLocals == mx && c.exceptionTable.isEmpty && decide (c.maxStack ≤ mostOperands) && decide (meth.sig.returnType = rt) && !meth.locks && decide (parseMethodDescriptor y.desc = some meth.sig)) = true) : (Jvm.Cond.code y bytes mx rt).before a s = true := by
  simp only [Bool.and_eq_true, beq_iff_eq, Bool.not_eq_true', decide_eq_true_eq] at h5
  obtain ⟨⟨⟨⟨⟨g1, g2⟩, g3⟩, g4⟩, g5⟩, g6⟩ := h5
  simp [Cond.before, Cond.holds, Cond.value, h1, h2, h3, h4, g1, g2, g3, g4, g5, g6]
def isCode : Jvm.Cond → Bool
  | .code _ _ _ _ => true
  | _ => false
theorem all_split {L : List Jvm.Cond} {P : Jvm.Cond → Bool} (h1 : L.all (fun c => isCode c || P c) = true) (h2 : ∀ c ∈ L.filter isCode, P c = true) : L.all P = true := by
  refine List.all_eq_true.mpr fun c hc => ?_
  have h := List.all_eq_true.mp h1 c hc
  rcases Bool.eq_false_or_eq_true (isCode c) with hi | hi
  · exact h2 c (List.mem_filter.mpr ⟨hc, hi⟩)
  · simpa [hi] using h
set_option maxRecDepth 65536 in
theorem w_c0 : (Jvm.Cond.code x code maxLocals ret).before args0 about1 = true := code_word (m := ⟨1, 1⟩) (meth := k1m1) (c := k1c1) (by decide +kernel) rfl rfl rfl (by decide +kernel)
set_option maxRecDepth 65536 in
theorem w_c1 : (Jvm.Cond.code ({ cls := "com/example/assayline/assayline/protocol/colon/Checksum", name := "of", desc := "(I)I" } : Jvm.MethodName) prog_66_method_5_code (3 : Nat) (Option.some Jvm.ClassFile.FieldType.int)).before args0 about1 = true := code_word (m := ⟨6, 0⟩) (meth := k6m0) (c := k6c0) (by decide +kernel) rfl rfl rfl (by decide +kernel)
def codes1 : List Jvm.Cond := [Jvm.Cond.code x code maxLocals ret, Jvm.Cond.code ({ cls := "com/example/assayline/assayline/protocol/colon/Checksum", name := "of", desc := "(I)I" } : Jvm.MethodName) prog_66_method_5_code (3 : Nat) (Option.some Jvm.ClassFile.FieldType.int)]
set_option maxRecDepth 65536 in
theorem codes_eq : words1.filter isCode = codes1 := rfl
theorem w_codes : ∀ c ∈ words1.filter isCode, c.before args0 about1 = true := by
  rw [codes_eq]
  intro c hc
  simp only [codes1, List.mem_cons, List.not_mem_nil, or_false] at hc
  rcases hc with rfl | rfl
  · exact w_c0
  · exact w_c1
set_option maxRecDepth 65536 in
theorem w_t1 : words1.all (fun c => isCode c || c.before args0 about1) = true := by decide +kernel
theorem w_tables : (allAtoms (Jvm.Cond.code x code maxLocals ret :: tables_1)).before args0 about1 = true := by
  rw [allAtoms_all]
  show words1.all (fun c => c.before args0 about1) = true
  refine all_split ?_ w_codes
  rw [w_t1]
set_option maxRecDepth 65536 in
theorem w_case : (Jvm.Cond.and given_1 narrow_1).before args0 about1 = true := by decide +kernel
theorem w_applies : (headSpec (Jvm.Cond.code x code maxLocals ret :: tables_1) room_1).applies x e0.platform about1 = true :=
  (Spec.applies_iff w_frames).mpr ⟨w_running, w_runnable, w_alone, w_named, w_hears, w_ripe, w_room, w_tables⟩
theorem atStart : AtStart classFile x code maxLocals ret World_1 tables_1 room_1 Calls_1 rest_1 Pre_1 launch0 p0 e0 about1 theMethod args0 below0 :=
  ⟨lists_1, trivial, launch0.admits_env _ _ _, launch0.least_env, fairChoices_fair.cas, fairChoices_fair.clock, w_frames, w_args, w_heap, w_applies, trivial, trivial, w_case⟩
end start1
theorem witness_1 : WitnessClaimed_1 := ⟨start1.p0, start1.e0, start1.about1, start1.theMethod, start1.args0, start1.below0, start1.atStart⟩
end Jvm.Pilot.@@N@@
