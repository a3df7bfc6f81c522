import JvmDerived
import JvmDerived.Pilot.@@N@@Statement
import JvmDerived.Pilot.@@N@@Code
set_option linter.unusedVariables false
set_option linter.unusedSimpArgs false
namespace Jvm.RoadKit
open Sem ClassFile Op Lib Jvm.Stand Jvm.Free Jvm.LawKit
section New
variable {p : Program} {l : Launch} {e : Env} {R : Room} {s : State} {m : MethodId} {args : Array Value} {below : List Frame} {meth : Method} {c : Code} {T : State} {locs : List Loc} {cells slots : Nat}
theorem retI (X : Stand p l e R s m args below meth c T locs cells slots) (hx : p.tables.exec = Jvm.exec) {pc : Nat} {Ls : Array Slot} {z : Int32} {rest : List Value} (hret : meth.sig.returnType = some .int) (hd : decode c.code pc = .ok (.ireturn, 1)) {fs : List Frame}
    (hl : ∀ (f : JFrame) (acts : List Action), f.method = m → f.locked = none → f.entered = [] → (doReturn e (T.setTop f) acts (some (.int z))).1 = T.setFrames fs) : Steps p.tables e below (T.setTop (mkF m pc Ls (.int z :: rest))) (T.setFrames fs) := by
  have hm' : T.vm.method? m = some meth := X.method'
  have hn : narrow .int (.int z) = .int z := rfl
  show Steps p.tables e below (T.setTop { method := m, pc := pc, locals := Ls, stack := _ :: rest, locked := none }) _
  jvm_step X.here [X.here.top, hx, hd, hm', hret, hn]
  first | (intro acts; rw [hl _ acts rfl rfl rfl]) | rw [hl _ _ rfl rfl rfl]
  exact Steps.refl _
end New
end Jvm.RoadKit
namespace Jvm.Pilot.@@N@@
open Jvm Jvm.ClassFile Sem Op Lib Jvm.Free Jvm.Stand Jvm.LawKit Jvm.RoadKit Bundle Jvm.Pilot.@@N@@.Jvm.D
/-! own small kit: a walk forward, state by state -/
section OwnKit
variable {p : Program} {l : Launch} {e : Env} {R : Room} {s : State} {m : MethodId} {args : Array Value} {below : List Frame} {meth : Method} {c : Code} {T : State} {locs : List Loc} {cells slots : Nat} {rc rs : Nat} {Q : Option Value → Heap → List Loc → Prop} {Z : State} {h h' : Heap} {a b : Addr} {S S' : State}
/-- from S the run comes to its return, and Q holds there -/
def Go (p : Program) (e : Env) (below : List Frame) (s : State) (rc rs : Nat) (Q : Option Value → Heap → List Loc → Prop) (S : State) : Prop :=
  ∃ s₂ o, Steps p.tables e below S s₂ ∧ s₂.status = .running ∧ Ended s₂ below o ∧ ∃ v L, o = .returned v ∧ Q v s₂.heap L ∧ FrameEnd s o s₂ L rc rs
theorem Go.st (k : ∀ t, Steps p.tables e below S' t → Steps p.tables e below S t) (g : Go p e below s rc rs Q S') : Go p e below s rc rs Q S := by
  obtain ⟨x, y, z, r⟩ := g
  exact ⟨x, y, k x z, r⟩
theorem Go.tr (k : Steps p.tables e below S S') (g : Go p e below s rc rs Q S') : Go p e below s rc rs Q S := by
  obtain ⟨x, y, z, r⟩ := g
  exact ⟨x, y, k.trans z, r⟩
theorem Go.ret (X : Stand p l e R s m args below meth c T locs cells slots) (hlk : meth.locks = false) (v : Option Value) (hv : meth.sig.returnType = none → v = none) {g : JFrame} (hQ : Q v T.heap locs) (hc : cells ≤ rc) (hs : slots ≤ rs)
    (k : ∀ fs, (∀ (f : JFrame) (acts : List Action), f.method = m → f.locked = none → f.entered = [] → (doReturn e (T.setTop f) acts v).1 = T.setFrames fs) → Steps p.tables e below (T.setTop g) (T.setFrames fs)) : Go p e below s rc rs Q (T.setTop g) := by
  obtain ⟨fs, hr, hrun, hended, hW, hsame⟩ := X.leave (v := v) hv hlk
  exact ⟨_, _, k fs hr, hrun, hended, _, _, rfl, hQ, ⟨_, rfl⟩, hW, hsame.mono hc hs⟩
theorem own_w {a0 : Array Value} (hw : ∀ d ∈ tables_1, d.before a0 Z = true) (k : Nat) {d : Jvm.Cond} (q : tables_1[k]? = some d) : d.before a0 Z = true := hw _ (List.mem_of_getElem? q)
theorem own_idx {n j : Int32} {cl : Cell} (S : cl.slots.size = n.toNatClampNeg) (q1 : ¬ j < 0) (q2 : j < n) : ¬ (j < 0 ∨ cl.slots.size ≤ j.toNatClampNeg) := inb_of S ⟨q1, q2⟩
theorem own_iaload (X : Stand p l e R s m args below meth c T locs cells slots) (hx : p.tables.exec = Jvm.exec) (hZ : Z.Warmed39 s.vm) (eT : T.heap = h) {k : ClassId} {n : Int32} {vs : List Value} {d : Value} (V : Arv Z h a k .int n vs d) {j : Int32} (q1 : ¬ j < 0) (q2 : j < n) {v : Value} (hv : vs.getD j.toNatClampNeg d = v) {g : JFrame} (hg : g.method = m) {rest : List Value} (hs : g.stack = .int j :: .ref a :: rest) (hd : decode c.code g.pc = .ok (.iaload, 1)) (t : State) (kk : Steps p.tables e below (T.setTop { g with pc := g.pc + 1, stack := v :: rest }) t) : Steps p.tables e below (T.setTop g) t := by
  obtain ⟨cl, A, -, S, -, H, -⟩ := V
  have hin := own_idx S q1 q2
  exact X.iaload hx (j := j) (v := v) (by rw [eT]; exact A.1) (State.isArrayOf_alike hZ.alike A.2.1) A.2.2 hin (H.at hin hv) (g := g) hg hs hd _ kk
theorem own_laload (X : Stand p l e R s m args below meth c T locs cells slots) (hx : p.tables.exec = Jvm.exec) (hZ : Z.Warmed39 s.vm) (eT : T.heap = h) {k : ClassId} {n : Int32} {vs : List Value} {d : Value} (V : Arv Z h a k .long n vs d) {j : Int32} (q1 : ¬ j < 0) (q2 : j < n) {v : Value} (hv : vs.getD j.toNatClampNeg d = v) {g : JFrame} (hg : g.method = m) {rest : List Value} (hs : g.stack = .int j :: .ref a :: rest) (hd : decode c.code g.pc = .ok (.laload, 1)) (t : State) (kk : Steps p.tables e below (T.setTop { g with pc := g.pc + 1, stack := v :: rest }) t) : Steps p.tables e below (T.setTop g) t := by
  obtain ⟨cl, A, -, S, -, H, -⟩ := V
  have hin := own_idx S q1 q2
  exact X.laload hx (j := j) (v := v) (by rw [eT]; exact A.1) (State.isArrayOf_alike hZ.alike A.2.1) A.2.2 hin (H.at hin hv) (g := g) hg hs hd _ kk
theorem own_caload (X : Stand p l e R s m args below meth c T locs cells slots) (hx : p.tables.exec = Jvm.exec) (hZ : Z.Warmed39 s.vm) (eT : T.heap = h) {k : ClassId} {n : Int32} {vs : List Value} {d : Value} (V : Arv Z h a k .char n vs d) {j : Int32} (q1 : ¬ j < 0) (q2 : j < n) {v : Value} (hv : vs.getD j.toNatClampNeg d = v) {g : JFrame} (hg : g.method = m) {rest : List Value} (hs : g.stack = .int j :: .ref a :: rest) (hd : decode c.code g.pc = .ok (.caload, 1)) (t : State) (kk : Steps p.tables e below (T.setTop { g with pc := g.pc + 1, stack := v :: rest }) t) : Steps p.tables e below (T.setTop g) t := by
  obtain ⟨cl, A, -, S, -, H, -⟩ := V
  have hin := own_idx S q1 q2
  exact X.caload hx (j := j) (v := v) (by rw [eT]; exact A.1) (State.isArrayOf_alike hZ.alike A.2.1) A.2.2 hin (H.at hin hv) (g := g) hg hs hd _ kk
theorem own_baloadB (X : Stand p l e R s m args below meth c T locs cells slots) (hx : p.tables.exec = Jvm.exec) (hZ : Z.Warmed39 s.vm) (eT : T.heap = h) {k : ClassId} {n : Int32} {vs : List Value} {d : Value} (V : Arv Z h a k .byte n vs d) {j : Int32} (q1 : ¬ j < 0) (q2 : j < n) {v : Value} (hv : vs.getD j.toNatClampNeg d = v) {g : JFrame} (hg : g.method = m) {rest : List Value} (hs : g.stack = .int j :: .ref a :: rest) (hd : decode c.code g.pc = .ok (.baload, 1)) (t : State) (kk : Steps p.tables e below (T.setTop { g with pc := g.pc + 1, stack := v :: rest }) t) : Steps p.tables e below (T.setTop g) t := by
  obtain ⟨cl, A, -, S, -, H, -⟩ := V
  have hin := own_idx S q1 q2
  exact X.baloadBytes hx (j := j) (v := v) (by rw [eT]; exact A.1) (State.isArrayOf_alike hZ.alike A.2.1) A.2.2 hin (H.at hin hv) (g := g) hg hs hd _ kk
theorem own_baloadZ (X : Stand p l e R s m args below meth c T locs cells slots) (hx : p.tables.exec = Jvm.exec) (hZ : Z.Warmed39 s.vm) (eT : T.heap = h) {k : ClassId} {n : Int32} {vs : List Value} {d : Value} (V : Arv Z h a k .boolean n vs d) {j : Int32} (q1 : ¬ j < 0) (q2 : j < n) {v : Value} (hv : vs.getD j.toNatClampNeg d = v) {g : JFrame} (hg : g.method = m) {rest : List Value} (hs : g.stack = .int j :: .ref a :: rest) (hd : decode c.code g.pc = .ok (.baload, 1)) (t : State) (kk : Steps p.tables e below (T.setTop { g with pc := g.pc + 1, stack := v :: rest }) t) : Steps p.tables e below (T.setTop g) t := by
  obtain ⟨cl, A, -, S, -, H, -⟩ := V
  have hin := own_idx S q1 q2
  exact X.baloadBooleans hx (j := j) (v := v) (by rw [eT]; exact A.1) (State.isArrayOf_alike hZ.alike A.2.1) A.2.2 hin (H.at hin hv) (g := g) hg hs hd _ kk
theorem own_aaload (X : Stand p l e R s m args below meth c T locs cells slots) (hx : p.tables.exec = Jvm.exec) (hZ : Z.Warmed39 s.vm) (eT : T.heap = h) {k : ClassId} {n : Int32} {vs : List Value} {d : Value} {ty : FieldType} (V : Arv Z h a k ty n vs d) (hty : ty.isReference = true) {j : Int32} (q1 : ¬ j < 0) (q2 : j < n) {v : Value} (hv : vs.getD j.toNatClampNeg d = v) {g : JFrame} (hg : g.method = m) {rest : List Value} (hs : g.stack = .int j :: .ref a :: rest) (hd : decode c.code g.pc = .ok (.aaload, 1)) (t : State) (kk : Steps p.tables e below (T.setTop { g with pc := g.pc + 1, stack := v :: rest }) t) : Steps p.tables e below (T.setTop g) t := by
  obtain ⟨cl, A, -, S, -, H, -⟩ := V
  have hin := own_idx S q1 q2
  exact X.aaload hx (j := j) (v := v) (by rw [eT]; exact A.1) (State.isArrayOf_alike hZ.alike A.2.1) hty A.2.2 hin (H.at hin hv) (g := g) hg hs hd _ kk
theorem own_len (X : Stand p l e R s m args below meth c T locs cells slots) (hx : p.tables.exec = Jvm.exec) (hZ : Z.Warmed39 s.vm) (eT : T.heap = h) {k : ClassId} {n : Int32} {vs : List Value} {d : Value} {ty : FieldType} (V : Arv Z h a k ty n vs d) {g : JFrame} (hg : g.method = m) {rest : List Value} (hs : g.stack = .ref a :: rest) (hd : decode c.code g.pc = .ok (.arraylength, 1)) (t : State) (kk : Steps p.tables e below (T.setTop { g with pc := g.pc + 1, stack := .int n :: rest }) t) : Steps p.tables e below (T.setTop g) t := by
  obtain ⟨cl, A, -, S, N, -, -⟩ := V
  refine X.arraylength hx (by rw [eT]; exact A.1) (State.isArrayOf_alike hZ.alike A.2.1) (g := g) hg hs hd _ ?_
  rw [len_of S N]
  exact kk
theorem own_stI (X : Stand p l e R s m args below meth c T locs cells slots) (hx : p.tables.exec = Jvm.exec) (hZ : Z.Warmed39 s.vm) (eT : T.heap = h) {k : ClassId} {n : Int32} {vs : List Value} {d : Value} (V : Arv Z h a k .int n vs d) {j x : Int32} (q1 : ¬ j < 0) (q2 : j < n) (i : Nat) (hi : j.toNatClampNeg = i) (hl : i < vs.length) {g : JFrame} (hg : g.method = m) {rest : List Value} (hs : g.stack = .int x :: .int j :: .ref a :: rest) (hd : decode c.code g.pc = .ok (.iastore, 1)) :
    ∃ T' h', Stand p l e R s m args below meth c T' (locs ++ [⟨a, j.toNatClampNeg⟩]) cells slots ∧ T'.heap = h' ∧ Wr h h' a j.toNatClampNeg (.int x) ∧ Arv Z h' a k .int n (vs.set i (.int x)) d ∧ ∀ t, Steps p.tables e below (T'.setTop { g with pc := g.pc + 1, stack := rest }) t → Steps p.tables e below (T.setTop g) t := by
  obtain ⟨cl, A, q, S, N, H, G⟩ := V
  obtain ⟨T', h', X', e', W', st⟩ := stI X hx hZ eT A (own_idx S q1 q2) (g := g) hg hs hd
  exact ⟨T', h', X', e', W', Arv.set A q S N H G rfl W' i hi hl, st⟩
theorem own_stJ (X : Stand p l e R s m args below meth c T locs cells slots) (hx : p.tables.exec = Jvm.exec) (hZ : Z.Warmed39 s.vm) (eT : T.heap = h) {k : ClassId} {n : Int32} {vs : List Value} {d : Value} (V : Arv Z h a k .long n vs d) {j : Int32} {x : Int64} (q1 : ¬ j < 0) (q2 : j < n) (i : Nat) (hi : j.toNatClampNeg = i) (hl : i < vs.length) {g : JFrame} (hg : g.method = m) {rest : List Value} (hs : g.stack = .long x :: .int j :: .ref a :: rest) (hd : decode c.code g.pc = .ok (.lastore, 1)) :
    ∃ T' h', Stand p l e R s m args below meth c T' (locs ++ [⟨a, j.toNatClampNeg⟩]) cells slots ∧ T'.heap = h' ∧ Wr h h' a j.toNatClampNeg (.long x) ∧ Arv Z h' a k .long n (vs.set i (.long x)) d ∧ ∀ t, Steps p.tables e below (T'.setTop { g with pc := g.pc + 1, stack := rest }) t → Steps p.tables e below (T.setTop g) t := by
  obtain ⟨cl, A, q, S, N, H, G⟩ := V
  obtain ⟨T', h', X', e', W', st⟩ := stJ X hx hZ eT A (own_idx S q1 q2) (g := g) hg hs hd
  exact ⟨T', h', X', e', W', Arv.set A q S N H G rfl W' i hi hl, st⟩
theorem own_stC (X : Stand p l e R s m args below meth c T locs cells slots) (hx : p.tables.exec = Jvm.exec) (hZ : Z.Warmed39 s.vm) (eT : T.heap = h) {k : ClassId} {n : Int32} {vs : List Value} {d : Value} (V : Arv Z h a k .char n vs d) {j x : Int32} (q1 : ¬ j < 0) (q2 : j < n) (i : Nat) (hi : j.toNatClampNeg = i) (hl : i < vs.length) {g : JFrame} (hg : g.method = m) {rest : List Value} (hs : g.stack = .int x :: .int j :: .ref a :: rest) (hd : decode c.code g.pc = .ok (.castore, 1)) :
    ∃ T' h', Stand p l e R s m args below meth c T' (locs ++ [⟨a, j.toNatClampNeg⟩]) cells slots ∧ T'.heap = h' ∧ Wr h h' a j.toNatClampNeg (.int (nar .char x)) ∧ Arv Z h' a k .char n (vs.set i (.int (nar .char x))) d ∧ ∀ t, Steps p.tables e below (T'.setTop { g with pc := g.pc + 1, stack := rest }) t → Steps p.tables e below (T.setTop g) t := by
  obtain ⟨cl, A, q, S, N, H, G⟩ := V
  obtain ⟨T', h', X', e', W', st⟩ := stC X hx hZ eT A (own_idx S q1 q2) (g := g) hg hs hd
  exact ⟨T', h', X', e', W', Arv.set A q S N H G (fits_nar_char _) W' i hi hl, st⟩
theorem own_stB (X : Stand p l e R s m args below meth c T locs cells slots) (hx : p.tables.exec = Jvm.exec) (hZ : Z.Warmed39 s.vm) (eT : T.heap = h) {k : ClassId} {n : Int32} {vs : List Value} {d : Value} (V : Arv Z h a k .byte n vs d) {j x : Int32} (q1 : ¬ j < 0) (q2 : j < n) (i : Nat) (hi : j.toNatClampNeg = i) (hl : i < vs.length) {g : JFrame} (hg : g.method = m) {rest : List Value} (hs : g.stack = .int x :: .int j :: .ref a :: rest) (hd : decode c.code g.pc = .ok (.bastore, 1)) :
    ∃ T' h', Stand p l e R s m args below meth c T' (locs ++ [⟨a, j.toNatClampNeg⟩]) cells slots ∧ T'.heap = h' ∧ Wr h h' a j.toNatClampNeg (.int (nar .byte x)) ∧ Arv Z h' a k .byte n (vs.set i (.int (nar .byte x))) d ∧ ∀ t, Steps p.tables e below (T'.setTop { g with pc := g.pc + 1, stack := rest }) t → Steps p.tables e below (T.setTop g) t := by
  obtain ⟨cl, A, q, S, N, H, G⟩ := V
  obtain ⟨T', h', X', e', W', st⟩ := stB X hx hZ eT A (own_idx S q1 q2) (g := g) hg hs hd
  exact ⟨T', h', X', e', W', Arv.set A q S N H G (fits_nar_byte _) W' i hi hl, st⟩
theorem own_stZ (X : Stand p l e R s m args below meth c T locs cells slots) (hx : p.tables.exec = Jvm.exec) (hZ : Z.Warmed39 s.vm) (eT : T.heap = h) {k : ClassId} {n : Int32} {vs : List Value} {d : Value} (V : Arv Z h a k .boolean n vs d) {j x : Int32} (q1 : ¬ j < 0) (q2 : j < n) (i : Nat) (hi : j.toNatClampNeg = i) (hl : i < vs.length) {g : JFrame} (hg : g.method = m) {rest : List Value} (hs : g.stack = .int x :: .int j :: .ref a :: rest) (hd : decode c.code g.pc = .ok (.bastore, 1)) :
    ∃ T' h', Stand p l e R s m args below meth c T' (locs ++ [⟨a, j.toNatClampNeg⟩]) cells slots ∧ T'.heap = h' ∧ Wr h h' a j.toNatClampNeg (.int (nar .boolean x)) ∧ Arv Z h' a k .boolean n (vs.set i (.int (nar .boolean x))) d ∧ ∀ t, Steps p.tables e below (T'.setTop { g with pc := g.pc + 1, stack := rest }) t → Steps p.tables e below (T.setTop g) t := by
  obtain ⟨cl, A, q, S, N, H, G⟩ := V
  obtain ⟨T', h', X', e', W', st⟩ := stZ X hx hZ eT A (own_idx S q1 q2) (g := g) hg hs hd
  exact ⟨T', h', X', e', W', Arv.set A q S N H G (fits_nar_bool _) W' i hi hl, st⟩
theorem own_old {n0 : Nat} (O : Old Z n0 h) : n0 ≤ h.size := O.1 ▸ O.2.1
theorem own_res {z z' y : Int32} (hq : y = z') (hz : z = z') : some (Value.int z) = some (Value.int y) := by rw [hq, hz]
theorem own_resJ {z z' y : Int64} (hq : y = z') (hz : z = z') : some (Value.long z) = some (Value.long y) := by rw [hq, hz]
theorem own_narR {v : Value} {t : FieldType} (q : v.isRef = true) (r : t.isReference = true := by rfl) : narrow t v = v := by
  rcases ref_cases q with rfl | ⟨_, rfl⟩ <;> cases t <;> first | rfl | (simp [FieldType.isReference] at r)
theorem own_fitR {v : Value} {t : FieldType} (q : v.isRef = true) (r : t.isReference = true := by rfl) : fits t v = true := by
  rcases ref_cases q with rfl | ⟨_, rfl⟩ <;> cases t <;> first | rfl | (simp [FieldType.isReference] at r)
theorem own_fld {ar : Array Value} {t : Term} {x : Addr} {C n d : String} {k : Int32} (ht : t.eval ar s none [] s = some (.ref x)) (q : (Jvm.Cond.eq (.field t C n d) (.int k)).value ar s none s [] = some true) : Fld s s.heap x C n d (.int k) := by
  obtain ⟨u, w, e1, e2, -, k2⟩ := cmp_v (Or.inl q)
  have e3 : (Term.int k).eval ar s none [] s = some (.int k) := Term.int_eval k
  rw [e3] at e2
  obtain rfl := Option.some.inj e2
  obtain ⟨z, rfl⟩ := k2
  have e4 : z = k := gotT (Cond.eq_ints e1 e3) q
  subst e4
  rw [fld_at ht] at e1
  exact Fld.start e1
theorem own_neI {u w : Int32} (q : u ≠ w) : Value.int u ≠ Value.int w := fun z => q (Value.int.inj z)
theorem own_stR (X : Stand p l e R s m args below meth c T locs cells slots) (hx : p.tables.exec = Jvm.exec) (hZ : Z.Warmed39 s.vm) (eT : T.heap = h) {k : ClassId} {n : Int32} {vs : List Value} {d : Value} {ty : FieldType} {C : String} (V : Arv Z h a k ty n vs d) (hty : ty.isReference = true) (O : Ovr Z k C) {y : Addr} (I : Ins Z h y C true) {j : Int32} (q1 : ¬ j < 0) (q2 : j < n) (i : Nat) (hi : j.toNatClampNeg = i) (hl : i < vs.length) {g : JFrame} (hg : g.method = m) {rest : List Value} (hs : g.stack = .ref y :: .int j :: .ref a :: rest) (hd : decode c.code g.pc = .ok (.aastore, 1)) :
    ∃ T' h', Stand p l e R s m args below meth c T' (locs ++ [⟨a, j.toNatClampNeg⟩]) cells slots ∧ T'.heap = h' ∧ Wr h h' a j.toNatClampNeg (.ref y) ∧ Arv Z h' a k ty n (vs.set i (.ref y)) d ∧ ∀ t, Steps p.tables e below (T'.setTop { g with pc := g.pc + 1, stack := rest }) t → Steps p.tables e below (T.setTop g) t := by
  obtain ⟨cl, A, q, S, N, H, G⟩ := V
  obtain ⟨T', h', X', e', W', st⟩ := stR X hx hZ eT A (own_idx S q1 q2) hty (Sto.ofV A q O I) (g := g) hg hs hd
  exact ⟨T', h', X', e', W', Arv.set A q S N H G (own_fitR rfl hty) W' i hi hl, st⟩
theorem own_dupx2 (X : Stand p l e R s m args below meth c T locs cells slots) (hx : p.tables.exec = Jvm.exec) {g : JFrame} (hg : g.method = m) {x y z : Value} {rest : List Value} (hd : decode c.code g.pc = .ok (.dup_x2, 1)) (hs : g.stack = x :: y :: z :: rest) (hc : x.category = 1) (hc' : y.category = 1) (hc'' : z.category = 1) (t : State) (kk : Steps p.tables e below (T.setTop { g with pc := g.pc + 1, stack := x :: y :: z :: x :: rest }) t) : Steps p.tables e below (T.setTop g) t := by
  subst hg
  jvm_step X.here [X.here.top, hx, hd, dup_x2.wp_sem, hs, hc, hc', hc'']
  exact kk
end OwnKit
theorem own_lt (x y : Int32) : (x < y) = (x.toInt < y.toInt) := propext Int32.lt_iff_toInt_lt
theorem own_eq (x y : Int32) : (x = y) = (x.toInt = y.toInt) := propext Int32.toInt_inj.symm
theorem own_rem (x k : Int32) (hk : 0 < k.toInt) : ¬ ((x &&& 2147483647) % k < 0) ∧ (x &&& 2147483647) % k < k := by
  have h1 := c_mask x 2147483647 31 (by decide) (by decide)
  have h2 := c_iremV (x &&& 2147483647) k
  have h3 : 0 ≤ (x &&& 2147483647).toInt := by rw [h1]; exact Int.emod_nonneg _ (by decide)
  have h4 := h2.1 h3 hk
  rw [own_lt, own_lt]
  have h5 : (0 : Int32).toInt = 0 := rfl
  omega
theorem own_getI (xs : List Int32) (d : Int32) (i : Nat) : (xs.map Value.int).getD i (.int d) = .int (xs.getD i d) := by
  induction xs generalizing i with
  | nil => rfl
  | cons a t ih =>
    cases i with
    | zero => rfl
    | succ n => exact ih n
theorem d1_0 : decode prog_67_method_6_code 0 = .ok (.iload_n 0, 1) := by decide +kernel
theorem d1_1 : decode prog_67_method_6_code 1 = .ok (.bipush 52, 2) := by decide +kernel
theorem d1_3 : decode prog_67_method_6_code 3 = .ok (.if_icmp .eq 15, 3) := by decide +kernel
theorem d1_6 : decode prog_67_method_6_code 6 = .ok (.iload_n 0, 1) := by decide +kernel
theorem d1_7 : decode prog_67_method_6_code 7 = .ok (.bipush 28, 2) := by decide +kernel
theorem d1_9 : decode prog_67_method_6_code 9 = .ok (.if_icmp .eq 9, 3) := by decide +kernel
theorem d1_12 : decode prog_67_method_6_code 12 = .ok (.iload_n 0, 1) := by decide +kernel
theorem d1_13 : decode prog_67_method_6_code 13 = .ok (.bipush 16, 2) := by decide +kernel
theorem d1_15 : decode prog_67_method_6_code 15 = .ok (.if_icmp .ne 7, 3) := by decide +kernel
theorem d1_18 : decode prog_67_method_6_code 18 = .ok (.iconst 1, 1) := by decide +kernel
theorem d1_19 : decode prog_67_method_6_code 19 = .ok (.goto 4, 3) := by decide +kernel
theorem d1_22 : decode prog_67_method_6_code 22 = .ok (.iconst 0, 1) := by decide +kernel
theorem d1_23 : decode prog_67_method_6_code 23 = .ok (.ireturn, 1) := by decide +kernel
theorem pn1 : plainName "com/example/assayline/assayline/protocol/colon/ColonPackage" = true := by first | (simp [plainName, overriddenIn]; done) | decide +kernel
theorem ef1 (m : MethodId) (x0 : Int32) : entryFrame m #[(.int x0)] 1 = mkF m 0 #[.val (.int x0)] [] := by first | (simp [entryFrame, mkF, argsToLocals, Value.category, maxLocals]; done) | rfl
def fML (p0 : Int32) : Int32 := (if p0 = (52 : Int32) then (1 : Int32) else (if p0 = (28 : Int32) then (1 : Int32) else (if p0 = (16 : Int32) then (1 : Int32) else (0 : Int32))))
def Q1 (Z : State) (p0 : Int32) (h0 : Heap) (n0 : Nat) (v : Option Value) (h : Heap) (L : List Loc) : Prop := v = some (.int (fML p0)) ∧ Fr n0 L ∧ h = h0
set_option maxRecDepth 65536 in
set_option maxHeartbeats 40000000 in
theorem rm1 (l : Launch) (Z : State) (a0 : Array Value) (hw : ∀ d ∈ tables_1, d.before a0 Z = true) (ws : List Jvm.Cond) (p0 : Int32) (h0 : Heap) (n0 : Nat) (O0 : Old Z n0 h0)  :
    MetFree l (⟨"com/example/assayline/assayline/protocol/colon/ColonPackage", "isMessageLength", "(I)Z"⟩ : MethodName) (head1 (Jvm.Cond.code (⟨"com/example/assayline/assayline/protocol/colon/ColonPackage", "isMessageLength", "(I)Z"⟩ : MethodName) prog_67_method_6_code 1 (some .boolean) :: ws) ({ frames := 0, cells := 0, slots := 0, locals := 0 } : Room)) (fun A_ U_ => A_ = #[(.int p0)] ∧ Z.Warmed39 U_.vm ∧ U_.heap = h0) (fun _ _ _ _ _ => True) (fun _ U o U' => ∃ v L, o = .returned v ∧ Q1 Z p0 h0 n0 v U'.heap L ∧ FrameEnd U o U' L ({ frames := 0, cells := 0, slots := 0, locals := 0 } : Room).cells ({ frames := 0, cells := 0, slots := 0, locals := 0 } : Room).slots) := by
  refine MetFree.of_bodySF (plainFor_of_name pn1) hisR ?_
  intro p e s m args below meth cd s₁ Bd hml0 hP hK
  obtain ⟨rfl, hZ, hh⟩ := hP
  have hx := Bd.exec
  have hby := Bd.bytes
  have hlk : meth.locks = false := BodyLoose.notSynchronized Bd
  have hml : cd.maxLocals = 1 := hml0
  have hown : s.vm.findClass "com/example/assayline/assayline/protocol/colon/ColonPackage" = some m.cls := findClass_of_methodNamed Bd.named
  have hnm := (name_of_methodNamed Bd.named Bd.method).1
  have X0 : Stand p l e ({ frames := 0, cells := 0, slots := 0, locals := 0 } : Room) s m #[(.int p0)] below meth cd s₁ [] 0 0 := Stand.of_body Bd
  have e0 : s₁.heap = h0 := by rw [← hh, Bd.state]; rfl
  have N0 := Fr.nil n0
  have G : Go p e below s 0 0 (Q1 Z p0 h0 n0) (s₁.setTop (mkF m 0 #[.val (.int p0)] [])) := by
    show Go p e below s _ _ _ (s₁.setTop (mkF m 0 #[.val (.int p0)] []))
    refine Go.st (fun _ k => XS.iloadN X0.here hx rfl (hb hby d1_0) rfl k) ?_
    show Go p e below s _ _ _ (s₁.setTop (mkF m 1 #[.val (.int p0)] [(.int p0)]))
    refine Go.st (fun _ k => XS.bipush X0.here hx rfl (hb hby d1_1) k) ?_
    show Go p e below s _ _ _ (s₁.setTop (mkF m 3 #[.val (.int p0)] [(.int (52 : Int32)), (.int p0)]))
    by_cases c3_1 : p0 = (52 : Int32)
    · refine Go.st (fun _ k => XS.icmpYes X0.here hx rfl (pc0 := 3) (pc' := 18) rfl (hb hby d1_3) rfl (XT.ii_eq_t c3_1) (by decide) (by decide) k) ?_
      show Go p e below s _ _ _ (s₁.setTop (mkF m 18 #[.val (.int p0)] []))
      refine Go.st (fun _ k => XS.iconst X0.here hx rfl (hb hby d1_18) k) ?_
      show Go p e below s _ _ _ (s₁.setTop (mkF m 19 #[.val (.int p0)] [(.int (1 : Int32))]))
      refine Go.st (fun _ k => XS.goto X0.here hx rfl (pc0 := 19) (pc' := 23) rfl (hb hby d1_19) (by decide) (by decide) k) ?_
      show Go p e below s _ _ _ (s₁.setTop (mkF m 23 #[.val (.int p0)] [(.int (1 : Int32))]))
      exact Go.ret X0 hlk (some (.int (nar .boolean (1 : Int32)))) (fun h => by rw [Bd.returns] at h; cases h) (by rw [e0]; exact ⟨own_res (z' := (1 : Int32)) (by unfold fML; rw [if_pos c3_1]) rfl, N0, rfl⟩) (by decide) (by decide) (fun fs hr => retN X0 hx (t := .boolean) Bd.returns (by simp) (hb hby d1_23) hr)
    · refine Go.st (fun _ k => XS.icmpNo X0.here hx rfl (hb hby d1_3) rfl (XT.ii_eq_f c3_1) k) ?_
      show Go p e below s _ _ _ (s₁.setTop (mkF m 6 #[.val (.int p0)] []))
      refine Go.st (fun _ k => XS.iloadN X0.here hx rfl (hb hby d1_6) rfl k) ?_
      show Go p e below s _ _ _ (s₁.setTop (mkF m 7 #[.val (.int p0)] [(.int p0)]))
      refine Go.st (fun _ k => XS.bipush X0.here hx rfl (hb hby d1_7) k) ?_
      show Go p e below s _ _ _ (s₁.setTop (mkF m 9 #[.val (.int p0)] [(.int (28 : Int32)), (.int p0)]))
      by_cases c9_2 : p0 = (28 : Int32)
      · refine Go.st (fun _ k => XS.icmpYes X0.here hx rfl (pc0 := 9) (pc' := 18) rfl (hb hby d1_9) rfl (XT.ii_eq_t c9_2) (by decide) (by decide) k) ?_
        show Go p e below s _ _ _ (s₁.setTop (mkF m 18 #[.val (.int p0)] []))
        refine Go.st (fun _ k => XS.iconst X0.here hx rfl (hb hby d1_18) k) ?_
        show Go p e below s _ _ _ (s₁.setTop (mkF m 19 #[.val (.int p0)] [(.int (1 : Int32))]))
        refine Go.st (fun _ k => XS.goto X0.here hx rfl (pc0 := 19) (pc' := 23) rfl (hb hby d1_19) (by decide) (by decide) k) ?_
        show Go p e below s _ _ _ (s₁.setTop (mkF m 23 #[.val (.int p0)] [(.int (1 : Int32))]))
        exact Go.ret X0 hlk (some (.int (nar .boolean (1 : Int32)))) (fun h => by rw [Bd.returns] at h; cases h) (by rw [e0]; exact ⟨own_res (z' := (1 : Int32)) (by unfold fML; rw [if_neg c3_1, if_pos c9_2]) rfl, N0, rfl⟩) (by decide) (by decide) (fun fs hr => retN X0 hx (t := .boolean) Bd.returns (by simp) (hb hby d1_23) hr)
      · refine Go.st (fun _ k => XS.icmpNo X0.here hx rfl (hb hby d1_9) rfl (XT.ii_eq_f c9_2) k) ?_
        show Go p e below s _ _ _ (s₁.setTop (mkF m 12 #[.val (.int p0)] []))
        refine Go.st (fun _ k => XS.iloadN X0.here hx rfl (hb hby d1_12) rfl k) ?_
        show Go p e below s _ _ _ (s₁.setTop (mkF m 13 #[.val (.int p0)] [(.int p0)]))
        refine Go.st (fun _ k => XS.bipush X0.here hx rfl (hb hby d1_13) k) ?_
        show Go p e below s _ _ _ (s₁.setTop (mkF m 15 #[.val (.int p0)] [(.int (16 : Int32)), (.int p0)]))
        by_cases c15_3 : p0 = (16 : Int32)
        · refine Go.st (fun _ k => XS.icmpNo X0.here hx rfl (hb hby d1_15) rfl (XT.ii_ne_f c15_3) k) ?_
          show Go p e below s _ _ _ (s₁.setTop (mkF m 18 #[.val (.int p0)] []))
          refine Go.st (fun _ k => XS.iconst X0.here hx rfl (hb hby d1_18) k) ?_
          show Go p e below s _ _ _ (s₁.setTop (mkF m 19 #[.val (.int p0)] [(.int (1 : Int32))]))
          refine Go.st (fun _ k => XS.goto X0.here hx rfl (pc0 := 19) (pc' := 23) rfl (hb hby d1_19) (by decide) (by decide) k) ?_
          show Go p e below s _ _ _ (s₁.setTop (mkF m 23 #[.val (.int p0)] [(.int (1 : Int32))]))
          exact Go.ret X0 hlk (some (.int (nar .boolean (1 : Int32)))) (fun h => by rw [Bd.returns] at h; cases h) (by rw [e0]; exact ⟨own_res (z' := (1 : Int32)) (by unfold fML; rw [if_neg c3_1, if_neg c9_2, if_pos c15_3]) rfl, N0, rfl⟩) (by decide) (by decide) (fun fs hr => retN X0 hx (t := .boolean) Bd.returns (by simp) (hb hby d1_23) hr)
        · refine Go.st (fun _ k => XS.icmpYes X0.here hx rfl (pc0 := 15) (pc' := 22) rfl (hb hby d1_15) rfl (XT.ii_ne_t c15_3) (by decide) (by decide) k) ?_
          show Go p e below s _ _ _ (s₁.setTop (mkF m 22 #[.val (.int p0)] []))
          refine Go.st (fun _ k => XS.iconst X0.here hx rfl (hb hby d1_22) k) ?_
          show Go p e below s _ _ _ (s₁.setTop (mkF m 23 #[.val (.int p0)] [(.int (0 : Int32))]))
          exact Go.ret X0 hlk (some (.int (nar .boolean (0 : Int32)))) (fun h => by rw [Bd.returns] at h; cases h) (by rw [e0]; exact ⟨own_res (z' := (0 : Int32)) (by unfold fML; rw [if_neg c3_1, if_neg c9_2, if_neg c15_3]) rfl, N0, rfl⟩) (by decide) (by decide) (fun fs hr => retN X0 hx (t := .boolean) Bd.returns (by simp) (hb hby d1_23) hr)
  obtain ⟨s2, o2, st2, r2⟩ := G
  exact ⟨s2, o2, castTop (ef1 m p0) st2, r2⟩
theorem d2_0 : decode method_2_code 0 = .ok (.iload_n 0, 1) := by decide +kernel
theorem d2_1 : decode method_2_code 1 = .ok (.bipush 16, 2) := by decide +kernel
theorem d2_3 : decode method_2_code 3 = .ok (.if_icmp .ge 5, 3) := by decide +kernel
theorem d2_6 : decode method_2_code 6 = .ok (.iconst 0, 1) := by decide +kernel
theorem d2_7 : decode method_2_code 7 = .ok (.ireturn, 1) := by decide +kernel
theorem d2_8 : decode method_2_code 8 = .ok (.iload_n 0, 1) := by decide +kernel
theorem d2_9 : decode method_2_code 9 = .ok (.bipush 16, 2) := by decide +kernel
theorem d2_11 : decode method_2_code 11 = .ok (.if_icmp .ne 5, 3) := by decide +kernel
theorem d2_14 : decode method_2_code 14 = .ok (.iconst 1, 1) := by decide +kernel
theorem d2_15 : decode method_2_code 15 = .ok (.ireturn, 1) := by decide +kernel
theorem d2_16 : decode method_2_code 16 = .ok (.iload_n 0, 1) := by decide +kernel
theorem d2_17 : decode method_2_code 17 = .ok (.bipush 28, 2) := by decide +kernel
theorem d2_19 : decode method_2_code 19 = .ok (.if_icmp .ge 5, 3) := by decide +kernel
theorem d2_22 : decode method_2_code 22 = .ok (.iconst 0, 1) := by decide +kernel
theorem d2_23 : decode method_2_code 23 = .ok (.ireturn, 1) := by decide +kernel
theorem d2_24 : decode method_2_code 24 = .ok (.iload_n 0, 1) := by decide +kernel
theorem d2_25 : decode method_2_code 25 = .ok (.bipush 28, 2) := by decide +kernel
theorem d2_27 : decode method_2_code 27 = .ok (.if_icmp .ne 5, 3) := by decide +kernel
theorem d2_30 : decode method_2_code 30 = .ok (.iconst 1, 1) := by decide +kernel
theorem d2_31 : decode method_2_code 31 = .ok (.ireturn, 1) := by decide +kernel
theorem d2_32 : decode method_2_code 32 = .ok (.iload_n 0, 1) := by decide +kernel
theorem d2_33 : decode method_2_code 33 = .ok (.bipush 52, 2) := by decide +kernel
theorem d2_35 : decode method_2_code 35 = .ok (.if_icmp .ge 5, 3) := by decide +kernel
theorem d2_38 : decode method_2_code 38 = .ok (.iconst 0, 1) := by decide +kernel
theorem d2_39 : decode method_2_code 39 = .ok (.ireturn, 1) := by decide +kernel
theorem d2_40 : decode method_2_code 40 = .ok (.iload_n 0, 1) := by decide +kernel
theorem d2_41 : decode method_2_code 41 = .ok (.bipush 52, 2) := by decide +kernel
theorem d2_43 : decode method_2_code 43 = .ok (.if_icmp .ne 7, 3) := by decide +kernel
theorem d2_46 : decode method_2_code 46 = .ok (.iconst 1, 1) := by decide +kernel
theorem d2_47 : decode method_2_code 47 = .ok (.goto 4, 3) := by decide +kernel
theorem d2_50 : decode method_2_code 50 = .ok (.iconst 0, 1) := by decide +kernel
theorem d2_51 : decode method_2_code 51 = .ok (.ireturn, 1) := by decide +kernel
theorem pn2 : plainName "com/example/assayline/assayline/protocol/colon/ColonPackageIsMessageLengthPinLaw" = true := by first | (simp [plainName, overriddenIn]; done) | decide +kernel
theorem ef2 (m : MethodId) (x0 : Int32) : entryFrame m #[(.int x0)] 1 = mkF m 0 #[.val (.int x0)] [] := by first | (simp [entryFrame, mkF, argsToLocals, Value.category, maxLocals]; done) | rfl
def fEx (p0 : Int32) : Int32 := (if p0 < (16 : Int32) then (0 : Int32) else (if p0 = (16 : Int32) then (1 : Int32) else (if p0 < (28 : Int32) then (0 : Int32) else (if p0 = (28 : Int32) then (1 : Int32) else (if p0 < (52 : Int32) then (0 : Int32) else (if p0 = (52 : Int32) then (1 : Int32) else (0 : Int32)))))))
def Q2 (Z : State) (p0 : Int32) (h0 : Heap) (n0 : Nat) (v : Option Value) (h : Heap) (L : List Loc) : Prop := v = some (.int (fEx p0)) ∧ Fr n0 L ∧ h = h0
set_option maxRecDepth 65536 in
set_option maxHeartbeats 40000000 in
theorem rm2 (l : Launch) (Z : State) (a0 : Array Value) (hw : ∀ d ∈ tables_1, d.before a0 Z = true) (ws : List Jvm.Cond) (p0 : Int32) (h0 : Heap) (n0 : Nat) (O0 : Old Z n0 h0)  :
    MetFree l (⟨"com/example/assayline/assayline/protocol/colon/ColonPackageIsMessageLengthPinLaw", "expected", "(I)Z"⟩ : MethodName) (head1 (Jvm.Cond.code (⟨"com/example/assayline/assayline/protocol/colon/ColonPackageIsMessageLengthPinLaw", "expected", "(I)Z"⟩ : MethodName) method_2_code 1 (some .boolean) :: ws) ({ frames := 0, cells := 0, slots := 0, locals := 0 } : Room)) (fun A_ U_ => A_ = #[(.int p0)] ∧ Z.Warmed39 U_.vm ∧ U_.heap = h0) (fun _ _ _ _ _ => True) (fun _ U o U' => ∃ v L, o = .returned v ∧ Q2 Z p0 h0 n0 v U'.heap L ∧ FrameEnd U o U' L ({ frames := 0, cells := 0, slots := 0, locals := 0 } : Room).cells ({ frames := 0, cells := 0, slots := 0, locals := 0 } : Room).slots) := by
  refine MetFree.of_bodySF (plainFor_of_name pn2) hisR ?_
  intro p e s m args below meth cd s₁ Bd hml0 hP hK
  obtain ⟨rfl, hZ, hh⟩ := hP
  have hx := Bd.exec
  have hby := Bd.bytes
  have hlk : meth.locks = false := BodyLoose.notSynchronized Bd
  have hml : cd.maxLocals = 1 := hml0
  have hown : s.vm.findClass "com/example/assayline/assayline/protocol/colon/ColonPackageIsMessageLengthPinLaw" = some m.cls := findClass_of_methodNamed Bd.named
  have hnm := (name_of_methodNamed Bd.named Bd.method).1
  have X0 : Stand p l e ({ frames := 0, cells := 0, slots := 0, locals := 0 } : Room) s m #[(.int p0)] below meth cd s₁ [] 0 0 := Stand.of_body Bd
  have e0 : s₁.heap = h0 := by rw [← hh, Bd.state]; rfl
  have N0 := Fr.nil n0
  have G : Go p e below s 0 0 (Q2 Z p0 h0 n0) (s₁.setTop (mkF m 0 #[.val (.int p0)] [])) := by
    show Go p e below s _ _ _ (s₁.setTop (mkF m 0 #[.val (.int p0)] []))
    refine Go.st (fun _ k => XS.iloadN X0.here hx rfl (hb hby d2_0) rfl k) ?_
    show Go p e below s _ _ _ (s₁.setTop (mkF m 1 #[.val (.int p0)] [(.int p0)]))
    refine Go.st (fun _ k => XS.bipush X0.here hx rfl (hb hby d2_1) k) ?_
    show Go p e below s _ _ _ (s₁.setTop (mkF m 3 #[.val (.int p0)] [(.int (16 : Int32)), (.int p0)]))
    by_cases c3_1 : p0 < (16 : Int32)
    · refine Go.st (fun _ k => XS.icmpNo X0.here hx rfl (hb hby d2_3) rfl (XT.ii_ge_f c3_1) k) ?_
      show Go p e below s _ _ _ (s₁.setTop (mkF m 6 #[.val (.int p0)] []))
      refine Go.st (fun _ k => XS.iconst X0.here hx rfl (hb hby d2_6) k) ?_
      show Go p e below s _ _ _ (s₁.setTop (mkF m 7 #[.val (.int p0)] [(.int (0 : Int32))]))
      exact Go.ret X0 hlk (some (.int (nar .boolean (0 : Int32)))) (fun h => by rw [Bd.returns] at h; cases h) (by rw [e0]; exact ⟨own_res (z' := (0 : Int32)) (by unfold fEx; rw [if_pos c3_1]) rfl, N0, rfl⟩) (by decide) (by decide) (fun fs hr => retN X0 hx (t := .boolean) Bd.returns (by simp) (hb hby d2_7) hr)
    · refine Go.st (fun _ k => XS.icmpYes X0.here hx rfl (pc0 := 3) (pc' := 8) rfl (hb hby d2_3) rfl (XT.ii_ge_t c3_1) (by decide) (by decide) k) ?_
      show Go p e below s _ _ _ (s₁.setTop (mkF m 8 #[.val (.int p0)] []))
      refine Go.st (fun _ k => XS.iloadN X0.here hx rfl (hb hby d2_8) rfl k) ?_
      show Go p e below s _ _ _ (s₁.setTop (mkF m 9 #[.val (.int p0)] [(.int p0)]))
      refine Go.st (fun _ k => XS.bipush X0.here hx rfl (hb hby d2_9) k) ?_
      show Go p e below s _ _ _ (s₁.setTop (mkF m 11 #[.val (.int p0)] [(.int (16 : Int32)), (.int p0)]))
      by_cases c11_2 : p0 = (16 : Int32)
      · refine Go.st (fun _ k => XS.icmpNo X0.here hx rfl (hb hby d2_11) rfl (XT.ii_ne_f c11_2) k) ?_
        show Go p e below s _ _ _ (s₁.setTop (mkF m 14 #[.val (.int p0)] []))
        refine Go.st (fun _ k => XS.iconst X0.here hx rfl (hb hby d2_14) k) ?_
        show Go p e below s _ _ _ (s₁.setTop (mkF m 15 #[.val (.int p0)] [(.int (1 : Int32))]))
        exact Go.ret X0 hlk (some (.int (nar .boolean (1 : Int32)))) (fun h => by rw [Bd.returns] at h; cases h) (by rw [e0]; exact ⟨own_res (z' := (1 : Int32)) (by unfold fEx; rw [if_neg c3_1, if_pos c11_2]) rfl, N0, rfl⟩) (by decide) (by decide) (fun fs hr => retN X0 hx (t := .boolean) Bd.returns (by simp) (hb hby d2_15) hr)
      · refine Go.st (fun _ k => XS.icmpYes X0.here hx rfl (pc0 := 11) (pc' := 16) rfl (hb hby d2_11) rfl (XT.ii_ne_t c11_2) (by decide) (by decide) k) ?_
        show Go p e below s _ _ _ (s₁.setTop (mkF m 16 #[.val (.int p0)] []))
        refine Go.st (fun _ k => XS.iloadN X0.here hx rfl (hb hby d2_16) rfl k) ?_
        show Go p e below s _ _ _ (s₁.setTop (mkF m 17 #[.val (.int p0)] [(.int p0)]))
        refine Go.st (fun _ k => XS.bipush X0.here hx rfl (hb hby d2_17) k) ?_
        show Go p e below s _ _ _ (s₁.setTop (mkF m 19 #[.val (.int p0)] [(.int (28 : Int32)), (.int p0)]))
        by_cases c19_3 : p0 < (28 : Int32)
        · refine Go.st (fun _ k => XS.icmpNo X0.here hx rfl (hb hby d2_19) rfl (XT.ii_ge_f c19_3) k) ?_
          show Go p e below s _ _ _ (s₁.setTop (mkF m 22 #[.val (.int p0)] []))
          refine Go.st (fun _ k => XS.iconst X0.here hx rfl (hb hby d2_22) k) ?_
          show Go p e below s _ _ _ (s₁.setTop (mkF m 23 #[.val (.int p0)] [(.int (0 : Int32))]))
          exact Go.ret X0 hlk (some (.int (nar .boolean (0 : Int32)))) (fun h => by rw [Bd.returns] at h; cases h) (by rw [e0]; exact ⟨own_res (z' := (0 : Int32)) (by unfold fEx; rw [if_neg c3_1, if_neg c11_2, if_pos c19_3]) rfl, N0, rfl⟩) (by decide) (by decide) (fun fs hr => retN X0 hx (t := .boolean) Bd.returns (by simp) (hb hby d2_23) hr)
        · refine Go.st (fun _ k => XS.icmpYes X0.here hx rfl (pc0 := 19) (pc' := 24) rfl (hb hby d2_19) rfl (XT.ii_ge_t c19_3) (by decide) (by decide) k) ?_
          show Go p e below s _ _ _ (s₁.setTop (mkF m 24 #[.val (.int p0)] []))
          refine Go.st (fun _ k => XS.iloadN X0.here hx rfl (hb hby d2_24) rfl k) ?_
          show Go p e below s _ _ _ (s₁.setTop (mkF m 25 #[.val (.int p0)] [(.int p0)]))
          refine Go.st (fun _ k => XS.bipush X0.here hx rfl (hb hby d2_25) k) ?_
          show Go p e below s _ _ _ (s₁.setTop (mkF m 27 #[.val (.int p0)] [(.int (28 : Int32)), (.int p0)]))
          by_cases c27_4 : p0 = (28 : Int32)
          · refine Go.st (fun _ k => XS.icmpNo X0.here hx rfl (hb hby d2_27) rfl (XT.ii_ne_f c27_4) k) ?_
            show Go p e below s _ _ _ (s₁.setTop (mkF m 30 #[.val (.int p0)] []))
            refine Go.st (fun _ k => XS.iconst X0.here hx rfl (hb hby d2_30) k) ?_
            show Go p e below s _ _ _ (s₁.setTop (mkF m 31 #[.val (.int p0)] [(.int (1 : Int32))]))
            exact Go.ret X0 hlk (some (.int (nar .boolean (1 : Int32)))) (fun h => by rw [Bd.returns] at h; cases h) (by rw [e0]; exact ⟨own_res (z' := (1 : Int32)) (by unfold fEx; rw [if_neg c3_1, if_neg c11_2, if_neg c19_3, if_pos c27_4]) rfl, N0, rfl⟩) (by decide) (by decide) (fun fs hr => retN X0 hx (t := .boolean) Bd.returns (by simp) (hb hby d2_31) hr)
          · refine Go.st (fun _ k => XS.icmpYes X0.here hx rfl (pc0 := 27) (pc' := 32) rfl (hb hby d2_27) rfl (XT.ii_ne_t c27_4) (by decide) (by decide) k) ?_
            show Go p e below s _ _ _ (s₁.setTop (mkF m 32 #[.val (.int p0)] []))
            refine Go.st (fun _ k => XS.iloadN X0.here hx rfl (hb hby d2_32) rfl k) ?_
            show Go p e below s _ _ _ (s₁.setTop (mkF m 33 #[.val (.int p0)] [(.int p0)]))
            refine Go.st (fun _ k => XS.bipush X0.here hx rfl (hb hby d2_33) k) ?_
            show Go p e below s _ _ _ (s₁.setTop (mkF m 35 #[.val (.int p0)] [(.int (52 : Int32)), (.int p0)]))
            by_cases c35_5 : p0 < (52 : Int32)
            · refine Go.st (fun _ k => XS.icmpNo X0.here hx rfl (hb hby d2_35) rfl (XT.ii_ge_f c35_5) k) ?_
              show Go p e below s _ _ _ (s₁.setTop (mkF m 38 #[.val (.int p0)] []))
              refine Go.st (fun _ k => XS.iconst X0.here hx rfl (hb hby d2_38) k) ?_
              show Go p e below s _ _ _ (s₁.setTop (mkF m 39 #[.val (.int p0)] [(.int (0 : Int32))]))
              exact Go.ret X0 hlk (some (.int (nar .boolean (0 : Int32)))) (fun h => by rw [Bd.returns] at h; cases h) (by rw [e0]; exact ⟨own_res (z' := (0 : Int32)) (by unfold fEx; rw [if_neg c3_1, if_neg c11_2, if_neg c19_3, if_neg c27_4, if_pos c35_5]) rfl, N0, rfl⟩) (by decide) (by decide) (fun fs hr => retN X0 hx (t := .boolean) Bd.returns (by simp) (hb hby d2_39) hr)
            · refine Go.st (fun _ k => XS.icmpYes X0.here hx rfl (pc0 := 35) (pc' := 40) rfl (hb hby d2_35) rfl (XT.ii_ge_t c35_5) (by decide) (by decide) k) ?_
              show Go p e below s _ _ _ (s₁.setTop (mkF m 40 #[.val (.int p0)] []))
              refine Go.st (fun _ k => XS.iloadN X0.here hx rfl (hb hby d2_40) rfl k) ?_
              show Go p e below s _ _ _ (s₁.setTop (mkF m 41 #[.val (.int p0)] [(.int p0)]))
              refine Go.st (fun _ k => XS.bipush X0.here hx rfl (hb hby d2_41) k) ?_
              show Go p e below s _ _ _ (s₁.setTop (mkF m 43 #[.val (.int p0)] [(.int (52 : Int32)), (.int p0)]))
              by_cases c43_6 : p0 = (52 : Int32)
              · refine Go.st (fun _ k => XS.icmpNo X0.here hx rfl (hb hby d2_43) rfl (XT.ii_ne_f c43_6) k) ?_
                show Go p e below s _ _ _ (s₁.setTop (mkF m 46 #[.val (.int p0)] []))
                refine Go.st (fun _ k => XS.iconst X0.here hx rfl (hb hby d2_46) k) ?_
                show Go p e below s _ _ _ (s₁.setTop (mkF m 47 #[.val (.int p0)] [(.int (1 : Int32))]))
                refine Go.st (fun _ k => XS.goto X0.here hx rfl (pc0 := 47) (pc' := 51) rfl (hb hby d2_47) (by decide) (by decide) k) ?_
                show Go p e below s _ _ _ (s₁.setTop (mkF m 51 #[.val (.int p0)] [(.int (1 : Int32))]))
                exact Go.ret X0 hlk (some (.int (nar .boolean (1 : Int32)))) (fun h => by rw [Bd.returns] at h; cases h) (by rw [e0]; exact ⟨own_res (z' := (1 : Int32)) (by unfold fEx; rw [if_neg c3_1, if_neg c11_2, if_neg c19_3, if_neg c27_4, if_neg c35_5, if_pos c43_6]) rfl, N0, rfl⟩) (by decide) (by decide) (fun fs hr => retN X0 hx (t := .boolean) Bd.returns (by simp) (hb hby d2_51) hr)
              · refine Go.st (fun _ k => XS.icmpYes X0.here hx rfl (pc0 := 43) (pc' := 50) rfl (hb hby d2_43) rfl (XT.ii_ne_t c43_6) (by decide) (by decide) k) ?_
                show Go p e below s _ _ _ (s₁.setTop (mkF m 50 #[.val (.int p0)] []))
                refine Go.st (fun _ k => XS.iconst X0.here hx rfl (hb hby d2_50) k) ?_
                show Go p e below s _ _ _ (s₁.setTop (mkF m 51 #[.val (.int p0)] [(.int (0 : Int32))]))
                exact Go.ret X0 hlk (some (.int (nar .boolean (0 : Int32)))) (fun h => by rw [Bd.returns] at h; cases h) (by rw [e0]; exact ⟨own_res (z' := (0 : Int32)) (by unfold fEx; rw [if_neg c3_1, if_neg c11_2, if_neg c19_3, if_neg c27_4, if_neg c35_5, if_neg c43_6]) rfl, N0, rfl⟩) (by decide) (by decide) (fun fs hr => retN X0 hx (t := .boolean) Bd.returns (by simp) (hb hby d2_51) hr)
  obtain ⟨s2, o2, st2, r2⟩ := G
  exact ⟨s2, o2, castTop (ef2 m p0) st2, r2⟩
theorem own_law (y : Int32) : fML y = fEx y := by
  unfold fML fEx
  simp only [own_lt, own_eq, Int32.reduceToInt]
  repeat' split
  all_goals first | rfl | (exfalso; omega)
theorem pd0_0 : parseMethodDescriptor "(I)Z" = some ⟨[.int], some .boolean⟩ := by decide +kernel
theorem pn0 : plainName "com/example/assayline/assayline/protocol/colon/ColonPackageIsMessageLengthPinLaw" = true := by first | (simp [plainName, overriddenIn]; done) | decide +kernel
theorem ef0 (m : MethodId) (x0 : Int32) (x1 : Int32) : entryFrame m #[(.int x0), (.int x1)] maxLocals = mkF m 0 #[.val (.int x0), .val (.int x1), .unset, .unset] [] := by first | (simp [entryFrame, mkF, argsToLocals, Value.category, maxLocals]; done) | rfl
def Q0 (Z : State) (p0 : Int32) (p1 : Int32) (h0 : Heap) (n0 : Nat) (v : Option Value) (h : Heap) (L : List Loc) : Prop := v = some (.int 1) ∧ Fr n0 L
set_option maxRecDepth 65536 in
set_option maxHeartbeats 40000000 in
theorem rm0 (l : Launch) (Z : State) (a0 : Array Value) (hw : ∀ d ∈ tables_1, d.before a0 Z = true) (ws : List Jvm.Cond) (p0 : Int32) (p1 : Int32) (h0 : Heap) (n0 : Nat) (O0 : Old Z n0 h0)  :
    MetFree l x (head1 (Jvm.Cond.code x code maxLocals ret :: ws) room_1) (fun A_ U_ => A_ = #[(.int p0), (.int p1)] ∧ Z.Warmed39 U_.vm ∧ U_.heap = h0) (fun _ _ _ _ _ => True) (fun _ U o U' => ∃ v L, o = .returned v ∧ Q0 Z p0 p1 h0 n0 v U'.heap L ∧ FrameEnd U o U' L room_1.cells room_1.slots) := by
  refine MetFree.of_bodySF (plainFor_of_name pn0) hisR ?_
  intro p e s m args below meth cd s₁ Bd hml0 hP hK
  obtain ⟨rfl, hZ, hh⟩ := hP
  have hx := Bd.exec
  have hby := Bd.bytes
  have hlk : meth.locks = false := BodyLoose.notSynchronized Bd
  have hml : cd.maxLocals = 4 := hml0
  have hown : s.vm.findClass "com/example/assayline/assayline/protocol/colon/ColonPackageIsMessageLengthPinLaw" = some m.cls := findClass_of_methodNamed Bd.named
  have hnm := (name_of_methodNamed Bd.named Bd.method).1
  have X0 : Stand p l e room_1 s m #[(.int p0), (.int p1)] below meth cd s₁ [] 0 0 := Stand.of_body Bd
  have e0 : s₁.heap = h0 := by rw [← hh, Bd.state]; rfl
  have N0 := Fr.nil n0
  have G : Go p e below s room_1.cells room_1.slots (Q0 Z p0 p1 h0 n0) (s₁.setTop (mkF m 0 #[.val (.int p0), .val (.int p1), .unset, .unset] [])) := by
    show Go p e below s _ _ _ (s₁.setTop (mkF m 0 #[.val (.int p0), .val (.int p1), .unset, .unset] []))
    refine Go.st (fun _ k => XS.bipush X0.here hx rfl (hb hby at_0) k) ?_
    show Go p e below s _ _ _ (s₁.setTop (mkF m 2 #[.val (.int p0), .val (.int p1), .unset, .unset] [(.int (14 : Int32))]))
    obtain ⟨T1, h1, k1, X1, e1, E1, A1, st1⟩ := newP X0 hx hZ (own_w hw 0 rfl) e0 (g := (mkF m 2 #[.val (.int p0), .val (.int p1), .unset, .unset] [(.int (14 : Int32))])) rfl (hb hby at_2) rfl (by decide) (cap := 14) (by decide) (by decide) (by decide) (by decide)
    obtain ⟨b1, g1⟩ : ∃ z, z = h0.size := ⟨_, rfl⟩
    rw [← g1] at A1 st1
    have g_b1 : n0 ≤ b1 := Nat.le_trans (own_old O0) (Nat.le_of_eq g1.symm)
    have O1 := O0.ext E1
    have V_b1 : Arv Z h1 b1 k1 .int (14 : Int32) [(.int (0 : Int32)), (.int (0 : Int32)), (.int (0 : Int32)), (.int (0 : Int32)), (.int (0 : Int32)), (.int (0 : Int32)), (.int (0 : Int32)), (.int (0 : Int32)), (.int (0 : Int32)), (.int (0 : Int32)), (.int (0 : Int32)), (.int (0 : Int32)), (.int (0 : Int32)), (.int (0 : Int32))] (.int (0 : Int32)) := (Arv.new A1 (by decide)).pad (pad_rep [] (.int (0 : Int32)) 14)
    refine Go.st st1 ?_
    show Go p e below s _ _ _ (T1.setTop (mkF m 4 #[.val (.int p0), .val (.int p1), .unset, .unset] [(.ref b1)]))
    refine Go.st (fun _ k => XS.dup X1.here hx rfl (hb hby at_4) rfl rfl k) ?_
    show Go p e below s _ _ _ (T1.setTop (mkF m 5 #[.val (.int p0), .val (.int p1), .unset, .unset] [(.ref b1), (.ref b1)]))
    refine Go.st (fun _ k => XS.iconst X1.here hx rfl (hb hby at_5) k) ?_
    show Go p e below s _ _ _ (T1.setTop (mkF m 6 #[.val (.int p0), .val (.int p1), .unset, .unset] [(.int (0 : Int32)), (.ref b1), (.ref b1)]))
    refine Go.st (fun _ k => XS.iloadN X1.here hx rfl (hb hby at_6) rfl k) ?_
    show Go p e below s _ _ _ (T1.setTop (mkF m 7 #[.val (.int p0), .val (.int p1), .unset, .unset] [(.int p0), (.int (0 : Int32)), (.ref b1), (.ref b1)]))
    obtain ⟨T2, h2, X2, e2, W2, V2, st2⟩ := own_stI X1 hx hZ e1 V_b1 (j := (0 : Int32)) (by decide) (by decide) 0 rfl (Nat.le_of_ble_eq_true rfl) (g := (mkF m 7 #[.val (.int p0), .val (.int p1), .unset, .unset] [(.int p0), (.int (0 : Int32)), (.ref b1), (.ref b1)])) rfl rfl (hb hby at_7)
    have N2 := Fr.snoc X2 N0 g_b1
    have O2 := O1.wr W2 g_b1
    have V_b1 : Arv Z h2 b1 k1 .int (14 : Int32) [(.int p0), (.int (0 : Int32)), (.int (0 : Int32)), (.int (0 : Int32)), (.int (0 : Int32)), (.int (0 : Int32)), (.int (0 : Int32)), (.int (0 : Int32)), (.int (0 : Int32)), (.int (0 : Int32)), (.int (0 : Int32)), (.int (0 : Int32)), (.int (0 : Int32)), (.int (0 : Int32))] (.int (0 : Int32)) := V2
    refine Go.st st2 ?_
    show Go p e below s _ _ _ (T2.setTop (mkF m 8 #[.val (.int p0), .val (.int p1), .unset, .unset] [(.ref b1)]))
    refine Go.st (fun _ k => XS.dup X2.here hx rfl (hb hby at_8) rfl rfl k) ?_
    show Go p e below s _ _ _ (T2.setTop (mkF m 9 #[.val (.int p0), .val (.int p1), .unset, .unset] [(.ref b1), (.ref b1)]))
    refine Go.st (fun _ k => XS.iconst X2.here hx rfl (hb hby at_9) k) ?_
    show Go p e below s _ _ _ (T2.setTop (mkF m 10 #[.val (.int p0), .val (.int p1), .unset, .unset] [(.int (1 : Int32)), (.ref b1), (.ref b1)]))
    refine Go.st (fun _ k => XS.bipush X2.here hx rfl (hb hby at_10) k) ?_
    show Go p e below s _ _ _ (T2.setTop (mkF m 12 #[.val (.int p0), .val (.int p1), .unset, .unset] [(.int (15 : Int32)), (.int (1 : Int32)), (.ref b1), (.ref b1)]))
    obtain ⟨T3, h3, X3, e3, W3, V3, st3⟩ := own_stI X2 hx hZ e2 V_b1 (j := (1 : Int32)) (by decide) (by decide) 1 rfl (Nat.le_of_ble_eq_true rfl) (g := (mkF m 12 #[.val (.int p0), .val (.int p1), .unset, .unset] [(.int (15 : Int32)), (.int (1 : Int32)), (.ref b1), (.ref b1)])) rfl rfl (hb hby at_12)
    have N3 := Fr.snoc X3 N2 g_b1
    have O3 := O2.wr W3 g_b1
    have V_b1 : Arv Z h3 b1 k1 .int (14 : Int32) [(.int p0), (.int (15 : Int32)), (.int (0 : Int32)), (.int (0 : Int32)), (.int (0 : Int32)), (.int (0 : Int32)), (.int (0 : Int32)), (.int (0 : Int32)), (.int (0 : Int32)), (.int (0 : Int32)), (.int (0 : Int32)), (.int (0 : Int32)), (.int (0 : Int32)), (.int (0 : Int32))] (.int (0 : Int32)) := V3
    refine Go.st st3 ?_
    show Go p e below s _ _ _ (T3.setTop (mkF m 13 #[.val (.int p0), .val (.int p1), .unset, .unset] [(.ref b1)]))
    refine Go.st (fun _ k => XS.dup X3.here hx rfl (hb hby at_13) rfl rfl k) ?_
    show Go p e below s _ _ _ (T3.setTop (mkF m 14 #[.val (.int p0), .val (.int p1), .unset, .unset] [(.ref b1), (.ref b1)]))
    refine Go.st (fun _ k => XS.iconst X3.here hx rfl (hb hby at_14) k) ?_
    show Go p e below s _ _ _ (T3.setTop (mkF m 15 #[.val (.int p0), .val (.int p1), .unset, .unset] [(.int (2 : Int32)), (.ref b1), (.ref b1)]))
    refine Go.st (fun _ k => XS.bipush X3.here hx rfl (hb hby at_15) k) ?_
    show Go p e below s _ _ _ (T3.setTop (mkF m 17 #[.val (.int p0), .val (.int p1), .unset, .unset] [(.int (16 : Int32)), (.int (2 : Int32)), (.ref b1), (.ref b1)]))
    obtain ⟨T4, h4, X4, e4, W4, V4, st4⟩ := own_stI X3 hx hZ e3 V_b1 (j := (2 : Int32)) (by decide) (by decide) 2 rfl (Nat.le_of_ble_eq_true rfl) (g := (mkF m 17 #[.val (.int p0), .val (.int p1), .unset, .unset] [(.int (16 : Int32)), (.int (2 : Int32)), (.ref b1), (.ref b1)])) rfl rfl (hb hby at_17)
    have N4 := Fr.snoc X4 N3 g_b1
    have O4 := O3.wr W4 g_b1
    have V_b1 : Arv Z h4 b1 k1 .int (14 : Int32) [(.int p0), (.int (15 : Int32)), (.int (16 : Int32)), (.int (0 : Int32)), (.int (0 : Int32)), (.int (0 : Int32)), (.int (0 : Int32)), (.int (0 : Int32)), (.int (0 : Int32)), (.int (0 : Int32)), (.int (0 : Int32)), (.int (0 : Int32)), (.int (0 : Int32)), (.int (0 : Int32))] (.int (0 : Int32)) := V4
    refine Go.st st4 ?_
    show Go p e below s _ _ _ (T4.setTop (mkF m 18 #[.val (.int p0), .val (.int p1), .unset, .unset] [(.ref b1)]))
    refine Go.st (fun _ k => XS.dup X4.here hx rfl (hb hby at_18) rfl rfl k) ?_
    show Go p e below s _ _ _ (T4.setTop (mkF m 19 #[.val (.int p0), .val (.int p1), .unset, .unset] [(.ref b1), (.ref b1)]))
    refine Go.st (fun _ k => XS.iconst X4.here hx rfl (hb hby at_19) k) ?_
    show Go p e below s _ _ _ (T4.setTop (mkF m 20 #[.val (.int p0), .val (.int p1), .unset, .unset] [(.int (3 : Int32)), (.ref b1), (.ref b1)]))
    refine Go.st (fun _ k => XS.bipush X4.here hx rfl (hb hby at_20) k) ?_
    show Go p e below s _ _ _ (T4.setTop (mkF m 22 #[.val (.int p0), .val (.int p1), .unset, .unset] [(.int (17 : Int32)), (.int (3 : Int32)), (.ref b1), (.ref b1)]))
    obtain ⟨T5, h5, X5, e5, W5, V5, st5⟩ := own_stI X4 hx hZ e4 V_b1 (j := (3 : Int32)) (by decide) (by decide) 3 rfl (Nat.le_of_ble_eq_true rfl) (g := (mkF m 22 #[.val (.int p0), .val (.int p1), .unset, .unset] [(.int (17 : Int32)), (.int (3 : Int32)), (.ref b1), (.ref b1)])) rfl rfl (hb hby at_22)
    have N5 := Fr.snoc X5 N4 g_b1
    have O5 := O4.wr W5 g_b1
    have V_b1 : Arv Z h5 b1 k1 .int (14 : Int32) [(.int p0), (.int (15 : Int32)), (.int (16 : Int32)), (.int (17 : Int32)), (.int (0 : Int32)), (.int (0 : Int32)), (.int (0 : Int32)), (.int (0 : Int32)), (.int (0 : Int32)), (.int (0 : Int32)), (.int (0 : Int32)), (.int (0 : Int32)), (.int (0 : Int32)), (.int (0 : Int32))] (.int (0 : Int32)) := V5
    refine Go.st st5 ?_
    show Go p e below s _ _ _ (T5.setTop (mkF m 23 #[.val (.int p0), .val (.int p1), .unset, .unset] [(.ref b1)]))
    refine Go.st (fun _ k => XS.dup X5.here hx rfl (hb hby at_23) rfl rfl k) ?_
    show Go p e below s _ _ _ (T5.setTop (mkF m 24 #[.val (.int p0), .val (.int p1), .unset, .unset] [(.ref b1), (.ref b1)]))
    refine Go.st (fun _ k => XS.iconst X5.here hx rfl (hb hby at_24) k) ?_
    show Go p e below s _ _ _ (T5.setTop (mkF m 25 #[.val (.int p0), .val (.int p1), .unset, .unset] [(.int (4 : Int32)), (.ref b1), (.ref b1)]))
    refine Go.st (fun _ k => XS.bipush X5.here hx rfl (hb hby at_25) k) ?_
    show Go p e below s _ _ _ (T5.setTop (mkF m 27 #[.val (.int p0), .val (.int p1), .unset, .unset] [(.int (27 : Int32)), (.int (4 : Int32)), (.ref b1), (.ref b1)]))
    obtain ⟨T6, h6, X6, e6, W6, V6, st6⟩ := own_stI X5 hx hZ e5 V_b1 (j := (4 : Int32)) (by decide) (by decide) 4 rfl (Nat.le_of_ble_eq_true rfl) (g := (mkF m 27 #[.val (.int p0), .val (.int p1), .unset, .unset] [(.int (27 : Int32)), (.int (4 : Int32)), (.ref b1), (.ref b1)])) rfl rfl (hb hby at_27)
    have N6 := Fr.snoc X6 N5 g_b1
    have O6 := O5.wr W6 g_b1
    have V_b1 : Arv Z h6 b1 k1 .int (14 : Int32) [(.int p0), (.int (15 : Int32)), (.int (16 : Int32)), (.int (17 : Int32)), (.int (27 : Int32)), (.int (0 : Int32)), (.int (0 : Int32)), (.int (0 : Int32)), (.int (0 : Int32)), (.int (0 : Int32)), (.int (0 : Int32)), (.int (0 : Int32)), (.int (0 : Int32)), (.int (0 : Int32))] (.int (0 : Int32)) := V6
    refine Go.st st6 ?_
    show Go p e below s _ _ _ (T6.setTop (mkF m 28 #[.val (.int p0), .val (.int p1), .unset, .unset] [(.ref b1)]))
    refine Go.st (fun _ k => XS.dup X6.here hx rfl (hb hby at_28) rfl rfl k) ?_
    show Go p e below s _ _ _ (T6.setTop (mkF m 29 #[.val (.int p0), .val (.int p1), .unset, .unset] [(.ref b1), (.ref b1)]))
    refine Go.st (fun _ k => XS.iconst X6.here hx rfl (hb hby at_29) k) ?_
    show Go p e below s _ _ _ (T6.setTop (mkF m 30 #[.val (.int p0), .val (.int p1), .unset, .unset] [(.int (5 : Int32)), (.ref b1), (.ref b1)]))
    refine Go.st (fun _ k => XS.bipush X6.here hx rfl (hb hby at_30) k) ?_
    show Go p e below s _ _ _ (T6.setTop (mkF m 32 #[.val (.int p0), .val (.int p1), .unset, .unset] [(.int (28 : Int32)), (.int (5 : Int32)), (.ref b1), (.ref b1)]))
    obtain ⟨T7, h7, X7, e7, W7, V7, st7⟩ := own_stI X6 hx hZ e6 V_b1 (j := (5 : Int32)) (by decide) (by decide) 5 rfl (Nat.le_of_ble_eq_true rfl) (g := (mkF m 32 #[.val (.int p0), .val (.int p1), .unset, .unset] [(.int (28 : Int32)), (.int (5 : Int32)), (.ref b1), (.ref b1)])) rfl rfl (hb hby at_32)
    have N7 := Fr.snoc X7 N6 g_b1
    have O7 := O6.wr W7 g_b1
    have V_b1 : Arv Z h7 b1 k1 .int (14 : Int32) [(.int p0), (.int (15 : Int32)), (.int (16 : Int32)), (.int (17 : Int32)), (.int (27 : Int32)), (.int (28 : Int32)), (.int (0 : Int32)), (.int (0 : Int32)), (.int (0 : Int32)), (.int (0 : Int32)), (.int (0 : Int32)), (.int (0 : Int32)), (.int (0 : Int32)), (.int (0 : Int32))] (.int (0 : Int32)) := V7
    refine Go.st st7 ?_
    show Go p e below s _ _ _ (T7.setTop (mkF m 33 #[.val (.int p0), .val (.int p1), .unset, .unset] [(.ref b1)]))
    refine Go.st (fun _ k => XS.dup X7.here hx rfl (hb hby at_33) rfl rfl k) ?_
    show Go p e below s _ _ _ (T7.setTop (mkF m 34 #[.val (.int p0), .val (.int p1), .unset, .unset] [(.ref b1), (.ref b1)]))
    refine Go.st (fun _ k => XS.bipush X7.here hx rfl (hb hby at_34) k) ?_
    show Go p e below s _ _ _ (T7.setTop (mkF m 36 #[.val (.int p0), .val (.int p1), .unset, .unset] [(.int (6 : Int32)), (.ref b1), (.ref b1)]))
    refine Go.st (fun _ k => XS.bipush X7.here hx rfl (hb hby at_36) k) ?_
    show Go p e below s _ _ _ (T7.setTop (mkF m 38 #[.val (.int p0), .val (.int p1), .unset, .unset] [(.int (29 : Int32)), (.int (6 : Int32)), (.ref b1), (.ref b1)]))
    obtain ⟨T8, h8, X8, e8, W8, V8, st8⟩ := own_stI X7 hx hZ e7 V_b1 (j := (6 : Int32)) (by decide) (by decide) 6 rfl (Nat.le_of_ble_eq_true rfl) (g := (mkF m 38 #[.val (.int p0), .val (.int p1), .unset, .unset] [(.int (29 : Int32)), (.int (6 : Int32)), (.ref b1), (.ref b1)])) rfl rfl (hb hby at_38)
    have N8 := Fr.snoc X8 N7 g_b1
    have O8 := O7.wr W8 g_b1
    have V_b1 : Arv Z h8 b1 k1 .int (14 : Int32) [(.int p0), (.int (15 : Int32)), (.int (16 : Int32)), (.int (17 : Int32)), (.int (27 : Int32)), (.int (28 : Int32)), (.int (29 : Int32)), (.int (0 : Int32)), (.int (0 : Int32)), (.int (0 : Int32)), (.int (0 : Int32)), (.int (0 : Int32)), (.int (0 : Int32)), (.int (0 : Int32))] (.int (0 : Int32)) := V8
    refine Go.st st8 ?_
    show Go p e below s _ _ _ (T8.setTop (mkF m 39 #[.val (.int p0), .val (.int p1), .unset, .unset] [(.ref b1)]))
    refine Go.st (fun _ k => XS.dup X8.here hx rfl (hb hby at_39) rfl rfl k) ?_
    show Go p e below s _ _ _ (T8.setTop (mkF m 40 #[.val (.int p0), .val (.int p1), .unset, .unset] [(.ref b1), (.ref b1)]))
    refine Go.st (fun _ k => XS.bipush X8.here hx rfl (hb hby at_40) k) ?_
    show Go p e below s _ _ _ (T8.setTop (mkF m 42 #[.val (.int p0), .val (.int p1), .unset, .unset] [(.int (7 : Int32)), (.ref b1), (.ref b1)]))
    refine Go.st (fun _ k => XS.bipush X8.here hx rfl (hb hby at_42) k) ?_
    show Go p e below s _ _ _ (T8.setTop (mkF m 44 #[.val (.int p0), .val (.int p1), .unset, .unset] [(.int (51 : Int32)), (.int (7 : Int32)), (.ref b1), (.ref b1)]))
    obtain ⟨T9, h9, X9, e9, W9, V9, st9⟩ := own_stI X8 hx hZ e8 V_b1 (j := (7 : Int32)) (by decide) (by decide) 7 rfl (Nat.le_of_ble_eq_true rfl) (g := (mkF m 44 #[.val (.int p0), .val (.int p1), .unset, .unset] [(.int (51 : Int32)), (.int (7 : Int32)), (.ref b1), (.ref b1)])) rfl rfl (hb hby at_44)
    have N9 := Fr.snoc X9 N8 g_b1
    have O9 := O8.wr W9 g_b1
    have V_b1 : Arv Z h9 b1 k1 .int (14 : Int32) [(.int p0), (.int (15 : Int32)), (.int (16 : Int32)), (.int (17 : Int32)), (.int (27 : Int32)), (.int (28 : Int32)), (.int (29 : Int32)), (.int (51 : Int32)), (.int (0 : Int32)), (.int (0 : Int32)), (.int (0 : Int32)), (.int (0 : Int32)), (.int (0 : Int32)), (.int (0 : Int32))] (.int (0 : Int32)) := V9
    refine Go.st st9 ?_
    show Go p e below s _ _ _ (T9.setTop (mkF m 45 #[.val (.int p0), .val (.int p1), .unset, .unset] [(.ref b1)]))
    refine Go.st (fun _ k => XS.dup X9.here hx rfl (hb hby at_45) rfl rfl k) ?_
    show Go p e below s _ _ _ (T9.setTop (mkF m 46 #[.val (.int p0), .val (.int p1), .unset, .unset] [(.ref b1), (.ref b1)]))
    refine Go.st (fun _ k => XS.bipush X9.here hx rfl (hb hby at_46) k) ?_
    show Go p e below s _ _ _ (T9.setTop (mkF m 48 #[.val (.int p0), .val (.int p1), .unset, .unset] [(.int (8 : Int32)), (.ref b1), (.ref b1)]))
    refine Go.st (fun _ k => XS.bipush X9.here hx rfl (hb hby at_48) k) ?_
    show Go p e below s _ _ _ (T9.setTop (mkF m 50 #[.val (.int p0), .val (.int p1), .unset, .unset] [(.int (52 : Int32)), (.int (8 : Int32)), (.ref b1), (.ref b1)]))
    obtain ⟨T10, h10, X10, e10, W10, V10, st10⟩ := own_stI X9 hx hZ e9 V_b1 (j := (8 : Int32)) (by decide) (by decide) 8 rfl (Nat.le_of_ble_eq_true rfl) (g := (mkF m 50 #[.val (.int p0), .val (.int p1), .unset, .unset] [(.int (52 : Int32)), (.int (8 : Int32)), (.ref b1), (.ref b1)])) rfl rfl (hb hby at_50)
    have N10 := Fr.snoc X10 N9 g_b1
    have O10 := O9.wr W10 g_b1
    have V_b1 : Arv Z h10 b1 k1 .int (14 : Int32) [(.int p0), (.int (15 : Int32)), (.int (16 : Int32)), (.int (17 : Int32)), (.int (27 : Int32)), (.int (28 : Int32)), (.int (29 : Int32)), (.int (51 : Int32)), (.int (52 : Int32)), (.int (0 : Int32)), (.int (0 : Int32)), (.int (0 : Int32)), (.int (0 : Int32)), (.int (0 : Int32))] (.int (0 : Int32)) := V10
    refine Go.st st10 ?_
    show Go p e below s _ _ _ (T10.setTop (mkF m 51 #[.val (.int p0), .val (.int p1), .unset, .unset] [(.ref b1)]))
    refine Go.st (fun _ k => XS.dup X10.here hx rfl (hb hby at_51) rfl rfl k) ?_
    show Go p e below s _ _ _ (T10.setTop (mkF m 52 #[.val (.int p0), .val (.int p1), .unset, .unset] [(.ref b1), (.ref b1)]))
    refine Go.st (fun _ k => XS.bipush X10.here hx rfl (hb hby at_52) k) ?_
    show Go p e below s _ _ _ (T10.setTop (mkF m 54 #[.val (.int p0), .val (.int p1), .unset, .unset] [(.int (9 : Int32)), (.ref b1), (.ref b1)]))
    refine Go.st (fun _ k => XS.bipush X10.here hx rfl (hb hby at_54) k) ?_
    show Go p e below s _ _ _ (T10.setTop (mkF m 56 #[.val (.int p0), .val (.int p1), .unset, .unset] [(.int (53 : Int32)), (.int (9 : Int32)), (.ref b1), (.ref b1)]))
    obtain ⟨T11, h11, X11, e11, W11, V11, st11⟩ := own_stI X10 hx hZ e10 V_b1 (j := (9 : Int32)) (by decide) (by decide) 9 rfl (Nat.le_of_ble_eq_true rfl) (g := (mkF m 56 #[.val (.int p0), .val (.int p1), .unset, .unset] [(.int (53 : Int32)), (.int (9 : Int32)), (.ref b1), (.ref b1)])) rfl rfl (hb hby at_56)
    have N11 := Fr.snoc X11 N10 g_b1
    have O11 := O10.wr W11 g_b1
    have V_b1 : Arv Z h11 b1 k1 .int (14 : Int32) [(.int p0), (.int (15 : Int32)), (.int (16 : Int32)), (.int (17 : Int32)), (.int (27 : Int32)), (.int (28 : Int32)), (.int (29 : Int32)), (.int (51 : Int32)), (.int (52 : Int32)), (.int (53 : Int32)), (.int (0 : Int32)), (.int (0 : Int32)), (.int (0 : Int32)), (.int (0 : Int32))] (.int (0 : Int32)) := V11
    refine Go.st st11 ?_
    show Go p e below s _ _ _ (T11.setTop (mkF m 57 #[.val (.int p0), .val (.int p1), .unset, .unset] [(.ref b1)]))
    refine Go.st (fun _ k => XS.dup X11.here hx rfl (hb hby at_57) rfl rfl k) ?_
    show Go p e below s _ _ _ (T11.setTop (mkF m 58 #[.val (.int p0), .val (.int p1), .unset, .unset] [(.ref b1), (.ref b1)]))
    refine Go.st (fun _ k => XS.bipush X11.here hx rfl (hb hby at_58) k) ?_
    show Go p e below s _ _ _ (T11.setTop (mkF m 60 #[.val (.int p0), .val (.int p1), .unset, .unset] [(.int (10 : Int32)), (.ref b1), (.ref b1)]))
    refine Go.st (fun _ k => XS.iconst X11.here hx rfl (hb hby at_60) k) ?_
    show Go p e below s _ _ _ (T11.setTop (mkF m 61 #[.val (.int p0), .val (.int p1), .unset, .unset] [(.int (0 : Int32)), (.int (10 : Int32)), (.ref b1), (.ref b1)]))
    obtain ⟨T12, h12, X12, e12, W12, V12, st12⟩ := own_stI X11 hx hZ e11 V_b1 (j := (10 : Int32)) (by decide) (by decide) 10 rfl (Nat.le_of_ble_eq_true rfl) (g := (mkF m 61 #[.val (.int p0), .val (.int p1), .unset, .unset] [(.int (0 : Int32)), (.int (10 : Int32)), (.ref b1), (.ref b1)])) rfl rfl (hb hby at_61)
    have N12 := Fr.snoc X12 N11 g_b1
    have O12 := O11.wr W12 g_b1
    have V_b1 : Arv Z h12 b1 k1 .int (14 : Int32) [(.int p0), (.int (15 : Int32)), (.int (16 : Int32)), (.int (17 : Int32)), (.int (27 : Int32)), (.int (28 : Int32)), (.int (29 : Int32)), (.int (51 : Int32)), (.int (52 : Int32)), (.int (53 : Int32)), (.int (0 : Int32)), (.int (0 : Int32)), (.int (0 : Int32)), (.int (0 : Int32))] (.int (0 : Int32)) := V12
    refine Go.st st12 ?_
    show Go p e below s _ _ _ (T12.setTop (mkF m 62 #[.val (.int p0), .val (.int p1), .unset, .unset] [(.ref b1)]))
    refine Go.st (fun _ k => XS.dup X12.here hx rfl (hb hby at_62) rfl rfl k) ?_
    show Go p e below s _ _ _ (T12.setTop (mkF m 63 #[.val (.int p0), .val (.int p1), .unset, .unset] [(.ref b1), (.ref b1)]))
    refine Go.st (fun _ k => XS.bipush X12.here hx rfl (hb hby at_63) k) ?_
    show Go p e below s _ _ _ (T12.setTop (mkF m 65 #[.val (.int p0), .val (.int p1), .unset, .unset] [(.int (11 : Int32)), (.ref b1), (.ref b1)]))
    refine Go.st (fun _ k => XS.bipush X12.here hx rfl (hb hby at_65) k) ?_
    show Go p e below s _ _ _ (T12.setTop (mkF m 67 #[.val (.int p0), .val (.int p1), .unset, .unset] [(.int (-16 : Int32)), (.int (11 : Int32)), (.ref b1), (.ref b1)]))
    obtain ⟨T13, h13, X13, e13, W13, V13, st13⟩ := own_stI X12 hx hZ e12 V_b1 (j := (11 : Int32)) (by decide) (by decide) 11 rfl (Nat.le_of_ble_eq_true rfl) (g := (mkF m 67 #[.val (.int p0), .val (.int p1), .unset, .unset] [(.int (-16 : Int32)), (.int (11 : Int32)), (.ref b1), (.ref b1)])) rfl rfl (hb hby at_67)
    have N13 := Fr.snoc X13 N12 g_b1
    have O13 := O12.wr W13 g_b1
    have V_b1 : Arv Z h13 b1 k1 .int (14 : Int32) [(.int p0), (.int (15 : Int32)), (.int (16 : Int32)), (.int (17 : Int32)), (.int (27 : Int32)), (.int (28 : Int32)), (.int (29 : Int32)), (.int (51 : Int32)), (.int (52 : Int32)), (.int (53 : Int32)), (.int (0 : Int32)), (.int (-16 : Int32)), (.int (0 : Int32)), (.int (0 : Int32))] (.int (0 : Int32)) := V13
    refine Go.st st13 ?_
    show Go p e below s _ _ _ (T13.setTop (mkF m 68 #[.val (.int p0), .val (.int p1), .unset, .unset] [(.ref b1)]))
    refine Go.st (fun _ k => XS.dup X13.here hx rfl (hb hby at_68) rfl rfl k) ?_
    show Go p e below s _ _ _ (T13.setTop (mkF m 69 #[.val (.int p0), .val (.int p1), .unset, .unset] [(.ref b1), (.ref b1)]))
    refine Go.st (fun _ k => XS.bipush X13.here hx rfl (hb hby at_69) k) ?_
    show Go p e below s _ _ _ (T13.setTop (mkF m 71 #[.val (.int p0), .val (.int p1), .unset, .unset] [(.int (12 : Int32)), (.ref b1), (.ref b1)]))
    refine Go.st (fun _ k => X13.ldcI hx hown (mvT hZ (own_w hw 1 rfl)) rfl (hb hby at_71) k) ?_
    show Go p e below s _ _ _ (T13.setTop (mkF m 73 #[.val (.int p0), .val (.int p1), .unset, .unset] [(.int (-2147483648 : Int32)), (.int (12 : Int32)), (.ref b1), (.ref b1)]))
    obtain ⟨T14, h14, X14, e14, W14, V14, st14⟩ := own_stI X13 hx hZ e13 V_b1 (j := (12 : Int32)) (by decide) (by decide) 12 rfl (Nat.le_of_ble_eq_true rfl) (g := (mkF m 73 #[.val (.int p0), .val (.int p1), .unset, .unset] [(.int (-2147483648 : Int32)), (.int (12 : Int32)), (.ref b1), (.ref b1)])) rfl rfl (hb hby at_73)
    have N14 := Fr.snoc X14 N13 g_b1
    have O14 := O13.wr W14 g_b1
    have V_b1 : Arv Z h14 b1 k1 .int (14 : Int32) [(.int p0), (.int (15 : Int32)), (.int (16 : Int32)), (.int (17 : Int32)), (.int (27 : Int32)), (.int (28 : Int32)), (.int (29 : Int32)), (.int (51 : Int32)), (.int (52 : Int32)), (.int (53 : Int32)), (.int (0 : Int32)), (.int (-16 : Int32)), (.int (-2147483648 : Int32)), (.int (0 : Int32))] (.int (0 : Int32)) := V14
    refine Go.st st14 ?_
    show Go p e below s _ _ _ (T14.setTop (mkF m 74 #[.val (.int p0), .val (.int p1), .unset, .unset] [(.ref b1)]))
    refine Go.st (fun _ k => XS.dup X14.here hx rfl (hb hby at_74) rfl rfl k) ?_
    show Go p e below s _ _ _ (T14.setTop (mkF m 75 #[.val (.int p0), .val (.int p1), .unset, .unset] [(.ref b1), (.ref b1)]))
    refine Go.st (fun _ k => XS.bipush X14.here hx rfl (hb hby at_75) k) ?_
    show Go p e below s _ _ _ (T14.setTop (mkF m 77 #[.val (.int p0), .val (.int p1), .unset, .unset] [(.int (13 : Int32)), (.ref b1), (.ref b1)]))
    refine Go.st (fun _ k => X14.ldcI hx hown (mvT hZ (own_w hw 2 rfl)) rfl (hb hby at_77) k) ?_
    show Go p e below s _ _ _ (T14.setTop (mkF m 79 #[.val (.int p0), .val (.int p1), .unset, .unset] [(.int (2147483647 : Int32)), (.int (13 : Int32)), (.ref b1), (.ref b1)]))
    obtain ⟨T15, h15, X15, e15, W15, V15, st15⟩ := own_stI X14 hx hZ e14 V_b1 (j := (13 : Int32)) (by decide) (by decide) 13 rfl (Nat.le_of_ble_eq_true rfl) (g := (mkF m 79 #[.val (.int p0), .val (.int p1), .unset, .unset] [(.int (2147483647 : Int32)), (.int (13 : Int32)), (.ref b1), (.ref b1)])) rfl rfl (hb hby at_79)
    have N15 := Fr.snoc X15 N14 g_b1
    have O15 := O14.wr W15 g_b1
    have V_b1 : Arv Z h15 b1 k1 .int (14 : Int32) [(.int p0), (.int (15 : Int32)), (.int (16 : Int32)), (.int (17 : Int32)), (.int (27 : Int32)), (.int (28 : Int32)), (.int (29 : Int32)), (.int (51 : Int32)), (.int (52 : Int32)), (.int (53 : Int32)), (.int (0 : Int32)), (.int (-16 : Int32)), (.int (-2147483648 : Int32)), (.int (2147483647 : Int32))] (.int (0 : Int32)) := V15
    refine Go.st st15 ?_
    show Go p e below s _ _ _ (T15.setTop (mkF m 80 #[.val (.int p0), .val (.int p1), .unset, .unset] [(.ref b1)]))
    refine Go.st (fun _ k => XS.astoreN X15.here hx rfl (hb hby at_80) rfl rfl (l' := #[.val (.int p0), .val (.int p1), .val (.ref b1), .unset]) rfl k) ?_
    show Go p e below s _ _ _ (T15.setTop (mkF m 81 #[.val (.int p0), .val (.int p1), .val (.ref b1), .unset] []))
    refine Go.st (fun _ k => XS.aloadN X15.here hx rfl (hb hby at_81) rfl rfl k) ?_
    show Go p e below s _ _ _ (T15.setTop (mkF m 82 #[.val (.int p0), .val (.int p1), .val (.ref b1), .unset] [(.ref b1)]))
    refine Go.st (fun _ k => XS.iloadN X15.here hx rfl (hb hby at_82) rfl k) ?_
    show Go p e below s _ _ _ (T15.setTop (mkF m 83 #[.val (.int p0), .val (.int p1), .val (.ref b1), .unset] [(.int p1), (.ref b1)]))
    refine Go.st (fun _ k => X15.ldcI hx hown (mvT hZ (own_w hw 2 rfl)) rfl (hb hby at_83) k) ?_
    show Go p e below s _ _ _ (T15.setTop (mkF m 85 #[.val (.int p0), .val (.int p1), .val (.ref b1), .unset] [(.int (2147483647 : Int32)), (.int p1), (.ref b1)]))
    refine Go.st (fun _ k => XS.iand X15.here hx rfl (hb hby at_85) rfl k) ?_
    show Go p e below s _ _ _ (T15.setTop (mkF m 86 #[.val (.int p0), .val (.int p1), .val (.ref b1), .unset] [(.int (p1 &&& (2147483647 : Int32))), (.ref b1)]))
    refine Go.st (fun _ k => XS.bipush X15.here hx rfl (hb hby at_86) k) ?_
    show Go p e below s _ _ _ (T15.setTop (mkF m 88 #[.val (.int p0), .val (.int p1), .val (.ref b1), .unset] [(.int (14 : Int32)), (.int (p1 &&& (2147483647 : Int32))), (.ref b1)]))
    refine Go.st (fun _ k => iremM X15 hx rfl (hb hby at_88) rfl (by decide) k) ?_
    show Go p e below s _ _ _ (T15.setTop (mkF m 89 #[.val (.int p0), .val (.int p1), .val (.ref b1), .unset] [(.int ((p1 &&& (2147483647 : Int32)) % (14 : Int32))), (.ref b1)]))
    have ix := own_rem p1 14 (by decide)
    obtain ⟨y, hy⟩ : ∃ y : Int32, List.getD ([(.int p0), (.int (15 : Int32)), (.int (16 : Int32)), (.int (17 : Int32)), (.int (27 : Int32)), (.int (28 : Int32)), (.int (29 : Int32)), (.int (51 : Int32)), (.int (52 : Int32)), (.int (53 : Int32)), (.int (0 : Int32)), (.int (-16 : Int32)), (.int (-2147483648 : Int32)), (.int (2147483647 : Int32))] : List Value) (((p1 &&& (2147483647 : Int32)) % (14 : Int32))).toNatClampNeg (.int (0 : Int32)) = .int y := ⟨_, own_getI [p0, (15 : Int32), (16 : Int32), (17 : Int32), (27 : Int32), (28 : Int32), (29 : Int32), (51 : Int32), (52 : Int32), (53 : Int32), (0 : Int32), (-16 : Int32), (-2147483648 : Int32), (2147483647 : Int32)] 0 _⟩
    refine Go.st (fun _ k => own_iaload X15 hx hZ e15 V_b1 ix.1 ix.2 hy (g := (mkF m 89 #[.val (.int p0), .val (.int p1), .val (.ref b1), .unset] [(.int ((p1 &&& (2147483647 : Int32)) % (14 : Int32))), (.ref b1)])) rfl rfl (hb hby at_89) _ k) ?_
    show Go p e below s _ _ _ (T15.setTop (mkF m 90 #[.val (.int p0), .val (.int p1), .val (.ref b1), .unset] [(.int y)]))
    refine Go.st (fun _ k => XS.istoreN X15.here hx rfl (hb hby at_90) rfl (l' := #[.val (.int p0), .val (.int p1), .val (.ref b1), .val (.int y)]) rfl k) ?_
    show Go p e below s _ _ _ (T15.setTop (mkF m 91 #[.val (.int p0), .val (.int p1), .val (.ref b1), .val (.int y)] []))
    refine Go.st (fun _ k => XS.iloadN X15.here hx rfl (hb hby at_91) rfl k) ?_
    show Go p e below s _ _ _ (T15.setTop (mkF m 92 #[.val (.int p0), .val (.int p1), .val (.ref b1), .val (.int y)] [(.int y)]))
    obtain ⟨_, _, ⟨T16, L16, k16, n16⟩, -, X16, ⟨Lc16, hQ16, l16, y16, z16⟩, st16⟩ := Jvm.LawKit.callS X15 hx (y := (⟨"com/example/assayline/assayline/protocol/colon/ColonPackage", "isMessageLength", "(I)Z"⟩ : MethodName)) hown (mvT hZ (own_w hw 3 rfl)) (mvT hZ (own_w hw 4 rfl)) (mvT hZ (own_w hw 5 rfl)) (mvT hZ (own_w hw 6 rfl)) (by decide) (backOf (W := 0) (rm1 l Z a0 hw [] y h15 n0 O15 ) hZ (own_w hw 6 rfl) (own_w hw 5 rfl) (by decide) (by decide)) (g := (mkF m 92 #[.val (.int p0), .val (.int p1), .val (.ref b1), .val (.int y)] [(.int y)])) rfl (by rw [hml]; rfl) (argsL := [(.int y)]) (rest := []) (lenOf pd0_0 rfl) rfl (by show 2 * 0 + _ ≤ _; exact Nat.le_of_eq rfl) (hb hby at_92) (fun _ _ => ⟨rfl, e15, (by decide : 1 + 0 ≤ _), (by decide : 14 + 0 ≤ _)⟩)
    dsimp only [Pt.U, Pt.locs, Pt.cells, Pt.slots] at X16 l16 y16 z16 st16 hQ16
    subst l16 y16 z16
    obtain ⟨rfl, Nc16, e16⟩ := hQ16
    have N16 := Fr.app N15 Nc16
    refine Go.st st16 ?_
    show Go p e below s _ _ _ (T16.setTop (mkF m 95 #[.val (.int p0), .val (.int p1), .val (.ref b1), .val (.int y)] [(.int (fML y))]))
    refine Go.st (fun _ k => XS.iloadN X16.here hx rfl (hb hby at_95) rfl k) ?_
    show Go p e below s _ _ _ (T16.setTop (mkF m 96 #[.val (.int p0), .val (.int p1), .val (.ref b1), .val (.int y)] [(.int y), (.int (fML y))]))
    obtain ⟨_, _, ⟨T17, L17, k17, n17⟩, -, X17, ⟨Lc17, hQ17, l17, y17, z17⟩, st17⟩ := Jvm.LawKit.callS X16 hx (y := (⟨"com/example/assayline/assayline/protocol/colon/ColonPackageIsMessageLengthPinLaw", "expected", "(I)Z"⟩ : MethodName)) hown (mvT hZ (own_w hw 7 rfl)) (mvT hZ (own_w hw 8 rfl)) (mvT hZ (own_w hw 9 rfl)) (mvT hZ (own_w hw 10 rfl)) (by decide) (backOf (W := 1) (rm2 l Z a0 hw [] y h15 n0 O15 ) hZ (own_w hw 10 rfl) (own_w hw 9 rfl) (by decide) (by decide)) (g := (mkF m 96 #[.val (.int p0), .val (.int p1), .val (.ref b1), .val (.int y)] [(.int y), (.int (fML y))])) rfl (by rw [hml]; rfl) (argsL := [(.int y)]) (rest := [(.int (fML y))]) (lenOf pd0_0 rfl) rfl (by show 2 * 0 + _ ≤ _; exact Nat.le_of_eq rfl) (hb hby at_96) (fun _ _ => ⟨rfl, e16, (by decide : 1 + 0 ≤ _), (by decide : 14 + 0 ≤ _)⟩)
    dsimp only [Pt.U, Pt.locs, Pt.cells, Pt.slots] at X17 l17 y17 z17 st17 hQ17
    subst l17 y17 z17
    obtain ⟨rfl, Nc17, e17⟩ := hQ17
    have N17 := Fr.app N16 Nc17
    refine Go.st st17 ?_
    show Go p e below s _ _ _ (T17.setTop (mkF m 99 #[.val (.int p0), .val (.int p1), .val (.ref b1), .val (.int y)] [(.int (fEx y)), (.int (fML y))]))
    refine Go.st (fun _ k => XS.icmpNo X17.here hx rfl (hb hby at_99) rfl (XT.ii_ne_f (own_law y)) k) ?_
    show Go p e below s _ _ _ (T17.setTop (mkF m 102 #[.val (.int p0), .val (.int p1), .val (.ref b1), .val (.int y)] []))
    refine Go.st (fun _ k => XS.iconst X17.here hx rfl (hb hby at_102) k) ?_
    show Go p e below s _ _ _ (T17.setTop (mkF m 103 #[.val (.int p0), .val (.int p1), .val (.ref b1), .val (.int y)] [(.int (1 : Int32))]))
    refine Go.st (fun _ k => XS.goto X17.here hx rfl (pc0 := 103) (pc' := 107) rfl (hb hby at_103) (by decide) (by decide) k) ?_
    show Go p e below s _ _ _ (T17.setTop (mkF m 107 #[.val (.int p0), .val (.int p1), .val (.ref b1), .val (.int y)] [(.int (1 : Int32))]))
    exact Go.ret X17 hlk (some (.int (nar .boolean (1 : Int32)))) (fun h => by rw [Bd.returns] at h; cases h) (by rw [e17]; exact ⟨rfl, N17⟩) (by decide) (by decide) (fun fs hr => retN X17 hx (t := .boolean) Bd.returns (by simp) (hb hby at_107) hr)
  obtain ⟨s2, o2, st2, r2⟩ := G
  exact ⟨s2, o2, castTop (ef0 m p0 p1) st2, r2⟩
set_option maxRecDepth 65536 in
set_option maxHeartbeats 40000000 in
theorem comes_1 {Post : Tables → Env → Array Value → State → Outcome → State → Prop} (hpost : ∀ tb e args s v u, (limb_1_1.after args s (.returned v) u = true ∧ limb_1_2.after args s (.returned v) u = true ∧ True) → FrameEnd s (.returned v) u (Jvm.fieldLocs frame_1_writes args s ++ Jvm.arrayLocs frame_1_arrays args s ++ Jvm.staticLocs frame_1_statics s) 16 128 → Post tb e args s (.returned v) u) :
    ArmFor flags0 classFile x code maxLocals ret World_1 tables_1 room_1 Calls_1 rest_1 Pre_1 Post := by
  intro l hfl _ _ p e ha hc hk s m args below hf hA hF happ hP
  obtain ⟨hcalls, hrest, hpre⟩ := hP
  obtain ⟨-, -, -, hnamed, -, -, -, hat⟩ := (Spec.applies_iff hf).mp happ
  obtain ⟨hg, hn⟩ := and_e (Cond.before_iff.mp (show (Jvm.Cond.and given_1 narrow_1).before args s = true from hpre))
  obtain ⟨h1, r1⟩ := and_e hg
  obtain ⟨a0, r2⟩ := and_e r1
  obtain ⟨w0, w1, rfl⟩ : ∃ w0 w1 : Value, args = #[w0, w1] := by
    have hs : args.size = 2 := by simpa [Cond.value, given_1] using h1
    obtain ⟨L⟩ := args
    match L, hs with
    | [w0, w1], _ => exact ⟨w0, w1, rfl⟩
  have hw := fun d (hd : d ∈ tables_1) => atoms_spec (ws := Jvm.Cond.code x code maxLocals ret :: tables_1) hat d (List.mem_cons_of_mem _ hd)
  have hfit : Fit s := fun {y c} hc i hi => by
    obtain ⟨ha, rfl⟩ := Array.getElem?_eq_some_iff.mp hc
    have q := List.all_eq_true.mp ((Array.all_eq_true_iff_forall_mem.mp hF) _ (Array.getElem_mem ha)) i (List.mem_range.mpr hi)
    simpa [Array.getElem?_eq_getElem hi] using q
  obtain ⟨i0, ei0⟩ := is_v a0
  obtain rfl : w0 = (.int i0) := Option.some.inj ei0
  obtain ⟨i1, ei1⟩ := is_v r2
  obtain rfl : w1 = (.int i1) := Option.some.inj ei1
  obtain ⟨n, o, h1, h2, h3, _, L, rfl, ⟨rfl, N⟩, hq⟩ := rm0 l s _ hw tables_1 i0 i1 s.heap s.heap.size (Old.start s) p e ha hc hk s m _ below hf ((Spec.applies_iff_loose hf).mp happ).1 ⟨rfl, State.Warmed39.refl s, rfl⟩ trivial
  refine ⟨n, _, h1, h2, h3, hpost _ _ _ _ _ _ ⟨Cond.after_iff.mpr rfl, Cond.after_iff.mpr (eq_i res_at (Term.int_eval (1)) rfl), trivial⟩ ⟨hq.1, hq.2.1, (hq.2.2.sift fun y hy => Or.inr (N y hy)).mono (by decide) (by decide)⟩⟩
theorem main_1_1 : Claimed_1_1 := comes_1 fun _ _ _ _ _ _ h hF => ⟨h.1, hF⟩
theorem main_1_2 : Claimed_1_2 := comes_1 fun _ _ _ _ _ _ h hF => ⟨h.2.1, hF⟩
end Jvm.Pilot.@@N@@
namespace Jvm.Pilot.@@N@@
open Jvm Jvm.ClassFile Sem Op Lib Jvm.Free Jvm.Stand Jvm.Pilot.@@N@@.Jvm.D
/-! MADE BY PROGRAM (witnessworld.py) out of the Statement's table words and the real class files: 10 classes; the members and pool entries that the words name. The judged class is class 1, her method 2. -/
namespace start1
open Jvm.ClassFile
def u (s : String) : CpInfo := .utf8 (stringToUtf16 s)
/-- a pool by its gaps: so many unusable entries, then the entry; so many at the end -/
def gap : Nat → List CpInfo → List CpInfo
  | 0, r => r
  | n + 1, r => .unusable :: gap n r
def poolList (es : List (Nat × CpInfo)) (last : Nat) : List CpInfo := es.foldr (fun e r => gap e.1 (e.2 :: r)) (gap last [])
def pool (es : List (Nat × CpInfo)) (last : Nat) : Array CpInfo := ⟨poolList es last⟩
def fileOf (pool : Array CpInfo) (this : Nat) (attrs : Array Attribute := #[]) (ms : Array MethodInfo := #[]) (fl : Nat := 33) (sup : Nat := 0) (ifs : Array Nat := #[]) (fds : Array FieldInfo := #[]) : ClassFile where
  minorVersion := 0
  majorVersion := 65
  constantPool := pool
  accessFlags := fl
  thisClass := this
  superClass := sup
  interfaces := ifs
  fields := fds
  methods := ms
  attributes := attrs
def plain (name : String) (sup : Option ClassId) : Class where
  name := name
  kind := .ordinary
  loader := none
  accessFlags := 33
  super := sup
  interfaces := #[]
  cf := none
  fields := #[]
  methods := #[]
  instanceTypes := #[]
  staticTypes := #[]
  resolved := #[]
  callSites := []
  init := .initialized
  statics := none
  mirror := none

def pool0 : Array CpInfo := pool [(5, u "<init>"), (0, u "()V"), (1, .class_ 10), (1, u "java/lang/Object")] 113

def k0m0 : Method := { name := "<init>", desc := "()V", sig := { parameters := [], returnType := none }, accessFlags := 1, code := none }
/-- java/lang/Object -/
def k0 : Class := { plain "java/lang/Object" none with
  accessFlags := 33
  interfaces := #[]
  cf := some (fileOf pool0 8 #[] #[{ accessFlags := 1, nameIndex := 5, descriptorIndex := 6, attributes := #[] }] 33 0 #[] #[])
  fields := #[]
  methods := #[k0m0]
  instanceTypes := #[]
  staticTypes := #[]
  resolved := Array.replicate 124 none
  statics := none }

def pool1 : Array CpInfo := pool [(2, .class_ 4), (1, u "java/lang/Object"), (0, u "<init>"), (0, u "()V"), (2, .integer 2147483648), (0, .integer 2147483647), (0, .methodref 12 13), (0, .class_ 14), (0, .nameAndType 15 16), (0, u "com/example/assayline/assayline/protocol/colon/ColonPackage"), (0, u "isMessageLength"), (0, u "(I)Z"), (0, .methodref 18 19), (0, .class_ 20), (0, .nameAndType 21 16), (0, u "com/example/assayline/assayline/protocol/colon/ColonPackageIsMessageLengthPinLaw"), (0, u "expected"), (3, u "law"), (0, u "(II)Z")] 4

def k1m0 : Method := { name := "<init>", desc := "()V", sig := { parameters := [], returnType := none }, accessFlags := 2, code := none }
def k1c1 : Code := { maxStack := 2, maxLocals := 1, code := method_2_code, exceptionTable := #[], attributes := #[] }
def k1m1 : Method := { name := "expected", desc := "(I)Z", sig := { parameters := [.int], returnType := some .boolean }, accessFlags := 10, code := some k1c1 }
def k1c2 : Code := { maxStack := 4, maxLocals := 4, code := code, exceptionTable := #[], attributes := #[] }
def k1m2 : Method := { name := "law", desc := "(II)Z", sig := { parameters := [.int, .int], returnType := some .boolean }, accessFlags := 9, code := some k1c2 }
/-- com/example/assayline/assayline/protocol/colon/ColonPackageIsMessageLengthPinLaw -/
def k1 : Class := { plain "com/example/assayline/assayline/protocol/colon/ColonPackageIsMessageLengthPinLaw" (some 0) with
  accessFlags := 49
  interfaces := #[]
  cf := some (fileOf pool1 18 #[] #[{ accessFlags := 2, nameIndex := 5, descriptorIndex := 6, attributes := #[] }, { accessFlags := 10, nameIndex := 21, descriptorIndex := 16, attributes := #[] }, { accessFlags := 9, nameIndex := 25, descriptorIndex := 26, attributes := #[] }] 49 2 #[] #[])
  fields := #[]
  methods := #[k1m0, k1m1, k1m2]
  instanceTypes := #[]
  staticTypes := #[]
  resolved := Array.replicate 31 none
  statics := none }

def pool2 : Array CpInfo := pool [(2, .class_ 4), (1, u "java/lang/Object"), (0, u "<init>"), (0, u "()V"), (0, .class_ 8), (0, u "java/lang/Record")] 13

def k2m0 : Method := { name := "<init>", desc := "()V", sig := { parameters := [], returnType := none }, accessFlags := 4, code := none }
/-- java/lang/Record -/
def k2 : Class := { plain "java/lang/Record" (some 0) with
  accessFlags := 1057
  interfaces := #[]
  cf := some (fileOf pool2 7 #[] #[{ accessFlags := 4, nameIndex := 5, descriptorIndex := 6, attributes := #[] }] 1057 2 #[] #[])
  fields := #[]
  methods := #[k2m0]
  instanceTypes := #[]
  staticTypes := #[]
  resolved := Array.replicate 22 none
  statics := none }

def pool3 : Array CpInfo := pool [(2, .class_ 4), (1, u "java/lang/Record"), (3, .class_ 10), (1, u "com/example/assayline/assayline/protocol/colon/ColonPackage"), (0, u "text"), (0, u "Ljava/lang/String;"), (2, u "damage"), (35, u "HEADER"), (0, u "I"), (2, u "MESSAGE_HEADER"), (1, u "CONTENTS"), (1, u "DELETE"), (0, u "SEQUENCE_END"), (1, u "INSTRUMENT_END"), (1, u "RESERVED_END"), (1, u "LENGTH_END"), (1, u "RESERVED"), (13, u "isMessageLength"), (0, u "(I)Z")] 24

def k3c0 : Code := { maxStack := 2, maxLocals := 1, code := prog_67_method_6_code, exceptionTable := #[], attributes := #[] }
def k3m0 : Method := { name := "isMessageLength", desc := "(I)Z", sig := { parameters := [.int], returnType := some .boolean }, accessFlags := 8, code := some k3c0 }
/-- com/example/assayline/assayline/protocol/colon/ColonPackage -/
def k3 : Class := { plain "com/example/assayline/assayline/protocol/colon/ColonPackage" (some 2) with
  accessFlags := 49
  interfaces := #[]
  cf := some (fileOf pool3 8 #[] #[{ accessFlags := 8, nameIndex := 82, descriptorIndex := 83, attributes := #[] }] 49 2 #[] #[{ accessFlags := 18, nameIndex := 11, descriptorIndex := 12, attributes := #[] }, { accessFlags := 18, nameIndex := 15, descriptorIndex := 12, attributes := #[] }, { accessFlags := 25, nameIndex := 51, descriptorIndex := 52, attributes := #[] }, { accessFlags := 25, nameIndex := 55, descriptorIndex := 52, attributes := #[] }, { accessFlags := 25, nameIndex := 57, descriptorIndex := 52, attributes := #[] }, { accessFlags := 25, nameIndex := 59, descriptorIndex := 52, attributes := #[] }, { accessFlags := 24, nameIndex := 60, descriptorIndex := 52, attributes := #[] }, { accessFlags := 24, nameIndex := 62, descriptorIndex := 52, attributes := #[] }, { accessFlags := 24, nameIndex := 64, descriptorIndex := 52, attributes := #[] }, { accessFlags := 24, nameIndex := 66, descriptorIndex := 52, attributes := #[] }, { accessFlags := 24, nameIndex := 68, descriptorIndex := 12, attributes := #[] }])
  fields := #[{ name := "text", type := (.object "java/lang/String"), accessFlags := 18, slot := 0, constantValue := 0 }, { name := "damage", type := (.object "java/lang/String"), accessFlags := 18, slot := 1, constantValue := 0 }, { name := "HEADER", type := .int, accessFlags := 25, slot := 0, constantValue := 0 }, { name := "MESSAGE_HEADER", type := .int, accessFlags := 25, slot := 1, constantValue := 0 }, { name := "CONTENTS", type := .int, accessFlags := 25, slot := 2, constantValue := 0 }, { name := "DELETE", type := .int, accessFlags := 25, slot := 3, constantValue := 0 }, { name := "SEQUENCE_END", type := .int, accessFlags := 24, slot := 4, constantValue := 0 }, { name := "INSTRUMENT_END", type := .int, accessFlags := 24, slot := 5, constantValue := 0 }, { name := "RESERVED_END", type := .int, accessFlags := 24, slot := 6, constantValue := 0 }, { name := "LENGTH_END", type := .int, accessFlags := 24, slot := 7, constantValue := 0 }, { name := "RESERVED", type := (.object "java/lang/String"), accessFlags := 24, slot := 8, constantValue := 0 }]
  methods := #[k3m0]
  instanceTypes := #[(.object "java/lang/String"), (.object "java/lang/String")]
  staticTypes := #[.int, .int, .int, .int, .int, .int, .int, .int, (.object "java/lang/String")]
  resolved := Array.replicate 108 none
  statics := none }

def pool4 : Array CpInfo := pool [(1, u "java/lang/Cloneable"), (0, .class_ 1), (0, u "java/lang/Object"), (0, .class_ 3)] 3

/-- java/lang/Cloneable -/
def k4 : Class := { plain "java/lang/Cloneable" (some 0) with
  accessFlags := 1537
  interfaces := #[]
  cf := some (fileOf pool4 2 #[] #[] 1537 4 #[] #[])
  fields := #[]
  methods := #[]
  instanceTypes := #[]
  staticTypes := #[]
  resolved := Array.replicate 8 none
  statics := none }

def pool5 : Array CpInfo := pool [(1, u "java/io/Serializable"), (0, .class_ 1), (0, u "java/lang/Object"), (0, .class_ 3)] 3

/-- java/io/Serializable -/
def k5 : Class := { plain "java/io/Serializable" (some 0) with
  accessFlags := 1537
  interfaces := #[]
  cf := some (fileOf pool5 2 #[] #[] 1537 4 #[] #[])
  fields := #[]
  methods := #[]
  instanceTypes := #[]
  staticTypes := #[]
  resolved := Array.replicate 8 none
  statics := none }

/-- the primitive byte -/
def k6 : Class := { plain "byte" none with kind := .primitive 'B', accessFlags := 0x411 }
/-- [B -/
def k7 : Class := { plain "[B" (some 0) with kind := .array 6 .byte, interfaces := #[4, 5], accessFlags := 1041 }

/-- the primitive int -/
def k8 : Class := { plain "int" none with kind := .primitive 'I', accessFlags := 0x411 }
/-- [I -/
def k9 : Class := { plain "[I" (some 0) with kind := .array 8 .int, interfaces := #[4, 5], accessFlags := 1041 }

def heap : Heap := #[]
def classes : Array Class := #[k0, k1, k2, k3, k4, k5, k6, k7, k8, k9]
def interned : List (Array UInt16 × Addr) := []
def slotsUsed : Nat := 0
def theMethod : MethodId := ⟨1, 2⟩
def args0 : Array Value := #[.int 5, .int 3]
def aboutOver (below : List Frame) : State where
  vm := { classes := classes, interned := interned.toArray }
  heap := heap
  slotsUsed := slotsUsed
  threads := #[{ frames := .invoking theMethod args0 :: below }]
def below0 : List Frame := [.native { method := ⟨0, 0⟩, args := #[] }]
def about1 : State := aboutOver below0
def p0 : Program := .bare "" "" ""
def e0 : Env := launch0.env 0 0 0
theorem w_frames : about1.frames = Frame.invoking theMethod args0 :: below0 := rfl
set_option maxRecDepth 65536 in
theorem w_args : argsFit about1.vm theMethod args0 = true := by decide +kernel
set_option maxRecDepth 65536 in
theorem w_heap : heapFits about1 = true := by decide +kernel
set_option maxRecDepth 65536 in
theorem w_runnable : about1.curStatus? = some .runnable := by decide +kernel
set_option maxRecDepth 65536 in
theorem w_alone : about1.alone = true := by decide +kernel
set_option maxRecDepth 65536 in
theorem w_named : about1.methodNamed? x = some theMethod := by decide +kernel
set_option maxRecDepth 65536 in
theorem w_hears : about1.hears theMethod below0 = true := by decide +kernel
set_option maxRecDepth 65536 in
theorem w_ripe : about1.ripe theMethod args0 below0 = true := by decide +kernel
theorem w_running : about1.status = .running := rfl
set_option maxRecDepth 65536 in
theorem w_room : about1.hasRoom e0.platform room_1 = true :=
  launch0.hasRoom_least _ room_1 (by decide +kernel) (by decide +kernel) (by decide +kernel) (by decide +kernel) (by decide +kernel) (by decide +kernel)
theorem allAtoms_all (ts : List Jvm.Cond) (a : Array Jvm.Value) (st : Jvm.State) : (allAtoms ts).before a st = ts.all (fun c => c.before a st) := by
  induction ts with
  | nil => rfl
  | cons c t ih =>
    show (Jvm.Cond.and c (allAtoms t)).before a st = _
    rw [Jvm.Cond.before_and, ih, List.all_cons]
def words1 : List Jvm.Cond := Jvm.Cond.code x code maxLocals ret :: tables_1
/-- a 'code' word, met by the world's own term for the bytes: nothing is compared byte by byte -/
theorem code_word {y : MethodName} {bytes : ByteArray} {mx : Nat} {rt : Option FieldType} {a : Array Value} {s : State} {m : MethodId} {meth : Method} {c : Code} (h1 : s.methodNamed? y = some m) (h2 : s.vm.method? m = some meth) (h3 : meth.code = some c) (h4 : c.code = bytes)
    (h5 : (c.maxLocals == mx && c.exceptionTable.isEmpty && decide (c.maxStack ≤ mostOperands) && decide (meth.sig.returnType = rt) && !meth.locks && decide (parseMethodDescriptor y.desc = some meth.sig)) = true) : (Jvm.Cond.code y bytes mx rt).before a s = true := by
  simp only [Bool.and_eq_true, beq_iff_eq, Bool.not_eq_true', decide_eq_true_eq] at h5
  obtain ⟨⟨⟨⟨⟨g1, g2⟩, g3⟩, g4⟩, g5⟩, g6⟩ := h5
  simp [Cond.before, Cond.holds, Cond.value, h1, h2, h3, h4, g1, g2, g3, g4, g5, g6]
def isCode : Jvm.Cond → Bool
  | .code _ _ _ _ => true
  | _ => false
theorem all_split {L : List Jvm.Cond} {P : Jvm.Cond → Bool} (h1 : L.all (fun c => isCode c || P c) = true) (h2 : ∀ c ∈ L.filter isCode, P c = true) : L.all P = true := by
  refine List.all_eq_true.mpr fun c hc => ?_
  have h := List.all_eq_true.mp h1 c hc
  rcases Bool.eq_false_or_eq_true (isCode c) with hi | hi
  · exact h2 c (List.mem_filter.mpr ⟨hc, hi⟩)
  · simpa [hi] using h
set_option maxRecDepth 65536 in
theorem w_c0 : (Jvm.Cond.code x code maxLocals ret).before args0 about1 = true := code_word (m := ⟨1, 2⟩) (meth := k1m2) (c := k1c2) (by decide +kernel) rfl rfl rfl (by decide +kernel)
set_option maxRecDepth 65536 in
theorem w_c1 : (Jvm.Cond.code ({ cls := "com/example/assayline/assayline/protocol/colon/ColonPackage", name := "isMessageLength", desc := "(I)Z" } : Jvm.MethodName) prog_67_method_6_code (1 : Nat) (Option.some Jvm.ClassFile.FieldType.boolean)).before args0 about1 = true := code_word (m := ⟨3, 0⟩) (meth := k3m0) (c := k3c0) (by decide +kernel) rfl rfl rfl (by decide +kernel)
set_option maxRecDepth 65536 in
theorem w_c2 : (Jvm.Cond.code ({ cls := "com/example/assayline/assayline/protocol/colon/ColonPackageIsMessageLengthPinLaw", name := "expected", desc := "(I)Z" } : Jvm.MethodName) method_2_code (1 : Nat) (Option.some Jvm.ClassFile.FieldType.boolean)).before args0 about1 = true := code_word (m := ⟨1, 1⟩) (meth := k1m1) (c := k1c1) (by decide +kernel) rfl rfl rfl (by decide +kernel)
def codes1 : List Jvm.Cond := [Jvm.Cond.code x code maxLocals ret, Jvm.Cond.code ({ cls := "com/example/assayline/assayline/protocol/colon/ColonPackage", name := "isMessageLength", desc := "(I)Z" } : Jvm.MethodName) prog_67_method_6_code (1 : Nat) (Option.some Jvm.ClassFile.FieldType.boolean), Jvm.Cond.code ({ cls := "com/example/assayline/assayline/protocol/colon/ColonPackageIsMessageLengthPinLaw", name := "expected", desc := "(I)Z" } : Jvm.MethodName) method_2_code (1 : Nat) (Option.some Jvm.ClassFile.FieldType.boolean)]
set_option maxRecDepth 65536 in
theorem codes_eq : words1.filter isCode = codes1 := rfl
theorem w_codes : ∀ c ∈ words1.filter isCode, c.before args0 about1 = true := by
  rw [codes_eq]
  intro c hc
  simp only [codes1, List.mem_cons, List.not_mem_nil, or_false] at hc
  rcases hc with rfl | rfl | rfl
  · exact w_c0
  · exact w_c1
  · exact w_c2
set_option maxRecDepth 65536 in
theorem w_t1 : words1.all (fun c => isCode c || c.before args0 about1) = true := by decide +kernel
theorem w_tables : (allAtoms (Jvm.Cond.code x code maxLocals ret :: tables_1)).before args0 about1 = true := by
  rw [allAtoms_all]
  show words1.all (fun c => c.before args0 about1) = true
  refine all_split ?_ w_codes
  rw [w_t1]
set_option maxRecDepth 65536 in
theorem w_case : (Jvm.Cond.and given_1 narrow_1).before args0 about1 = true := by decide +kernel
theorem w_applies : (headSpec (Jvm.Cond.code x code maxLocals ret :: tables_1) room_1).applies x e0.platform about1 = true :=
  (Spec.applies_iff w_frames).mpr ⟨w_running, w_runnable, w_alone, w_named, w_hears, w_ripe, w_room, w_tables⟩
theorem atStart : AtStart classFile x code maxLocals ret World_1 tables_1 room_1 Calls_1 rest_1 Pre_1 launch0 p0 e0 about1 theMethod args0 below0 :=
  ⟨lists_1, trivial, launch0.admits_env _ _ _, launch0.least_env, fairChoices_fair.cas, fairChoices_fair.clock, w_frames, w_args, w_heap, w_applies, trivial, trivial, w_case⟩
end start1
theorem witness_1 : WitnessClaimed_1 := ⟨start1.p0, start1.e0, start1.about1, start1.theMethod, start1.args0, start1.below0, start1.atStart⟩
end Jvm.Pilot.@@N@@
