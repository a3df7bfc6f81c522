import JvmDerived
import JvmDerived.Pilot.@@N@@Statement
import JvmDerived.Pilot.@@N@@Code
set_option linter.unusedVariables false
set_option linter.unusedSimpArgs false
namespace Jvm.RoadKit
open Sem ClassFile Op Lib Jvm.Stand Jvm.Free Jvm.LawKit
section New
variable {p : Program} {l : Launch} {e : Env} {R : Room} {s : State} {m : MethodId} {args : Array Value} {below : List Frame} {meth : Method} {c : Code} {T : State} {locs : List Loc} {cells slots : Nat}
theorem retI (X : Stand p l e R s m args below meth c T locs cells slots) (hx : p.tables.exec = Jvm.exec) {pc : Nat} {Ls : Array Slot} {z : Int32} {rest : List Value} (hret : meth.sig.returnType = some .int) (hd : decode c.code pc = .ok (.ireturn, 1)) {fs : List Frame}
    (hl : ∀ (f : JFrame) (acts : List Action), f.method = m → f.locked = none → f.entered = [] → (doReturn e (T.setTop f) acts (some (.int z))).1 = T.setFrames fs) : Steps p.tables e below (T.setTop (mkF m pc Ls (.int z :: rest))) (T.setFrames fs) := by
  have hm' : T.vm.method? m = some meth := X.method'
  have hn : narrow .int (.int z) = .int z := rfl
  show Steps p.tables e below (T.setTop { method := m, pc := pc, locals := Ls, stack := _ :: rest, locked := none }) _
  jvm_step X.here [X.here.top, hx, hd, hm', hret, hn]
  first | (intro acts; rw [hl _ acts rfl rfl rfl]) | rw [hl _ _ rfl rfl rfl]
  exact Steps.refl _
end New
end Jvm.RoadKit
namespace Jvm.Pilot.@@N@@
open Jvm Jvm.ClassFile Sem Op Lib Jvm.Free Jvm.Stand Jvm.LawKit Jvm.RoadKit Bundle Jvm.Pilot.@@N@@.Jvm.D
/-! own small kit: a walk forward, state by state -/
section OwnKit
variable {p : Program} {l : Launch} {e : Env} {R : Room} {s : State} {m : MethodId} {args : Array Value} {below : List Frame} {meth : Method} {c : Code} {T : State} {locs : List Loc} {cells slots : Nat} {rc rs : Nat} {Q : Option Value → Heap → List Loc → Prop} {Z : State} {h h' : Heap} {a b : Addr} {S S' : State}
/-- from S the run comes to its return, and Q holds there -/
def Go (p : Program) (e : Env) (below : List Frame) (s : State) (rc rs : Nat) (Q : Option Value → Heap → List Loc → Prop) (S : State) : Prop :=
  ∃ s₂ o, Steps p.tables e below S s₂ ∧ s₂.status = .running ∧ Ended s₂ below o ∧ ∃ v L, o = .returned v ∧ Q v s₂.heap L ∧ FrameEnd s o s₂ L rc rs
theorem Go.st (k : ∀ t, Steps p.tables e below S' t → Steps p.tables e below S t) (g : Go p e below s rc rs Q S') : Go p e below s rc rs Q S := by
  obtain ⟨x, y, z, r⟩ := g
  exact ⟨x, y, k x z, r⟩
theorem Go.tr (k : Steps p.tables e below S S') (g : Go p e below s rc rs Q S') : Go p e below s rc rs Q S := by
  obtain ⟨x, y, z, r⟩ := g
  exact ⟨x, y, k.trans z, r⟩
theorem Go.ret (X : Stand p l e R s m args below meth c T locs cells slots) (hlk : meth.locks = false) (v : Option Value) (hv : meth.sig.returnType = none → v = none) {g : JFrame} (hQ : Q v T.heap locs) (hc : cells ≤ rc) (hs : slots ≤ rs)
    (k : ∀ fs, (∀ (f : JFrame) (acts : List Action), f.method = m → f.locked = none → f.entered = [] → (doReturn e (T.setTop f) acts v).1 = T.setFrames fs) → Steps p.tables e below (T.setTop g) (T.setFrames fs)) : Go p e below s rc rs Q (T.setTop g) := by
  obtain ⟨fs, hr, hrun, hended, hW, hsame⟩ := X.leave (v := v) hv hlk
  exact ⟨_, _, k fs hr, hrun, hended, _, _, rfl, hQ, ⟨_, rfl⟩, hW, hsame.mono hc hs⟩
theorem own_w {a0 : Array Value} (hw : ∀ d ∈ tables_1, d.before a0 Z = true) (k : Nat) {d : Jvm.Cond} (q : tables_1[k]? = some d) : d.before a0 Z = true := hw _ (List.mem_of_getElem? q)
theorem own_idx {n j : Int32} {cl : Cell} (S : cl.slots.size = n.toNatClampNeg) (q1 : ¬ j < 0) (q2 : j < n) : ¬ (j < 0 ∨ cl.slots.size ≤ j.toNatClampNeg) := inb_of S ⟨q1, q2⟩
theorem own_iaload (X : Stand p l e R s m args below meth c T locs cells slots) (hx : p.tables.exec = Jvm.exec) (hZ : Z.Warmed39 s.vm) (eT : T.heap = h) {k : ClassId} {n : Int32} {vs : List Value} {d : Value} (V : Arv Z h a k .int n vs d) {j : Int32} (q1 : ¬ j < 0) (q2 : j < n) {v : Value} (hv : vs.getD j.toNatClampNeg d = v) {g : JFrame} (hg : g.method = m) {rest : List Value} (hs : g.stack = .int j :: .ref a :: rest) (hd : decode c.code g.pc = .ok (.iaload, 1)) (t : State) (kk : Steps p.tables e below (T.setTop { g with pc := g.pc + 1, stack := v :: rest }) t) : Steps p.tables e below (T.setTop g) t := by
  obtain ⟨cl, A, -, S, -, H, -⟩ := V
  have hin := own_idx S q1 q2
  exact X.iaload hx (j := j) (v := v) (by rw [eT]; exact A.1) (State.isArrayOf_alike hZ.alike A.2.1) A.2.2 hin (H.at hin hv) (g := g) hg hs hd _ kk
theorem own_laload (X : Stand p l e R s m args below meth c T locs cells slots) (hx : p.tables.exec = Jvm.exec) (hZ : Z.Warmed39 s.vm) (eT : T.heap = h) {k : ClassId} {n : Int32} {vs : List Value} {d : Value} (V : Arv Z h a k .long n vs d) {j : Int32} (q1 : ¬ j < 0) (q2 : j < n) {v : Value} (hv : vs.getD j.toNatClampNeg d = v) {g : JFrame} (hg : g.method = m) {rest : List Value} (hs : g.stack = .int j :: .ref a :: rest) (hd : decode c.code g.pc = .ok (.laload, 1)) (t : State) (kk : Steps p.tables e below (T.setTop { g with pc := g.pc + 1, stack := v :: rest }) t) : Steps p.tables e below (T.setTop g) t := by
  obtain ⟨cl, A, -, S, -, H, -⟩ := V
  have hin := own_idx S q1 q2
  exact X.laload hx (j := j) (v := v) (by rw [eT]; exact A.1) (State.isArrayOf_alike hZ.alike A.2.1) A.2.2 hin (H.at hin hv) (g := g) hg hs hd _ kk
theorem own_caload (X : Stand p l e R s m args below meth c T locs cells slots) (hx : p.tables.exec = Jvm.exec) (hZ : Z.Warmed39 s.vm) (eT : T.heap = h) {k : ClassId} {n : Int32} {vs : List Value} {d : Value} (V : Arv Z h a k .char n vs d) {j : Int32} (q1 : ¬ j < 0) (q2 : j < n) {v : Value} (hv : vs.getD j.toNatClampNeg d = v) {g : JFrame} (hg : g.method = m) {rest : List Value} (hs : g.stack = .int j :: .ref a :: rest) (hd : decode c.code g.pc = .ok (.caload, 1)) (t : State) (kk : Steps p.tables e below (T.setTop { g with pc := g.pc + 1, stack := v :: rest }) t) : Steps p.tables e below (T.setTop g) t := by
  obtain ⟨cl, A, -, S, -, H, -⟩ := V
  have hin := own_idx S q1 q2
  exact X.caload hx (j := j) (v := v) (by rw [eT]; exact A.1) (State.isArrayOf_alike hZ.alike A.2.1) A.2.2 hin (H.at hin hv) (g := g) hg hs hd _ kk
theorem own_baloadB (X : Stand p l e R s m args below meth c T locs cells slots) (hx : p.tables.exec = Jvm.exec) (hZ : Z.Warmed39 s.vm) (eT : T.heap = h) {k : ClassId} {n : Int32} {vs : List Value} {d : Value} (V : Arv Z h a k .byte n vs d) {j : Int32} (q1 : ¬ j < 0) (q2 : j < n) {v : Value} (hv : vs.getD j.toNatClampNeg d = v) {g : JFrame} (hg : g.method = m) {rest : List Value} (hs : g.stack = .int j :: .ref a :: rest) (hd : decode c.code g.pc = .ok (.baload, 1)) (t : State) (kk : Steps p.tables e below (T.setTop { g with pc := g.pc + 1, stack := v :: rest }) t) : Steps p.tables e below (T.setTop g) t := by
  obtain ⟨cl, A, -, S, -, H, -⟩ := V
  have hin := own_idx S q1 q2
  exact X.baloadBytes hx (j := j) (v := v) (by rw [eT]; exact A.1) (State.isArrayOf_alike hZ.alike A.2.1) A.2.2 hin (H.at hin hv) (g := g) hg hs hd _ kk
theorem own_baloadZ (X : Stand p l e R s m args below meth c T locs cells slots) (hx : p.tables.exec = Jvm.exec) (hZ : Z.Warmed39 s.vm) (eT : T.heap = h) {k : ClassId} {n : Int32} {vs : List Value} {d : Value} (V : Arv Z h a k .boolean n vs d) {j : Int32} (q1 : ¬ j < 0) (q2 : j < n) {v : Value} (hv : vs.getD j.toNatClampNeg d = v) {g : JFrame} (hg : g.method = m) {rest : List Value} (hs : g.stack = .int j :: .ref a :: rest) (hd : decode c.code g.pc = .ok (.baload, 1)) (t : State) (kk : Steps p.tables e below (T.setTop { g with pc := g.pc + 1, stack := v :: rest }) t) : Steps p.tables e below (T.setTop g) t := by
  obtain ⟨cl, A, -, S, -, H, -⟩ := V
  have hin := own_idx S q1 q2
  exact X.baloadBooleans hx (j := j) (v := v) (by rw [eT]; exact A.1) (State.isArrayOf_alike hZ.alike A.2.1) A.2.2 hin (H.at hin hv) (g := g) hg hs hd _ kk
theorem own_aaload (X : Stand p l e R s m args below meth c T locs cells slots) (hx : p.tables.exec = Jvm.exec) (hZ : Z.Warmed39 s.vm) (eT : T.heap = h) {k : ClassId} {n : Int32} {vs : List Value} {d : Value} {ty : FieldType} (V : Arv Z h a k ty n vs d) (hty : ty.isReference = true) {j : Int32} (q1 : ¬ j < 0) (q2 : j < n) {v : Value} (hv : vs.getD j.toNatClampNeg d = v) {g : JFrame} (hg : g.method = m) {rest : List Value} (hs : g.stack = .int j :: .ref a :: rest) (hd : decode c.code g.pc = .ok (.aaload, 1)) (t : State) (kk : Steps p.tables e below (T.setTop { g with pc := g.pc + 1, stack := v :: rest }) t) : Steps p.tables e below (T.setTop g) t := by
  obtain ⟨cl, A, -, S, -, H, -⟩ := V
  have hin := own_idx S q1 q2
  exact X.aaload hx (j := j) (v := v) (by rw [eT]; exact A.1) (State.isArrayOf_alike hZ.alike A.2.1) hty A.2.2 hin (H.at hin hv) (g := g) hg hs hd _ kk
theorem own_len (X : Stand p l e R s m args below meth c T locs cells slots) (hx : p.tables.exec = Jvm.exec) (hZ : Z.Warmed39 s.vm) (eT : T.heap = h) {k : ClassId} {n : Int32} {vs : List Value} {d : Value} {ty : FieldType} (V : Arv Z h a k ty n vs d) {g : JFrame} (hg : g.method = m) {rest : List Value} (hs : g.stack = .ref a :: rest) (hd : decode c.code g.pc = .ok (.arraylength, 1)) (t : State) (kk : Steps p.tables e below (T.setTop { g with pc := g.pc + 1, stack := .int n :: rest }) t) : Steps p.tables e below (T.setTop g) t := by
  obtain ⟨cl, A, -, S, N, -, -⟩ := V
  refine X.arraylength hx (by rw [eT]; exact A.1) (State.isArrayOf_alike hZ.alike A.2.1) (g := g) hg hs hd _ ?_
  rw [len_of S N]
  exact kk
theorem own_stI (X : Stand p l e R s m args below meth c T locs cells slots) (hx : p.tables.exec = Jvm.exec) (hZ : Z.Warmed39 s.vm) (eT : T.heap = h) {k : ClassId} {n : Int32} {vs : List Value} {d : Value} (V : Arv Z h a k .int n vs d) {j x : Int32} (q1 : ¬ j < 0) (q2 : j < n) (i : Nat) (hi : j.toNatClampNeg = i) (hl : i < vs.length) {g : JFrame} (hg : g.method = m) {rest : List Value} (hs : g.stack = .int x :: .int j :: .ref a :: rest) (hd : decode c.code g.pc = .ok (.iastore, 1)) :
    ∃ T' h', Stand p l e R s m args below meth c T' (locs ++ [⟨a, j.toNatClampNeg⟩]) cells slots ∧ T'.heap = h' ∧ Wr h h' a j.toNatClampNeg (.int x) ∧ Arv Z h' a k .int n (vs.set i (.int x)) d ∧ ∀ t, Steps p.tables e below (T'.setTop { g with pc := g.pc + 1, stack := rest }) t → Steps p.tables e below (T.setTop g) t := by
  obtain ⟨cl, A, q, S, N, H, G⟩ := V
  obtain ⟨T', h', X', e', W', st⟩ := stI X hx hZ eT A (own_idx S q1 q2) (g := g) hg hs hd
  exact ⟨T', h', X', e', W', Arv.set A q S N H G rfl W' i hi hl, st⟩
theorem own_stJ (X : Stand p l e R s m args below meth c T locs cells slots) (hx : p.tables.exec = Jvm.exec) (hZ : Z.Warmed39 s.vm) (eT : T.heap = h) {k : ClassId} {n : Int32} {vs : List Value} {d : Value} (V : Arv Z h a k .long n vs d) {j : Int32} {x : Int64} (q1 : ¬ j < 0) (q2 : j < n) (i : Nat) (hi : j.toNatClampNeg = i) (hl : i < vs.length) {g : JFrame} (hg : g.method = m) {rest : List Value} (hs : g.stack = .long x :: .int j :: .ref a :: rest) (hd : decode c.code g.pc = .ok (.lastore, 1)) :
    ∃ T' h', Stand p l e R s m args below meth c T' (locs ++ [⟨a, j.toNatClampNeg⟩]) cells slots ∧ T'.heap = h' ∧ Wr h h' a j.toNatClampNeg (.long x) ∧ Arv Z h' a k .long n (vs.set i (.long x)) d ∧ ∀ t, Steps p.tables e below (T'.setTop { g with pc := g.pc + 1, stack := rest }) t → Steps p.tables e below (T.setTop g) t := by
  obtain ⟨cl, A, q, S, N, H, G⟩ := V
  obtain ⟨T', h', X', e', W', st⟩ := stJ X hx hZ eT A (own_idx S q1 q2) (g := g) hg hs hd
  exact ⟨T', h', X', e', W', Arv.set A q S N H G rfl W' i hi hl, st⟩
theorem own_stC (X : Stand p l e R s m args below meth c T locs cells slots) (hx : p.tables.exec = Jvm.exec) (hZ : Z.Warmed39 s.vm) (eT : T.heap = h) {k : ClassId} {n : Int32} {vs : List Value} {d : Value} (V : Arv Z h a k .char n vs d) {j x : Int32} (q1 : ¬ j < 0) (q2 : j < n) (i : Nat) (hi : j.toNatClampNeg = i) (hl : i < vs.length) {g : JFrame} (hg : g.method = m) {rest : List Value} (hs : g.stack = .int x :: .int j :: .ref a :: rest) (hd : decode c.code g.pc = .ok (.castore, 1)) :
    ∃ T' h', Stand p l e R s m args below meth c T' (locs ++ [⟨a, j.toNatClampNeg⟩]) cells slots ∧ T'.heap = h' ∧ Wr h h' a j.toNatClampNeg (.int (nar .char x)) ∧ Arv Z h' a k .char n (vs.set i (.int (nar .char x))) d ∧ ∀ t, Steps p.tables e below (T'.setTop { g with pc := g.pc + 1, stack := rest }) t → Steps p.tables e below (T.setTop g) t := by
  obtain ⟨cl, A, q, S, N, H, G⟩ := V
  obtain ⟨T', h', X', e', W', st⟩ := stC X hx hZ eT A (own_idx S q1 q2) (g := g) hg hs hd
  exact ⟨T', h', X', e', W', Arv.set A q S N H G (fits_nar_char _) W' i hi hl, st⟩
theorem own_stB (X : Stand p l e R s m args below meth c T locs cells slots) (hx : p.tables.exec = Jvm.exec) (hZ : Z.Warmed39 s.vm) (eT : T.heap = h) {k : ClassId} {n : Int32} {vs : List Value} {d : Value} (V : Arv Z h a k .byte n vs d) {j x : Int32} (q1 : ¬ j < 0) (q2 : j < n) (i : Nat) (hi : j.toNatClampNeg = i) (hl : i < vs.length) {g : JFrame} (hg : g.method = m) {rest : List Value} (hs : g.stack = .int x :: .int j :: .ref a :: rest) (hd : decode c.code g.pc = .ok (.bastore, 1)) :
    ∃ T' h', Stand p l e R s m args below meth c T' (locs ++ [⟨a, j.toNatClampNeg⟩]) cells slots ∧ T'.heap = h' ∧ Wr h h' a j.toNatClampNeg (.int (nar .byte x)) ∧ Arv Z h' a k .byte n (vs.set i (.int (nar .byte x))) d ∧ ∀ t, Steps p.tables e below (T'.setTop { g with pc := g.pc + 1, stack := rest }) t → Steps p.tables e below (T.setTop g) t := by
  obtain ⟨cl, A, q, S, N, H, G⟩ := V
  obtain ⟨T', h', X', e', W', st⟩ := stB X hx hZ eT A (own_idx S q1 q2) (g := g) hg hs hd
  exact ⟨T', h', X', e', W', Arv.set A q S N H G (fits_nar_byte _) W' i hi hl, st⟩
theorem own_stZ (X : Stand p l e R s m args below meth c T locs cells slots) (hx : p.tables.exec = Jvm.exec) (hZ : Z.Warmed39 s.vm) (eT : T.heap = h) {k : ClassId} {n : Int32} {vs : List Value} {d : Value} (V : Arv Z h a k .boolean n vs d) {j x : Int32} (q1 : ¬ j < 0) (q2 : j < n) (i : Nat) (hi : j.toNatClampNeg = i) (hl : i < vs.length) {g : JFrame} (hg : g.method = m) {rest : List Value} (hs : g.stack = .int x :: .int j :: .ref a :: rest) (hd : decode c.code g.pc = .ok (.bastore, 1)) :
    ∃ T' h', Stand p l e R s m args below meth c T' (locs ++ [⟨a, j.toNatClampNeg⟩]) cells slots ∧ T'.heap = h' ∧ Wr h h' a j.toNatClampNeg (.int (nar .boolean x)) ∧ Arv Z h' a k .boolean n (vs.set i (.int (nar .boolean x))) d ∧ ∀ t, Steps p.tables e below (T'.setTop { g with pc := g.pc + 1, stack := rest }) t → Steps p.tables e below (T.setTop g) t := by
  obtain ⟨cl, A, q, S, N, H, G⟩ := V
  obtain ⟨T', h', X', e', W', st⟩ := stZ X hx hZ eT A (own_idx S q1 q2) (g := g) hg hs hd
  exact ⟨T', h', X', e', W', Arv.set A q S N H G (fits_nar_bool _) W' i hi hl, st⟩
theorem own_old {n0 : Nat} (O : Old Z n0 h) : n0 ≤ h.size := O.1 ▸ O.2.1
theorem own_res {z z' y : Int32} (hq : y = z') (hz : z = z') : some (Value.int z) = some (Value.int y) := by rw [hq, hz]
theorem own_resJ {z z' y : Int64} (hq : y = z') (hz : z = z') : some (Value.long z) = some (Value.long y) := by rw [hq, hz]
theorem own_narR {v : Value} {t : FieldType} (q : v.isRef = true) (r : t.isReference = true := by rfl) : narrow t v = v := by
  rcases ref_cases q with rfl | ⟨_, rfl⟩ <;> cases t <;> first | rfl | (simp [FieldType.isReference] at r)
theorem own_fitR {v : Value} {t : FieldType} (q : v.isRef = true) (r : t.isReference = true := by rfl) : fits t v = true := by
  rcases ref_cases q with rfl | ⟨_, rfl⟩ <;> cases t <;> first | rfl | (simp [FieldType.isReference] at r)
theorem own_fld {ar : Array Value} {t : Term} {x : Addr} {C n d : String} {k : Int32} (ht : t.eval ar s none [] s = some (.ref x)) (q : (Jvm.Cond.eq (.field t C n d) (.int k)).value ar s none s [] = some true) : Fld s s.heap x C n d (.int k) := by
  obtain ⟨u, w, e1, e2, -, k2⟩ := cmp_v (Or.inl q)
  have e3 : (Term.int k).eval ar s none [] s = some (.int k) := Term.int_eval k
  rw [e3] at e2
  obtain rfl := Option.some.inj e2
  obtain ⟨z, rfl⟩ := k2
  have e4 : z = k := gotT (Cond.eq_ints e1 e3) q
  subst e4
  rw [fld_at ht] at e1
  exact Fld.start e1
theorem own_neI {u w : Int32} (q : u ≠ w) : Value.int u ≠ Value.int w := fun z => q (Value.int.inj z)
theorem own_stR (X : Stand p l e R s m args below meth c T locs cells slots) (hx : p.tables.exec = Jvm.exec) (hZ : Z.Warmed39 s.vm) (eT : T.heap = h) {k : ClassId} {n : Int32} {vs : List Value} {d : Value} {ty : FieldType} {C : String} (V : Arv Z h a k ty n vs d) (hty : ty.isReference = true) (O : Ovr Z k C) {y : Addr} (I : Ins Z h y C true) {j : Int32} (q1 : ¬ j < 0) (q2 : j < n) (i : Nat) (hi : j.toNatClampNeg = i) (hl : i < vs.length) {g : JFrame} (hg : g.method = m) {rest : List Value} (hs : g.stack = .ref y :: .int j :: .ref a :: rest) (hd : decode c.code g.pc = .ok (.aastore, 1)) :
    ∃ T' h', Stand p l e R s m args below meth c T' (locs ++ [⟨a, j.toNatClampNeg⟩]) cells slots ∧ T'.heap = h' ∧ Wr h h' a j.toNatClampNeg (.ref y) ∧ Arv Z h' a k ty n (vs.set i (.ref y)) d ∧ ∀ t, Steps p.tables e below (T'.setTop { g with pc := g.pc + 1, stack := rest }) t → Steps p.tables e below (T.setTop g) t := by
  obtain ⟨cl, A, q, S, N, H, G⟩ := V
  obtain ⟨T', h', X', e', W', st⟩ := stR X hx hZ eT A (own_idx S q1 q2) hty (Sto.ofV A q O I) (g := g) hg hs hd
  exact ⟨T', h', X', e', W', Arv.set A q S N H G (own_fitR rfl hty) W' i hi hl, st⟩
theorem own_dupx2 (X : Stand p l e R s m args below meth c T locs cells slots) (hx : p.tables.exec = Jvm.exec) {g : JFrame} (hg : g.method = m) {x y z : Value} {rest : List Value} (hd : decode c.code g.pc = .ok (.dup_x2, 1)) (hs : g.stack = x :: y :: z :: rest) (hc : x.category = 1) (hc' : y.category = 1) (hc'' : z.category = 1) (t : State) (kk : Steps p.tables e below (T.setTop { g with pc := g.pc + 1, stack := x :: y :: z :: x :: rest }) t) : Steps p.tables e below (T.setTop g) t := by
  subst hg
  jvm_step X.here [X.here.top, hx, hd, dup_x2.wp_sem, hs, hc, hc', hc'']
  exact kk
end OwnKit
theorem own_lt (x y : Int32) : (x < y) = (x.toInt < y.toInt) := propext Int32.lt_iff_toInt_lt
theorem own_eq (x y : Int32) : (x = y) = (x.toInt = y.toInt) := propext Int32.toInt_inj.symm
theorem dmn_0 : decode jdk_29_method_70_code 0 = .ok (.lload_n 0, 1) := by decide +kernel
theorem dmn_1 : decode jdk_29_method_70_code 1 = .ok (.lload_n 2, 1) := by decide +kernel
theorem dmn_2 : decode jdk_29_method_70_code 2 = .ok (.lcmp, 1) := by decide +kernel
theorem dmn_3 : decode jdk_29_method_70_code 3 = .ok (.ifCond .gt 7, 3) := by decide +kernel
theorem dmn_6 : decode jdk_29_method_70_code 6 = .ok (.lload_n 0, 1) := by decide +kernel
theorem dmn_7 : decode jdk_29_method_70_code 7 = .ok (.goto 4, 3) := by decide +kernel
theorem dmn_10 : decode jdk_29_method_70_code 10 = .ok (.lload_n 2, 1) := by decide +kernel
theorem dmn_11 : decode jdk_29_method_70_code 11 = .ok (.lreturn, 1) := by decide +kernel
theorem efmn (m : MethodId) (x0 : Int64) (x1 : Int64) : entryFrame m #[(.long x0), (.long x1)] 4 = mkF m 0 #[.val (.long x0), .second, .val (.long x1), .second] [] := by first | (simp [entryFrame, mkF, argsToLocals, Value.category, maxLocals]; done) | rfl
def fMin (p0 : Int64) (p1 : Int64) : Int64 := (if p1 < p0 then p1 else p0)
def Qmn (Z : State) (p0 : Int64) (p1 : Int64) (h0 : Heap) (n0 : Nat) (v : Option Value) (h : Heap) (L : List Loc) : Prop := v = some (.long (fMin p0 p1)) ∧ Fr n0 L ∧ h = h0
set_option maxRecDepth 65536 in
set_option maxHeartbeats 40000000 in
theorem rmmn (l : Launch) (Z : State) (a0 : Array Value) (hw : ∀ d ∈ tables_1, d.before a0 Z = true) (ws : List Jvm.Cond) (p0 : Int64) (p1 : Int64) (h0 : Heap) (n0 : Nat) (O0 : Old Z n0 h0)  :
    MetFree l (⟨"java/lang/Math", "min", "(JJ)J"⟩ : MethodName) (head1 (Jvm.Cond.code (⟨"java/lang/Math", "min", "(JJ)J"⟩ : MethodName) jdk_29_method_70_code 4 (some .long) :: ws) ({ frames := 0, cells := 0, slots := 0, locals := 0 } : Room)) (fun A_ U_ => A_ = #[(.long p0), (.long p1)] ∧ Z.Warmed39 U_.vm ∧ U_.heap = h0) (fun _ _ _ _ _ => True) (fun _ U o U' => ∃ v L, o = .returned v ∧ Qmn Z p0 p1 h0 n0 v U'.heap L ∧ FrameEnd U o U' L ({ frames := 0, cells := 0, slots := 0, locals := 0 } : Room).cells ({ frames := 0, cells := 0, slots := 0, locals := 0 } : Room).slots) := by
  refine MetFree.of_bodySF (by decide +kernel) hisR ?_
  intro p e s m args below meth cd s₁ Bd hml0 hP hK
  obtain ⟨rfl, hZ, hh⟩ := hP
  have hx := Bd.exec
  have hby := Bd.bytes
  have hlk : meth.locks = false := BodyLoose.notSynchronized Bd
  have hml : cd.maxLocals = 4 := hml0
  have hown : s.vm.findClass "java/lang/Math" = some m.cls := findClass_of_methodNamed Bd.named
  have hnm := (name_of_methodNamed Bd.named Bd.method).1
  have X0 : Stand p l e ({ frames := 0, cells := 0, slots := 0, locals := 0 } : Room) s m #[(.long p0), (.long p1)] below meth cd s₁ [] 0 0 := Stand.of_body Bd
  have e0 : s₁.heap = h0 := by rw [← hh, Bd.state]; rfl
  have N0 := Fr.nil n0
  have G : Go p e below s 0 0 (Qmn Z p0 p1 h0 n0) (s₁.setTop (mkF m 0 #[.val (.long p0), .second, .val (.long p1), .second] [])) := by
    show Go p e below s _ _ _ (s₁.setTop (mkF m 0 #[.val (.long p0), .second, .val (.long p1), .second] []))
    refine Go.st (fun _ kq_ => XT.lloadN X0.here hx rfl (hb hby dmn_0) rfl kq_) ?_
    show Go p e below s _ _ _ (s₁.setTop (mkF m 1 #[.val (.long p0), .second, .val (.long p1), .second] [(.long p0)]))
    refine Go.st (fun _ kq_ => XT.lloadN X0.here hx rfl (hb hby dmn_1) rfl kq_) ?_
    show Go p e below s _ _ _ (s₁.setTop (mkF m 2 #[.val (.long p0), .second, .val (.long p1), .second] [(.long p1), (.long p0)]))
    refine Go.st (fun _ kq_ => XT.lcmp X0.here hx rfl (hb hby dmn_2) rfl kq_) ?_
    show Go p e below s _ _ _ (s₁.setTop (mkF m 3 #[.val (.long p0), .second, .val (.long p1), .second] [(.int (XT.cmpL p0 p1))]))
    by_cases c3_1 : p1 < p0
    · refine Go.st (fun _ kq_ => XS.ifYes X0.here hx rfl (pc0 := 3) (pc' := 10) rfl (hb hby dmn_3) rfl (XT.ll_gt_t c3_1) (by decide) (by decide) kq_) ?_
      show Go p e below s _ _ _ (s₁.setTop (mkF m 10 #[.val (.long p0), .second, .val (.long p1), .second] []))
      refine Go.st (fun _ kq_ => XT.lloadN X0.here hx rfl (hb hby dmn_10) rfl kq_) ?_
      show Go p e below s _ _ _ (s₁.setTop (mkF m 11 #[.val (.long p0), .second, .val (.long p1), .second] [(.long p1)]))
      exact Go.ret X0 hlk (some (.long p1)) (fun h => by rw [Bd.returns] at h; cases h) (by rw [e0]; exact ⟨own_resJ (z' := p1) (by unfold fMin; rw [if_pos c3_1]) rfl, N0, rfl⟩) (by decide) (by decide) (fun fs hr => retOut X0 hx Bd.returns rfl (Or.inr (Or.inl ⟨rfl, rfl, _, rfl⟩)) (hb hby dmn_11) hr)
    · refine Go.st (fun _ kq_ => XS.ifNo X0.here hx rfl (hb hby dmn_3) rfl (XT.ll_gt_f c3_1) kq_) ?_
      show Go p e below s _ _ _ (s₁.setTop (mkF m 6 #[.val (.long p0), .second, .val (.long p1), .second] []))
      refine Go.st (fun _ kq_ => XT.lloadN X0.here hx rfl (hb hby dmn_6) rfl kq_) ?_
      show Go p e below s _ _ _ (s₁.setTop (mkF m 7 #[.val (.long p0), .second, .val (.long p1), .second] [(.long p0)]))
      refine Go.st (fun _ kq_ => XS.goto X0.here hx rfl (pc0 := 7) (pc' := 11) rfl (hb hby dmn_7) (by decide) (by decide) kq_) ?_
      show Go p e below s _ _ _ (s₁.setTop (mkF m 11 #[.val (.long p0), .second, .val (.long p1), .second] [(.long p0)]))
      exact Go.ret X0 hlk (some (.long p0)) (fun h => by rw [Bd.returns] at h; cases h) (by rw [e0]; exact ⟨own_resJ (z' := p0) (by unfold fMin; rw [if_neg c3_1]) rfl, N0, rfl⟩) (by decide) (by decide) (fun fs hr => retOut X0 hx Bd.returns rfl (Or.inr (Or.inl ⟨rfl, rfl, _, rfl⟩)) (hb hby dmn_11) hr)
  obtain ⟨s2, o2, st2, r2⟩ := G
  exact ⟨s2, o2, castTop (efmn m p0 p1) st2, r2⟩
theorem dmx_0 : decode jdk_29_method_66_code 0 = .ok (.lload_n 0, 1) := by decide +kernel
theorem dmx_1 : decode jdk_29_method_66_code 1 = .ok (.lload_n 2, 1) := by decide +kernel
theorem dmx_2 : decode jdk_29_method_66_code 2 = .ok (.lcmp, 1) := by decide +kernel
theorem dmx_3 : decode jdk_29_method_66_code 3 = .ok (.ifCond .lt 7, 3) := by decide +kernel
theorem dmx_6 : decode jdk_29_method_66_code 6 = .ok (.lload_n 0, 1) := by decide +kernel
theorem dmx_7 : decode jdk_29_method_66_code 7 = .ok (.goto 4, 3) := by decide +kernel
theorem dmx_10 : decode jdk_29_method_66_code 10 = .ok (.lload_n 2, 1) := by decide +kernel
theorem dmx_11 : decode jdk_29_method_66_code 11 = .ok (.lreturn, 1) := by decide +kernel
theorem efmx (m : MethodId) (x0 : Int64) (x1 : Int64) : entryFrame m #[(.long x0), (.long x1)] 4 = mkF m 0 #[.val (.long x0), .second, .val (.long x1), .second] [] := by first | (simp [entryFrame, mkF, argsToLocals, Value.category, maxLocals]; done) | rfl
def fMax (p0 : Int64) (p1 : Int64) : Int64 := (if p0 < p1 then p1 else p0)
def Qmx (Z : State) (p0 : Int64) (p1 : Int64) (h0 : Heap) (n0 : Nat) (v : Option Value) (h : Heap) (L : List Loc) : Prop := v = some (.long (fMax p0 p1)) ∧ Fr n0 L ∧ h = h0
set_option maxRecDepth 65536 in
set_option maxHeartbeats 40000000 in
theorem rmmx (l : Launch) (Z : State) (a0 : Array Value) (hw : ∀ d ∈ tables_1, d.before a0 Z = true) (ws : List Jvm.Cond) (p0 : Int64) (p1 : Int64) (h0 : Heap) (n0 : Nat) (O0 : Old Z n0 h0)  :
    MetFree l (⟨"java/lang/Math", "max", "(JJ)J"⟩ : MethodName) (head1 (Jvm.Cond.code (⟨"java/lang/Math", "max", "(JJ)J"⟩ : MethodName) jdk_29_method_66_code 4 (some .long) :: ws) ({ frames := 0, cells := 0, slots := 0, locals := 0 } : Room)) (fun A_ U_ => A_ = #[(.long p0), (.long p1)] ∧ Z.Warmed39 U_.vm ∧ U_.heap = h0) (fun _ _ _ _ _ => True) (fun _ U o U' => ∃ v L, o = .returned v ∧ Qmx Z p0 p1 h0 n0 v U'.heap L ∧ FrameEnd U o U' L ({ frames := 0, cells := 0, slots := 0, locals := 0 } : Room).cells ({ frames := 0, cells := 0, slots := 0, locals := 0 } : Room).slots) := by
  refine MetFree.of_bodySF (by decide +kernel) hisR ?_
  intro p e s m args below meth cd s₁ Bd hml0 hP hK
  obtain ⟨rfl, hZ, hh⟩ := hP
  have hx := Bd.exec
  have hby := Bd.bytes
  have hlk : meth.locks = false := BodyLoose.notSynchronized Bd
  have hml : cd.maxLocals = 4 := hml0
  have hown : s.vm.findClass "java/lang/Math" = some m.cls := findClass_of_methodNamed Bd.named
  have hnm := (name_of_methodNamed Bd.named Bd.method).1
  have X0 : Stand p l e ({ frames := 0, cells := 0, slots := 0, locals := 0 } : Room) s m #[(.long p0), (.long p1)] below meth cd s₁ [] 0 0 := Stand.of_body Bd
  have e0 : s₁.heap = h0 := by rw [← hh, Bd.state]; rfl
  have N0 := Fr.nil n0
  have G : Go p e below s 0 0 (Qmx Z p0 p1 h0 n0) (s₁.setTop (mkF m 0 #[.val (.long p0), .second, .val (.long p1), .second] [])) := by
    show Go p e below s _ _ _ (s₁.setTop (mkF m 0 #[.val (.long p0), .second, .val (.long p1), .second] []))
    refine Go.st (fun _ kq_ => XT.lloadN X0.here hx rfl (hb hby dmx_0) rfl kq_) ?_
    show Go p e below s _ _ _ (s₁.setTop (mkF m 1 #[.val (.long p0), .second, .val (.long p1), .second] [(.long p0)]))
    refine Go.st (fun _ kq_ => XT.lloadN X0.here hx rfl (hb hby dmx_1) rfl kq_) ?_
    show Go p e below s _ _ _ (s₁.setTop (mkF m 2 #[.val (.long p0), .second, .val (.long p1), .second] [(.long p1), (.long p0)]))
    refine Go.st (fun _ kq_ => XT.lcmp X0.here hx rfl (hb hby dmx_2) rfl kq_) ?_
    show Go p e below s _ _ _ (s₁.setTop (mkF m 3 #[.val (.long p0), .second, .val (.long p1), .second] [(.int (XT.cmpL p0 p1))]))
    by_cases c3_1 : p0 < p1
    · refine Go.st (fun _ kq_ => XS.ifYes X0.here hx rfl (pc0 := 3) (pc' := 10) rfl (hb hby dmx_3) rfl (XT.ll_lt_t c3_1) (by decide) (by decide) kq_) ?_
      show Go p e below s _ _ _ (s₁.setTop (mkF m 10 #[.val (.long p0), .second, .val (.long p1), .second] []))
      refine Go.st (fun _ kq_ => XT.lloadN X0.here hx rfl (hb hby dmx_10) rfl kq_) ?_
      show Go p e below s _ _ _ (s₁.setTop (mkF m 11 #[.val (.long p0), .second, .val (.long p1), .second] [(.long p1)]))
      exact Go.ret X0 hlk (some (.long p1)) (fun h => by rw [Bd.returns] at h; cases h) (by rw [e0]; exact ⟨own_resJ (z' := p1) (by unfold fMax; rw [if_pos c3_1]) rfl, N0, rfl⟩) (by decide) (by decide) (fun fs hr => retOut X0 hx Bd.returns rfl (Or.inr (Or.inl ⟨rfl, rfl, _, rfl⟩)) (hb hby dmx_11) hr)
    · refine Go.st (fun _ kq_ => XS.ifNo X0.here hx rfl (hb hby dmx_3) rfl (XT.ll_lt_f c3_1) kq_) ?_
      show Go p e below s _ _ _ (s₁.setTop (mkF m 6 #[.val (.long p0), .second, .val (.long p1), .second] []))
      refine Go.st (fun _ kq_ => XT.lloadN X0.here hx rfl (hb hby dmx_6) rfl kq_) ?_
      show Go p e below s _ _ _ (s₁.setTop (mkF m 7 #[.val (.long p0), .second, .val (.long p1), .second] [(.long p0)]))
      refine Go.st (fun _ kq_ => XS.goto X0.here hx rfl (pc0 := 7) (pc' := 11) rfl (hb hby dmx_7) (by decide) (by decide) kq_) ?_
      show Go p e below s _ _ _ (s₁.setTop (mkF m 11 #[.val (.long p0), .second, .val (.long p1), .second] [(.long p0)]))
      exact Go.ret X0 hlk (some (.long p0)) (fun h => by rw [Bd.returns] at h; cases h) (by rw [e0]; exact ⟨own_resJ (z' := p0) (by unfold fMax; rw [if_neg c3_1]) rfl, N0, rfl⟩) (by decide) (by decide) (fun fs hr => retOut X0 hx Bd.returns rfl (Or.inr (Or.inl ⟨rfl, rfl, _, rfl⟩)) (hb hby dmx_11) hr)
  obtain ⟨s2, o2, st2, r2⟩ := G
  exact ⟨s2, o2, castTop (efmx m p0 p1) st2, r2⟩
theorem dwi_0 : decode jdk_92_method_1_code 0 = .ok (.iload_n 0, 1) := by decide +kernel
theorem dwi_1 : decode jdk_92_method_1_code 1 = .ok (.bipush 6, 2) := by decide +kernel
theorem dwi_3 : decode jdk_92_method_1_code 3 = .ok (.ishr, 1) := by decide +kernel
theorem dwi_4 : decode jdk_92_method_1_code 4 = .ok (.ireturn, 1) := by decide +kernel
theorem pnwi : plainName "java/util/BitSet" = true := by first | (simp [plainName, overriddenIn]; done) | decide +kernel
theorem efwi (m : MethodId) (x0 : Int32) : entryFrame m #[(.int x0)] 1 = mkF m 0 #[.val (.int x0)] [] := by first | (simp [entryFrame, mkF, argsToLocals, Value.category, maxLocals]; done) | rfl
def fWi (p0 : Int32) : Int32 := (p0 >>> ((6 : Int32) &&& 31))
def Qwi (Z : State) (p0 : Int32) (h0 : Heap) (n0 : Nat) (v : Option Value) (h : Heap) (L : List Loc) : Prop := v = some (.int (fWi p0)) ∧ Fr n0 L ∧ h = h0
set_option maxRecDepth 65536 in
set_option maxHeartbeats 40000000 in
theorem rmwi (l : Launch) (Z : State) (a0 : Array Value) (hw : ∀ d ∈ tables_1, d.before a0 Z = true) (ws : List Jvm.Cond) (p0 : Int32) (h0 : Heap) (n0 : Nat) (O0 : Old Z n0 h0)  :
    MetFree l (⟨"java/util/BitSet", "wordIndex", "(I)I"⟩ : MethodName) (head1 (Jvm.Cond.code (⟨"java/util/BitSet", "wordIndex", "(I)I"⟩ : MethodName) jdk_92_method_1_code 1 (some .int) :: ws) ({ frames := 0, cells := 0, slots := 0, locals := 0 } : Room)) (fun A_ U_ => A_ = #[(.int p0)] ∧ Z.Warmed39 U_.vm ∧ U_.heap = h0) (fun _ _ _ _ _ => True) (fun _ U o U' => ∃ v L, o = .returned v ∧ Qwi Z p0 h0 n0 v U'.heap L ∧ FrameEnd U o U' L ({ frames := 0, cells := 0, slots := 0, locals := 0 } : Room).cells ({ frames := 0, cells := 0, slots := 0, locals := 0 } : Room).slots) := by
  refine MetFree.of_bodySF (plainFor_of_name pnwi) hisR ?_
  intro p e s m args below meth cd s₁ Bd hml0 hP hK
  obtain ⟨rfl, hZ, hh⟩ := hP
  have hx := Bd.exec
  have hby := Bd.bytes
  have hlk : meth.locks = false := BodyLoose.notSynchronized Bd
  have hml : cd.maxLocals = 1 := hml0
  have hown : s.vm.findClass "java/util/BitSet" = some m.cls := findClass_of_methodNamed Bd.named
  have hnm := (name_of_methodNamed Bd.named Bd.method).1
  have X0 : Stand p l e ({ frames := 0, cells := 0, slots := 0, locals := 0 } : Room) s m #[(.int p0)] below meth cd s₁ [] 0 0 := Stand.of_body Bd
  have e0 : s₁.heap = h0 := by rw [← hh, Bd.state]; rfl
  have N0 := Fr.nil n0
  have G : Go p e below s 0 0 (Qwi Z p0 h0 n0) (s₁.setTop (mkF m 0 #[.val (.int p0)] [])) := by
    show Go p e below s _ _ _ (s₁.setTop (mkF m 0 #[.val (.int p0)] []))
    refine Go.st (fun _ kq_ => XS.iloadN X0.here hx rfl (hb hby dwi_0) rfl kq_) ?_
    show Go p e below s _ _ _ (s₁.setTop (mkF m 1 #[.val (.int p0)] [(.int p0)]))
    refine Go.st (fun _ kq_ => XS.bipush X0.here hx rfl (hb hby dwi_1) kq_) ?_
    show Go p e below s _ _ _ (s₁.setTop (mkF m 3 #[.val (.int p0)] [(.int (6 : Int32)), (.int p0)]))
    refine Go.st (fun _ kq_ => XT.ishr X0.here hx rfl (hb hby dwi_3) rfl kq_) ?_
    show Go p e below s _ _ _ (s₁.setTop (mkF m 4 #[.val (.int p0)] [(.int (p0 >>> ((6 : Int32) &&& 31)))]))
    exact Go.ret X0 hlk (some (.int (p0 >>> ((6 : Int32) &&& 31)))) (fun h => by rw [Bd.returns] at h; cases h) (by rw [e0]; exact ⟨own_res (z' := (p0 >>> ((6 : Int32) &&& 31))) rfl rfl, N0, rfl⟩) (by decide) (by decide) (fun fs hr => retI X0 hx Bd.returns (hb hby dwi_4) hr)
  obtain ⟨s2, o2, st2, r2⟩ := G
  exact ⟨s2, o2, castTop (efwi m p0) st2, r2⟩
theorem diw_0 : decode jdk_92_method_6_code 0 = .ok (.aload_n 0, 1) := by decide +kernel
theorem diw_1 : decode jdk_92_method_6_code 1 = .ok (.iload_n 1, 1) := by decide +kernel
theorem diw_2 : decode jdk_92_method_6_code 2 = .ok (.iconst 1, 1) := by decide +kernel
theorem diw_3 : decode jdk_92_method_6_code 3 = .ok (.isub, 1) := by decide +kernel
theorem diw_4 : decode jdk_92_method_6_code 4 = .ok (.invokestatic 52, 3) := by decide +kernel
theorem diw_7 : decode jdk_92_method_6_code 7 = .ok (.iconst 1, 1) := by decide +kernel
theorem diw_8 : decode jdk_92_method_6_code 8 = .ok (.iadd, 1) := by decide +kernel
theorem diw_9 : decode jdk_92_method_6_code 9 = .ok (.newarray .long, 2) := by decide +kernel
theorem diw_11 : decode jdk_92_method_6_code 11 = .ok (.putfield 11, 3) := by decide +kernel
theorem diw_14 : decode jdk_92_method_6_code 14 = .ok (.return_, 1) := by decide +kernel
theorem pdiw_0 : parseMethodDescriptor "(I)I" = some ⟨[.int], some .int⟩ := by decide +kernel
theorem pniw : plainName "java/util/BitSet" = true := by first | (simp [plainName, overriddenIn]; done) | decide +kernel
theorem efiw (m : MethodId) (x0 : Addr) (x1 : Int32) : entryFrame m #[(.ref x0), (.int x1)] 2 = mkF m 0 #[.val (.ref x0), .val (.int x1)] [] := by first | (simp [entryFrame, mkF, argsToLocals, Value.category, maxLocals]; done) | rfl
def Qiw (Z : State) (a : Addr) (h0 : Heap) (n0 : Nat) (v : Option Value) (h : Heap) (L : List Loc) : Prop := ∃ (r : Addr) (kr : ClassId), v = none ∧ Fr n0 L ∧ Keep h0 h [a] ∧ n0 ≤ r ∧ h0.size ≤ r ∧ Exa Z h a "java/util/BitSet" ∧ Fld Z h a "java/util/BitSet" "wordsInUse" "I" (.int (0 : Int32)) ∧ Fld Z h a "java/util/BitSet" "sizeIsSticky" "Z" (.int (0 : Int32)) ∧ Fld Z h a "java/util/BitSet" "words" "[J" (.ref r) ∧ Arv Z h r kr .long (1 : Int32) [(.long (0 : Int64))] (.long (0 : Int64))
set_option maxRecDepth 65536 in
set_option maxHeartbeats 40000000 in
theorem rmiw (l : Launch) (Z : State) (a0 : Array Value) (hw : ∀ d ∈ tables_1, d.before a0 Z = true) (ws : List Jvm.Cond) (a : Addr) (h0 : Heap) (n0 : Nat) (O0 : Old Z n0 h0) (E_a : Exa Z h0 a "java/util/BitSet") (F_a_wordsInUse : Fld Z h0 a "java/util/BitSet" "wordsInUse" "I" (.int (0 : Int32))) (F_a_sizeIsSticky : Fld Z h0 a "java/util/BitSet" "sizeIsSticky" "Z" (.int (0 : Int32))) (F_a_words : Fld Z h0 a "java/util/BitSet" "words" "[J" .null) (ga : n0 ≤ a) :
    MetFree l (⟨"java/util/BitSet", "initWords", "(I)V"⟩ : MethodName) (head1 (Jvm.Cond.code (⟨"java/util/BitSet", "initWords", "(I)V"⟩ : MethodName) jdk_92_method_6_code 2 none :: ws) ({ frames := 1, cells := 1, slots := 1, locals := 13 } : Room)) (fun A_ U_ => A_ = #[(.ref a), (.int (64 : Int32))] ∧ Z.Warmed39 U_.vm ∧ U_.heap = h0) (fun _ _ _ _ _ => True) (fun _ U o U' => ∃ v L, o = .returned v ∧ Qiw Z a h0 n0 v U'.heap L ∧ FrameEnd U o U' L ({ frames := 1, cells := 1, slots := 1, locals := 13 } : Room).cells ({ frames := 1, cells := 1, slots := 1, locals := 13 } : Room).slots) := by
  refine MetFree.of_bodySF (plainFor_of_name pniw) hisR ?_
  intro p e s m args below meth cd s₁ Bd hml0 hP hK
  obtain ⟨rfl, hZ, hh⟩ := hP
  have hx := Bd.exec
  have hby := Bd.bytes
  have hlk : meth.locks = false := BodyLoose.notSynchronized Bd
  have hml : cd.maxLocals = 2 := hml0
  have hown : s.vm.findClass "java/util/BitSet" = some m.cls := findClass_of_methodNamed Bd.named
  have hnm := (name_of_methodNamed Bd.named Bd.method).1
  have X0 : Stand p l e ({ frames := 1, cells := 1, slots := 1, locals := 13 } : Room) s m #[(.ref a), (.int (64 : Int32))] below meth cd s₁ [] 0 0 := Stand.of_body Bd
  have e0 : s₁.heap = h0 := by rw [← hh, Bd.state]; rfl
  have N0 := Fr.nil n0
  have K0 : Keep h0 h0 [a] := Keep.refl _ _
  have G : Go p e below s 1 1 (Qiw Z a h0 n0) (s₁.setTop (mkF m 0 #[.val (.ref a), .val (.int (64 : Int32))] [])) := by
    show Go p e below s _ _ _ (s₁.setTop (mkF m 0 #[.val (.ref a), .val (.int (64 : Int32))] []))
    refine Go.st (fun _ kq_ => XS.aloadN X0.here hx rfl (hb hby diw_0) rfl rfl kq_) ?_
    show Go p e below s _ _ _ (s₁.setTop (mkF m 1 #[.val (.ref a), .val (.int (64 : Int32))] [(.ref a)]))
    refine Go.st (fun _ kq_ => XS.iloadN X0.here hx rfl (hb hby diw_1) rfl kq_) ?_
    show Go p e below s _ _ _ (s₁.setTop (mkF m 2 #[.val (.ref a), .val (.int (64 : Int32))] [(.int (64 : Int32)), (.ref a)]))
    refine Go.st (fun _ kq_ => XS.iconst X0.here hx rfl (hb hby diw_2) kq_) ?_
    show Go p e below s _ _ _ (s₁.setTop (mkF m 3 #[.val (.ref a), .val (.int (64 : Int32))] [(.int (1 : Int32)), (.int (64 : Int32)), (.ref a)]))
    refine Go.st (fun _ kq_ => XS.isub X0.here hx rfl (hb hby diw_3) rfl kq_) ?_
    show Go p e below s _ _ _ (s₁.setTop (mkF m 4 #[.val (.ref a), .val (.int (64 : Int32))] [(.int (63 : Int32)), (.ref a)]))
    obtain ⟨_, _, ⟨T1, L1, k1, n1⟩, -, X1, ⟨Lc1, hQ1, l1, y1, z1⟩, st1⟩ := Jvm.LawKit.callS X0 hx (y := (⟨"java/util/BitSet", "wordIndex", "(I)I"⟩ : MethodName)) hown (mvT hZ (own_w hw 37 rfl)) (mvT hZ (own_w hw 38 rfl)) (mvT hZ (own_w hw 23 rfl)) (mvT hZ (own_w hw 39 rfl)) (by decide) (backOf (W := 1) (rmwi l Z a0 hw [] (63 : Int32) h0 n0 O0 ) hZ (own_w hw 39 rfl) (own_w hw 23 rfl) (by decide) (by decide)) (g := (mkF m 4 #[.val (.ref a), .val (.int (64 : Int32))] [(.int (63 : Int32)), (.ref a)])) rfl (by rw [hml]; rfl) (argsL := [(.int (63 : Int32))]) (rest := [(.ref a)]) (lenOf pdiw_0 rfl) rfl (by show 2 * 0 + _ ≤ _; exact Nat.le_of_eq rfl) (hb hby diw_4) (fun _ _ => ⟨rfl, e0, (by decide : 0 + 0 ≤ _), (by decide : 0 + 0 ≤ _)⟩)
    dsimp only [Pt.U, Pt.locs, Pt.cells, Pt.slots] at X1 l1 y1 z1 st1 hQ1
    subst l1 y1 z1
    obtain ⟨rfl, Nc1, e1⟩ := hQ1
    have N1 := Fr.app N0 Nc1
    rw [(by decide : fWi (63 : Int32) = 0)] at st1
    refine Go.st st1 ?_
    show Go p e below s _ _ _ (T1.setTop (mkF m 7 #[.val (.ref a), .val (.int (64 : Int32))] [(.int (0 : Int32)), (.ref a)]))
    refine Go.st (fun _ kq_ => XS.iconst X1.here hx rfl (hb hby diw_7) kq_) ?_
    show Go p e below s _ _ _ (T1.setTop (mkF m 8 #[.val (.ref a), .val (.int (64 : Int32))] [(.int (1 : Int32)), (.int (0 : Int32)), (.ref a)]))
    refine Go.st (fun _ kq_ => XS.iadd X1.here hx rfl (hb hby diw_8) rfl kq_) ?_
    show Go p e below s _ _ _ (T1.setTop (mkF m 9 #[.val (.ref a), .val (.int (64 : Int32))] [(.int (1 : Int32)), (.ref a)]))
    obtain ⟨T2, h2, k2, X2, e2, E2, A2, st2⟩ := newP X1 hx hZ (own_w hw 16 rfl) e1 (g := (mkF m 9 #[.val (.ref a), .val (.int (64 : Int32))] [(.int (1 : Int32)), (.ref a)])) rfl (hb hby diw_9) rfl (by decide) (cap := 1) (by decide) (by decide) (by decide) (by decide)
    obtain ⟨b2, g2⟩ : ∃ z, z = h0.size := ⟨_, rfl⟩
    rw [← g2] at A2 st2
    have g_b2 : n0 ≤ b2 := Nat.le_trans (own_old O0) (Nat.le_of_eq g2.symm)
    have sz_b2 : h0.size ≤ b2 := Nat.le_trans K0.1 (Nat.le_of_eq g2.symm)
    have ne_a_b2 : a ≠ b2 := by rw [g2]; exact Nat.ne_of_lt E_a.lt
    have E_a := E_a.ext E2
    have F_a_wordsInUse := F_a_wordsInUse.ext E2
    have F_a_sizeIsSticky := F_a_sizeIsSticky.ext E2
    have F_a_words := F_a_words.ext E2
    have O2 := O0.ext E2
    have K2 := K0.ext E2
    have V_b2 : Arv Z h2 b2 k2 .long (1 : Int32) [(.long (0 : Int64))] (.long (0 : Int64)) := (Arv.new A2 (by decide)).pad (pad_rep [] (.long (0 : Int64)) 1)
    refine Go.st st2 ?_
    show Go p e below s _ _ _ (T2.setTop (mkF m 11 #[.val (.ref a), .val (.int (64 : Int32))] [(.ref b2), (.ref a)]))
    obtain ⟨T3, h3, X3, e3, W3, st3⟩ := putF X2 hx hZ hown (host := "") (Or.inl (own_w hw 40 rfl)) Via.refl e2 F_a_words E_a (Or.inl (own_w hw 41 rfl)) (own_w hw 22 rfl) (ty := (.array .long)) (by decide) rfl rfl (g := (mkF m 11 #[.val (.ref a), .val (.int (64 : Int32))] [(.ref b2), (.ref a)])) rfl rfl (hb hby diw_11)
    have N3 := Fr.snoc X3 N1 ga
    have O3 := O2.wr W3 ga
    have K3 := K2.wr W3 (Or.inl (List.mem_of_getElem? (i := 0) rfl))
    have E_a := E_a.wr W3
    have F_a_wordsInUse := F_a_wordsInUse.other W3 (Or.inr (slot_ne (Or.inl (own_w hw 29 rfl)) (Or.inl (own_w hw 41 rfl)) (by decide) (by decide : parseFieldDescriptor "I" = some .int) (by decide : parseFieldDescriptor "[J" = some (.array .long))))
    have F_a_sizeIsSticky := F_a_sizeIsSticky.other W3 (Or.inr (slot_ne (Or.inl (own_w hw 31 rfl)) (Or.inl (own_w hw 41 rfl)) (by decide) (by decide : parseFieldDescriptor "Z" = some .boolean) (by decide : parseFieldDescriptor "[J" = some (.array .long))))
    have V_b2 := V_b2.other W3 (Ne.symm ne_a_b2)
    have F_a_words := F_a_words.same W3
    refine Go.st st3 ?_
    show Go p e below s _ _ _ (T3.setTop (mkF m 14 #[.val (.ref a), .val (.int (64 : Int32))] []))
    exact Go.ret X3 hlk (none) (fun _ => rfl) (by rw [e3]; exact ⟨b2, _, rfl, N3, K3, g_b2, sz_b2, E_a, F_a_wordsInUse, F_a_sizeIsSticky, F_a_words, V_b2⟩) (by decide) (by decide) (fun fs hr => X3.returnOut hx Bd.returns (hb hby diw_14) hr)
  obtain ⟨s2, o2, st2, r2⟩ := G
  exact ⟨s2, o2, castTop (efiw m a (64 : Int32)) st2, r2⟩
theorem dbi_0 : decode jdk_92_method_4_code 0 = .ok (.aload_n 0, 1) := by decide +kernel
theorem dbi_1 : decode jdk_92_method_4_code 1 = .ok (.invokespecial 21, 3) := by decide +kernel
theorem dbi_4 : decode jdk_92_method_4_code 4 = .ok (.aload_n 0, 1) := by decide +kernel
theorem dbi_5 : decode jdk_92_method_4_code 5 = .ok (.iconst 0, 1) := by decide +kernel
theorem dbi_6 : decode jdk_92_method_4_code 6 = .ok (.putfield 7, 3) := by decide +kernel
theorem dbi_9 : decode jdk_92_method_4_code 9 = .ok (.aload_n 0, 1) := by decide +kernel
theorem dbi_10 : decode jdk_92_method_4_code 10 = .ok (.iconst 0, 1) := by decide +kernel
theorem dbi_11 : decode jdk_92_method_4_code 11 = .ok (.putfield 24, 3) := by decide +kernel
theorem dbi_14 : decode jdk_92_method_4_code 14 = .ok (.aload_n 0, 1) := by decide +kernel
theorem dbi_15 : decode jdk_92_method_4_code 15 = .ok (.bipush 64, 2) := by decide +kernel
theorem dbi_17 : decode jdk_92_method_4_code 17 = .ok (.invokevirtual 27, 3) := by decide +kernel
theorem dbi_20 : decode jdk_92_method_4_code 20 = .ok (.aload_n 0, 1) := by decide +kernel
theorem dbi_21 : decode jdk_92_method_4_code 21 = .ok (.iconst 0, 1) := by decide +kernel
theorem dbi_22 : decode jdk_92_method_4_code 22 = .ok (.putfield 24, 3) := by decide +kernel
theorem dbi_25 : decode jdk_92_method_4_code 25 = .ok (.return_, 1) := by decide +kernel
theorem pdbi_0 : parseMethodDescriptor "(I)V" = some ⟨[.int], none⟩ := by decide +kernel
theorem pnbi : plainName "java/util/BitSet" = true := by first | (simp [plainName, overriddenIn]; done) | decide +kernel
theorem efbi (m : MethodId) (x0 : Addr) : entryFrame m #[(.ref x0)] 1 = mkF m 0 #[.val (.ref x0)] [] := by first | (simp [entryFrame, mkF, argsToLocals, Value.category, maxLocals]; done) | rfl
def Qbi (Z : State) (a : Addr) (h0 : Heap) (n0 : Nat) (v : Option Value) (h : Heap) (L : List Loc) : Prop := ∃ (r : Addr) (kr : ClassId), v = none ∧ Fr n0 L ∧ Keep h0 h [a] ∧ n0 ≤ r ∧ h0.size ≤ r ∧ Exa Z h a "java/util/BitSet" ∧ Fld Z h a "java/util/BitSet" "wordsInUse" "I" (.int (0 : Int32)) ∧ Fld Z h a "java/util/BitSet" "sizeIsSticky" "Z" (.int (0 : Int32)) ∧ Fld Z h a "java/util/BitSet" "words" "[J" (.ref r) ∧ Arv Z h r kr .long (1 : Int32) [(.long (0 : Int64))] (.long (0 : Int64))
set_option maxRecDepth 65536 in
set_option maxHeartbeats 40000000 in
theorem rmbi (l : Launch) (Z : State) (a0 : Array Value) (hw : ∀ d ∈ tables_1, d.before a0 Z = true) (ws : List Jvm.Cond) (a : Addr) (h0 : Heap) (n0 : Nat) (O0 : Old Z n0 h0) (E_a : Exa Z h0 a "java/util/BitSet") (F_a_wordsInUse : Fld Z h0 a "java/util/BitSet" "wordsInUse" "I" (.int (0 : Int32))) (F_a_sizeIsSticky : Fld Z h0 a "java/util/BitSet" "sizeIsSticky" "Z" (.int (0 : Int32))) (F_a_words : Fld Z h0 a "java/util/BitSet" "words" "[J" .null) (ga : n0 ≤ a) :
    MetFree l (⟨"java/util/BitSet", "<init>", "()V"⟩ : MethodName) (head1 (Jvm.Cond.code (⟨"java/util/BitSet", "<init>", "()V"⟩ : MethodName) jdk_92_method_4_code 1 none :: ws) ({ frames := 2, cells := 1, slots := 1, locals := 26 } : Room)) (fun A_ U_ => A_ = #[(.ref a)] ∧ Z.Warmed39 U_.vm ∧ U_.heap = h0) (fun _ _ _ _ _ => True) (fun _ U o U' => ∃ v L, o = .returned v ∧ Qbi Z a h0 n0 v U'.heap L ∧ FrameEnd U o U' L ({ frames := 2, cells := 1, slots := 1, locals := 26 } : Room).cells ({ frames := 2, cells := 1, slots := 1, locals := 26 } : Room).slots) := by
  refine MetFree.of_bodySF (plainFor_of_name pnbi) hisR ?_
  intro p e s m args below meth cd s₁ Bd hml0 hP hK
  obtain ⟨rfl, hZ, hh⟩ := hP
  have hx := Bd.exec
  have hby := Bd.bytes
  have hlk : meth.locks = false := BodyLoose.notSynchronized Bd
  have hml : cd.maxLocals = 1 := hml0
  have hown : s.vm.findClass "java/util/BitSet" = some m.cls := findClass_of_methodNamed Bd.named
  have hnm := (name_of_methodNamed Bd.named Bd.method).1
  have X0 : Stand p l e ({ frames := 2, cells := 1, slots := 1, locals := 26 } : Room) s m #[(.ref a)] below meth cd s₁ [] 0 0 := Stand.of_body Bd
  have e0 : s₁.heap = h0 := by rw [← hh, Bd.state]; rfl
  have N0 := Fr.nil n0
  have K0 : Keep h0 h0 [a] := Keep.refl _ _
  have G : Go p e below s 1 1 (Qbi Z a h0 n0) (s₁.setTop (mkF m 0 #[.val (.ref a)] [])) := by
    show Go p e below s _ _ _ (s₁.setTop (mkF m 0 #[.val (.ref a)] []))
    refine Go.st (fun _ kq_ => XS.aloadN X0.here hx rfl (hb hby dbi_0) rfl rfl kq_) ?_
    show Go p e below s _ _ _ (s₁.setTop (mkF m 1 #[.val (.ref a)] [(.ref a)]))
    obtain ⟨T1, X1, e1, st1⟩ := initO X0 hx hZ hown (own_w hw 27 rfl) (own_w hw 14 rfl) (own_w hw 15 rfl) e0 (g := (mkF m 1 #[.val (.ref a)] [(.ref a)])) rfl (by rw [hml]; rfl) rfl (hb hby dbi_1) (by decide) (W := 0) (by show 2 * 0 + _ ≤ _; exact Nat.le_of_eq rfl) (by decide)
    refine Go.st st1 ?_
    show Go p e below s _ _ _ (T1.setTop (mkF m 4 #[.val (.ref a)] []))
    refine Go.st (fun _ kq_ => XS.aloadN X1.here hx rfl (hb hby dbi_4) rfl rfl kq_) ?_
    show Go p e below s _ _ _ (T1.setTop (mkF m 5 #[.val (.ref a)] [(.ref a)]))
    refine Go.st (fun _ kq_ => XS.iconst X1.here hx rfl (hb hby dbi_5) kq_) ?_
    show Go p e below s _ _ _ (T1.setTop (mkF m 6 #[.val (.ref a)] [(.int (0 : Int32)), (.ref a)]))
    obtain ⟨T2, h2, X2, e2, W2, st2⟩ := putF X1 hx hZ hown (host := "") (Or.inl (own_w hw 28 rfl)) Via.refl e1 F_a_wordsInUse E_a (Or.inl (own_w hw 29 rfl)) (own_w hw 22 rfl) (ty := .int) (by decide) rfl rfl (g := (mkF m 6 #[.val (.ref a)] [(.int (0 : Int32)), (.ref a)])) rfl rfl (hb hby dbi_6)
    have N2 := Fr.snoc X2 N0 ga
    have O2 := O0.wr W2 ga
    have K2 := K0.wr W2 (Or.inl (List.mem_of_getElem? (i := 0) rfl))
    have E_a := E_a.wr W2
    have F_a_sizeIsSticky := F_a_sizeIsSticky.other W2 (Or.inr (slot_ne (Or.inl (own_w hw 31 rfl)) (Or.inl (own_w hw 29 rfl)) (by decide) (by decide : parseFieldDescriptor "Z" = some .boolean) (by decide : parseFieldDescriptor "I" = some .int)))
    have F_a_words := F_a_words.other W2 (Or.inr (slot_ne (Or.inl (own_w hw 41 rfl)) (Or.inl (own_w hw 29 rfl)) (by decide) (by decide : parseFieldDescriptor "[J" = some (.array .long)) (by decide : parseFieldDescriptor "I" = some .int)))
    have F_a_wordsInUse := F_a_wordsInUse.same W2
    refine Go.st st2 ?_
    show Go p e below s _ _ _ (T2.setTop (mkF m 9 #[.val (.ref a)] []))
    refine Go.st (fun _ kq_ => XS.aloadN X2.here hx rfl (hb hby dbi_9) rfl rfl kq_) ?_
    show Go p e below s _ _ _ (T2.setTop (mkF m 10 #[.val (.ref a)] [(.ref a)]))
    refine Go.st (fun _ kq_ => XS.iconst X2.here hx rfl (hb hby dbi_10) kq_) ?_
    show Go p e below s _ _ _ (T2.setTop (mkF m 11 #[.val (.ref a)] [(.int (0 : Int32)), (.ref a)]))
    obtain ⟨T3, h3, X3, e3, W3, st3⟩ := putF X2 hx hZ hown (host := "") (Or.inl (own_w hw 30 rfl)) Via.refl e2 F_a_sizeIsSticky E_a (Or.inl (own_w hw 31 rfl)) (own_w hw 22 rfl) (ty := .boolean) (by decide) rfl rfl (g := (mkF m 11 #[.val (.ref a)] [(.int (0 : Int32)), (.ref a)])) rfl rfl (hb hby dbi_11)
    have N3 := Fr.snoc X3 N2 ga
    have O3 := O2.wr W3 ga
    have K3 := K2.wr W3 (Or.inl (List.mem_of_getElem? (i := 0) rfl))
    have E_a := E_a.wr W3
    have F_a_wordsInUse := F_a_wordsInUse.other W3 (Or.inr (slot_ne (Or.inl (own_w hw 29 rfl)) (Or.inl (own_w hw 31 rfl)) (by decide) (by decide : parseFieldDescriptor "I" = some .int) (by decide : parseFieldDescriptor "Z" = some .boolean)))
    have F_a_words := F_a_words.other W3 (Or.inr (slot_ne (Or.inl (own_w hw 41 rfl)) (Or.inl (own_w hw 31 rfl)) (by decide) (by decide : parseFieldDescriptor "[J" = some (.array .long)) (by decide : parseFieldDescriptor "Z" = some .boolean)))
    have F_a_sizeIsSticky := F_a_sizeIsSticky.same W3
    refine Go.st st3 ?_
    show Go p e below s _ _ _ (T3.setTop (mkF m 14 #[.val (.ref a)] []))
    refine Go.st (fun _ kq_ => XS.aloadN X3.here hx rfl (hb hby dbi_14) rfl rfl kq_) ?_
    show Go p e below s _ _ _ (T3.setTop (mkF m 15 #[.val (.ref a)] [(.ref a)]))
    refine Go.st (fun _ kq_ => XS.bipush X3.here hx rfl (hb hby dbi_15) kq_) ?_
    show Go p e below s _ _ _ (T3.setTop (mkF m 17 #[.val (.ref a)] [(.int (64 : Int32)), (.ref a)]))
    obtain ⟨cq4, qa4, qb4⟩ := Exa.cell E_a
    obtain ⟨_, _, ⟨T4, L4, k4, n4⟩, -, X4, ⟨Lc4, hQ4, l4, y4, z4⟩, st4⟩ := X3.privateBack hx (y := (⟨"java/util/BitSet", "initWords", "(I)V"⟩ : MethodName)) hown (mvT hZ (own_w hw 32 rfl)) (mvT hZ (own_w hw 33 rfl)) (mvT hZ (own_w hw 35 rfl)) (Cond.privateMethod_at (mvP hZ (own_w hw 34 rfl) (args := #[]))) (mvT hZ (own_w hw 36 rfl)) (by decide) (backOf (W := 0) (rmiw l Z a0 hw [] a h3 n0 O3 E_a F_a_wordsInUse F_a_sizeIsSticky F_a_words ga) hZ (own_w hw 36 rfl) (own_w hw 23 rfl) (by decide) (by decide)) (g := (mkF m 17 #[.val (.ref a)] [(.int (64 : Int32)), (.ref a)])) rfl (by rw [hml]; rfl) (Steps.refl _) (a := a) (by rw [e3]; exact qa4) qb4 (argsL := [(.int (64 : Int32))]) (rest := []) (lenOf pdbi_0 rfl) rfl (by show 2 * 0 + _ ≤ _; exact Nat.le_of_eq rfl) (hb hby dbi_17) (fun _ _ => ⟨rfl, e3, (by decide : 0 + 1 ≤ _), (by decide : 0 + 1 ≤ _)⟩)
    dsimp only [Pt.U, Pt.locs, Pt.cells, Pt.slots] at X4 l4 y4 z4 st4 hQ4
    subst l4 y4 z4
    obtain ⟨r4, kr4, rfl, Nc4, Kc4, gr4, szr4, NE_a, NF_a_wordsInUse, NF_a_sizeIsSticky, NF_a_words, NV_r4⟩ := hQ4
    have N4 := Fr.app N3 Nc4
    have g_r4 : n0 ≤ r4 := gr4
    have sz_r4 : h0.size ≤ r4 := Nat.le_trans K3.1 szr4
    have ne_a_r4 : a ≠ r4 := Nat.ne_of_lt (Nat.lt_of_lt_of_le E_a.lt szr4)
    have O4 := O3.keep Kc4 (allS ga all0)
    have K4 := K3.trans Kc4 (allS (Or.inl (List.mem_of_getElem? (i := 0) rfl)) all0)
    have E_a := NE_a
    have F_a_wordsInUse := NF_a_wordsInUse
    have F_a_sizeIsSticky := NF_a_sizeIsSticky
    have F_a_words := NF_a_words
    have V_r4 := NV_r4
    refine Go.tr st4 ?_
    show Go p e below s _ _ _ (T4.setTop (mkF m 20 #[.val (.ref a)] []))
    refine Go.st (fun _ kq_ => XS.aloadN X4.here hx rfl (hb hby dbi_20) rfl rfl kq_) ?_
    show Go p e below s _ _ _ (T4.setTop (mkF m 21 #[.val (.ref a)] [(.ref a)]))
    refine Go.st (fun _ kq_ => XS.iconst X4.here hx rfl (hb hby dbi_21) kq_) ?_
    show Go p e below s _ _ _ (T4.setTop (mkF m 22 #[.val (.ref a)] [(.int (0 : Int32)), (.ref a)]))
    obtain ⟨T5, h5, X5, e5, W5, st5⟩ := putF X4 hx hZ hown (host := "") (Or.inl (own_w hw 30 rfl)) Via.refl rfl F_a_sizeIsSticky E_a (Or.inl (own_w hw 31 rfl)) (own_w hw 22 rfl) (ty := .boolean) (by decide) rfl rfl (g := (mkF m 22 #[.val (.ref a)] [(.int (0 : Int32)), (.ref a)])) rfl rfl (hb hby dbi_22)
    have N5 := Fr.snoc X5 N4 ga
    have O5 := O4.wr W5 ga
    have K5 := K4.wr W5 (Or.inl (List.mem_of_getElem? (i := 0) rfl))
    have E_a := E_a.wr W5
    have F_a_wordsInUse := F_a_wordsInUse.other W5 (Or.inr (slot_ne (Or.inl (own_w hw 29 rfl)) (Or.inl (own_w hw 31 rfl)) (by decide) (by decide : parseFieldDescriptor "I" = some .int) (by decide : parseFieldDescriptor "Z" = some .boolean)))
    have F_a_words := F_a_words.other W5 (Or.inr (slot_ne (Or.inl (own_w hw 41 rfl)) (Or.inl (own_w hw 31 rfl)) (by decide) (by decide : parseFieldDescriptor "[J" = some (.array .long)) (by decide : parseFieldDescriptor "Z" = some .boolean)))
    have V_r4 := V_r4.other W5 (Ne.symm ne_a_r4)
    have F_a_sizeIsSticky := F_a_sizeIsSticky.same W5
    refine Go.st st5 ?_
    show Go p e below s _ _ _ (T5.setTop (mkF m 25 #[.val (.ref a)] []))
    exact Go.ret X5 hlk (none) (fun _ => rfl) (by rw [e5]; exact ⟨r4, _, rfl, N5, K5, g_r4, sz_r4, E_a, F_a_wordsInUse, F_a_sizeIsSticky, F_a_words, V_r4⟩) (by decide) (by decide) (fun fs hr => X5.returnOut hx Bd.returns (hb hby dbi_25) hr)
  obtain ⟨s2, o2, st2, r2⟩ := G
  exact ⟨s2, o2, castTop (efbi m a) st2, r2⟩
theorem dsi_0 : decode prog_39_method_1_code 0 = .ok (.aload_n 0, 1) := by decide +kernel
theorem dsi_1 : decode prog_39_method_1_code 1 = .ok (.invokespecial 1, 3) := by decide +kernel
theorem dsi_4 : decode prog_39_method_1_code 4 = .ok (.aload_n 0, 1) := by decide +kernel
theorem dsi_5 : decode prog_39_method_1_code 5 = .ok (.bipush 64, 2) := by decide +kernel
theorem dsi_7 : decode prog_39_method_1_code 7 = .ok (.newarray .long, 2) := by decide +kernel
theorem dsi_9 : decode prog_39_method_1_code 9 = .ok (.putfield 9, 3) := by decide +kernel
theorem dsi_12 : decode prog_39_method_1_code 12 = .ok (.aload_n 0, 1) := by decide +kernel
theorem dsi_13 : decode prog_39_method_1_code 13 = .ok (.bipush 64, 2) := by decide +kernel
theorem dsi_15 : decode prog_39_method_1_code 15 = .ok (.newarray .long, 2) := by decide +kernel
theorem dsi_17 : decode prog_39_method_1_code 17 = .ok (.putfield 13, 3) := by decide +kernel
theorem dsi_20 : decode prog_39_method_1_code 20 = .ok (.aload_n 0, 1) := by decide +kernel
theorem dsi_21 : decode prog_39_method_1_code 21 = .ok (.new 16, 3) := by decide +kernel
theorem dsi_24 : decode prog_39_method_1_code 24 = .ok (.dup, 1) := by decide +kernel
theorem dsi_25 : decode prog_39_method_1_code 25 = .ok (.invokespecial 18, 3) := by decide +kernel
theorem dsi_28 : decode prog_39_method_1_code 28 = .ok (.putfield 19, 3) := by decide +kernel
theorem dsi_31 : decode prog_39_method_1_code 31 = .ok (.return_, 1) := by decide +kernel
theorem pdsi_0 : parseMethodDescriptor "()V" = some ⟨[], none⟩ := by decide +kernel
theorem pnsi : plainName "com/example/assayline/assayline/engine/SegmentIndex" = true := by first | (simp [plainName, overriddenIn]; done) | decide +kernel
theorem efsi (m : MethodId) (x0 : Addr) : entryFrame m #[(.ref x0)] 1 = mkF m 0 #[.val (.ref x0)] [] := by first | (simp [entryFrame, mkF, argsToLocals, Value.category, maxLocals]; done) | rfl
def Qsi (Z : State) (a : Addr) (h0 : Heap) (n0 : Nat) (v : Option Value) (h : Heap) (L : List Loc) : Prop := ∃ (b : Addr) (kb : ClassId) (d : Addr) (kd : ClassId) (y : Addr) (r : Addr) (kr : ClassId), v = none ∧ Fr n0 L ∧ Keep h0 h [a] ∧ n0 ≤ b ∧ h0.size ≤ b ∧ n0 ≤ d ∧ h0.size ≤ d ∧ n0 ≤ y ∧ h0.size ≤ y ∧ n0 ≤ r ∧ h0.size ≤ r ∧ b ≠ d ∧ b ≠ y ∧ b ≠ r ∧ d ≠ y ∧ d ≠ r ∧ y ≠ r ∧ Exa Z h a "com/example/assayline/assayline/engine/SegmentIndex" ∧ Fld Z h a "com/example/assayline/assayline/engine/SegmentIndex" "positions" "[J" (.ref b) ∧ Fld Z h a "com/example/assayline/assayline/engine/SegmentIndex" "offsets" "[J" (.ref d) ∧ Fld Z h a "com/example/assayline/assayline/engine/SegmentIndex" "waiting" "Ljava/util/BitSet;" (.ref y) ∧ Fld Z h a "com/example/assayline/assayline/engine/SegmentIndex" "count" "I" (.int (0 : Int32)) ∧ Arv Z h b kb .long (64 : Int32) (List.replicate 64 (.long (0 : Int64))) (.long (0 : Int64)) ∧ Arv Z h d kd .long (64 : Int32) (List.replicate 64 (.long (0 : Int64))) (.long (0 : Int64)) ∧ Exa Z h y "java/util/BitSet" ∧ Fld Z h y "java/util/BitSet" "wordsInUse" "I" (.int (0 : Int32)) ∧ Fld Z h y "java/util/BitSet" "sizeIsSticky" "Z" (.int (0 : Int32)) ∧ Fld Z h y "java/util/BitSet" "words" "[J" (.ref r) ∧ Arv Z h r kr .long (1 : Int32) [(.long (0 : Int64))] (.long (0 : Int64))
set_option maxRecDepth 65536 in
set_option maxHeartbeats 40000000 in
theorem rmsi (l : Launch) (Z : State) (a0 : Array Value) (hw : ∀ d ∈ tables_1, d.before a0 Z = true) (ws : List Jvm.Cond) (a : Addr) (h0 : Heap) (n0 : Nat) (O0 : Old Z n0 h0) (E_a : Exa Z h0 a "com/example/assayline/assayline/engine/SegmentIndex") (F_a_positions : Fld Z h0 a "com/example/assayline/assayline/engine/SegmentIndex" "positions" "[J" .null) (F_a_offsets : Fld Z h0 a "com/example/assayline/assayline/engine/SegmentIndex" "offsets" "[J" .null) (F_a_waiting : Fld Z h0 a "com/example/assayline/assayline/engine/SegmentIndex" "waiting" "Ljava/util/BitSet;" .null) (F_a_count : Fld Z h0 a "com/example/assayline/assayline/engine/SegmentIndex" "count" "I" (.int (0 : Int32))) (ga : n0 ≤ a) :
    MetFree l (⟨"com/example/assayline/assayline/engine/SegmentIndex", "<init>", "()V"⟩ : MethodName) (head1 (Jvm.Cond.code (⟨"com/example/assayline/assayline/engine/SegmentIndex", "<init>", "()V"⟩ : MethodName) prog_39_method_1_code 1 none :: ws) ({ frames := 3, cells := 4, slots := 132, locals := 40 } : Room)) (fun A_ U_ => A_ = #[(.ref a)] ∧ Z.Warmed39 U_.vm ∧ U_.heap = h0) (fun _ _ _ _ _ => True) (fun _ U o U' => ∃ v L, o = .returned v ∧ Qsi Z a h0 n0 v U'.heap L ∧ FrameEnd U o U' L ({ frames := 3, cells := 4, slots := 132, locals := 40 } : Room).cells ({ frames := 3, cells := 4, slots := 132, locals := 40 } : Room).slots) := by
  refine MetFree.of_bodySF (plainFor_of_name pnsi) hisR ?_
  intro p e s m args below meth cd s₁ Bd hml0 hP hK
  obtain ⟨rfl, hZ, hh⟩ := hP
  have hx := Bd.exec
  have hby := Bd.bytes
  have hlk : meth.locks = false := BodyLoose.notSynchronized Bd
  have hml : cd.maxLocals = 1 := hml0
  have hown : s.vm.findClass "com/example/assayline/assayline/engine/SegmentIndex" = some m.cls := findClass_of_methodNamed Bd.named
  have hnm := (name_of_methodNamed Bd.named Bd.method).1
  have X0 : Stand p l e ({ frames := 3, cells := 4, slots := 132, locals := 40 } : Room) s m #[(.ref a)] below meth cd s₁ [] 0 0 := Stand.of_body Bd
  have e0 : s₁.heap = h0 := by rw [← hh, Bd.state]; rfl
  have N0 := Fr.nil n0
  have K0 : Keep h0 h0 [a] := Keep.refl _ _
  have G : Go p e below s 4 132 (Qsi Z a h0 n0) (s₁.setTop (mkF m 0 #[.val (.ref a)] [])) := by
    show Go p e below s _ _ _ (s₁.setTop (mkF m 0 #[.val (.ref a)] []))
    refine Go.st (fun _ kq_ => XS.aloadN X0.here hx rfl (hb hby dsi_0) rfl rfl kq_) ?_
    show Go p e below s _ _ _ (s₁.setTop (mkF m 1 #[.val (.ref a)] [(.ref a)]))
    obtain ⟨T1, X1, e1, st1⟩ := initO X0 hx hZ hown (own_w hw 13 rfl) (own_w hw 14 rfl) (own_w hw 15 rfl) e0 (g := (mkF m 1 #[.val (.ref a)] [(.ref a)])) rfl (by rw [hml]; rfl) rfl (hb hby dsi_1) (by decide) (W := 0) (by show 2 * 0 + _ ≤ _; exact Nat.le_of_eq rfl) (by decide)
    refine Go.st st1 ?_
    show Go p e below s _ _ _ (T1.setTop (mkF m 4 #[.val (.ref a)] []))
    refine Go.st (fun _ kq_ => XS.aloadN X1.here hx rfl (hb hby dsi_4) rfl rfl kq_) ?_
    show Go p e below s _ _ _ (T1.setTop (mkF m 5 #[.val (.ref a)] [(.ref a)]))
    refine Go.st (fun _ kq_ => XS.bipush X1.here hx rfl (hb hby dsi_5) kq_) ?_
    show Go p e below s _ _ _ (T1.setTop (mkF m 7 #[.val (.ref a)] [(.int (64 : Int32)), (.ref a)]))
    obtain ⟨T2, h2, k2, X2, e2, E2, A2, st2⟩ := newP X1 hx hZ (own_w hw 16 rfl) e1 (g := (mkF m 7 #[.val (.ref a)] [(.int (64 : Int32)), (.ref a)])) rfl (hb hby dsi_7) rfl (by decide) (cap := 64) (by decide) (by decide) (by decide) (by decide)
    obtain ⟨b2, g2⟩ : ∃ z, z = h0.size := ⟨_, rfl⟩
    rw [← g2] at A2 st2
    have g_b2 : n0 ≤ b2 := Nat.le_trans (own_old O0) (Nat.le_of_eq g2.symm)
    have sz_b2 : h0.size ≤ b2 := Nat.le_trans K0.1 (Nat.le_of_eq g2.symm)
    have ne_a_b2 : a ≠ b2 := by rw [g2]; exact Nat.ne_of_lt E_a.lt
    have E_a := E_a.ext E2
    have F_a_positions := F_a_positions.ext E2
    have F_a_offsets := F_a_offsets.ext E2
    have F_a_waiting := F_a_waiting.ext E2
    have F_a_count := F_a_count.ext E2
    have O2 := O0.ext E2
    have K2 := K0.ext E2
    have V_b2 : Arv Z h2 b2 k2 .long (64 : Int32) (List.replicate 64 (.long (0 : Int64))) (.long (0 : Int64)) := (Arv.new A2 (by decide)).pad (pad_rep [] (.long (0 : Int64)) 64)
    refine Go.st st2 ?_
    show Go p e below s _ _ _ (T2.setTop (mkF m 9 #[.val (.ref a)] [(.ref b2), (.ref a)]))
    obtain ⟨T3, h3, X3, e3, W3, st3⟩ := putF X2 hx hZ hown (host := "") (Or.inl (own_w hw 17 rfl)) Via.refl e2 F_a_positions E_a (Or.inl (own_w hw 18 rfl)) (own_w hw 8 rfl) (ty := (.array .long)) (by decide) rfl rfl (g := (mkF m 9 #[.val (.ref a)] [(.ref b2), (.ref a)])) rfl rfl (hb hby dsi_9)
    have N3 := Fr.snoc X3 N0 ga
    have O3 := O2.wr W3 ga
    have K3 := K2.wr W3 (Or.inl (List.mem_of_getElem? (i := 0) rfl))
    have E_a := E_a.wr W3
    have F_a_offsets := F_a_offsets.other W3 (Or.inr (slot_ne (Or.inl (own_w hw 20 rfl)) (Or.inl (own_w hw 18 rfl)) (by decide) (by decide : parseFieldDescriptor "[J" = some (.array .long)) (by decide : parseFieldDescriptor "[J" = some (.array .long))))
    have F_a_waiting := F_a_waiting.other W3 (Or.inr (slot_ne (Or.inr (own_w hw 43 rfl)) (Or.inl (own_w hw 18 rfl)) (by decide) (by decide : parseFieldDescriptor "Ljava/util/BitSet;" = some (.object "java/util/BitSet")) (by decide : parseFieldDescriptor "[J" = some (.array .long))))
    have F_a_count := F_a_count.other W3 (Or.inr (slot_ne (Or.inl (own_w hw 50 rfl)) (Or.inl (own_w hw 18 rfl)) (by decide) (by decide : parseFieldDescriptor "I" = some .int) (by decide : parseFieldDescriptor "[J" = some (.array .long))))
    have V_b2 := V_b2.other W3 (Ne.symm ne_a_b2)
    have F_a_positions := F_a_positions.same W3
    refine Go.st st3 ?_
    show Go p e below s _ _ _ (T3.setTop (mkF m 12 #[.val (.ref a)] []))
    refine Go.st (fun _ kq_ => XS.aloadN X3.here hx rfl (hb hby dsi_12) rfl rfl kq_) ?_
    show Go p e below s _ _ _ (T3.setTop (mkF m 13 #[.val (.ref a)] [(.ref a)]))
    refine Go.st (fun _ kq_ => XS.bipush X3.here hx rfl (hb hby dsi_13) kq_) ?_
    show Go p e below s _ _ _ (T3.setTop (mkF m 15 #[.val (.ref a)] [(.int (64 : Int32)), (.ref a)]))
    obtain ⟨T4, h4, k4, X4, e4, E4, A4, st4⟩ := newP X3 hx hZ (own_w hw 16 rfl) e3 (g := (mkF m 15 #[.val (.ref a)] [(.int (64 : Int32)), (.ref a)])) rfl (hb hby dsi_15) rfl (by decide) (cap := 64) (by decide) (by decide) (by decide) (by decide)
    obtain ⟨d4, g4⟩ : ∃ z, z = h3.size := ⟨_, rfl⟩
    rw [← g4] at A4 st4
    have g_d4 : n0 ≤ d4 := Nat.le_trans (own_old O3) (Nat.le_of_eq g4.symm)
    have sz_d4 : h0.size ≤ d4 := Nat.le_trans K3.1 (Nat.le_of_eq g4.symm)
    have ne_a_d4 : a ≠ d4 := by rw [g4]; exact Nat.ne_of_lt E_a.lt
    have ne_b2_d4 : b2 ≠ d4 := by rw [g4]; exact Nat.ne_of_lt V_b2.lt
    have E_a := E_a.ext E4
    have F_a_positions := F_a_positions.ext E4
    have F_a_offsets := F_a_offsets.ext E4
    have F_a_waiting := F_a_waiting.ext E4
    have F_a_count := F_a_count.ext E4
    have V_b2 := V_b2.ext E4
    have O4 := O3.ext E4
    have K4 := K3.ext E4
    have V_d4 : Arv Z h4 d4 k4 .long (64 : Int32) (List.replicate 64 (.long (0 : Int64))) (.long (0 : Int64)) := (Arv.new A4 (by decide)).pad (pad_rep [] (.long (0 : Int64)) 64)
    refine Go.st st4 ?_
    show Go p e below s _ _ _ (T4.setTop (mkF m 17 #[.val (.ref a)] [(.ref d4), (.ref a)]))
    obtain ⟨T5, h5, X5, e5, W5, st5⟩ := putF X4 hx hZ hown (host := "") (Or.inl (own_w hw 19 rfl)) Via.refl e4 F_a_offsets E_a (Or.inl (own_w hw 20 rfl)) (own_w hw 8 rfl) (ty := (.array .long)) (by decide) rfl rfl (g := (mkF m 17 #[.val (.ref a)] [(.ref d4), (.ref a)])) rfl rfl (hb hby dsi_17)
    have N5 := Fr.snoc X5 N3 ga
    have O5 := O4.wr W5 ga
    have K5 := K4.wr W5 (Or.inl (List.mem_of_getElem? (i := 0) rfl))
    have E_a := E_a.wr W5
    have F_a_positions := F_a_positions.other W5 (Or.inr (slot_ne (Or.inl (own_w hw 18 rfl)) (Or.inl (own_w hw 20 rfl)) (by decide) (by decide : parseFieldDescriptor "[J" = some (.array .long)) (by decide : parseFieldDescriptor "[J" = some (.array .long))))
    have F_a_waiting := F_a_waiting.other W5 (Or.inr (slot_ne (Or.inr (own_w hw 43 rfl)) (Or.inl (own_w hw 20 rfl)) (by decide) (by decide : parseFieldDescriptor "Ljava/util/BitSet;" = some (.object "java/util/BitSet")) (by decide : parseFieldDescriptor "[J" = some (.array .long))))
    have F_a_count := F_a_count.other W5 (Or.inr (slot_ne (Or.inl (own_w hw 50 rfl)) (Or.inl (own_w hw 20 rfl)) (by decide) (by decide : parseFieldDescriptor "I" = some .int) (by decide : parseFieldDescriptor "[J" = some (.array .long))))
    have V_b2 := V_b2.other W5 (Ne.symm ne_a_b2)
    have V_d4 := V_d4.other W5 (Ne.symm ne_a_d4)
    have F_a_offsets := F_a_offsets.same W5
    refine Go.st st5 ?_
    show Go p e below s _ _ _ (T5.setTop (mkF m 20 #[.val (.ref a)] []))
    refine Go.st (fun _ kq_ => XS.aloadN X5.here hx rfl (hb hby dsi_20) rfl rfl kq_) ?_
    show Go p e below s _ _ _ (T5.setTop (mkF m 21 #[.val (.ref a)] [(.ref a)]))
    obtain ⟨T6, h6, X6, e6, E6, A6, D6, -, st6⟩ := newO X5 hx hZ hown (own_w hw 21 rfl) (own_w hw 22 rfl) (own_w hw 23 rfl) e5 (g := (mkF m 21 #[.val (.ref a)] [(.ref a)])) rfl (hb hby dsi_21) (by decide) (by decide)
    obtain ⟨y6, g6⟩ : ∃ z, z = h5.size := ⟨_, rfl⟩
    rw [← g6] at A6 D6 st6
    have g_y6 : n0 ≤ y6 := Nat.le_trans (own_old O5) (Nat.le_of_eq g6.symm)
    have sz_y6 : h0.size ≤ y6 := Nat.le_trans K5.1 (Nat.le_of_eq g6.symm)
    have ne_a_y6 : a ≠ y6 := by rw [g6]; exact Nat.ne_of_lt E_a.lt
    have ne_b2_y6 : b2 ≠ y6 := by rw [g6]; exact Nat.ne_of_lt V_b2.lt
    have ne_d4_y6 : d4 ≠ y6 := by rw [g6]; exact Nat.ne_of_lt V_d4.lt
    have E_a := E_a.ext E6
    have F_a_positions := F_a_positions.ext E6
    have F_a_offsets := F_a_offsets.ext E6
    have F_a_waiting := F_a_waiting.ext E6
    have F_a_count := F_a_count.ext E6
    have V_b2 := V_b2.ext E6
    have V_d4 := V_d4.ext E6
    have O6 := O5.ext E6
    have K6 := K5.ext E6
    have E_y6 : Exa Z h6 y6 "java/util/BitSet" := A6
    have F_y6_wordsInUse : Fld Z h6 y6 "java/util/BitSet" "wordsInUse" "I" (.int (0 : Int32)) := D6 (Or.inl (own_w hw 29 rfl)) (ty := .int) (by decide)
    have F_y6_sizeIsSticky : Fld Z h6 y6 "java/util/BitSet" "sizeIsSticky" "Z" (.int (0 : Int32)) := D6 (Or.inl (own_w hw 31 rfl)) (ty := .boolean) (by decide)
    have F_y6_words : Fld Z h6 y6 "java/util/BitSet" "words" "[J" .null := D6 (Or.inl (own_w hw 41 rfl)) (ty := (.array .long)) (by decide)
    refine Go.st st6 ?_
    show Go p e below s _ _ _ (T6.setTop (mkF m 24 #[.val (.ref a)] [(.ref y6), (.ref a)]))
    refine Go.st (fun _ kq_ => XS.dup X6.here hx rfl (hb hby dsi_24) rfl rfl kq_) ?_
    show Go p e below s _ _ _ (T6.setTop (mkF m 25 #[.val (.ref a)] [(.ref y6), (.ref y6), (.ref a)]))
    obtain ⟨_, _, ⟨T7, L7, k7, n7⟩, -, X7, ⟨Lc7, hQ7, l7, y7, z7⟩, st7⟩ := X6.specialBack hx (y := (⟨"java/util/BitSet", "<init>", "()V"⟩ : MethodName)) rfl hown (mvT hZ (own_w hw 24 rfl)) (mvT hZ (own_w hw 25 rfl)) (mvT hZ (own_w hw 26 rfl)) (by decide) (backOf (W := 2) (rmbi l Z a0 hw [] y6 h6 n0 O6 E_y6 F_y6_wordsInUse F_y6_sizeIsSticky F_y6_words g_y6) hZ (own_w hw 26 rfl) (own_w hw 23 rfl) (by decide) (by decide)) (g := (mkF m 25 #[.val (.ref a)] [(.ref y6), (.ref y6), (.ref a)])) rfl (by rw [hml]; rfl) (Steps.refl _) (a := y6) (argsL := []) (rest := [(.ref y6), (.ref a)]) (lenOf pdsi_0 rfl) rfl (by show 2 * 0 + _ ≤ _; exact Nat.le_of_eq rfl) (hb hby dsi_25) (fun _ _ => ⟨rfl, e6, (by decide : 3 + 1 ≤ _), (by decide : 131 + 1 ≤ _)⟩)
    dsimp only [Pt.U, Pt.locs, Pt.cells, Pt.slots] at X7 l7 y7 z7 st7 hQ7
    subst l7 y7 z7
    obtain ⟨r7, kr7, rfl, Nc7, Kc7, gr7, szr7, NE_y6, NF_y6_wordsInUse, NF_y6_sizeIsSticky, NF_y6_words, NV_r7⟩ := hQ7
    have N7 := Fr.app N5 Nc7
    have g_r7 : n0 ≤ r7 := gr7
    have sz_r7 : h0.size ≤ r7 := Nat.le_trans K6.1 szr7
    have ne_a_r7 : a ≠ r7 := Nat.ne_of_lt (Nat.lt_of_lt_of_le E_a.lt szr7)
    have ne_b2_r7 : b2 ≠ r7 := Nat.ne_of_lt (Nat.lt_of_lt_of_le V_b2.lt szr7)
    have ne_d4_r7 : d4 ≠ r7 := Nat.ne_of_lt (Nat.lt_of_lt_of_le V_d4.lt szr7)
    have ne_y6_r7 : y6 ≠ r7 := Nat.ne_of_lt (Nat.lt_of_lt_of_le E_y6.lt szr7)
    have E_a := E_a.keep Kc7
    have F_a_positions := F_a_positions.keep Kc7 (ninS ne_a_y6 nin0)
    have F_a_offsets := F_a_offsets.keep Kc7 (ninS ne_a_y6 nin0)
    have F_a_waiting := F_a_waiting.keep Kc7 (ninS ne_a_y6 nin0)
    have F_a_count := F_a_count.keep Kc7 (ninS ne_a_y6 nin0)
    have V_b2 := V_b2.keep Kc7 (ninS ne_b2_y6 nin0)
    have V_d4 := V_d4.keep Kc7 (ninS ne_d4_y6 nin0)
    have O7 := O6.keep Kc7 (allS g_y6 all0)
    have K7 := K6.trans Kc7 (allS (Or.inr sz_y6) all0)
    have E_y6 := NE_y6
    have F_y6_wordsInUse := NF_y6_wordsInUse
    have F_y6_sizeIsSticky := NF_y6_sizeIsSticky
    have F_y6_words := NF_y6_words
    have V_r7 := NV_r7
    refine Go.tr st7 ?_
    show Go p e below s _ _ _ (T7.setTop (mkF m 28 #[.val (.ref a)] [(.ref y6), (.ref a)]))
    obtain ⟨T8, h8, X8, e8, W8, st8⟩ := putF X7 hx hZ hown (host := "") (Or.inl (own_w hw 42 rfl)) Via.refl rfl F_a_waiting E_a (Or.inr ⟨(own_w hw 43 rfl), rfl, hnm⟩) (own_w hw 8 rfl) (ty := (.object "java/util/BitSet")) (by decide) rfl rfl (g := (mkF m 28 #[.val (.ref a)] [(.ref y6), (.ref a)])) rfl rfl (hb hby dsi_28)
    have N8 := Fr.snoc X8 N7 ga
    have O8 := O7.wr W8 ga
    have K8 := K7.wr W8 (Or.inl (List.mem_of_getElem? (i := 0) rfl))
    have E_a := E_a.wr W8
    have F_a_positions := F_a_positions.other W8 (Or.inr (slot_ne (Or.inl (own_w hw 18 rfl)) (Or.inr (own_w hw 43 rfl)) (by decide) (by decide : parseFieldDescriptor "[J" = some (.array .long)) (by decide : parseFieldDescriptor "Ljava/util/BitSet;" = some (.object "java/util/BitSet"))))
    have F_a_offsets := F_a_offsets.other W8 (Or.inr (slot_ne (Or.inl (own_w hw 20 rfl)) (Or.inr (own_w hw 43 rfl)) (by decide) (by decide : parseFieldDescriptor "[J" = some (.array .long)) (by decide : parseFieldDescriptor "Ljava/util/BitSet;" = some (.object "java/util/BitSet"))))
    have F_a_count := F_a_count.other W8 (Or.inr (slot_ne (Or.inl (own_w hw 50 rfl)) (Or.inr (own_w hw 43 rfl)) (by decide) (by decide : parseFieldDescriptor "I" = some .int) (by decide : parseFieldDescriptor "Ljava/util/BitSet;" = some (.object "java/util/BitSet"))))
    have V_b2 := V_b2.other W8 (Ne.symm ne_a_b2)
    have V_d4 := V_d4.other W8 (Ne.symm ne_a_d4)
    have E_y6 := E_y6.wr W8
    have F_y6_wordsInUse := F_y6_wordsInUse.other W8 (Or.inl (Ne.symm ne_a_y6))
    have F_y6_sizeIsSticky := F_y6_sizeIsSticky.other W8 (Or.inl (Ne.symm ne_a_y6))
    have F_y6_words := F_y6_words.other W8 (Or.inl (Ne.symm ne_a_y6))
    have V_r7 := V_r7.other W8 (Ne.symm ne_a_r7)
    have F_a_waiting := F_a_waiting.same W8
    refine Go.st st8 ?_
    show Go p e below s _ _ _ (T8.setTop (mkF m 31 #[.val (.ref a)] []))
    exact Go.ret X8 hlk (none) (fun _ => rfl) (by rw [e8]; exact ⟨b2, _, d4, _, y6, r7, _, rfl, N8, K8, g_b2, sz_b2, g_d4, sz_d4, g_y6, sz_y6, g_r7, sz_r7, ne_b2_d4, ne_b2_y6, ne_b2_r7, ne_d4_y6, ne_d4_r7, ne_y6_r7, E_a, F_a_positions, F_a_offsets, F_a_waiting, F_a_count, V_b2, V_d4, E_y6, F_y6_wordsInUse, F_y6_sizeIsSticky, F_y6_words, V_r7⟩) (by decide) (by decide) (fun fs hr => X8.returnOut hx Bd.returns (hb hby dsi_31) hr)
  obtain ⟨s2, o2, st2, r2⟩ := G
  exact ⟨s2, o2, castTop (efsi m a) st2, r2⟩
theorem dci_0 : decode jdk_92_method_2_code 0 = .ok (.getstatic 3, 3) := by decide +kernel
theorem dci_3 : decode jdk_92_method_2_code 3 = .ok (.ifCond .ne 34, 3) := by decide +kernel
theorem dci_37 : decode jdk_92_method_2_code 37 = .ok (.getstatic 3, 3) := by decide +kernel
theorem dci_40 : decode jdk_92_method_2_code 40 = .ok (.ifCond .ne 30, 3) := by decide +kernel
theorem dci_70 : decode jdk_92_method_2_code 70 = .ok (.getstatic 3, 3) := by decide +kernel
theorem dci_73 : decode jdk_92_method_2_code 73 = .ok (.ifCond .ne 37, 3) := by decide +kernel
theorem dci_110 : decode jdk_92_method_2_code 110 = .ok (.return_, 1) := by decide +kernel
theorem pnci : plainName "java/util/BitSet" = true := by first | (simp [plainName, overriddenIn]; done) | decide +kernel
theorem efci (m : MethodId) (x0 : Addr) : entryFrame m #[(.ref x0)] 1 = mkF m 0 #[.val (.ref x0)] [] := by first | (simp [entryFrame, mkF, argsToLocals, Value.category, maxLocals]; done) | rfl
def Qci (Z : State) (a : Addr) (h0 : Heap) (n0 : Nat) (v : Option Value) (h : Heap) (L : List Loc) : Prop := v = none ∧ Fr n0 L ∧ h = h0
set_option maxRecDepth 65536 in
set_option maxHeartbeats 40000000 in
theorem rmci (l : Launch) (Z : State) (a0 : Array Value) (hw : ∀ d ∈ tables_1, d.before a0 Z = true) (ws : List Jvm.Cond) (a : Addr) (h0 : Heap) (n0 : Nat) (O0 : Old Z n0 h0) (SD : Sta Z Z.heap "java/util/BitSet" "$assertionsDisabled" "Z" (.int 1)) :
    MetFree l (⟨"java/util/BitSet", "checkInvariants", "()V"⟩ : MethodName) (head1 (Jvm.Cond.code (⟨"java/util/BitSet", "checkInvariants", "()V"⟩ : MethodName) jdk_92_method_2_code 1 none :: ws) ({ frames := 0, cells := 0, slots := 0, locals := 0 } : Room)) (fun A_ U_ => A_ = #[(.ref a)] ∧ Z.Warmed39 U_.vm ∧ U_.heap = h0) (fun _ _ _ _ _ => True) (fun _ U o U' => ∃ v L, o = .returned v ∧ Qci Z a h0 n0 v U'.heap L ∧ FrameEnd U o U' L ({ frames := 0, cells := 0, slots := 0, locals := 0 } : Room).cells ({ frames := 0, cells := 0, slots := 0, locals := 0 } : Room).slots) := by
  refine MetFree.of_bodySF (plainFor_of_name pnci) hisR ?_
  intro p e s m args below meth cd s₁ Bd hml0 hP hK
  obtain ⟨rfl, hZ, hh⟩ := hP
  have hx := Bd.exec
  have hby := Bd.bytes
  have hlk : meth.locks = false := BodyLoose.notSynchronized Bd
  have hml : cd.maxLocals = 1 := hml0
  have hown : s.vm.findClass "java/util/BitSet" = some m.cls := findClass_of_methodNamed Bd.named
  have hnm := (name_of_methodNamed Bd.named Bd.method).1
  have X0 : Stand p l e ({ frames := 0, cells := 0, slots := 0, locals := 0 } : Room) s m #[(.ref a)] below meth cd s₁ [] 0 0 := Stand.of_body Bd
  have e0 : s₁.heap = h0 := by rw [← hh, Bd.state]; rfl
  have N0 := Fr.nil n0
  have G : Go p e below s 0 0 (Qci Z a h0 n0) (s₁.setTop (mkF m 0 #[.val (.ref a)] [])) := by
    show Go p e below s _ _ _ (s₁.setTop (mkF m 0 #[.val (.ref a)] []))
    obtain ⟨T1, X1, e1, st1⟩ := getS X0 hx hZ hown (host := "") (own_w hw 76 rfl) Via.refl e0 (SD.ext O0.2) (g := (mkF m 0 #[.val (.ref a)] [])) rfl (hb hby dci_0)
    refine Go.st st1 ?_
    show Go p e below s _ _ _ (T1.setTop (mkF m 3 #[.val (.ref a)] [(.int (1 : Int32))]))
    refine Go.st (fun _ kq_ => XS.ifYes X1.here hx rfl (pc0 := 3) (pc' := 37) rfl (hb hby dci_3) rfl (by decide) (by decide) (by decide) kq_) ?_
    show Go p e below s _ _ _ (T1.setTop (mkF m 37 #[.val (.ref a)] []))
    obtain ⟨T2, X2, e2, st2⟩ := getS X1 hx hZ hown (host := "") (own_w hw 76 rfl) Via.refl e1 (SD.ext O0.2) (g := (mkF m 37 #[.val (.ref a)] [])) rfl (hb hby dci_37)
    refine Go.st st2 ?_
    show Go p e below s _ _ _ (T2.setTop (mkF m 40 #[.val (.ref a)] [(.int (1 : Int32))]))
    refine Go.st (fun _ kq_ => XS.ifYes X2.here hx rfl (pc0 := 40) (pc' := 70) rfl (hb hby dci_40) rfl (by decide) (by decide) (by decide) kq_) ?_
    show Go p e below s _ _ _ (T2.setTop (mkF m 70 #[.val (.ref a)] []))
    obtain ⟨T3, X3, e3, st3⟩ := getS X2 hx hZ hown (host := "") (own_w hw 76 rfl) Via.refl e2 (SD.ext O0.2) (g := (mkF m 70 #[.val (.ref a)] [])) rfl (hb hby dci_70)
    refine Go.st st3 ?_
    show Go p e below s _ _ _ (T3.setTop (mkF m 73 #[.val (.ref a)] [(.int (1 : Int32))]))
    refine Go.st (fun _ kq_ => XS.ifYes X3.here hx rfl (pc0 := 73) (pc' := 110) rfl (hb hby dci_73) rfl (by decide) (by decide) (by decide) kq_) ?_
    show Go p e below s _ _ _ (T3.setTop (mkF m 110 #[.val (.ref a)] []))
    exact Go.ret X3 hlk (none) (fun _ => rfl) (by rw [e3]; exact ⟨rfl, N0, rfl⟩) (by decide) (by decide) (fun fs hr => X3.returnOut hx Bd.returns (hb hby dci_110) hr)
  obtain ⟨s2, o2, st2, r2⟩ := G
  exact ⟨s2, o2, castTop (efci m a) st2, r2⟩
theorem dec_0 : decode jdk_92_method_14_code 0 = .ok (.aload_n 0, 1) := by decide +kernel
theorem dec_1 : decode jdk_92_method_14_code 1 = .ok (.getfield 11, 3) := by decide +kernel
theorem dec_4 : decode jdk_92_method_14_code 4 = .ok (.arraylength, 1) := by decide +kernel
theorem dec_5 : decode jdk_92_method_14_code 5 = .ok (.iload_n 1, 1) := by decide +kernel
theorem dec_6 : decode jdk_92_method_14_code 6 = .ok (.if_icmp .ge 32, 3) := by decide +kernel
theorem dec_38 : decode jdk_92_method_14_code 38 = .ok (.return_, 1) := by decide +kernel
theorem pnec : plainName "java/util/BitSet" = true := by first | (simp [plainName, overriddenIn]; done) | decide +kernel
theorem efec (m : MethodId) (x0 : Addr) (x1 : Int32) : entryFrame m #[(.ref x0), (.int x1)] 3 = mkF m 0 #[.val (.ref x0), .val (.int x1), .unset] [] := by first | (simp [entryFrame, mkF, argsToLocals, Value.category, maxLocals]; done) | rfl
def Qec (Z : State) (a : Addr) (r : Addr) (kr : ClassId) (x : Int64) (h0 : Heap) (n0 : Nat) (v : Option Value) (h : Heap) (L : List Loc) : Prop := v = none ∧ Fr n0 L ∧ h = h0
set_option maxRecDepth 65536 in
set_option maxHeartbeats 40000000 in
theorem rmec (l : Launch) (Z : State) (a0 : Array Value) (hw : ∀ d ∈ tables_1, d.before a0 Z = true) (ws : List Jvm.Cond) (a : Addr) (r : Addr) (kr : ClassId) (x : Int64) (h0 : Heap) (n0 : Nat) (O0 : Old Z n0 h0) (E_a : Exa Z h0 a "java/util/BitSet") (F_a_wordsInUse : Fld Z h0 a "java/util/BitSet" "wordsInUse" "I" (.int (0 : Int32))) (F_a_sizeIsSticky : Fld Z h0 a "java/util/BitSet" "sizeIsSticky" "Z" (.int (0 : Int32))) (F_a_words : Fld Z h0 a "java/util/BitSet" "words" "[J" (.ref r)) (V_r : Arv Z h0 r kr .long (1 : Int32) [(.long x)] (.long (0 : Int64))) :
    MetFree l (⟨"java/util/BitSet", "ensureCapacity", "(I)V"⟩ : MethodName) (head1 (Jvm.Cond.code (⟨"java/util/BitSet", "ensureCapacity", "(I)V"⟩ : MethodName) jdk_92_method_14_code 3 none :: ws) ({ frames := 0, cells := 0, slots := 0, locals := 0 } : Room)) (fun A_ U_ => A_ = #[(.ref a), (.int (1 : Int32))] ∧ Z.Warmed39 U_.vm ∧ U_.heap = h0) (fun _ _ _ _ _ => True) (fun _ U o U' => ∃ v L, o = .returned v ∧ Qec Z a r kr x h0 n0 v U'.heap L ∧ FrameEnd U o U' L ({ frames := 0, cells := 0, slots := 0, locals := 0 } : Room).cells ({ frames := 0, cells := 0, slots := 0, locals := 0 } : Room).slots) := by
  refine MetFree.of_bodySF (plainFor_of_name pnec) hisR ?_
  intro p e s m args below meth cd s₁ Bd hml0 hP hK
  obtain ⟨rfl, hZ, hh⟩ := hP
  have hx := Bd.exec
  have hby := Bd.bytes
  have hlk : meth.locks = false := BodyLoose.notSynchronized Bd
  have hml : cd.maxLocals = 3 := hml0
  have hown : s.vm.findClass "java/util/BitSet" = some m.cls := findClass_of_methodNamed Bd.named
  have hnm := (name_of_methodNamed Bd.named Bd.method).1
  have X0 : Stand p l e ({ frames := 0, cells := 0, slots := 0, locals := 0 } : Room) s m #[(.ref a), (.int (1 : Int32))] below meth cd s₁ [] 0 0 := Stand.of_body Bd
  have e0 : s₁.heap = h0 := by rw [← hh, Bd.state]; rfl
  have N0 := Fr.nil n0
  have G : Go p e below s 0 0 (Qec Z a r kr x h0 n0) (s₁.setTop (mkF m 0 #[.val (.ref a), .val (.int (1 : Int32)), .unset] [])) := by
    show Go p e below s _ _ _ (s₁.setTop (mkF m 0 #[.val (.ref a), .val (.int (1 : Int32)), .unset] []))
    refine Go.st (fun _ kq_ => XS.aloadN X0.here hx rfl (hb hby dec_0) rfl rfl kq_) ?_
    show Go p e below s _ _ _ (s₁.setTop (mkF m 1 #[.val (.ref a), .val (.int (1 : Int32)), .unset] [(.ref a)]))
    obtain ⟨T1, X1, e1, st1⟩ := getF X0 hx hZ hown (host := "") (Or.inl (own_w hw 40 rfl)) Via.refl e0 F_a_words (g := (mkF m 1 #[.val (.ref a), .val (.int (1 : Int32)), .unset] [(.ref a)])) rfl rfl (hb hby dec_1)
    refine Go.st st1 ?_
    show Go p e below s _ _ _ (T1.setTop (mkF m 4 #[.val (.ref a), .val (.int (1 : Int32)), .unset] [(.ref r)]))
    refine Go.st (fun _ kq_ => own_len X1 hx hZ e1 V_r (g := (mkF m 4 #[.val (.ref a), .val (.int (1 : Int32)), .unset] [(.ref r)])) rfl rfl (hb hby dec_4) _ kq_) ?_
    show Go p e below s _ _ _ (T1.setTop (mkF m 5 #[.val (.ref a), .val (.int (1 : Int32)), .unset] [(.int (1 : Int32))]))
    refine Go.st (fun _ kq_ => XS.iloadN X1.here hx rfl (hb hby dec_5) rfl kq_) ?_
    show Go p e below s _ _ _ (T1.setTop (mkF m 6 #[.val (.ref a), .val (.int (1 : Int32)), .unset] [(.int (1 : Int32)), (.int (1 : Int32))]))
    refine Go.st (fun _ kq_ => XS.icmpYes X1.here hx rfl (pc0 := 6) (pc' := 38) rfl (hb hby dec_6) rfl (by decide) (by decide) (by decide) kq_) ?_
    show Go p e below s _ _ _ (T1.setTop (mkF m 38 #[.val (.ref a), .val (.int (1 : Int32)), .unset] []))
    exact Go.ret X1 hlk (none) (fun _ => rfl) (by rw [e1]; exact ⟨rfl, N0, rfl⟩) (by decide) (by decide) (fun fs hr => X1.returnOut hx Bd.returns (hb hby dec_38) hr)
  obtain ⟨s2, o2, st2, r2⟩ := G
  exact ⟨s2, o2, castTop (efec m a (1 : Int32)) st2, r2⟩
theorem dex0_0 : decode jdk_92_method_15_code 0 = .ok (.iload_n 1, 1) := by decide +kernel
theorem dex0_1 : decode jdk_92_method_15_code 1 = .ok (.iconst 1, 1) := by decide +kernel
theorem dex0_2 : decode jdk_92_method_15_code 2 = .ok (.iadd, 1) := by decide +kernel
theorem dex0_3 : decode jdk_92_method_15_code 3 = .ok (.istore_n 2, 1) := by decide +kernel
theorem dex0_4 : decode jdk_92_method_15_code 4 = .ok (.aload_n 0, 1) := by decide +kernel
theorem dex0_5 : decode jdk_92_method_15_code 5 = .ok (.getfield 7, 3) := by decide +kernel
theorem dex0_8 : decode jdk_92_method_15_code 8 = .ok (.iload_n 2, 1) := by decide +kernel
theorem dex0_9 : decode jdk_92_method_15_code 9 = .ok (.if_icmp .ge 13, 3) := by decide +kernel
theorem dex0_12 : decode jdk_92_method_15_code 12 = .ok (.aload_n 0, 1) := by decide +kernel
theorem dex0_13 : decode jdk_92_method_15_code 13 = .ok (.iload_n 2, 1) := by decide +kernel
theorem dex0_14 : decode jdk_92_method_15_code 14 = .ok (.invokevirtual 139, 3) := by decide +kernel
theorem dex0_17 : decode jdk_92_method_15_code 17 = .ok (.aload_n 0, 1) := by decide +kernel
theorem dex0_18 : decode jdk_92_method_15_code 18 = .ok (.iload_n 2, 1) := by decide +kernel
theorem dex0_19 : decode jdk_92_method_15_code 19 = .ok (.putfield 7, 3) := by decide +kernel
theorem dex0_22 : decode jdk_92_method_15_code 22 = .ok (.return_, 1) := by decide +kernel
theorem pdex0_0 : parseMethodDescriptor "(I)V" = some ⟨[.int], none⟩ := by decide +kernel
theorem pnex0 : plainName "java/util/BitSet" = true := by first | (simp [plainName, overriddenIn]; done) | decide +kernel
theorem efex0 (m : MethodId) (x0 : Addr) (x1 : Int32) : entryFrame m #[(.ref x0), (.int x1)] 3 = mkF m 0 #[.val (.ref x0), .val (.int x1), .unset] [] := by first | (simp [entryFrame, mkF, argsToLocals, Value.category, maxLocals]; done) | rfl
def Qex0 (Z : State) (a : Addr) (r : Addr) (kr : ClassId) (x : Int64) (h0 : Heap) (n0 : Nat) (v : Option Value) (h : Heap) (L : List Loc) : Prop := v = none ∧ Fr n0 L ∧ Keep h0 h [a] ∧ Exa Z h a "java/util/BitSet" ∧ Fld Z h a "java/util/BitSet" "wordsInUse" "I" (.int (1 : Int32)) ∧ Fld Z h a "java/util/BitSet" "sizeIsSticky" "Z" (.int (0 : Int32)) ∧ Fld Z h a "java/util/BitSet" "words" "[J" (.ref r) ∧ Arv Z h r kr .long (1 : Int32) [(.long x)] (.long (0 : Int64))
set_option maxRecDepth 65536 in
set_option maxHeartbeats 40000000 in
theorem rmex0 (l : Launch) (Z : State) (a0 : Array Value) (hw : ∀ d ∈ tables_1, d.before a0 Z = true) (ws : List Jvm.Cond) (a : Addr) (r : Addr) (kr : ClassId) (x : Int64) (h0 : Heap) (n0 : Nat) (O0 : Old Z n0 h0) (E_a : Exa Z h0 a "java/util/BitSet") (F_a_wordsInUse : Fld Z h0 a "java/util/BitSet" "wordsInUse" "I" (.int (0 : Int32))) (F_a_sizeIsSticky : Fld Z h0 a "java/util/BitSet" "sizeIsSticky" "Z" (.int (0 : Int32))) (F_a_words : Fld Z h0 a "java/util/BitSet" "words" "[J" (.ref r)) (V_r : Arv Z h0 r kr .long (1 : Int32) [(.long x)] (.long (0 : Int64))) (ga : n0 ≤ a) (nar_ : a ≠ r) :
    MetFree l (⟨"java/util/BitSet", "expandTo", "(I)V"⟩ : MethodName) (head1 (Jvm.Cond.code (⟨"java/util/BitSet", "expandTo", "(I)V"⟩ : MethodName) jdk_92_method_15_code 3 none :: ws) ({ frames := 1, cells := 0, slots := 0, locals := 14 } : Room)) (fun A_ U_ => A_ = #[(.ref a), (.int (0 : Int32))] ∧ Z.Warmed39 U_.vm ∧ U_.heap = h0) (fun _ _ _ _ _ => True) (fun _ U o U' => ∃ v L, o = .returned v ∧ Qex0 Z a r kr x h0 n0 v U'.heap L ∧ FrameEnd U o U' L ({ frames := 1, cells := 0, slots := 0, locals := 14 } : Room).cells ({ frames := 1, cells := 0, slots := 0, locals := 14 } : Room).slots) := by
  refine MetFree.of_bodySF (plainFor_of_name pnex0) hisR ?_
  intro p e s m args below meth cd s₁ Bd hml0 hP hK
  obtain ⟨rfl, hZ, hh⟩ := hP
  have hx := Bd.exec
  have hby := Bd.bytes
  have hlk : meth.locks = false := BodyLoose.notSynchronized Bd
  have hml : cd.maxLocals = 3 := hml0
  have hown : s.vm.findClass "java/util/BitSet" = some m.cls := findClass_of_methodNamed Bd.named
  have hnm := (name_of_methodNamed Bd.named Bd.method).1
  have X0 : Stand p l e ({ frames := 1, cells := 0, slots := 0, locals := 14 } : Room) s m #[(.ref a), (.int (0 : Int32))] below meth cd s₁ [] 0 0 := Stand.of_body Bd
  have e0 : s₁.heap = h0 := by rw [← hh, Bd.state]; rfl
  have N0 := Fr.nil n0
  have K0 : Keep h0 h0 [a] := Keep.refl _ _
  have G : Go p e below s 0 0 (Qex0 Z a r kr x h0 n0) (s₁.setTop (mkF m 0 #[.val (.ref a), .val (.int (0 : Int32)), .unset] [])) := by
    show Go p e below s _ _ _ (s₁.setTop (mkF m 0 #[.val (.ref a), .val (.int (0 : Int32)), .unset] []))
    refine Go.st (fun _ kq_ => XS.iloadN X0.here hx rfl (hb hby dex0_0) rfl kq_) ?_
    show Go p e below s _ _ _ (s₁.setTop (mkF m 1 #[.val (.ref a), .val (.int (0 : Int32)), .unset] [(.int (0 : Int32))]))
    refine Go.st (fun _ kq_ => XS.iconst X0.here hx rfl (hb hby dex0_1) kq_) ?_
    show Go p e below s _ _ _ (s₁.setTop (mkF m 2 #[.val (.ref a), .val (.int (0 : Int32)), .unset] [(.int (1 : Int32)), (.int (0 : Int32))]))
    refine Go.st (fun _ kq_ => XS.iadd X0.here hx rfl (hb hby dex0_2) rfl kq_) ?_
    show Go p e below s _ _ _ (s₁.setTop (mkF m 3 #[.val (.ref a), .val (.int (0 : Int32)), .unset] [(.int (1 : Int32))]))
    refine Go.st (fun _ kq_ => XS.istoreN X0.here hx rfl (hb hby dex0_3) rfl (l' := #[.val (.ref a), .val (.int (0 : Int32)), .val (.int (1 : Int32))]) rfl kq_) ?_
    show Go p e below s _ _ _ (s₁.setTop (mkF m 4 #[.val (.ref a), .val (.int (0 : Int32)), .val (.int (1 : Int32))] []))
    refine Go.st (fun _ kq_ => XS.aloadN X0.here hx rfl (hb hby dex0_4) rfl rfl kq_) ?_
    show Go p e below s _ _ _ (s₁.setTop (mkF m 5 #[.val (.ref a), .val (.int (0 : Int32)), .val (.int (1 : Int32))] [(.ref a)]))
    obtain ⟨T1, X1, e1, st1⟩ := getF X0 hx hZ hown (host := "") (Or.inl (own_w hw 28 rfl)) Via.refl e0 F_a_wordsInUse (g := (mkF m 5 #[.val (.ref a), .val (.int (0 : Int32)), .val (.int (1 : Int32))] [(.ref a)])) rfl rfl (hb hby dex0_5)
    refine Go.st st1 ?_
    show Go p e below s _ _ _ (T1.setTop (mkF m 8 #[.val (.ref a), .val (.int (0 : Int32)), .val (.int (1 : Int32))] [(.int (0 : Int32))]))
    refine Go.st (fun _ kq_ => XS.iloadN X1.here hx rfl (hb hby dex0_8) rfl kq_) ?_
    show Go p e below s _ _ _ (T1.setTop (mkF m 9 #[.val (.ref a), .val (.int (0 : Int32)), .val (.int (1 : Int32))] [(.int (1 : Int32)), (.int (0 : Int32))]))
    refine Go.st (fun _ kq_ => XS.icmpNo X1.here hx rfl (hb hby dex0_9) rfl (by decide) kq_) ?_
    show Go p e below s _ _ _ (T1.setTop (mkF m 12 #[.val (.ref a), .val (.int (0 : Int32)), .val (.int (1 : Int32))] []))
    refine Go.st (fun _ kq_ => XS.aloadN X1.here hx rfl (hb hby dex0_12) rfl rfl kq_) ?_
    show Go p e below s _ _ _ (T1.setTop (mkF m 13 #[.val (.ref a), .val (.int (0 : Int32)), .val (.int (1 : Int32))] [(.ref a)]))
    refine Go.st (fun _ kq_ => XS.iloadN X1.here hx rfl (hb hby dex0_13) rfl kq_) ?_
    show Go p e below s _ _ _ (T1.setTop (mkF m 14 #[.val (.ref a), .val (.int (0 : Int32)), .val (.int (1 : Int32))] [(.int (1 : Int32)), (.ref a)]))
    obtain ⟨cq2, qa2, qb2⟩ := Exa.cell E_a
    obtain ⟨_, _, ⟨T2, L2, k2, n2⟩, -, X2, ⟨Lc2, hQ2, l2, y2, z2⟩, st2⟩ := X1.privateBack hx (y := (⟨"java/util/BitSet", "ensureCapacity", "(I)V"⟩ : MethodName)) hown (mvT hZ (own_w hw 66 rfl)) (mvT hZ (own_w hw 67 rfl)) (mvT hZ (own_w hw 69 rfl)) (Cond.privateMethod_at (mvP hZ (own_w hw 68 rfl) (args := #[]))) (mvT hZ (own_w hw 70 rfl)) (by decide) (backOf (W := 0) (rmec l Z a0 hw [] a r kr x h0 n0 O0 E_a F_a_wordsInUse F_a_sizeIsSticky F_a_words V_r) hZ (own_w hw 70 rfl) (own_w hw 23 rfl) (by decide) (by decide)) (g := (mkF m 14 #[.val (.ref a), .val (.int (0 : Int32)), .val (.int (1 : Int32))] [(.int (1 : Int32)), (.ref a)])) rfl (by rw [hml]; rfl) (Steps.refl _) (a := a) (by rw [e1]; exact qa2) qb2 (argsL := [(.int (1 : Int32))]) (rest := []) (lenOf pdex0_0 rfl) rfl (by show 2 * 0 + _ ≤ _; exact Nat.le_of_eq rfl) (hb hby dex0_14) (fun _ _ => ⟨rfl, e1, (by decide : 0 + 0 ≤ _), (by decide : 0 + 0 ≤ _)⟩)
    dsimp only [Pt.U, Pt.locs, Pt.cells, Pt.slots] at X2 l2 y2 z2 st2 hQ2
    subst l2 y2 z2
    obtain ⟨rfl, Nc2, e2⟩ := hQ2
    have N2 := Fr.app N0 Nc2
    refine Go.tr st2 ?_
    show Go p e below s _ _ _ (T2.setTop (mkF m 17 #[.val (.ref a), .val (.int (0 : Int32)), .val (.int (1 : Int32))] []))
    refine Go.st (fun _ kq_ => XS.aloadN X2.here hx rfl (hb hby dex0_17) rfl rfl kq_) ?_
    show Go p e below s _ _ _ (T2.setTop (mkF m 18 #[.val (.ref a), .val (.int (0 : Int32)), .val (.int (1 : Int32))] [(.ref a)]))
    refine Go.st (fun _ kq_ => XS.iloadN X2.here hx rfl (hb hby dex0_18) rfl kq_) ?_
    show Go p e below s _ _ _ (T2.setTop (mkF m 19 #[.val (.ref a), .val (.int (0 : Int32)), .val (.int (1 : Int32))] [(.int (1 : Int32)), (.ref a)]))
    obtain ⟨T3, h3, X3, e3, W3, st3⟩ := putF X2 hx hZ hown (host := "") (Or.inl (own_w hw 28 rfl)) Via.refl e2 F_a_wordsInUse E_a (Or.inl (own_w hw 29 rfl)) (own_w hw 22 rfl) (ty := .int) (by decide) rfl rfl (g := (mkF m 19 #[.val (.ref a), .val (.int (0 : Int32)), .val (.int (1 : Int32))] [(.int (1 : Int32)), (.ref a)])) rfl rfl (hb hby dex0_19)
    have N3 := Fr.snoc X3 N2 ga
    have O3 := O0.wr W3 ga
    have K3 := K0.wr W3 (Or.inl (List.mem_of_getElem? (i := 0) rfl))
    have E_a := E_a.wr W3
    have F_a_sizeIsSticky := F_a_sizeIsSticky.other W3 (Or.inr (slot_ne (Or.inl (own_w hw 31 rfl)) (Or.inl (own_w hw 29 rfl)) (by decide) (by decide : parseFieldDescriptor "Z" = some .boolean) (by decide : parseFieldDescriptor "I" = some .int)))
    have F_a_words := F_a_words.other W3 (Or.inr (slot_ne (Or.inl (own_w hw 41 rfl)) (Or.inl (own_w hw 29 rfl)) (by decide) (by decide : parseFieldDescriptor "[J" = some (.array .long)) (by decide : parseFieldDescriptor "I" = some .int)))
    have V_r := V_r.other W3 (Ne.symm nar_)
    have F_a_wordsInUse := F_a_wordsInUse.same W3
    refine Go.st st3 ?_
    show Go p e below s _ _ _ (T3.setTop (mkF m 22 #[.val (.ref a), .val (.int (0 : Int32)), .val (.int (1 : Int32))] []))
    exact Go.ret X3 hlk (none) (fun _ => rfl) (by rw [e3]; exact ⟨rfl, N3, K3, E_a, F_a_wordsInUse, F_a_sizeIsSticky, F_a_words, V_r⟩) (by decide) (by decide) (fun fs hr => X3.returnOut hx Bd.returns (hb hby dex0_22) hr)
  obtain ⟨s2, o2, st2, r2⟩ := G
  exact ⟨s2, o2, castTop (efex0 m a (0 : Int32)) st2, r2⟩
theorem dex1_0 : decode jdk_92_method_15_code 0 = .ok (.iload_n 1, 1) := by decide +kernel
theorem dex1_1 : decode jdk_92_method_15_code 1 = .ok (.iconst 1, 1) := by decide +kernel
theorem dex1_2 : decode jdk_92_method_15_code 2 = .ok (.iadd, 1) := by decide +kernel
theorem dex1_3 : decode jdk_92_method_15_code 3 = .ok (.istore_n 2, 1) := by decide +kernel
theorem dex1_4 : decode jdk_92_method_15_code 4 = .ok (.aload_n 0, 1) := by decide +kernel
theorem dex1_5 : decode jdk_92_method_15_code 5 = .ok (.getfield 7, 3) := by decide +kernel
theorem dex1_8 : decode jdk_92_method_15_code 8 = .ok (.iload_n 2, 1) := by decide +kernel
theorem dex1_9 : decode jdk_92_method_15_code 9 = .ok (.if_icmp .ge 13, 3) := by decide +kernel
theorem dex1_22 : decode jdk_92_method_15_code 22 = .ok (.return_, 1) := by decide +kernel
theorem pnex1 : plainName "java/util/BitSet" = true := by first | (simp [plainName, overriddenIn]; done) | decide +kernel
theorem efex1 (m : MethodId) (x0 : Addr) (x1 : Int32) : entryFrame m #[(.ref x0), (.int x1)] 3 = mkF m 0 #[.val (.ref x0), .val (.int x1), .unset] [] := by first | (simp [entryFrame, mkF, argsToLocals, Value.category, maxLocals]; done) | rfl
def Qex1 (Z : State) (a : Addr) (r : Addr) (kr : ClassId) (x : Int64) (h0 : Heap) (n0 : Nat) (v : Option Value) (h : Heap) (L : List Loc) : Prop := v = none ∧ Fr n0 L ∧ Keep h0 h [a] ∧ Exa Z h a "java/util/BitSet" ∧ Fld Z h a "java/util/BitSet" "wordsInUse" "I" (.int (1 : Int32)) ∧ Fld Z h a "java/util/BitSet" "sizeIsSticky" "Z" (.int (0 : Int32)) ∧ Fld Z h a "java/util/BitSet" "words" "[J" (.ref r) ∧ Arv Z h r kr .long (1 : Int32) [(.long x)] (.long (0 : Int64))
set_option maxRecDepth 65536 in
set_option maxHeartbeats 40000000 in
theorem rmex1 (l : Launch) (Z : State) (a0 : Array Value) (hw : ∀ d ∈ tables_1, d.before a0 Z = true) (ws : List Jvm.Cond) (a : Addr) (r : Addr) (kr : ClassId) (x : Int64) (h0 : Heap) (n0 : Nat) (O0 : Old Z n0 h0) (E_a : Exa Z h0 a "java/util/BitSet") (F_a_wordsInUse : Fld Z h0 a "java/util/BitSet" "wordsInUse" "I" (.int (1 : Int32))) (F_a_sizeIsSticky : Fld Z h0 a "java/util/BitSet" "sizeIsSticky" "Z" (.int (0 : Int32))) (F_a_words : Fld Z h0 a "java/util/BitSet" "words" "[J" (.ref r)) (V_r : Arv Z h0 r kr .long (1 : Int32) [(.long x)] (.long (0 : Int64))) (ga : n0 ≤ a) (nar_ : a ≠ r) :
    MetFree l (⟨"java/util/BitSet", "expandTo", "(I)V"⟩ : MethodName) (head1 (Jvm.Cond.code (⟨"java/util/BitSet", "expandTo", "(I)V"⟩ : MethodName) jdk_92_method_15_code 3 none :: ws) ({ frames := 0, cells := 0, slots := 0, locals := 0 } : Room)) (fun A_ U_ => A_ = #[(.ref a), (.int (0 : Int32))] ∧ Z.Warmed39 U_.vm ∧ U_.heap = h0) (fun _ _ _ _ _ => True) (fun _ U o U' => ∃ v L, o = .returned v ∧ Qex1 Z a r kr x h0 n0 v U'.heap L ∧ FrameEnd U o U' L ({ frames := 0, cells := 0, slots := 0, locals := 0 } : Room).cells ({ frames := 0, cells := 0, slots := 0, locals := 0 } : Room).slots) := by
  refine MetFree.of_bodySF (plainFor_of_name pnex1) hisR ?_
  intro p e s m args below meth cd s₁ Bd hml0 hP hK
  obtain ⟨rfl, hZ, hh⟩ := hP
  have hx := Bd.exec
  have hby := Bd.bytes
  have hlk : meth.locks = false := BodyLoose.notSynchronized Bd
  have hml : cd.maxLocals = 3 := hml0
  have hown : s.vm.findClass "java/util/BitSet" = some m.cls := findClass_of_methodNamed Bd.named
  have hnm := (name_of_methodNamed Bd.named Bd.method).1
  have X0 : Stand p l e ({ frames := 0, cells := 0, slots := 0, locals := 0 } : Room) s m #[(.ref a), (.int (0 : Int32))] below meth cd s₁ [] 0 0 := Stand.of_body Bd
  have e0 : s₁.heap = h0 := by rw [← hh, Bd.state]; rfl
  have N0 := Fr.nil n0
  have K0 : Keep h0 h0 [a] := Keep.refl _ _
  have G : Go p e below s 0 0 (Qex1 Z a r kr x h0 n0) (s₁.setTop (mkF m 0 #[.val (.ref a), .val (.int (0 : Int32)), .unset] [])) := by
    show Go p e below s _ _ _ (s₁.setTop (mkF m 0 #[.val (.ref a), .val (.int (0 : Int32)), .unset] []))
    refine Go.st (fun _ kq_ => XS.iloadN X0.here hx rfl (hb hby dex1_0) rfl kq_) ?_
    show Go p e below s _ _ _ (s₁.setTop (mkF m 1 #[.val (.ref a), .val (.int (0 : Int32)), .unset] [(.int (0 : Int32))]))
    refine Go.st (fun _ kq_ => XS.iconst X0.here hx rfl (hb hby dex1_1) kq_) ?_
    show Go p e below s _ _ _ (s₁.setTop (mkF m 2 #[.val (.ref a), .val (.int (0 : Int32)), .unset] [(.int (1 : Int32)), (.int (0 : Int32))]))
    refine Go.st (fun _ kq_ => XS.iadd X0.here hx rfl (hb hby dex1_2) rfl kq_) ?_
    show Go p e below s _ _ _ (s₁.setTop (mkF m 3 #[.val (.ref a), .val (.int (0 : Int32)), .unset] [(.int (1 : Int32))]))
    refine Go.st (fun _ kq_ => XS.istoreN X0.here hx rfl (hb hby dex1_3) rfl (l' := #[.val (.ref a), .val (.int (0 : Int32)), .val (.int (1 : Int32))]) rfl kq_) ?_
    show Go p e below s _ _ _ (s₁.setTop (mkF m 4 #[.val (.ref a), .val (.int (0 : Int32)), .val (.int (1 : Int32))] []))
    refine Go.st (fun _ kq_ => XS.aloadN X0.here hx rfl (hb hby dex1_4) rfl rfl kq_) ?_
    show Go p e below s _ _ _ (s₁.setTop (mkF m 5 #[.val (.ref a), .val (.int (0 : Int32)), .val (.int (1 : Int32))] [(.ref a)]))
    obtain ⟨T1, X1, e1, st1⟩ := getF X0 hx hZ hown (host := "") (Or.inl (own_w hw 28 rfl)) Via.refl e0 F_a_wordsInUse (g := (mkF m 5 #[.val (.ref a), .val (.int (0 : Int32)), .val (.int (1 : Int32))] [(.ref a)])) rfl rfl (hb hby dex1_5)
    refine Go.st st1 ?_
    show Go p e below s _ _ _ (T1.setTop (mkF m 8 #[.val (.ref a), .val (.int (0 : Int32)), .val (.int (1 : Int32))] [(.int (1 : Int32))]))
    refine Go.st (fun _ kq_ => XS.iloadN X1.here hx rfl (hb hby dex1_8) rfl kq_) ?_
    show Go p e below s _ _ _ (T1.setTop (mkF m 9 #[.val (.ref a), .val (.int (0 : Int32)), .val (.int (1 : Int32))] [(.int (1 : Int32)), (.int (1 : Int32))]))
    refine Go.st (fun _ kq_ => XS.icmpYes X1.here hx rfl (pc0 := 9) (pc' := 22) rfl (hb hby dex1_9) rfl (by decide) (by decide) (by decide) kq_) ?_
    show Go p e below s _ _ _ (T1.setTop (mkF m 22 #[.val (.ref a), .val (.int (0 : Int32)), .val (.int (1 : Int32))] []))
    exact Go.ret X1 hlk (none) (fun _ => rfl) (by rw [e1]; exact ⟨rfl, N0, K0, E_a, F_a_wordsInUse, F_a_sizeIsSticky, F_a_words, V_r⟩) (by decide) (by decide) (fun fs hr => X1.returnOut hx Bd.returns (hb hby dex1_22) hr)
  obtain ⟨s2, o2, st2, r2⟩ := G
  exact ⟨s2, o2, castTop (efex1 m a (0 : Int32)) st2, r2⟩
theorem dst0_0 : decode jdk_92_method_19_code 0 = .ok (.iload_n 1, 1) := by decide +kernel
theorem dst0_1 : decode jdk_92_method_19_code 1 = .ok (.ifCond .ge 30, 3) := by decide +kernel
theorem dst0_31 : decode jdk_92_method_19_code 31 = .ok (.iload_n 1, 1) := by decide +kernel
theorem dst0_32 : decode jdk_92_method_19_code 32 = .ok (.invokestatic 52, 3) := by decide +kernel
theorem dst0_35 : decode jdk_92_method_19_code 35 = .ok (.istore_n 2, 1) := by decide +kernel
theorem dst0_36 : decode jdk_92_method_19_code 36 = .ok (.aload_n 0, 1) := by decide +kernel
theorem dst0_37 : decode jdk_92_method_19_code 37 = .ok (.iload_n 2, 1) := by decide +kernel
theorem dst0_38 : decode jdk_92_method_19_code 38 = .ok (.invokevirtual 155, 3) := by decide +kernel
theorem dst0_41 : decode jdk_92_method_19_code 41 = .ok (.aload_n 0, 1) := by decide +kernel
theorem dst0_42 : decode jdk_92_method_19_code 42 = .ok (.getfield 11, 3) := by decide +kernel
theorem dst0_45 : decode jdk_92_method_19_code 45 = .ok (.iload_n 2, 1) := by decide +kernel
theorem dst0_46 : decode jdk_92_method_19_code 46 = .ok (.dup2, 1) := by decide +kernel
theorem dst0_47 : decode jdk_92_method_19_code 47 = .ok (.laload, 1) := by decide +kernel
theorem dst0_48 : decode jdk_92_method_19_code 48 = .ok (.lconst 1, 1) := by decide +kernel
theorem dst0_49 : decode jdk_92_method_19_code 49 = .ok (.iload_n 1, 1) := by decide +kernel
theorem dst0_50 : decode jdk_92_method_19_code 50 = .ok (.lshl, 1) := by decide +kernel
theorem dst0_51 : decode jdk_92_method_19_code 51 = .ok (.lor, 1) := by decide +kernel
theorem dst0_52 : decode jdk_92_method_19_code 52 = .ok (.lastore, 1) := by decide +kernel
theorem dst0_53 : decode jdk_92_method_19_code 53 = .ok (.aload_n 0, 1) := by decide +kernel
theorem dst0_54 : decode jdk_92_method_19_code 54 = .ok (.invokevirtual 56, 3) := by decide +kernel
theorem dst0_57 : decode jdk_92_method_19_code 57 = .ok (.return_, 1) := by decide +kernel
theorem pdst0_0 : parseMethodDescriptor "(I)I" = some ⟨[.int], some .int⟩ := by decide +kernel
theorem pdst0_1 : parseMethodDescriptor "(I)V" = some ⟨[.int], none⟩ := by decide +kernel
theorem pdst0_2 : parseMethodDescriptor "()V" = some ⟨[], none⟩ := by decide +kernel
theorem pnst0 : plainName "java/util/BitSet" = true := by first | (simp [plainName, overriddenIn]; done) | decide +kernel
theorem efst0 (m : MethodId) (x0 : Addr) (x1 : Int32) : entryFrame m #[(.ref x0), (.int x1)] 3 = mkF m 0 #[.val (.ref x0), .val (.int x1), .unset] [] := by first | (simp [entryFrame, mkF, argsToLocals, Value.category, maxLocals]; done) | rfl
def Qst0 (Z : State) (a : Addr) (r : Addr) (kr : ClassId) (x : Int64) (h0 : Heap) (n0 : Nat) (v : Option Value) (h : Heap) (L : List Loc) : Prop := v = none ∧ Fr n0 L ∧ Keep h0 h [a, r] ∧ Exa Z h a "java/util/BitSet" ∧ Fld Z h a "java/util/BitSet" "wordsInUse" "I" (.int (1 : Int32)) ∧ Fld Z h a "java/util/BitSet" "sizeIsSticky" "Z" (.int (0 : Int32)) ∧ Fld Z h a "java/util/BitSet" "words" "[J" (.ref r) ∧ Arv Z h r kr .long (1 : Int32) [(.long (x ||| ((1 : Int64) <<< (((0 : Int32)).toInt64 &&& 63))))] (.long (0 : Int64))
set_option maxRecDepth 65536 in
set_option maxHeartbeats 40000000 in
theorem rmst0 (l : Launch) (Z : State) (a0 : Array Value) (hw : ∀ d ∈ tables_1, d.before a0 Z = true) (ws : List Jvm.Cond) (a : Addr) (r : Addr) (kr : ClassId) (x : Int64) (h0 : Heap) (n0 : Nat) (O0 : Old Z n0 h0) (E_a : Exa Z h0 a "java/util/BitSet") (F_a_wordsInUse : Fld Z h0 a "java/util/BitSet" "wordsInUse" "I" (.int (0 : Int32))) (F_a_sizeIsSticky : Fld Z h0 a "java/util/BitSet" "sizeIsSticky" "Z" (.int (0 : Int32))) (F_a_words : Fld Z h0 a "java/util/BitSet" "words" "[J" (.ref r)) (V_r : Arv Z h0 r kr .long (1 : Int32) [(.long x)] (.long (0 : Int64))) (ga : n0 ≤ a) (gr : n0 ≤ r) (nar_ : a ≠ r) (SD : Sta Z Z.heap "java/util/BitSet" "$assertionsDisabled" "Z" (.int 1)) :
    MetFree l (⟨"java/util/BitSet", "set", "(I)V"⟩ : MethodName) (head1 (Jvm.Cond.code (⟨"java/util/BitSet", "set", "(I)V"⟩ : MethodName) jdk_92_method_19_code 3 none :: ws) ({ frames := 2, cells := 0, slots := 0, locals := 28 } : Room)) (fun A_ U_ => A_ = #[(.ref a), (.int (0 : Int32))] ∧ Z.Warmed39 U_.vm ∧ U_.heap = h0) (fun _ _ _ _ _ => True) (fun _ U o U' => ∃ v L, o = .returned v ∧ Qst0 Z a r kr x h0 n0 v U'.heap L ∧ FrameEnd U o U' L ({ frames := 2, cells := 0, slots := 0, locals := 28 } : Room).cells ({ frames := 2, cells := 0, slots := 0, locals := 28 } : Room).slots) := by
  refine MetFree.of_bodySF (plainFor_of_name pnst0) hisR ?_
  intro p e s m args below meth cd s₁ Bd hml0 hP hK
  obtain ⟨rfl, hZ, hh⟩ := hP
  have hx := Bd.exec
  have hby := Bd.bytes
  have hlk : meth.locks = false := BodyLoose.notSynchronized Bd
  have hml : cd.maxLocals = 3 := hml0
  have hown : s.vm.findClass "java/util/BitSet" = some m.cls := findClass_of_methodNamed Bd.named
  have hnm := (name_of_methodNamed Bd.named Bd.method).1
  have X0 : Stand p l e ({ frames := 2, cells := 0, slots := 0, locals := 28 } : Room) s m #[(.ref a), (.int (0 : Int32))] below meth cd s₁ [] 0 0 := Stand.of_body Bd
  have e0 : s₁.heap = h0 := by rw [← hh, Bd.state]; rfl
  have N0 := Fr.nil n0
  have K0 : Keep h0 h0 [a, r] := Keep.refl _ _
  have G : Go p e below s 0 0 (Qst0 Z a r kr x h0 n0) (s₁.setTop (mkF m 0 #[.val (.ref a), .val (.int (0 : Int32)), .unset] [])) := by
    show Go p e below s _ _ _ (s₁.setTop (mkF m 0 #[.val (.ref a), .val (.int (0 : Int32)), .unset] []))
    refine Go.st (fun _ kq_ => XS.iloadN X0.here hx rfl (hb hby dst0_0) rfl kq_) ?_
    show Go p e below s _ _ _ (s₁.setTop (mkF m 1 #[.val (.ref a), .val (.int (0 : Int32)), .unset] [(.int (0 : Int32))]))
    refine Go.st (fun _ kq_ => XS.ifYes X0.here hx rfl (pc0 := 1) (pc' := 31) rfl (hb hby dst0_1) rfl (by decide) (by decide) (by decide) kq_) ?_
    show Go p e below s _ _ _ (s₁.setTop (mkF m 31 #[.val (.ref a), .val (.int (0 : Int32)), .unset] []))
    refine Go.st (fun _ kq_ => XS.iloadN X0.here hx rfl (hb hby dst0_31) rfl kq_) ?_
    show Go p e below s _ _ _ (s₁.setTop (mkF m 32 #[.val (.ref a), .val (.int (0 : Int32)), .unset] [(.int (0 : Int32))]))
    obtain ⟨_, _, ⟨T1, L1, k1, n1⟩, -, X1, ⟨Lc1, hQ1, l1, y1, z1⟩, st1⟩ := Jvm.LawKit.callS X0 hx (y := (⟨"java/util/BitSet", "wordIndex", "(I)I"⟩ : MethodName)) hown (mvT hZ (own_w hw 37 rfl)) (mvT hZ (own_w hw 38 rfl)) (mvT hZ (own_w hw 23 rfl)) (mvT hZ (own_w hw 39 rfl)) (by decide) (backOf (W := 0) (rmwi l Z a0 hw [] (0 : Int32) h0 n0 O0 ) hZ (own_w hw 39 rfl) (own_w hw 23 rfl) (by decide) (by decide)) (g := (mkF m 32 #[.val (.ref a), .val (.int (0 : Int32)), .unset] [(.int (0 : Int32))])) rfl (by rw [hml]; rfl) (argsL := [(.int (0 : Int32))]) (rest := []) (lenOf pdst0_0 rfl) rfl (by show 2 * 0 + _ ≤ _; exact Nat.le_of_eq rfl) (hb hby dst0_32) (fun _ _ => ⟨rfl, e0, (by decide : 0 + 0 ≤ _), (by decide : 0 + 0 ≤ _)⟩)
    dsimp only [Pt.U, Pt.locs, Pt.cells, Pt.slots] at X1 l1 y1 z1 st1 hQ1
    subst l1 y1 z1
    obtain ⟨rfl, Nc1, e1⟩ := hQ1
    have N1 := Fr.app N0 Nc1
    rw [(by decide : fWi (0 : Int32) = 0)] at st1
    refine Go.st st1 ?_
    show Go p e below s _ _ _ (T1.setTop (mkF m 35 #[.val (.ref a), .val (.int (0 : Int32)), .unset] [(.int (0 : Int32))]))
    refine Go.st (fun _ kq_ => XS.istoreN X1.here hx rfl (hb hby dst0_35) rfl (l' := #[.val (.ref a), .val (.int (0 : Int32)), .val (.int (0 : Int32))]) rfl kq_) ?_
    show Go p e below s _ _ _ (T1.setTop (mkF m 36 #[.val (.ref a), .val (.int (0 : Int32)), .val (.int (0 : Int32))] []))
    refine Go.st (fun _ kq_ => XS.aloadN X1.here hx rfl (hb hby dst0_36) rfl rfl kq_) ?_
    show Go p e below s _ _ _ (T1.setTop (mkF m 37 #[.val (.ref a), .val (.int (0 : Int32)), .val (.int (0 : Int32))] [(.ref a)]))
    refine Go.st (fun _ kq_ => XS.iloadN X1.here hx rfl (hb hby dst0_37) rfl kq_) ?_
    show Go p e below s _ _ _ (T1.setTop (mkF m 38 #[.val (.ref a), .val (.int (0 : Int32)), .val (.int (0 : Int32))] [(.int (0 : Int32)), (.ref a)]))
    obtain ⟨cq2, qa2, qb2⟩ := Exa.cell E_a
    obtain ⟨_, _, ⟨T2, L2, k2, n2⟩, -, X2, ⟨Lc2, hQ2, l2, y2, z2⟩, st2⟩ := X1.privateBack hx (y := (⟨"java/util/BitSet", "expandTo", "(I)V"⟩ : MethodName)) hown (mvT hZ (own_w hw 61 rfl)) (mvT hZ (own_w hw 62 rfl)) (mvT hZ (own_w hw 64 rfl)) (Cond.privateMethod_at (mvP hZ (own_w hw 63 rfl) (args := #[]))) (mvT hZ (own_w hw 65 rfl)) (by decide) (backOf (W := 0) (rmex0 l Z a0 hw [] a r kr x h0 n0 O0 E_a F_a_wordsInUse F_a_sizeIsSticky F_a_words V_r ga nar_) hZ (own_w hw 65 rfl) (own_w hw 23 rfl) (by decide) (by decide)) (g := (mkF m 38 #[.val (.ref a), .val (.int (0 : Int32)), .val (.int (0 : Int32))] [(.int (0 : Int32)), (.ref a)])) rfl (by rw [hml]; rfl) (Steps.refl _) (a := a) (by rw [e1]; exact qa2) qb2 (argsL := [(.int (0 : Int32))]) (rest := []) (lenOf pdst0_1 rfl) rfl (by show 2 * 0 + _ ≤ _; exact Nat.le_of_eq rfl) (hb hby dst0_38) (fun _ _ => ⟨rfl, e1, (by decide : 0 + 0 ≤ _), (by decide : 0 + 0 ≤ _)⟩)
    dsimp only [Pt.U, Pt.locs, Pt.cells, Pt.slots] at X2 l2 y2 z2 st2 hQ2
    subst l2 y2 z2
    obtain ⟨rfl, Nc2, Kc2, NE_a, NF_a_wordsInUse, NF_a_sizeIsSticky, NF_a_words, NV_r⟩ := hQ2
    have N2 := Fr.app N1 Nc2
    have O2 := O0.keep Kc2 (allS ga all0)
    have K2 := K0.trans Kc2 (allS (Or.inl (List.mem_of_getElem? (i := 0) rfl)) all0)
    have E_a := NE_a
    have F_a_wordsInUse := NF_a_wordsInUse
    have F_a_sizeIsSticky := NF_a_sizeIsSticky
    have F_a_words := NF_a_words
    have V_r := NV_r
    refine Go.tr st2 ?_
    show Go p e below s _ _ _ (T2.setTop (mkF m 41 #[.val (.ref a), .val (.int (0 : Int32)), .val (.int (0 : Int32))] []))
    refine Go.st (fun _ kq_ => XS.aloadN X2.here hx rfl (hb hby dst0_41) rfl rfl kq_) ?_
    show Go p e below s _ _ _ (T2.setTop (mkF m 42 #[.val (.ref a), .val (.int (0 : Int32)), .val (.int (0 : Int32))] [(.ref a)]))
    obtain ⟨T3, X3, e3, st3⟩ := getF X2 hx hZ hown (host := "") (Or.inl (own_w hw 40 rfl)) Via.refl rfl F_a_words (g := (mkF m 42 #[.val (.ref a), .val (.int (0 : Int32)), .val (.int (0 : Int32))] [(.ref a)])) rfl rfl (hb hby dst0_42)
    refine Go.st st3 ?_
    show Go p e below s _ _ _ (T3.setTop (mkF m 45 #[.val (.ref a), .val (.int (0 : Int32)), .val (.int (0 : Int32))] [(.ref r)]))
    refine Go.st (fun _ kq_ => XS.iloadN X3.here hx rfl (hb hby dst0_45) rfl kq_) ?_
    show Go p e below s _ _ _ (T3.setTop (mkF m 46 #[.val (.ref a), .val (.int (0 : Int32)), .val (.int (0 : Int32))] [(.int (0 : Int32)), (.ref r)]))
    refine Go.st (fun _ kq_ => XT.dup2 X3.here hx rfl (hb hby dst0_46) rfl rfl rfl kq_) ?_
    show Go p e below s _ _ _ (T3.setTop (mkF m 47 #[.val (.ref a), .val (.int (0 : Int32)), .val (.int (0 : Int32))] [(.int (0 : Int32)), (.ref r), (.int (0 : Int32)), (.ref r)]))
    refine Go.st (fun _ kq_ => own_laload X3 hx hZ e3 V_r (by decide) (by decide) (v := (.long x)) rfl (g := (mkF m 47 #[.val (.ref a), .val (.int (0 : Int32)), .val (.int (0 : Int32))] [(.int (0 : Int32)), (.ref r), (.int (0 : Int32)), (.ref r)])) rfl rfl (hb hby dst0_47) _ kq_) ?_
    show Go p e below s _ _ _ (T3.setTop (mkF m 48 #[.val (.ref a), .val (.int (0 : Int32)), .val (.int (0 : Int32))] [(.long x), (.int (0 : Int32)), (.ref r)]))
    refine Go.st (fun _ kq_ => XT.lconst X3.here hx rfl (hb hby dst0_48) kq_) ?_
    show Go p e below s _ _ _ (T3.setTop (mkF m 49 #[.val (.ref a), .val (.int (0 : Int32)), .val (.int (0 : Int32))] [(.long (1 : Int64)), (.long x), (.int (0 : Int32)), (.ref r)]))
    refine Go.st (fun _ kq_ => XS.iloadN X3.here hx rfl (hb hby dst0_49) rfl kq_) ?_
    show Go p e below s _ _ _ (T3.setTop (mkF m 50 #[.val (.ref a), .val (.int (0 : Int32)), .val (.int (0 : Int32))] [(.int (0 : Int32)), (.long (1 : Int64)), (.long x), (.int (0 : Int32)), (.ref r)]))
    refine Go.st (fun _ kq_ => XT.lshl X3.here hx rfl (hb hby dst0_50) rfl kq_) ?_
    show Go p e below s _ _ _ (T3.setTop (mkF m 51 #[.val (.ref a), .val (.int (0 : Int32)), .val (.int (0 : Int32))] [(.long ((1 : Int64) <<< ((0 : Int32).toInt64 &&& 63))), (.long x), (.int (0 : Int32)), (.ref r)]))
    refine Go.st (fun _ kq_ => XT.lor X3.here hx rfl (hb hby dst0_51) rfl kq_) ?_
    show Go p e below s _ _ _ (T3.setTop (mkF m 52 #[.val (.ref a), .val (.int (0 : Int32)), .val (.int (0 : Int32))] [(.long (x ||| ((1 : Int64) <<< ((0 : Int32).toInt64 &&& 63)))), (.int (0 : Int32)), (.ref r)]))
    obtain ⟨T4, h4, X4, e4, W4, V4, st4⟩ := own_stJ X3 hx hZ e3 V_r (j := (0 : Int32)) (by decide) (by decide) 0 rfl (Nat.le_of_ble_eq_true rfl) (g := (mkF m 52 #[.val (.ref a), .val (.int (0 : Int32)), .val (.int (0 : Int32))] [(.long (x ||| ((1 : Int64) <<< ((0 : Int32).toInt64 &&& 63)))), (.int (0 : Int32)), (.ref r)])) rfl rfl (hb hby dst0_52)
    have N4 := Fr.snoc X4 N2 gr
    have O4 := O2.wr W4 gr
    have K4 := K2.wr W4 (Or.inl (List.mem_of_getElem? (i := 1) rfl))
    have E_a := E_a.wr W4
    have F_a_wordsInUse := F_a_wordsInUse.other W4 (Or.inl nar_)
    have F_a_sizeIsSticky := F_a_sizeIsSticky.other W4 (Or.inl nar_)
    have F_a_words := F_a_words.other W4 (Or.inl nar_)
    have V_r : Arv Z h4 r kr .long (1 : Int32) [(.long (x ||| ((1 : Int64) <<< ((0 : Int32).toInt64 &&& 63))))] (.long (0 : Int64)) := V4
    refine Go.st st4 ?_
    show Go p e below s _ _ _ (T4.setTop (mkF m 53 #[.val (.ref a), .val (.int (0 : Int32)), .val (.int (0 : Int32))] []))
    refine Go.st (fun _ kq_ => XS.aloadN X4.here hx rfl (hb hby dst0_53) rfl rfl kq_) ?_
    show Go p e below s _ _ _ (T4.setTop (mkF m 54 #[.val (.ref a), .val (.int (0 : Int32)), .val (.int (0 : Int32))] [(.ref a)]))
    obtain ⟨cq5, qa5, qb5⟩ := Exa.cell E_a
    obtain ⟨_, _, ⟨T5, L5, k5, n5⟩, -, X5, ⟨Lc5, hQ5, l5, y5, z5⟩, st5⟩ := X4.privateBack hx (y := (⟨"java/util/BitSet", "checkInvariants", "()V"⟩ : MethodName)) hown (mvT hZ (own_w hw 71 rfl)) (mvT hZ (own_w hw 72 rfl)) (mvT hZ (own_w hw 74 rfl)) (Cond.privateMethod_at (mvP hZ (own_w hw 73 rfl) (args := #[]))) (mvT hZ (own_w hw 75 rfl)) (by decide) (backOf (W := 0) (rmci l Z a0 hw [] a h4 n0 O4 SD) hZ (own_w hw 75 rfl) (own_w hw 23 rfl) (by decide) (by decide)) (g := (mkF m 54 #[.val (.ref a), .val (.int (0 : Int32)), .val (.int (0 : Int32))] [(.ref a)])) rfl (by rw [hml]; rfl) (Steps.refl _) (a := a) (by rw [e4]; exact qa5) qb5 (argsL := []) (rest := []) (lenOf pdst0_2 rfl) rfl (by show 2 * 0 + _ ≤ _; exact Nat.le_of_eq rfl) (hb hby dst0_54) (fun _ _ => ⟨rfl, e4, (by decide : 0 + 0 ≤ _), (by decide : 0 + 0 ≤ _)⟩)
    dsimp only [Pt.U, Pt.locs, Pt.cells, Pt.slots] at X5 l5 y5 z5 st5 hQ5
    subst l5 y5 z5
    obtain ⟨rfl, Nc5, e5⟩ := hQ5
    have N5 := Fr.app N4 Nc5
    refine Go.tr st5 ?_
    show Go p e below s _ _ _ (T5.setTop (mkF m 57 #[.val (.ref a), .val (.int (0 : Int32)), .val (.int (0 : Int32))] []))
    exact Go.ret X5 hlk (none) (fun _ => rfl) (by rw [e5]; exact ⟨rfl, N5, K4, E_a, F_a_wordsInUse, F_a_sizeIsSticky, F_a_words, V_r⟩) (by decide) (by decide) (fun fs hr => X5.returnOut hx Bd.returns (hb hby dst0_57) hr)
  obtain ⟨s2, o2, st2, r2⟩ := G
  exact ⟨s2, o2, castTop (efst0 m a (0 : Int32)) st2, r2⟩
theorem dst1_0 : decode jdk_92_method_19_code 0 = .ok (.iload_n 1, 1) := by decide +kernel
theorem dst1_1 : decode jdk_92_method_19_code 1 = .ok (.ifCond .ge 30, 3) := by decide +kernel
theorem dst1_31 : decode jdk_92_method_19_code 31 = .ok (.iload_n 1, 1) := by decide +kernel
theorem dst1_32 : decode jdk_92_method_19_code 32 = .ok (.invokestatic 52, 3) := by decide +kernel
theorem dst1_35 : decode jdk_92_method_19_code 35 = .ok (.istore_n 2, 1) := by decide +kernel
theorem dst1_36 : decode jdk_92_method_19_code 36 = .ok (.aload_n 0, 1) := by decide +kernel
theorem dst1_37 : decode jdk_92_method_19_code 37 = .ok (.iload_n 2, 1) := by decide +kernel
theorem dst1_38 : decode jdk_92_method_19_code 38 = .ok (.invokevirtual 155, 3) := by decide +kernel
theorem dst1_41 : decode jdk_92_method_19_code 41 = .ok (.aload_n 0, 1) := by decide +kernel
theorem dst1_42 : decode jdk_92_method_19_code 42 = .ok (.getfield 11, 3) := by decide +kernel
theorem dst1_45 : decode jdk_92_method_19_code 45 = .ok (.iload_n 2, 1) := by decide +kernel
theorem dst1_46 : decode jdk_92_method_19_code 46 = .ok (.dup2, 1) := by decide +kernel
theorem dst1_47 : decode jdk_92_method_19_code 47 = .ok (.laload, 1) := by decide +kernel
theorem dst1_48 : decode jdk_92_method_19_code 48 = .ok (.lconst 1, 1) := by decide +kernel
theorem dst1_49 : decode jdk_92_method_19_code 49 = .ok (.iload_n 1, 1) := by decide +kernel
theorem dst1_50 : decode jdk_92_method_19_code 50 = .ok (.lshl, 1) := by decide +kernel
theorem dst1_51 : decode jdk_92_method_19_code 51 = .ok (.lor, 1) := by decide +kernel
theorem dst1_52 : decode jdk_92_method_19_code 52 = .ok (.lastore, 1) := by decide +kernel
theorem dst1_53 : decode jdk_92_method_19_code 53 = .ok (.aload_n 0, 1) := by decide +kernel
theorem dst1_54 : decode jdk_92_method_19_code 54 = .ok (.invokevirtual 56, 3) := by decide +kernel
theorem dst1_57 : decode jdk_92_method_19_code 57 = .ok (.return_, 1) := by decide +kernel
theorem pdst1_0 : parseMethodDescriptor "(I)I" = some ⟨[.int], some .int⟩ := by decide +kernel
theorem pdst1_1 : parseMethodDescriptor "(I)V" = some ⟨[.int], none⟩ := by decide +kernel
theorem pdst1_2 : parseMethodDescriptor "()V" = some ⟨[], none⟩ := by decide +kernel
theorem pnst1 : plainName "java/util/BitSet" = true := by first | (simp [plainName, overriddenIn]; done) | decide +kernel
theorem efst1 (m : MethodId) (x0 : Addr) (x1 : Int32) : entryFrame m #[(.ref x0), (.int x1)] 3 = mkF m 0 #[.val (.ref x0), .val (.int x1), .unset] [] := by first | (simp [entryFrame, mkF, argsToLocals, Value.category, maxLocals]; done) | rfl
def Qst1 (Z : State) (a : Addr) (r : Addr) (kr : ClassId) (x : Int64) (h0 : Heap) (n0 : Nat) (v : Option Value) (h : Heap) (L : List Loc) : Prop := v = none ∧ Fr n0 L ∧ Keep h0 h [a, r] ∧ Exa Z h a "java/util/BitSet" ∧ Fld Z h a "java/util/BitSet" "wordsInUse" "I" (.int (1 : Int32)) ∧ Fld Z h a "java/util/BitSet" "sizeIsSticky" "Z" (.int (0 : Int32)) ∧ Fld Z h a "java/util/BitSet" "words" "[J" (.ref r) ∧ Arv Z h r kr .long (1 : Int32) [(.long (x ||| ((1 : Int64) <<< (((1 : Int32)).toInt64 &&& 63))))] (.long (0 : Int64))
set_option maxRecDepth 65536 in
set_option maxHeartbeats 40000000 in
theorem rmst1 (l : Launch) (Z : State) (a0 : Array Value) (hw : ∀ d ∈ tables_1, d.before a0 Z = true) (ws : List Jvm.Cond) (a : Addr) (r : Addr) (kr : ClassId) (x : Int64) (h0 : Heap) (n0 : Nat) (O0 : Old Z n0 h0) (E_a : Exa Z h0 a "java/util/BitSet") (F_a_wordsInUse : Fld Z h0 a "java/util/BitSet" "wordsInUse" "I" (.int (1 : Int32))) (F_a_sizeIsSticky : Fld Z h0 a "java/util/BitSet" "sizeIsSticky" "Z" (.int (0 : Int32))) (F_a_words : Fld Z h0 a "java/util/BitSet" "words" "[J" (.ref r)) (V_r : Arv Z h0 r kr .long (1 : Int32) [(.long x)] (.long (0 : Int64))) (ga : n0 ≤ a) (gr : n0 ≤ r) (nar_ : a ≠ r) (SD : Sta Z Z.heap "java/util/BitSet" "$assertionsDisabled" "Z" (.int 1)) :
    MetFree l (⟨"java/util/BitSet", "set", "(I)V"⟩ : MethodName) (head1 (Jvm.Cond.code (⟨"java/util/BitSet", "set", "(I)V"⟩ : MethodName) jdk_92_method_19_code 3 none :: ws) ({ frames := 1, cells := 0, slots := 0, locals := 14 } : Room)) (fun A_ U_ => A_ = #[(.ref a), (.int (1 : Int32))] ∧ Z.Warmed39 U_.vm ∧ U_.heap = h0) (fun _ _ _ _ _ => True) (fun _ U o U' => ∃ v L, o = .returned v ∧ Qst1 Z a r kr x h0 n0 v U'.heap L ∧ FrameEnd U o U' L ({ frames := 1, cells := 0, slots := 0, locals := 14 } : Room).cells ({ frames := 1, cells := 0, slots := 0, locals := 14 } : Room).slots) := by
  refine MetFree.of_bodySF (plainFor_of_name pnst1) hisR ?_
  intro p e s m args below meth cd s₁ Bd hml0 hP hK
  obtain ⟨rfl, hZ, hh⟩ := hP
  have hx := Bd.exec
  have hby := Bd.bytes
  have hlk : meth.locks = false := BodyLoose.notSynchronized Bd
  have hml : cd.maxLocals = 3 := hml0
  have hown : s.vm.findClass "java/util/BitSet" = some m.cls := findClass_of_methodNamed Bd.named
  have hnm := (name_of_methodNamed Bd.named Bd.method).1
  have X0 : Stand p l e ({ frames := 1, cells := 0, slots := 0, locals := 14 } : Room) s m #[(.ref a), (.int (1 : Int32))] below meth cd s₁ [] 0 0 := Stand.of_body Bd
  have e0 : s₁.heap = h0 := by rw [← hh, Bd.state]; rfl
  have N0 := Fr.nil n0
  have K0 : Keep h0 h0 [a, r] := Keep.refl _ _
  have G : Go p e below s 0 0 (Qst1 Z a r kr x h0 n0) (s₁.setTop (mkF m 0 #[.val (.ref a), .val (.int (1 : Int32)), .unset] [])) := by
    show Go p e below s _ _ _ (s₁.setTop (mkF m 0 #[.val (.ref a), .val (.int (1 : Int32)), .unset] []))
    refine Go.st (fun _ kq_ => XS.iloadN X0.here hx rfl (hb hby dst1_0) rfl kq_) ?_
    show Go p e below s _ _ _ (s₁.setTop (mkF m 1 #[.val (.ref a), .val (.int (1 : Int32)), .unset] [(.int (1 : Int32))]))
    refine Go.st (fun _ kq_ => XS.ifYes X0.here hx rfl (pc0 := 1) (pc' := 31) rfl (hb hby dst1_1) rfl (by decide) (by decide) (by decide) kq_) ?_
    show Go p e below s _ _ _ (s₁.setTop (mkF m 31 #[.val (.ref a), .val (.int (1 : Int32)), .unset] []))
    refine Go.st (fun _ kq_ => XS.iloadN X0.here hx rfl (hb hby dst1_31) rfl kq_) ?_
    show Go p e below s _ _ _ (s₁.setTop (mkF m 32 #[.val (.ref a), .val (.int (1 : Int32)), .unset] [(.int (1 : Int32))]))
    obtain ⟨_, _, ⟨T1, L1, k1, n1⟩, -, X1, ⟨Lc1, hQ1, l1, y1, z1⟩, st1⟩ := Jvm.LawKit.callS X0 hx (y := (⟨"java/util/BitSet", "wordIndex", "(I)I"⟩ : MethodName)) hown (mvT hZ (own_w hw 37 rfl)) (mvT hZ (own_w hw 38 rfl)) (mvT hZ (own_w hw 23 rfl)) (mvT hZ (own_w hw 39 rfl)) (by decide) (backOf (W := 0) (rmwi l Z a0 hw [] (1 : Int32) h0 n0 O0 ) hZ (own_w hw 39 rfl) (own_w hw 23 rfl) (by decide) (by decide)) (g := (mkF m 32 #[.val (.ref a), .val (.int (1 : Int32)), .unset] [(.int (1 : Int32))])) rfl (by rw [hml]; rfl) (argsL := [(.int (1 : Int32))]) (rest := []) (lenOf pdst1_0 rfl) rfl (by show 2 * 0 + _ ≤ _; exact Nat.le_of_eq rfl) (hb hby dst1_32) (fun _ _ => ⟨rfl, e0, (by decide : 0 + 0 ≤ _), (by decide : 0 + 0 ≤ _)⟩)
    dsimp only [Pt.U, Pt.locs, Pt.cells, Pt.slots] at X1 l1 y1 z1 st1 hQ1
    subst l1 y1 z1
    obtain ⟨rfl, Nc1, e1⟩ := hQ1
    have N1 := Fr.app N0 Nc1
    rw [(by decide : fWi (1 : Int32) = 0)] at st1
    refine Go.st st1 ?_
    show Go p e below s _ _ _ (T1.setTop (mkF m 35 #[.val (.ref a), .val (.int (1 : Int32)), .unset] [(.int (0 : Int32))]))
    refine Go.st (fun _ kq_ => XS.istoreN X1.here hx rfl (hb hby dst1_35) rfl (l' := #[.val (.ref a), .val (.int (1 : Int32)), .val (.int (0 : Int32))]) rfl kq_) ?_
    show Go p e below s _ _ _ (T1.setTop (mkF m 36 #[.val (.ref a), .val (.int (1 : Int32)), .val (.int (0 : Int32))] []))
    refine Go.st (fun _ kq_ => XS.aloadN X1.here hx rfl (hb hby dst1_36) rfl rfl kq_) ?_
    show Go p e below s _ _ _ (T1.setTop (mkF m 37 #[.val (.ref a), .val (.int (1 : Int32)), .val (.int (0 : Int32))] [(.ref a)]))
    refine Go.st (fun _ kq_ => XS.iloadN X1.here hx rfl (hb hby dst1_37) rfl kq_) ?_
    show Go p e below s _ _ _ (T1.setTop (mkF m 38 #[.val (.ref a), .val (.int (1 : Int32)), .val (.int (0 : Int32))] [(.int (0 : Int32)), (.ref a)]))
    obtain ⟨cq2, qa2, qb2⟩ := Exa.cell E_a
    obtain ⟨_, _, ⟨T2, L2, k2, n2⟩, -, X2, ⟨Lc2, hQ2, l2, y2, z2⟩, st2⟩ := X1.privateBack hx (y := (⟨"java/util/BitSet", "expandTo", "(I)V"⟩ : MethodName)) hown (mvT hZ (own_w hw 61 rfl)) (mvT hZ (own_w hw 62 rfl)) (mvT hZ (own_w hw 64 rfl)) (Cond.privateMethod_at (mvP hZ (own_w hw 63 rfl) (args := #[]))) (mvT hZ (own_w hw 65 rfl)) (by decide) (backOf (W := 0) (rmex1 l Z a0 hw [] a r kr x h0 n0 O0 E_a F_a_wordsInUse F_a_sizeIsSticky F_a_words V_r ga nar_) hZ (own_w hw 65 rfl) (own_w hw 23 rfl) (by decide) (by decide)) (g := (mkF m 38 #[.val (.ref a), .val (.int (1 : Int32)), .val (.int (0 : Int32))] [(.int (0 : Int32)), (.ref a)])) rfl (by rw [hml]; rfl) (Steps.refl _) (a := a) (by rw [e1]; exact qa2) qb2 (argsL := [(.int (0 : Int32))]) (rest := []) (lenOf pdst1_1 rfl) rfl (by show 2 * 0 + _ ≤ _; exact Nat.le_of_eq rfl) (hb hby dst1_38) (fun _ _ => ⟨rfl, e1, (by decide : 0 + 0 ≤ _), (by decide : 0 + 0 ≤ _)⟩)
    dsimp only [Pt.U, Pt.locs, Pt.cells, Pt.slots] at X2 l2 y2 z2 st2 hQ2
    subst l2 y2 z2
    obtain ⟨rfl, Nc2, Kc2, NE_a, NF_a_wordsInUse, NF_a_sizeIsSticky, NF_a_words, NV_r⟩ := hQ2
    have N2 := Fr.app N1 Nc2
    have O2 := O0.keep Kc2 (allS ga all0)
    have K2 := K0.trans Kc2 (allS (Or.inl (List.mem_of_getElem? (i := 0) rfl)) all0)
    have E_a := NE_a
    have F_a_wordsInUse := NF_a_wordsInUse
    have F_a_sizeIsSticky := NF_a_sizeIsSticky
    have F_a_words := NF_a_words
    have V_r := NV_r
    refine Go.tr st2 ?_
    show Go p e below s _ _ _ (T2.setTop (mkF m 41 #[.val (.ref a), .val (.int (1 : Int32)), .val (.int (0 : Int32))] []))
    refine Go.st (fun _ kq_ => XS.aloadN X2.here hx rfl (hb hby dst1_41) rfl rfl kq_) ?_
    show Go p e below s _ _ _ (T2.setTop (mkF m 42 #[.val (.ref a), .val (.int (1 : Int32)), .val (.int (0 : Int32))] [(.ref a)]))
    obtain ⟨T3, X3, e3, st3⟩ := getF X2 hx hZ hown (host := "") (Or.inl (own_w hw 40 rfl)) Via.refl rfl F_a_words (g := (mkF m 42 #[.val (.ref a), .val (.int (1 : Int32)), .val (.int (0 : Int32))] [(.ref a)])) rfl rfl (hb hby dst1_42)
    refine Go.st st3 ?_
    show Go p e below s _ _ _ (T3.setTop (mkF m 45 #[.val (.ref a), .val (.int (1 : Int32)), .val (.int (0 : Int32))] [(.ref r)]))
    refine Go.st (fun _ kq_ => XS.iloadN X3.here hx rfl (hb hby dst1_45) rfl kq_) ?_
    show Go p e below s _ _ _ (T3.setTop (mkF m 46 #[.val (.ref a), .val (.int (1 : Int32)), .val (.int (0 : Int32))] [(.int (0 : Int32)), (.ref r)]))
    refine Go.st (fun _ kq_ => XT.dup2 X3.here hx rfl (hb hby dst1_46) rfl rfl rfl kq_) ?_
    show Go p e below s _ _ _ (T3.setTop (mkF m 47 #[.val (.ref a), .val (.int (1 : Int32)), .val (.int (0 : Int32))] [(.int (0 : Int32)), (.ref r), (.int (0 : Int32)), (.ref r)]))
    refine Go.st (fun _ kq_ => own_laload X3 hx hZ e3 V_r (by decide) (by decide) (v := (.long x)) rfl (g := (mkF m 47 #[.val (.ref a), .val (.int (1 : Int32)), .val (.int (0 : Int32))] [(.int (0 : Int32)), (.ref r), (.int (0 : Int32)), (.ref r)])) rfl rfl (hb hby dst1_47) _ kq_) ?_
    show Go p e below s _ _ _ (T3.setTop (mkF m 48 #[.val (.ref a), .val (.int (1 : Int32)), .val (.int (0 : Int32))] [(.long x), (.int (0 : Int32)), (.ref r)]))
    refine Go.st (fun _ kq_ => XT.lconst X3.here hx rfl (hb hby dst1_48) kq_) ?_
    show Go p e below s _ _ _ (T3.setTop (mkF m 49 #[.val (.ref a), .val (.int (1 : Int32)), .val (.int (0 : Int32))] [(.long (1 : Int64)), (.long x), (.int (0 : Int32)), (.ref r)]))
    refine Go.st (fun _ kq_ => XS.iloadN X3.here hx rfl (hb hby dst1_49) rfl kq_) ?_
    show Go p e below s _ _ _ (T3.setTop (mkF m 50 #[.val (.ref a), .val (.int (1 : Int32)), .val (.int (0 : Int32))] [(.int (1 : Int32)), (.long (1 : Int64)), (.long x), (.int (0 : Int32)), (.ref r)]))
    refine Go.st (fun _ kq_ => XT.lshl X3.here hx rfl (hb hby dst1_50) rfl kq_) ?_
    show Go p e below s _ _ _ (T3.setTop (mkF m 51 #[.val (.ref a), .val (.int (1 : Int32)), .val (.int (0 : Int32))] [(.long ((1 : Int64) <<< ((1 : Int32).toInt64 &&& 63))), (.long x), (.int (0 : Int32)), (.ref r)]))
    refine Go.st (fun _ kq_ => XT.lor X3.here hx rfl (hb hby dst1_51) rfl kq_) ?_
    show Go p e below s _ _ _ (T3.setTop (mkF m 52 #[.val (.ref a), .val (.int (1 : Int32)), .val (.int (0 : Int32))] [(.long (x ||| ((1 : Int64) <<< ((1 : Int32).toInt64 &&& 63)))), (.int (0 : Int32)), (.ref r)]))
    obtain ⟨T4, h4, X4, e4, W4, V4, st4⟩ := own_stJ X3 hx hZ e3 V_r (j := (0 : Int32)) (by decide) (by decide) 0 rfl (Nat.le_of_ble_eq_true rfl) (g := (mkF m 52 #[.val (.ref a), .val (.int (1 : Int32)), .val (.int (0 : Int32))] [(.long (x ||| ((1 : Int64) <<< ((1 : Int32).toInt64 &&& 63)))), (.int (0 : Int32)), (.ref r)])) rfl rfl (hb hby dst1_52)
    have N4 := Fr.snoc X4 N2 gr
    have O4 := O2.wr W4 gr
    have K4 := K2.wr W4 (Or.inl (List.mem_of_getElem? (i := 1) rfl))
    have E_a := E_a.wr W4
    have F_a_wordsInUse := F_a_wordsInUse.other W4 (Or.inl nar_)
    have F_a_sizeIsSticky := F_a_sizeIsSticky.other W4 (Or.inl nar_)
    have F_a_words := F_a_words.other W4 (Or.inl nar_)
    have V_r : Arv Z h4 r kr .long (1 : Int32) [(.long (x ||| ((1 : Int64) <<< ((1 : Int32).toInt64 &&& 63))))] (.long (0 : Int64)) := V4
    refine Go.st st4 ?_
    show Go p e below s _ _ _ (T4.setTop (mkF m 53 #[.val (.ref a), .val (.int (1 : Int32)), .val (.int (0 : Int32))] []))
    refine Go.st (fun _ kq_ => XS.aloadN X4.here hx rfl (hb hby dst1_53) rfl rfl kq_) ?_
    show Go p e below s _ _ _ (T4.setTop (mkF m 54 #[.val (.ref a), .val (.int (1 : Int32)), .val (.int (0 : Int32))] [(.ref a)]))
    obtain ⟨cq5, qa5, qb5⟩ := Exa.cell E_a
    obtain ⟨_, _, ⟨T5, L5, k5, n5⟩, -, X5, ⟨Lc5, hQ5, l5, y5, z5⟩, st5⟩ := X4.privateBack hx (y := (⟨"java/util/BitSet", "checkInvariants", "()V"⟩ : MethodName)) hown (mvT hZ (own_w hw 71 rfl)) (mvT hZ (own_w hw 72 rfl)) (mvT hZ (own_w hw 74 rfl)) (Cond.privateMethod_at (mvP hZ (own_w hw 73 rfl) (args := #[]))) (mvT hZ (own_w hw 75 rfl)) (by decide) (backOf (W := 0) (rmci l Z a0 hw [] a h4 n0 O4 SD) hZ (own_w hw 75 rfl) (own_w hw 23 rfl) (by decide) (by decide)) (g := (mkF m 54 #[.val (.ref a), .val (.int (1 : Int32)), .val (.int (0 : Int32))] [(.ref a)])) rfl (by rw [hml]; rfl) (Steps.refl _) (a := a) (by rw [e4]; exact qa5) qb5 (argsL := []) (rest := []) (lenOf pdst1_2 rfl) rfl (by show 2 * 0 + _ ≤ _; exact Nat.le_of_eq rfl) (hb hby dst1_54) (fun _ _ => ⟨rfl, e4, (by decide : 0 + 0 ≤ _), (by decide : 0 + 0 ≤ _)⟩)
    dsimp only [Pt.U, Pt.locs, Pt.cells, Pt.slots] at X5 l5 y5 z5 st5 hQ5
    subst l5 y5 z5
    obtain ⟨rfl, Nc5, e5⟩ := hQ5
    have N5 := Fr.app N4 Nc5
    refine Go.tr st5 ?_
    show Go p e below s _ _ _ (T5.setTop (mkF m 57 #[.val (.ref a), .val (.int (1 : Int32)), .val (.int (0 : Int32))] []))
    exact Go.ret X5 hlk (none) (fun _ => rfl) (by rw [e5]; exact ⟨rfl, N5, K4, E_a, F_a_wordsInUse, F_a_sizeIsSticky, F_a_words, V_r⟩) (by decide) (by decide) (fun fs hr => X5.returnOut hx Bd.returns (hb hby dst1_57) hr)
  obtain ⟨s2, o2, st2, r2⟩ := G
  exact ⟨s2, o2, castTop (efst1 m a (1 : Int32)) st2, r2⟩
theorem dst2_0 : decode jdk_92_method_19_code 0 = .ok (.iload_n 1, 1) := by decide +kernel
theorem dst2_1 : decode jdk_92_method_19_code 1 = .ok (.ifCond .ge 30, 3) := by decide +kernel
theorem dst2_31 : decode jdk_92_method_19_code 31 = .ok (.iload_n 1, 1) := by decide +kernel
theorem dst2_32 : decode jdk_92_method_19_code 32 = .ok (.invokestatic 52, 3) := by decide +kernel
theorem dst2_35 : decode jdk_92_method_19_code 35 = .ok (.istore_n 2, 1) := by decide +kernel
theorem dst2_36 : decode jdk_92_method_19_code 36 = .ok (.aload_n 0, 1) := by decide +kernel
theorem dst2_37 : decode jdk_92_method_19_code 37 = .ok (.iload_n 2, 1) := by decide +kernel
theorem dst2_38 : decode jdk_92_method_19_code 38 = .ok (.invokevirtual 155, 3) := by decide +kernel
theorem dst2_41 : decode jdk_92_method_19_code 41 = .ok (.aload_n 0, 1) := by decide +kernel
theorem dst2_42 : decode jdk_92_method_19_code 42 = .ok (.getfield 11, 3) := by decide +kernel
theorem dst2_45 : decode jdk_92_method_19_code 45 = .ok (.iload_n 2, 1) := by decide +kernel
theorem dst2_46 : decode jdk_92_method_19_code 46 = .ok (.dup2, 1) := by decide +kernel
theorem dst2_47 : decode jdk_92_method_19_code 47 = .ok (.laload, 1) := by decide +kernel
theorem dst2_48 : decode jdk_92_method_19_code 48 = .ok (.lconst 1, 1) := by decide +kernel
theorem dst2_49 : decode jdk_92_method_19_code 49 = .ok (.iload_n 1, 1) := by decide +kernel
theorem dst2_50 : decode jdk_92_method_19_code 50 = .ok (.lshl, 1) := by decide +kernel
theorem dst2_51 : decode jdk_92_method_19_code 51 = .ok (.lor, 1) := by decide +kernel
theorem dst2_52 : decode jdk_92_method_19_code 52 = .ok (.lastore, 1) := by decide +kernel
theorem dst2_53 : decode jdk_92_method_19_code 53 = .ok (.aload_n 0, 1) := by decide +kernel
theorem dst2_54 : decode jdk_92_method_19_code 54 = .ok (.invokevirtual 56, 3) := by decide +kernel
theorem dst2_57 : decode jdk_92_method_19_code 57 = .ok (.return_, 1) := by decide +kernel
theorem pdst2_0 : parseMethodDescriptor "(I)I" = some ⟨[.int], some .int⟩ := by decide +kernel
theorem pdst2_1 : parseMethodDescriptor "(I)V" = some ⟨[.int], none⟩ := by decide +kernel
theorem pdst2_2 : parseMethodDescriptor "()V" = some ⟨[], none⟩ := by decide +kernel
theorem pnst2 : plainName "java/util/BitSet" = true := by first | (simp [plainName, overriddenIn]; done) | decide +kernel
theorem efst2 (m : MethodId) (x0 : Addr) (x1 : Int32) : entryFrame m #[(.ref x0), (.int x1)] 3 = mkF m 0 #[.val (.ref x0), .val (.int x1), .unset] [] := by first | (simp [entryFrame, mkF, argsToLocals, Value.category, maxLocals]; done) | rfl
def Qst2 (Z : State) (a : Addr) (r : Addr) (kr : ClassId) (x : Int64) (h0 : Heap) (n0 : Nat) (v : Option Value) (h : Heap) (L : List Loc) : Prop := v = none ∧ Fr n0 L ∧ Keep h0 h [a, r] ∧ Exa Z h a "java/util/BitSet" ∧ Fld Z h a "java/util/BitSet" "wordsInUse" "I" (.int (1 : Int32)) ∧ Fld Z h a "java/util/BitSet" "sizeIsSticky" "Z" (.int (0 : Int32)) ∧ Fld Z h a "java/util/BitSet" "words" "[J" (.ref r) ∧ Arv Z h r kr .long (1 : Int32) [(.long (x ||| ((1 : Int64) <<< (((2 : Int32)).toInt64 &&& 63))))] (.long (0 : Int64))
set_option maxRecDepth 65536 in
set_option maxHeartbeats 40000000 in
theorem rmst2 (l : Launch) (Z : State) (a0 : Array Value) (hw : ∀ d ∈ tables_1, d.before a0 Z = true) (ws : List Jvm.Cond) (a : Addr) (r : Addr) (kr : ClassId) (x : Int64) (h0 : Heap) (n0 : Nat) (O0 : Old Z n0 h0) (E_a : Exa Z h0 a "java/util/BitSet") (F_a_wordsInUse : Fld Z h0 a "java/util/BitSet" "wordsInUse" "I" (.int (1 : Int32))) (F_a_sizeIsSticky : Fld Z h0 a "java/util/BitSet" "sizeIsSticky" "Z" (.int (0 : Int32))) (F_a_words : Fld Z h0 a "java/util/BitSet" "words" "[J" (.ref r)) (V_r : Arv Z h0 r kr .long (1 : Int32) [(.long x)] (.long (0 : Int64))) (ga : n0 ≤ a) (gr : n0 ≤ r) (nar_ : a ≠ r) (SD : Sta Z Z.heap "java/util/BitSet" "$assertionsDisabled" "Z" (.int 1)) :
    MetFree l (⟨"java/util/BitSet", "set", "(I)V"⟩ : MethodName) (head1 (Jvm.Cond.code (⟨"java/util/BitSet", "set", "(I)V"⟩ : MethodName) jdk_92_method_19_code 3 none :: ws) ({ frames := 1, cells := 0, slots := 0, locals := 14 } : Room)) (fun A_ U_ => A_ = #[(.ref a), (.int (2 : Int32))] ∧ Z.Warmed39 U_.vm ∧ U_.heap = h0) (fun _ _ _ _ _ => True) (fun _ U o U' => ∃ v L, o = .returned v ∧ Qst2 Z a r kr x h0 n0 v U'.heap L ∧ FrameEnd U o U' L ({ frames := 1, cells := 0, slots := 0, locals := 14 } : Room).cells ({ frames := 1, cells := 0, slots := 0, locals := 14 } : Room).slots) := by
  refine MetFree.of_bodySF (plainFor_of_name pnst2) hisR ?_
  intro p e s m args below meth cd s₁ Bd hml0 hP hK
  obtain ⟨rfl, hZ, hh⟩ := hP
  have hx := Bd.exec
  have hby := Bd.bytes
  have hlk : meth.locks = false := BodyLoose.notSynchronized Bd
  have hml : cd.maxLocals = 3 := hml0
  have hown : s.vm.findClass "java/util/BitSet" = some m.cls := findClass_of_methodNamed Bd.named
  have hnm := (name_of_methodNamed Bd.named Bd.method).1
  have X0 : Stand p l e ({ frames := 1, cells := 0, slots := 0, locals := 14 } : Room) s m #[(.ref a), (.int (2 : Int32))] below meth cd s₁ [] 0 0 := Stand.of_body Bd
  have e0 : s₁.heap = h0 := by rw [← hh, Bd.state]; rfl
  have N0 := Fr.nil n0
  have K0 : Keep h0 h0 [a, r] := Keep.refl _ _
  have G : Go p e below s 0 0 (Qst2 Z a r kr x h0 n0) (s₁.setTop (mkF m 0 #[.val (.ref a), .val (.int (2 : Int32)), .unset] [])) := by
    show Go p e below s _ _ _ (s₁.setTop (mkF m 0 #[.val (.ref a), .val (.int (2 : Int32)), .unset] []))
    refine Go.st (fun _ kq_ => XS.iloadN X0.here hx rfl (hb hby dst2_0) rfl kq_) ?_
    show Go p e below s _ _ _ (s₁.setTop (mkF m 1 #[.val (.ref a), .val (.int (2 : Int32)), .unset] [(.int (2 : Int32))]))
    refine Go.st (fun _ kq_ => XS.ifYes X0.here hx rfl (pc0 := 1) (pc' := 31) rfl (hb hby dst2_1) rfl (by decide) (by decide) (by decide) kq_) ?_
    show Go p e below s _ _ _ (s₁.setTop (mkF m 31 #[.val (.ref a), .val (.int (2 : Int32)), .unset] []))
    refine Go.st (fun _ kq_ => XS.iloadN X0.here hx rfl (hb hby dst2_31) rfl kq_) ?_
    show Go p e below s _ _ _ (s₁.setTop (mkF m 32 #[.val (.ref a), .val (.int (2 : Int32)), .unset] [(.int (2 : Int32))]))
    obtain ⟨_, _, ⟨T1, L1, k1, n1⟩, -, X1, ⟨Lc1, hQ1, l1, y1, z1⟩, st1⟩ := Jvm.LawKit.callS X0 hx (y := (⟨"java/util/BitSet", "wordIndex", "(I)I"⟩ : MethodName)) hown (mvT hZ (own_w hw 37 rfl)) (mvT hZ (own_w hw 38 rfl)) (mvT hZ (own_w hw 23 rfl)) (mvT hZ (own_w hw 39 rfl)) (by decide) (backOf (W := 0) (rmwi l Z a0 hw [] (2 : Int32) h0 n0 O0 ) hZ (own_w hw 39 rfl) (own_w hw 23 rfl) (by decide) (by decide)) (g := (mkF m 32 #[.val (.ref a), .val (.int (2 : Int32)), .unset] [(.int (2 : Int32))])) rfl (by rw [hml]; rfl) (argsL := [(.int (2 : Int32))]) (rest := []) (lenOf pdst2_0 rfl) rfl (by show 2 * 0 + _ ≤ _; exact Nat.le_of_eq rfl) (hb hby dst2_32) (fun _ _ => ⟨rfl, e0, (by decide : 0 + 0 ≤ _), (by decide : 0 + 0 ≤ _)⟩)
    dsimp only [Pt.U, Pt.locs, Pt.cells, Pt.slots] at X1 l1 y1 z1 st1 hQ1
    subst l1 y1 z1
    obtain ⟨rfl, Nc1, e1⟩ := hQ1
    have N1 := Fr.app N0 Nc1
    rw [(by decide : fWi (2 : Int32) = 0)] at st1
    refine Go.st st1 ?_
    show Go p e below s _ _ _ (T1.setTop (mkF m 35 #[.val (.ref a), .val (.int (2 : Int32)), .unset] [(.int (0 : Int32))]))
    refine Go.st (fun _ kq_ => XS.istoreN X1.here hx rfl (hb hby dst2_35) rfl (l' := #[.val (.ref a), .val (.int (2 : Int32)), .val (.int (0 : Int32))]) rfl kq_) ?_
    show Go p e below s _ _ _ (T1.setTop (mkF m 36 #[.val (.ref a), .val (.int (2 : Int32)), .val (.int (0 : Int32))] []))
    refine Go.st (fun _ kq_ => XS.aloadN X1.here hx rfl (hb hby dst2_36) rfl rfl kq_) ?_
    show Go p e below s _ _ _ (T1.setTop (mkF m 37 #[.val (.ref a), .val (.int (2 : Int32)), .val (.int (0 : Int32))] [(.ref a)]))
    refine Go.st (fun _ kq_ => XS.iloadN X1.here hx rfl (hb hby dst2_37) rfl kq_) ?_
    show Go p e below s _ _ _ (T1.setTop (mkF m 38 #[.val (.ref a), .val (.int (2 : Int32)), .val (.int (0 : Int32))] [(.int (0 : Int32)), (.ref a)]))
    obtain ⟨cq2, qa2, qb2⟩ := Exa.cell E_a
    obtain ⟨_, _, ⟨T2, L2, k2, n2⟩, -, X2, ⟨Lc2, hQ2, l2, y2, z2⟩, st2⟩ := X1.privateBack hx (y := (⟨"java/util/BitSet", "expandTo", "(I)V"⟩ : MethodName)) hown (mvT hZ (own_w hw 61 rfl)) (mvT hZ (own_w hw 62 rfl)) (mvT hZ (own_w hw 64 rfl)) (Cond.privateMethod_at (mvP hZ (own_w hw 63 rfl) (args := #[]))) (mvT hZ (own_w hw 65 rfl)) (by decide) (backOf (W := 0) (rmex1 l Z a0 hw [] a r kr x h0 n0 O0 E_a F_a_wordsInUse F_a_sizeIsSticky F_a_words V_r ga nar_) hZ (own_w hw 65 rfl) (own_w hw 23 rfl) (by decide) (by decide)) (g := (mkF m 38 #[.val (.ref a), .val (.int (2 : Int32)), .val (.int (0 : Int32))] [(.int (0 : Int32)), (.ref a)])) rfl (by rw [hml]; rfl) (Steps.refl _) (a := a) (by rw [e1]; exact qa2) qb2 (argsL := [(.int (0 : Int32))]) (rest := []) (lenOf pdst2_1 rfl) rfl (by show 2 * 0 + _ ≤ _; exact Nat.le_of_eq rfl) (hb hby dst2_38) (fun _ _ => ⟨rfl, e1, (by decide : 0 + 0 ≤ _), (by decide : 0 + 0 ≤ _)⟩)
    dsimp only [Pt.U, Pt.locs, Pt.cells, Pt.slots] at X2 l2 y2 z2 st2 hQ2
    subst l2 y2 z2
    obtain ⟨rfl, Nc2, Kc2, NE_a, NF_a_wordsInUse, NF_a_sizeIsSticky, NF_a_words, NV_r⟩ := hQ2
    have N2 := Fr.app N1 Nc2
    have O2 := O0.keep Kc2 (allS ga all0)
    have K2 := K0.trans Kc2 (allS (Or.inl (List.mem_of_getElem? (i := 0) rfl)) all0)
    have E_a := NE_a
    have F_a_wordsInUse := NF_a_wordsInUse
    have F_a_sizeIsSticky := NF_a_sizeIsSticky
    have F_a_words := NF_a_words
    have V_r := NV_r
    refine Go.tr st2 ?_
    show Go p e below s _ _ _ (T2.setTop (mkF m 41 #[.val (.ref a), .val (.int (2 : Int32)), .val (.int (0 : Int32))] []))
    refine Go.st (fun _ kq_ => XS.aloadN X2.here hx rfl (hb hby dst2_41) rfl rfl kq_) ?_
    show Go p e below s _ _ _ (T2.setTop (mkF m 42 #[.val (.ref a), .val (.int (2 : Int32)), .val (.int (0 : Int32))] [(.ref a)]))
    obtain ⟨T3, X3, e3, st3⟩ := getF X2 hx hZ hown (host := "") (Or.inl (own_w hw 40 rfl)) Via.refl rfl F_a_words (g := (mkF m 42 #[.val (.ref a), .val (.int (2 : Int32)), .val (.int (0 : Int32))] [(.ref a)])) rfl rfl (hb hby dst2_42)
    refine Go.st st3 ?_
    show Go p e below s _ _ _ (T3.setTop (mkF m 45 #[.val (.ref a), .val (.int (2 : Int32)), .val (.int (0 : Int32))] [(.ref r)]))
    refine Go.st (fun _ kq_ => XS.iloadN X3.here hx rfl (hb hby dst2_45) rfl kq_) ?_
    show Go p e below s _ _ _ (T3.setTop (mkF m 46 #[.val (.ref a), .val (.int (2 : Int32)), .val (.int (0 : Int32))] [(.int (0 : Int32)), (.ref r)]))
    refine Go.st (fun _ kq_ => XT.dup2 X3.here hx rfl (hb hby dst2_46) rfl rfl rfl kq_) ?_
    show Go p e below s _ _ _ (T3.setTop (mkF m 47 #[.val (.ref a), .val (.int (2 : Int32)), .val (.int (0 : Int32))] [(.int (0 : Int32)), (.ref r), (.int (0 : Int32)), (.ref r)]))
    refine Go.st (fun _ kq_ => own_laload X3 hx hZ e3 V_r (by decide) (by decide) (v := (.long x)) rfl (g := (mkF m 47 #[.val (.ref a), .val (.int (2 : Int32)), .val (.int (0 : Int32))] [(.int (0 : Int32)), (.ref r), (.int (0 : Int32)), (.ref r)])) rfl rfl (hb hby dst2_47) _ kq_) ?_
    show Go p e below s _ _ _ (T3.setTop (mkF m 48 #[.val (.ref a), .val (.int (2 : Int32)), .val (.int (0 : Int32))] [(.long x), (.int (0 : Int32)), (.ref r)]))
    refine Go.st (fun _ kq_ => XT.lconst X3.here hx rfl (hb hby dst2_48) kq_) ?_
    show Go p e below s _ _ _ (T3.setTop (mkF m 49 #[.val (.ref a), .val (.int (2 : Int32)), .val (.int (0 : Int32))] [(.long (1 : Int64)), (.long x), (.int (0 : Int32)), (.ref r)]))
    refine Go.st (fun _ kq_ => XS.iloadN X3.here hx rfl (hb hby dst2_49) rfl kq_) ?_
    show Go p e below s _ _ _ (T3.setTop (mkF m 50 #[.val (.ref a), .val (.int (2 : Int32)), .val (.int (0 : Int32))] [(.int (2 : Int32)), (.long (1 : Int64)), (.long x), (.int (0 : Int32)), (.ref r)]))
    refine Go.st (fun _ kq_ => XT.lshl X3.here hx rfl (hb hby dst2_50) rfl kq_) ?_
    show Go p e below s _ _ _ (T3.setTop (mkF m 51 #[.val (.ref a), .val (.int (2 : Int32)), .val (.int (0 : Int32))] [(.long ((1 : Int64) <<< ((2 : Int32).toInt64 &&& 63))), (.long x), (.int (0 : Int32)), (.ref r)]))
    refine Go.st (fun _ kq_ => XT.lor X3.here hx rfl (hb hby dst2_51) rfl kq_) ?_
    show Go p e below s _ _ _ (T3.setTop (mkF m 52 #[.val (.ref a), .val (.int (2 : Int32)), .val (.int (0 : Int32))] [(.long (x ||| ((1 : Int64) <<< ((2 : Int32).toInt64 &&& 63)))), (.int (0 : Int32)), (.ref r)]))
    obtain ⟨T4, h4, X4, e4, W4, V4, st4⟩ := own_stJ X3 hx hZ e3 V_r (j := (0 : Int32)) (by decide) (by decide) 0 rfl (Nat.le_of_ble_eq_true rfl) (g := (mkF m 52 #[.val (.ref a), .val (.int (2 : Int32)), .val (.int (0 : Int32))] [(.long (x ||| ((1 : Int64) <<< ((2 : Int32).toInt64 &&& 63)))), (.int (0 : Int32)), (.ref r)])) rfl rfl (hb hby dst2_52)
    have N4 := Fr.snoc X4 N2 gr
    have O4 := O2.wr W4 gr
    have K4 := K2.wr W4 (Or.inl (List.mem_of_getElem? (i := 1) rfl))
    have E_a := E_a.wr W4
    have F_a_wordsInUse := F_a_wordsInUse.other W4 (Or.inl nar_)
    have F_a_sizeIsSticky := F_a_sizeIsSticky.other W4 (Or.inl nar_)
    have F_a_words := F_a_words.other W4 (Or.inl nar_)
    have V_r : Arv Z h4 r kr .long (1 : Int32) [(.long (x ||| ((1 : Int64) <<< ((2 : Int32).toInt64 &&& 63))))] (.long (0 : Int64)) := V4
    refine Go.st st4 ?_
    show Go p e below s _ _ _ (T4.setTop (mkF m 53 #[.val (.ref a), .val (.int (2 : Int32)), .val (.int (0 : Int32))] []))
    refine Go.st (fun _ kq_ => XS.aloadN X4.here hx rfl (hb hby dst2_53) rfl rfl kq_) ?_
    show Go p e below s _ _ _ (T4.setTop (mkF m 54 #[.val (.ref a), .val (.int (2 : Int32)), .val (.int (0 : Int32))] [(.ref a)]))
    obtain ⟨cq5, qa5, qb5⟩ := Exa.cell E_a
    obtain ⟨_, _, ⟨T5, L5, k5, n5⟩, -, X5, ⟨Lc5, hQ5, l5, y5, z5⟩, st5⟩ := X4.privateBack hx (y := (⟨"java/util/BitSet", "checkInvariants", "()V"⟩ : MethodName)) hown (mvT hZ (own_w hw 71 rfl)) (mvT hZ (own_w hw 72 rfl)) (mvT hZ (own_w hw 74 rfl)) (Cond.privateMethod_at (mvP hZ (own_w hw 73 rfl) (args := #[]))) (mvT hZ (own_w hw 75 rfl)) (by decide) (backOf (W := 0) (rmci l Z a0 hw [] a h4 n0 O4 SD) hZ (own_w hw 75 rfl) (own_w hw 23 rfl) (by decide) (by decide)) (g := (mkF m 54 #[.val (.ref a), .val (.int (2 : Int32)), .val (.int (0 : Int32))] [(.ref a)])) rfl (by rw [hml]; rfl) (Steps.refl _) (a := a) (by rw [e4]; exact qa5) qb5 (argsL := []) (rest := []) (lenOf pdst2_2 rfl) rfl (by show 2 * 0 + _ ≤ _; exact Nat.le_of_eq rfl) (hb hby dst2_54) (fun _ _ => ⟨rfl, e4, (by decide : 0 + 0 ≤ _), (by decide : 0 + 0 ≤ _)⟩)
    dsimp only [Pt.U, Pt.locs, Pt.cells, Pt.slots] at X5 l5 y5 z5 st5 hQ5
    subst l5 y5 z5
    obtain ⟨rfl, Nc5, e5⟩ := hQ5
    have N5 := Fr.app N4 Nc5
    refine Go.tr st5 ?_
    show Go p e below s _ _ _ (T5.setTop (mkF m 57 #[.val (.ref a), .val (.int (2 : Int32)), .val (.int (0 : Int32))] []))
    exact Go.ret X5 hlk (none) (fun _ => rfl) (by rw [e5]; exact ⟨rfl, N5, K4, E_a, F_a_wordsInUse, F_a_sizeIsSticky, F_a_words, V_r⟩) (by decide) (by decide) (fun fs hr => X5.returnOut hx Bd.returns (hb hby dst2_57) hr)
  obtain ⟨s2, o2, st2, r2⟩ := G
  exact ⟨s2, o2, castTop (efst2 m a (2 : Int32)) st2, r2⟩
theorem dad0_0 : decode prog_39_method_2_code 0 = .ok (.aload_n 0, 1) := by decide +kernel
theorem dad0_1 : decode prog_39_method_2_code 1 = .ok (.getfield 23, 3) := by decide +kernel
theorem dad0_4 : decode prog_39_method_2_code 4 = .ok (.aload_n 0, 1) := by decide +kernel
theorem dad0_5 : decode prog_39_method_2_code 5 = .ok (.getfield 9, 3) := by decide +kernel
theorem dad0_8 : decode prog_39_method_2_code 8 = .ok (.arraylength, 1) := by decide +kernel
theorem dad0_9 : decode prog_39_method_2_code 9 = .ok (.if_icmp .ne 37, 3) := by decide +kernel
theorem dad0_46 : decode prog_39_method_2_code 46 = .ok (.aload_n 0, 1) := by decide +kernel
theorem dad0_47 : decode prog_39_method_2_code 47 = .ok (.getfield 9, 3) := by decide +kernel
theorem dad0_50 : decode prog_39_method_2_code 50 = .ok (.aload_n 0, 1) := by decide +kernel
theorem dad0_51 : decode prog_39_method_2_code 51 = .ok (.getfield 23, 3) := by decide +kernel
theorem dad0_54 : decode prog_39_method_2_code 54 = .ok (.lload_n 1, 1) := by decide +kernel
theorem dad0_55 : decode prog_39_method_2_code 55 = .ok (.lastore, 1) := by decide +kernel
theorem dad0_56 : decode prog_39_method_2_code 56 = .ok (.aload_n 0, 1) := by decide +kernel
theorem dad0_57 : decode prog_39_method_2_code 57 = .ok (.getfield 13, 3) := by decide +kernel
theorem dad0_60 : decode prog_39_method_2_code 60 = .ok (.aload_n 0, 1) := by decide +kernel
theorem dad0_61 : decode prog_39_method_2_code 61 = .ok (.getfield 23, 3) := by decide +kernel
theorem dad0_64 : decode prog_39_method_2_code 64 = .ok (.lload_n 3, 1) := by decide +kernel
theorem dad0_65 : decode prog_39_method_2_code 65 = .ok (.lastore, 1) := by decide +kernel
theorem dad0_66 : decode prog_39_method_2_code 66 = .ok (.aload_n 0, 1) := by decide +kernel
theorem dad0_67 : decode prog_39_method_2_code 67 = .ok (.getfield 19, 3) := by decide +kernel
theorem dad0_70 : decode prog_39_method_2_code 70 = .ok (.aload_n 0, 1) := by decide +kernel
theorem dad0_71 : decode prog_39_method_2_code 71 = .ok (.getfield 23, 3) := by decide +kernel
theorem dad0_74 : decode prog_39_method_2_code 74 = .ok (.invokevirtual 33, 3) := by decide +kernel
theorem dad0_77 : decode prog_39_method_2_code 77 = .ok (.aload_n 0, 1) := by decide +kernel
theorem dad0_78 : decode prog_39_method_2_code 78 = .ok (.dup, 1) := by decide +kernel
theorem dad0_79 : decode prog_39_method_2_code 79 = .ok (.getfield 23, 3) := by decide +kernel
theorem dad0_82 : decode prog_39_method_2_code 82 = .ok (.iconst 1, 1) := by decide +kernel
theorem dad0_83 : decode prog_39_method_2_code 83 = .ok (.iadd, 1) := by decide +kernel
theorem dad0_84 : decode prog_39_method_2_code 84 = .ok (.putfield 23, 3) := by decide +kernel
theorem dad0_87 : decode prog_39_method_2_code 87 = .ok (.return_, 1) := by decide +kernel
theorem pdad0_0 : parseMethodDescriptor "(I)V" = some ⟨[.int], none⟩ := by decide +kernel
theorem pnad0 : plainName "com/example/assayline/assayline/engine/SegmentIndex" = true := by first | (simp [plainName, overriddenIn]; done) | decide +kernel
theorem efad0 (m : MethodId) (x0 : Addr) (x1 : Int64) (x2 : Int64) : entryFrame m #[(.ref x0), (.long x1), (.long x2)] 5 = mkF m 0 #[.val (.ref x0), .val (.long x1), .second, .val (.long x2), .second] [] := by first | (simp [entryFrame, mkF, argsToLocals, Value.category, maxLocals]; done) | rfl
def Qad0 (Z : State) (a : Addr) (b : Addr) (kb : ClassId) (d : Addr) (kd : ClassId) (y : Addr) (r : Addr) (kr : ClassId) (x : Int64) (ps : List Value) (os : List Value) (p1 : Int64) (p2 : Int64) (h0 : Heap) (n0 : Nat) (v : Option Value) (h : Heap) (L : List Loc) : Prop := v = none ∧ Fr n0 L ∧ Keep h0 h [a, b, d, y, r] ∧ Exa Z h a "com/example/assayline/assayline/engine/SegmentIndex" ∧ Fld Z h a "com/example/assayline/assayline/engine/SegmentIndex" "positions" "[J" (.ref b) ∧ Fld Z h a "com/example/assayline/assayline/engine/SegmentIndex" "offsets" "[J" (.ref d) ∧ Fld Z h a "com/example/assayline/assayline/engine/SegmentIndex" "waiting" "Ljava/util/BitSet;" (.ref y) ∧ Fld Z h a "com/example/assayline/assayline/engine/SegmentIndex" "count" "I" (.int (1 : Int32)) ∧ Arv Z h b kb .long (64 : Int32) (List.set ps 0 (.long p1)) (.long (0 : Int64)) ∧ Arv Z h d kd .long (64 : Int32) (List.set os 0 (.long p2)) (.long (0 : Int64)) ∧ Exa Z h y "java/util/BitSet" ∧ Fld Z h y "java/util/BitSet" "wordsInUse" "I" (.int (1 : Int32)) ∧ Fld Z h y "java/util/BitSet" "sizeIsSticky" "Z" (.int (0 : Int32)) ∧ Fld Z h y "java/util/BitSet" "words" "[J" (.ref r) ∧ Arv Z h r kr .long (1 : Int32) [(.long (x ||| ((1 : Int64) <<< (((0 : Int32)).toInt64 &&& 63))))] (.long (0 : Int64))
set_option maxRecDepth 65536 in
set_option maxHeartbeats 40000000 in
theorem rmad0 (l : Launch) (Z : State) (a0 : Array Value) (hw : ∀ d ∈ tables_1, d.before a0 Z = true) (ws : List Jvm.Cond) (a : Addr) (b : Addr) (kb : ClassId) (d : Addr) (kd : ClassId) (y : Addr) (r : Addr) (kr : ClassId) (x : Int64) (ps : List Value) (os : List Value) (p1 : Int64) (p2 : Int64) (h0 : Heap) (n0 : Nat) (O0 : Old Z n0 h0) (E_a : Exa Z h0 a "com/example/assayline/assayline/engine/SegmentIndex") (F_a_positions : Fld Z h0 a "com/example/assayline/assayline/engine/SegmentIndex" "positions" "[J" (.ref b)) (F_a_offsets : Fld Z h0 a "com/example/assayline/assayline/engine/SegmentIndex" "offsets" "[J" (.ref d)) (F_a_waiting : Fld Z h0 a "com/example/assayline/assayline/engine/SegmentIndex" "waiting" "Ljava/util/BitSet;" (.ref y)) (F_a_count : Fld Z h0 a "com/example/assayline/assayline/engine/SegmentIndex" "count" "I" (.int (0 : Int32))) (V_b : Arv Z h0 b kb .long (64 : Int32) ps (.long (0 : Int64))) (V_d : Arv Z h0 d kd .long (64 : Int32) os (.long (0 : Int64))) (E_y : Exa Z h0 y "java/util/BitSet") (F_y_wordsInUse : Fld Z h0 y "java/util/BitSet" "wordsInUse" "I" (.int (0 : Int32))) (F_y_sizeIsSticky : Fld Z h0 y "java/util/BitSet" "sizeIsSticky" "Z" (.int (0 : Int32))) (F_y_words : Fld Z h0 y "java/util/BitSet" "words" "[J" (.ref r)) (V_r : Arv Z h0 r kr .long (1 : Int32) [(.long x)] (.long (0 : Int64))) (hps : ps.length = 64) (hos : os.length = 64) (g_a : n0 ≤ a) (g_b : n0 ≤ b) (g_d : n0 ≤ d) (g_y : n0 ≤ y) (g_r : n0 ≤ r) (n_ab : a ≠ b) (n_ad : a ≠ d) (n_ay : a ≠ y) (n_ar : a ≠ r) (n_bd : b ≠ d) (n_by : b ≠ y) (n_br : b ≠ r) (n_dy : d ≠ y) (n_dr : d ≠ r) (n_yr : y ≠ r) (SD : Sta Z Z.heap "java/util/BitSet" "$assertionsDisabled" "Z" (.int 1)) :
    MetFree l (⟨"com/example/assayline/assayline/engine/SegmentIndex", "add", "(JJ)V"⟩ : MethodName) (head1 (Jvm.Cond.code (⟨"com/example/assayline/assayline/engine/SegmentIndex", "add", "(JJ)V"⟩ : MethodName) prog_39_method_2_code 5 none :: ws) ({ frames := 3, cells := 0, slots := 0, locals := 42 } : Room)) (fun A_ U_ => A_ = #[(.ref a), (.long p1), (.long p2)] ∧ Z.Warmed39 U_.vm ∧ U_.heap = h0) (fun _ _ _ _ _ => True) (fun _ U o U' => ∃ v L, o = .returned v ∧ Qad0 Z a b kb d kd y r kr x ps os p1 p2 h0 n0 v U'.heap L ∧ FrameEnd U o U' L ({ frames := 3, cells := 0, slots := 0, locals := 42 } : Room).cells ({ frames := 3, cells := 0, slots := 0, locals := 42 } : Room).slots) := by
  refine MetFree.of_bodySF (plainFor_of_name pnad0) hisR ?_
  intro p e s m args below meth cd s₁ Bd hml0 hP hK
  obtain ⟨rfl, hZ, hh⟩ := hP
  have hx := Bd.exec
  have hby := Bd.bytes
  have hlk : meth.locks = false := BodyLoose.notSynchronized Bd
  have hml : cd.maxLocals = 5 := hml0
  have hown : s.vm.findClass "com/example/assayline/assayline/engine/SegmentIndex" = some m.cls := findClass_of_methodNamed Bd.named
  have hnm := (name_of_methodNamed Bd.named Bd.method).1
  have X0 : Stand p l e ({ frames := 3, cells := 0, slots := 0, locals := 42 } : Room) s m #[(.ref a), (.long p1), (.long p2)] below meth cd s₁ [] 0 0 := Stand.of_body Bd
  have e0 : s₁.heap = h0 := by rw [← hh, Bd.state]; rfl
  have N0 := Fr.nil n0
  have K0 : Keep h0 h0 [a, b, d, y, r] := Keep.refl _ _
  have G : Go p e below s 0 0 (Qad0 Z a b kb d kd y r kr x ps os p1 p2 h0 n0) (s₁.setTop (mkF m 0 #[.val (.ref a), .val (.long p1), .second, .val (.long p2), .second] [])) := by
    show Go p e below s _ _ _ (s₁.setTop (mkF m 0 #[.val (.ref a), .val (.long p1), .second, .val (.long p2), .second] []))
    refine Go.st (fun _ kq_ => XS.aloadN X0.here hx rfl (hb hby dad0_0) rfl rfl kq_) ?_
    show Go p e below s _ _ _ (s₁.setTop (mkF m 1 #[.val (.ref a), .val (.long p1), .second, .val (.long p2), .second] [(.ref a)]))
    obtain ⟨T1, X1, e1, st1⟩ := getF X0 hx hZ hown (host := "") (Or.inl (own_w hw 49 rfl)) Via.refl e0 F_a_count (g := (mkF m 1 #[.val (.ref a), .val (.long p1), .second, .val (.long p2), .second] [(.ref a)])) rfl rfl (hb hby dad0_1)
    refine Go.st st1 ?_
    show Go p e below s _ _ _ (T1.setTop (mkF m 4 #[.val (.ref a), .val (.long p1), .second, .val (.long p2), .second] [(.int (0 : Int32))]))
    refine Go.st (fun _ kq_ => XS.aloadN X1.here hx rfl (hb hby dad0_4) rfl rfl kq_) ?_
    show Go p e below s _ _ _ (T1.setTop (mkF m 5 #[.val (.ref a), .val (.long p1), .second, .val (.long p2), .second] [(.ref a), (.int (0 : Int32))]))
    obtain ⟨T2, X2, e2, st2⟩ := getF X1 hx hZ hown (host := "") (Or.inl (own_w hw 17 rfl)) Via.refl e1 F_a_positions (g := (mkF m 5 #[.val (.ref a), .val (.long p1), .second, .val (.long p2), .second] [(.ref a), (.int (0 : Int32))])) rfl rfl (hb hby dad0_5)
    refine Go.st st2 ?_
    show Go p e below s _ _ _ (T2.setTop (mkF m 8 #[.val (.ref a), .val (.long p1), .second, .val (.long p2), .second] [(.ref b), (.int (0 : Int32))]))
    refine Go.st (fun _ kq_ => own_len X2 hx hZ e2 V_b (g := (mkF m 8 #[.val (.ref a), .val (.long p1), .second, .val (.long p2), .second] [(.ref b), (.int (0 : Int32))])) rfl rfl (hb hby dad0_8) _ kq_) ?_
    show Go p e below s _ _ _ (T2.setTop (mkF m 9 #[.val (.ref a), .val (.long p1), .second, .val (.long p2), .second] [(.int (64 : Int32)), (.int (0 : Int32))]))
    refine Go.st (fun _ kq_ => XS.icmpYes X2.here hx rfl (pc0 := 9) (pc' := 46) rfl (hb hby dad0_9) rfl (by decide) (by decide) (by decide) kq_) ?_
    show Go p e below s _ _ _ (T2.setTop (mkF m 46 #[.val (.ref a), .val (.long p1), .second, .val (.long p2), .second] []))
    refine Go.st (fun _ kq_ => XS.aloadN X2.here hx rfl (hb hby dad0_46) rfl rfl kq_) ?_
    show Go p e below s _ _ _ (T2.setTop (mkF m 47 #[.val (.ref a), .val (.long p1), .second, .val (.long p2), .second] [(.ref a)]))
    obtain ⟨T3, X3, e3, st3⟩ := getF X2 hx hZ hown (host := "") (Or.inl (own_w hw 17 rfl)) Via.refl e2 F_a_positions (g := (mkF m 47 #[.val (.ref a), .val (.long p1), .second, .val (.long p2), .second] [(.ref a)])) rfl rfl (hb hby dad0_47)
    refine Go.st st3 ?_
    show Go p e below s _ _ _ (T3.setTop (mkF m 50 #[.val (.ref a), .val (.long p1), .second, .val (.long p2), .second] [(.ref b)]))
    refine Go.st (fun _ kq_ => XS.aloadN X3.here hx rfl (hb hby dad0_50) rfl rfl kq_) ?_
    show Go p e below s _ _ _ (T3.setTop (mkF m 51 #[.val (.ref a), .val (.long p1), .second, .val (.long p2), .second] [(.ref a), (.ref b)]))
    obtain ⟨T4, X4, e4, st4⟩ := getF X3 hx hZ hown (host := "") (Or.inl (own_w hw 49 rfl)) Via.refl e3 F_a_count (g := (mkF m 51 #[.val (.ref a), .val (.long p1), .second, .val (.long p2), .second] [(.ref a), (.ref b)])) rfl rfl (hb hby dad0_51)
    refine Go.st st4 ?_
    show Go p e below s _ _ _ (T4.setTop (mkF m 54 #[.val (.ref a), .val (.long p1), .second, .val (.long p2), .second] [(.int (0 : Int32)), (.ref b)]))
    refine Go.st (fun _ kq_ => XT.lloadN X4.here hx rfl (hb hby dad0_54) rfl kq_) ?_
    show Go p e below s _ _ _ (T4.setTop (mkF m 55 #[.val (.ref a), .val (.long p1), .second, .val (.long p2), .second] [(.long p1), (.int (0 : Int32)), (.ref b)]))
    obtain ⟨T5, h5, X5, e5, W5, V5, st5⟩ := own_stJ X4 hx hZ e4 V_b (j := (0 : Int32)) (by decide) (by decide) 0 rfl (by rw [hps]; decide) (g := (mkF m 55 #[.val (.ref a), .val (.long p1), .second, .val (.long p2), .second] [(.long p1), (.int (0 : Int32)), (.ref b)])) rfl rfl (hb hby dad0_55)
    have N5 := Fr.snoc X5 N0 g_b
    have O5 := O0.wr W5 g_b
    have K5 := K0.wr W5 (Or.inl (List.mem_of_getElem? (i := 1) rfl))
    have E_a := E_a.wr W5
    have F_a_positions := F_a_positions.other W5 (Or.inl n_ab)
    have F_a_offsets := F_a_offsets.other W5 (Or.inl n_ab)
    have F_a_waiting := F_a_waiting.other W5 (Or.inl n_ab)
    have F_a_count := F_a_count.other W5 (Or.inl n_ab)
    have V_d := V_d.other W5 (Ne.symm n_bd)
    have E_y := E_y.wr W5
    have F_y_wordsInUse := F_y_wordsInUse.other W5 (Or.inl (Ne.symm n_by))
    have F_y_sizeIsSticky := F_y_sizeIsSticky.other W5 (Or.inl (Ne.symm n_by))
    have F_y_words := F_y_words.other W5 (Or.inl (Ne.symm n_by))
    have V_r := V_r.other W5 (Ne.symm n_br)
    have V_b : Arv Z h5 b kb .long (64 : Int32) (List.set ps 0 (.long p1)) (.long (0 : Int64)) := V5
    refine Go.st st5 ?_
    show Go p e below s _ _ _ (T5.setTop (mkF m 56 #[.val (.ref a), .val (.long p1), .second, .val (.long p2), .second] []))
    refine Go.st (fun _ kq_ => XS.aloadN X5.here hx rfl (hb hby dad0_56) rfl rfl kq_) ?_
    show Go p e below s _ _ _ (T5.setTop (mkF m 57 #[.val (.ref a), .val (.long p1), .second, .val (.long p2), .second] [(.ref a)]))
    obtain ⟨T6, X6, e6, st6⟩ := getF X5 hx hZ hown (host := "") (Or.inl (own_w hw 19 rfl)) Via.refl e5 F_a_offsets (g := (mkF m 57 #[.val (.ref a), .val (.long p1), .second, .val (.long p2), .second] [(.ref a)])) rfl rfl (hb hby dad0_57)
    refine Go.st st6 ?_
    show Go p e below s _ _ _ (T6.setTop (mkF m 60 #[.val (.ref a), .val (.long p1), .second, .val (.long p2), .second] [(.ref d)]))
    refine Go.st (fun _ kq_ => XS.aloadN X6.here hx rfl (hb hby dad0_60) rfl rfl kq_) ?_
    show Go p e below s _ _ _ (T6.setTop (mkF m 61 #[.val (.ref a), .val (.long p1), .second, .val (.long p2), .second] [(.ref a), (.ref d)]))
    obtain ⟨T7, X7, e7, st7⟩ := getF X6 hx hZ hown (host := "") (Or.inl (own_w hw 49 rfl)) Via.refl e6 F_a_count (g := (mkF m 61 #[.val (.ref a), .val (.long p1), .second, .val (.long p2), .second] [(.ref a), (.ref d)])) rfl rfl (hb hby dad0_61)
    refine Go.st st7 ?_
    show Go p e below s _ _ _ (T7.setTop (mkF m 64 #[.val (.ref a), .val (.long p1), .second, .val (.long p2), .second] [(.int (0 : Int32)), (.ref d)]))
    refine Go.st (fun _ kq_ => XT.lloadN X7.here hx rfl (hb hby dad0_64) rfl kq_) ?_
    show Go p e below s _ _ _ (T7.setTop (mkF m 65 #[.val (.ref a), .val (.long p1), .second, .val (.long p2), .second] [(.long p2), (.int (0 : Int32)), (.ref d)]))
    obtain ⟨T8, h8, X8, e8, W8, V8, st8⟩ := own_stJ X7 hx hZ e7 V_d (j := (0 : Int32)) (by decide) (by decide) 0 rfl (by rw [hos]; decide) (g := (mkF m 65 #[.val (.ref a), .val (.long p1), .second, .val (.long p2), .second] [(.long p2), (.int (0 : Int32)), (.ref d)])) rfl rfl (hb hby dad0_65)
    have N8 := Fr.snoc X8 N5 g_d
    have O8 := O5.wr W8 g_d
    have K8 := K5.wr W8 (Or.inl (List.mem_of_getElem? (i := 2) rfl))
    have E_a := E_a.wr W8
    have F_a_positions := F_a_positions.other W8 (Or.inl n_ad)
    have F_a_offsets := F_a_offsets.other W8 (Or.inl n_ad)
    have F_a_waiting := F_a_waiting.other W8 (Or.inl n_ad)
    have F_a_count := F_a_count.other W8 (Or.inl n_ad)
    have V_b := V_b.other W8 n_bd
    have E_y := E_y.wr W8
    have F_y_wordsInUse := F_y_wordsInUse.other W8 (Or.inl (Ne.symm n_dy))
    have F_y_sizeIsSticky := F_y_sizeIsSticky.other W8 (Or.inl (Ne.symm n_dy))
    have F_y_words := F_y_words.other W8 (Or.inl (Ne.symm n_dy))
    have V_r := V_r.other W8 (Ne.symm n_dr)
    have V_d : Arv Z h8 d kd .long (64 : Int32) (List.set os 0 (.long p2)) (.long (0 : Int64)) := V8
    refine Go.st st8 ?_
    show Go p e below s _ _ _ (T8.setTop (mkF m 66 #[.val (.ref a), .val (.long p1), .second, .val (.long p2), .second] []))
    refine Go.st (fun _ kq_ => XS.aloadN X8.here hx rfl (hb hby dad0_66) rfl rfl kq_) ?_
    show Go p e below s _ _ _ (T8.setTop (mkF m 67 #[.val (.ref a), .val (.long p1), .second, .val (.long p2), .second] [(.ref a)]))
    obtain ⟨T9, X9, e9, st9⟩ := getF X8 hx hZ hown (host := "") (Or.inl (own_w hw 42 rfl)) Via.refl e8 F_a_waiting (g := (mkF m 67 #[.val (.ref a), .val (.long p1), .second, .val (.long p2), .second] [(.ref a)])) rfl rfl (hb hby dad0_67)
    refine Go.st st9 ?_
    show Go p e below s _ _ _ (T9.setTop (mkF m 70 #[.val (.ref a), .val (.long p1), .second, .val (.long p2), .second] [(.ref y)]))
    refine Go.st (fun _ kq_ => XS.aloadN X9.here hx rfl (hb hby dad0_70) rfl rfl kq_) ?_
    show Go p e below s _ _ _ (T9.setTop (mkF m 71 #[.val (.ref a), .val (.long p1), .second, .val (.long p2), .second] [(.ref a), (.ref y)]))
    obtain ⟨T10, X10, e10, st10⟩ := getF X9 hx hZ hown (host := "") (Or.inl (own_w hw 49 rfl)) Via.refl e9 F_a_count (g := (mkF m 71 #[.val (.ref a), .val (.long p1), .second, .val (.long p2), .second] [(.ref a), (.ref y)])) rfl rfl (hb hby dad0_71)
    refine Go.st st10 ?_
    show Go p e below s _ _ _ (T10.setTop (mkF m 74 #[.val (.ref a), .val (.long p1), .second, .val (.long p2), .second] [(.int (0 : Int32)), (.ref y)]))
    obtain ⟨cq11, kq11, qa11, qb11, qc11⟩ := isOf hZ e10 E_y
    obtain ⟨_, _, ⟨T11, L11, k11, n11⟩, -, X11, ⟨Lc11, hQ11, l11, y11, z11⟩, st11⟩ := X10.virtualBack hx (y := (⟨"java/util/BitSet", "set", "(I)V"⟩ : MethodName)) (z := (⟨"java/util/BitSet", "set", "(I)V"⟩ : MethodName)) hown (mvT hZ (own_w hw 56 rfl)) (mvT hZ (own_w hw 57 rfl)) (notFace_of_selects (args := #[]) (mvT hZ (own_w hw 59 rfl))) (mvT hZ (own_w hw 59 rfl)) (mvT hZ (own_w hw 58 rfl)) (by decide) (backOf (W := 0) (rmst0 l Z a0 hw [] y r kr x h8 n0 O8 E_y F_y_wordsInUse F_y_sizeIsSticky F_y_words V_r g_y g_r n_yr SD) hZ (own_w hw 60 rfl) (own_w hw 23 rfl) (by decide) (by decide)) qa11 qc11 (g := (mkF m 74 #[.val (.ref a), .val (.long p1), .second, .val (.long p2), .second] [(.int (0 : Int32)), (.ref y)])) rfl (by rw [hml]; rfl) (Steps.refl _) (argsL := [(.int (0 : Int32))]) (rest := []) (lenOf pdad0_0 rfl) rfl (by show 2 * 0 + _ ≤ _; exact Nat.le_of_eq rfl) (hb hby dad0_74) (fun _ _ => ⟨rfl, e10, (by decide : 0 + 0 ≤ _), (by decide : 0 + 0 ≤ _)⟩)
    dsimp only [Pt.U, Pt.locs, Pt.cells, Pt.slots] at X11 l11 y11 z11 st11 hQ11
    subst l11 y11 z11
    obtain ⟨rfl, Nc11, Kc11, NE_y, NF_y_wordsInUse, NF_y_sizeIsSticky, NF_y_words, NV_r⟩ := hQ11
    have N11 := Fr.app N8 Nc11
    have E_a := E_a.keep Kc11
    have F_a_positions := F_a_positions.keep Kc11 (ninS n_ay (ninS n_ar nin0))
    have F_a_offsets := F_a_offsets.keep Kc11 (ninS n_ay (ninS n_ar nin0))
    have F_a_waiting := F_a_waiting.keep Kc11 (ninS n_ay (ninS n_ar nin0))
    have F_a_count := F_a_count.keep Kc11 (ninS n_ay (ninS n_ar nin0))
    have V_b := V_b.keep Kc11 (ninS n_by (ninS n_br nin0))
    have V_d := V_d.keep Kc11 (ninS n_dy (ninS n_dr nin0))
    have O11 := O8.keep Kc11 (allS g_y (allS g_r all0))
    have K11 := K8.trans Kc11 (allS (Or.inl (List.mem_of_getElem? (i := 3) rfl)) (allS (Or.inl (List.mem_of_getElem? (i := 4) rfl)) all0))
    have E_y := NE_y
    have F_y_wordsInUse := NF_y_wordsInUse
    have F_y_sizeIsSticky := NF_y_sizeIsSticky
    have F_y_words := NF_y_words
    have V_r := NV_r
    refine Go.tr st11 ?_
    show Go p e below s _ _ _ (T11.setTop (mkF m 77 #[.val (.ref a), .val (.long p1), .second, .val (.long p2), .second] []))
    refine Go.st (fun _ kq_ => XS.aloadN X11.here hx rfl (hb hby dad0_77) rfl rfl kq_) ?_
    show Go p e below s _ _ _ (T11.setTop (mkF m 78 #[.val (.ref a), .val (.long p1), .second, .val (.long p2), .second] [(.ref a)]))
    refine Go.st (fun _ kq_ => XS.dup X11.here hx rfl (hb hby dad0_78) rfl rfl kq_) ?_
    show Go p e below s _ _ _ (T11.setTop (mkF m 79 #[.val (.ref a), .val (.long p1), .second, .val (.long p2), .second] [(.ref a), (.ref a)]))
    obtain ⟨T12, X12, e12, st12⟩ := getF X11 hx hZ hown (host := "") (Or.inl (own_w hw 49 rfl)) Via.refl rfl F_a_count (g := (mkF m 79 #[.val (.ref a), .val (.long p1), .second, .val (.long p2), .second] [(.ref a), (.ref a)])) rfl rfl (hb hby dad0_79)
    refine Go.st st12 ?_
    show Go p e below s _ _ _ (T12.setTop (mkF m 82 #[.val (.ref a), .val (.long p1), .second, .val (.long p2), .second] [(.int (0 : Int32)), (.ref a)]))
    refine Go.st (fun _ kq_ => XS.iconst X12.here hx rfl (hb hby dad0_82) kq_) ?_
    show Go p e below s _ _ _ (T12.setTop (mkF m 83 #[.val (.ref a), .val (.long p1), .second, .val (.long p2), .second] [(.int (1 : Int32)), (.int (0 : Int32)), (.ref a)]))
    refine Go.st (fun _ kq_ => XS.iadd X12.here hx rfl (hb hby dad0_83) rfl kq_) ?_
    show Go p e below s _ _ _ (T12.setTop (mkF m 84 #[.val (.ref a), .val (.long p1), .second, .val (.long p2), .second] [(.int (1 : Int32)), (.ref a)]))
    obtain ⟨T13, h13, X13, e13, W13, st13⟩ := putF X12 hx hZ hown (host := "") (Or.inl (own_w hw 49 rfl)) Via.refl e12 F_a_count E_a (Or.inl (own_w hw 50 rfl)) (own_w hw 8 rfl) (ty := .int) (by decide) rfl rfl (g := (mkF m 84 #[.val (.ref a), .val (.long p1), .second, .val (.long p2), .second] [(.int (1 : Int32)), (.ref a)])) rfl rfl (hb hby dad0_84)
    have N13 := Fr.snoc X13 N11 g_a
    have O13 := O11.wr W13 g_a
    have K13 := K11.wr W13 (Or.inl (List.mem_of_getElem? (i := 0) rfl))
    have E_a := E_a.wr W13
    have F_a_positions := F_a_positions.other W13 (Or.inr (slot_ne (Or.inl (own_w hw 18 rfl)) (Or.inl (own_w hw 50 rfl)) (by decide) (by decide : parseFieldDescriptor "[J" = some (.array .long)) (by decide : parseFieldDescriptor "I" = some .int)))
    have F_a_offsets := F_a_offsets.other W13 (Or.inr (slot_ne (Or.inl (own_w hw 20 rfl)) (Or.inl (own_w hw 50 rfl)) (by decide) (by decide : parseFieldDescriptor "[J" = some (.array .long)) (by decide : parseFieldDescriptor "I" = some .int)))
    have F_a_waiting := F_a_waiting.other W13 (Or.inr (slot_ne (Or.inr (own_w hw 43 rfl)) (Or.inl (own_w hw 50 rfl)) (by decide) (by decide : parseFieldDescriptor "Ljava/util/BitSet;" = some (.object "java/util/BitSet")) (by decide : parseFieldDescriptor "I" = some .int)))
    have V_b := V_b.other W13 (Ne.symm n_ab)
    have V_d := V_d.other W13 (Ne.symm n_ad)
    have E_y := E_y.wr W13
    have F_y_wordsInUse := F_y_wordsInUse.other W13 (Or.inl (Ne.symm n_ay))
    have F_y_sizeIsSticky := F_y_sizeIsSticky.other W13 (Or.inl (Ne.symm n_ay))
    have F_y_words := F_y_words.other W13 (Or.inl (Ne.symm n_ay))
    have V_r := V_r.other W13 (Ne.symm n_ar)
    have F_a_count := F_a_count.same W13
    refine Go.st st13 ?_
    show Go p e below s _ _ _ (T13.setTop (mkF m 87 #[.val (.ref a), .val (.long p1), .second, .val (.long p2), .second] []))
    exact Go.ret X13 hlk (none) (fun _ => rfl) (by rw [e13]; exact ⟨rfl, N13, K13, E_a, F_a_positions, F_a_offsets, F_a_waiting, F_a_count, V_b, V_d, E_y, F_y_wordsInUse, F_y_sizeIsSticky, F_y_words, V_r⟩) (by decide) (by decide) (fun fs hr => X13.returnOut hx Bd.returns (hb hby dad0_87) hr)
  obtain ⟨s2, o2, st2, r2⟩ := G
  exact ⟨s2, o2, castTop (efad0 m a p1 p2) st2, r2⟩
theorem dad1_0 : decode prog_39_method_2_code 0 = .ok (.aload_n 0, 1) := by decide +kernel
theorem dad1_1 : decode prog_39_method_2_code 1 = .ok (.getfield 23, 3) := by decide +kernel
theorem dad1_4 : decode prog_39_method_2_code 4 = .ok (.aload_n 0, 1) := by decide +kernel
theorem dad1_5 : decode prog_39_method_2_code 5 = .ok (.getfield 9, 3) := by decide +kernel
theorem dad1_8 : decode prog_39_method_2_code 8 = .ok (.arraylength, 1) := by decide +kernel
theorem dad1_9 : decode prog_39_method_2_code 9 = .ok (.if_icmp .ne 37, 3) := by decide +kernel
theorem dad1_46 : decode prog_39_method_2_code 46 = .ok (.aload_n 0, 1) := by decide +kernel
theorem dad1_47 : decode prog_39_method_2_code 47 = .ok (.getfield 9, 3) := by decide +kernel
theorem dad1_50 : decode prog_39_method_2_code 50 = .ok (.aload_n 0, 1) := by decide +kernel
theorem dad1_51 : decode prog_39_method_2_code 51 = .ok (.getfield 23, 3) := by decide +kernel
theorem dad1_54 : decode prog_39_method_2_code 54 = .ok (.lload_n 1, 1) := by decide +kernel
theorem dad1_55 : decode prog_39_method_2_code 55 = .ok (.lastore, 1) := by decide +kernel
theorem dad1_56 : decode prog_39_method_2_code 56 = .ok (.aload_n 0, 1) := by decide +kernel
theorem dad1_57 : decode prog_39_method_2_code 57 = .ok (.getfield 13, 3) := by decide +kernel
theorem dad1_60 : decode prog_39_method_2_code 60 = .ok (.aload_n 0, 1) := by decide +kernel
theorem dad1_61 : decode prog_39_method_2_code 61 = .ok (.getfield 23, 3) := by decide +kernel
theorem dad1_64 : decode prog_39_method_2_code 64 = .ok (.lload_n 3, 1) := by decide +kernel
theorem dad1_65 : decode prog_39_method_2_code 65 = .ok (.lastore, 1) := by decide +kernel
theorem dad1_66 : decode prog_39_method_2_code 66 = .ok (.aload_n 0, 1) := by decide +kernel
theorem dad1_67 : decode prog_39_method_2_code 67 = .ok (.getfield 19, 3) := by decide +kernel
theorem dad1_70 : decode prog_39_method_2_code 70 = .ok (.aload_n 0, 1) := by decide +kernel
theorem dad1_71 : decode prog_39_method_2_code 71 = .ok (.getfield 23, 3) := by decide +kernel
theorem dad1_74 : decode prog_39_method_2_code 74 = .ok (.invokevirtual 33, 3) := by decide +kernel
theorem dad1_77 : decode prog_39_method_2_code 77 = .ok (.aload_n 0, 1) := by decide +kernel
theorem dad1_78 : decode prog_39_method_2_code 78 = .ok (.dup, 1) := by decide +kernel
theorem dad1_79 : decode prog_39_method_2_code 79 = .ok (.getfield 23, 3) := by decide +kernel
theorem dad1_82 : decode prog_39_method_2_code 82 = .ok (.iconst 1, 1) := by decide +kernel
theorem dad1_83 : decode prog_39_method_2_code 83 = .ok (.iadd, 1) := by decide +kernel
theorem dad1_84 : decode prog_39_method_2_code 84 = .ok (.putfield 23, 3) := by decide +kernel
theorem dad1_87 : decode prog_39_method_2_code 87 = .ok (.return_, 1) := by decide +kernel
theorem pdad1_0 : parseMethodDescriptor "(I)V" = some ⟨[.int], none⟩ := by decide +kernel
theorem pnad1 : plainName "com/example/assayline/assayline/engine/SegmentIndex" = true := by first | (simp [plainName, overriddenIn]; done) | decide +kernel
theorem efad1 (m : MethodId) (x0 : Addr) (x1 : Int64) (x2 : Int64) : entryFrame m #[(.ref x0), (.long x1), (.long x2)] 5 = mkF m 0 #[.val (.ref x0), .val (.long x1), .second, .val (.long x2), .second] [] := by first | (simp [entryFrame, mkF, argsToLocals, Value.category, maxLocals]; done) | rfl
def Qad1 (Z : State) (a : Addr) (b : Addr) (kb : ClassId) (d : Addr) (kd : ClassId) (y : Addr) (r : Addr) (kr : ClassId) (x : Int64) (ps : List Value) (os : List Value) (p1 : Int64) (p2 : Int64) (h0 : Heap) (n0 : Nat) (v : Option Value) (h : Heap) (L : List Loc) : Prop := v = none ∧ Fr n0 L ∧ Keep h0 h [a, b, d, y, r] ∧ Exa Z h a "com/example/assayline/assayline/engine/SegmentIndex" ∧ Fld Z h a "com/example/assayline/assayline/engine/SegmentIndex" "positions" "[J" (.ref b) ∧ Fld Z h a "com/example/assayline/assayline/engine/SegmentIndex" "offsets" "[J" (.ref d) ∧ Fld Z h a "com/example/assayline/assayline/engine/SegmentIndex" "waiting" "Ljava/util/BitSet;" (.ref y) ∧ Fld Z h a "com/example/assayline/assayline/engine/SegmentIndex" "count" "I" (.int (2 : Int32)) ∧ Arv Z h b kb .long (64 : Int32) (List.set ps 1 (.long p1)) (.long (0 : Int64)) ∧ Arv Z h d kd .long (64 : Int32) (List.set os 1 (.long p2)) (.long (0 : Int64)) ∧ Exa Z h y "java/util/BitSet" ∧ Fld Z h y "java/util/BitSet" "wordsInUse" "I" (.int (1 : Int32)) ∧ Fld Z h y "java/util/BitSet" "sizeIsSticky" "Z" (.int (0 : Int32)) ∧ Fld Z h y "java/util/BitSet" "words" "[J" (.ref r) ∧ Arv Z h r kr .long (1 : Int32) [(.long (x ||| ((1 : Int64) <<< (((1 : Int32)).toInt64 &&& 63))))] (.long (0 : Int64))
set_option maxRecDepth 65536 in
set_option maxHeartbeats 40000000 in
theorem rmad1 (l : Launch) (Z : State) (a0 : Array Value) (hw : ∀ d ∈ tables_1, d.before a0 Z = true) (ws : List Jvm.Cond) (a : Addr) (b : Addr) (kb : ClassId) (d : Addr) (kd : ClassId) (y : Addr) (r : Addr) (kr : ClassId) (x : Int64) (ps : List Value) (os : List Value) (p1 : Int64) (p2 : Int64) (h0 : Heap) (n0 : Nat) (O0 : Old Z n0 h0) (E_a : Exa Z h0 a "com/example/assayline/assayline/engine/SegmentIndex") (F_a_positions : Fld Z h0 a "com/example/assayline/assayline/engine/SegmentIndex" "positions" "[J" (.ref b)) (F_a_offsets : Fld Z h0 a "com/example/assayline/assayline/engine/SegmentIndex" "offsets" "[J" (.ref d)) (F_a_waiting : Fld Z h0 a "com/example/assayline/assayline/engine/SegmentIndex" "waiting" "Ljava/util/BitSet;" (.ref y)) (F_a_count : Fld Z h0 a "com/example/assayline/assayline/engine/SegmentIndex" "count" "I" (.int (1 : Int32))) (V_b : Arv Z h0 b kb .long (64 : Int32) ps (.long (0 : Int64))) (V_d : Arv Z h0 d kd .long (64 : Int32) os (.long (0 : Int64))) (E_y : Exa Z h0 y "java/util/BitSet") (F_y_wordsInUse : Fld Z h0 y "java/util/BitSet" "wordsInUse" "I" (.int (1 : Int32))) (F_y_sizeIsSticky : Fld Z h0 y "java/util/BitSet" "sizeIsSticky" "Z" (.int (0 : Int32))) (F_y_words : Fld Z h0 y "java/util/BitSet" "words" "[J" (.ref r)) (V_r : Arv Z h0 r kr .long (1 : Int32) [(.long x)] (.long (0 : Int64))) (hps : ps.length = 64) (hos : os.length = 64) (g_a : n0 ≤ a) (g_b : n0 ≤ b) (g_d : n0 ≤ d) (g_y : n0 ≤ y) (g_r : n0 ≤ r) (n_ab : a ≠ b) (n_ad : a ≠ d) (n_ay : a ≠ y) (n_ar : a ≠ r) (n_bd : b ≠ d) (n_by : b ≠ y) (n_br : b ≠ r) (n_dy : d ≠ y) (n_dr : d ≠ r) (n_yr : y ≠ r) (SD : Sta Z Z.heap "java/util/BitSet" "$assertionsDisabled" "Z" (.int 1)) :
    MetFree l (⟨"com/example/assayline/assayline/engine/SegmentIndex", "add", "(JJ)V"⟩ : MethodName) (head1 (Jvm.Cond.code (⟨"com/example/assayline/assayline/engine/SegmentIndex", "add", "(JJ)V"⟩ : MethodName) prog_39_method_2_code 5 none :: ws) ({ frames := 2, cells := 0, slots := 0, locals := 28 } : Room)) (fun A_ U_ => A_ = #[(.ref a), (.long p1), (.long p2)] ∧ Z.Warmed39 U_.vm ∧ U_.heap = h0) (fun _ _ _ _ _ => True) (fun _ U o U' => ∃ v L, o = .returned v ∧ Qad1 Z a b kb d kd y r kr x ps os p1 p2 h0 n0 v U'.heap L ∧ FrameEnd U o U' L ({ frames := 2, cells := 0, slots := 0, locals := 28 } : Room).cells ({ frames := 2, cells := 0, slots := 0, locals := 28 } : Room).slots) := by
  refine MetFree.of_bodySF (plainFor_of_name pnad1) hisR ?_
  intro p e s m args below meth cd s₁ Bd hml0 hP hK
  obtain ⟨rfl, hZ, hh⟩ := hP
  have hx := Bd.exec
  have hby := Bd.bytes
  have hlk : meth.locks = false := BodyLoose.notSynchronized Bd
  have hml : cd.maxLocals = 5 := hml0
  have hown : s.vm.findClass "com/example/assayline/assayline/engine/SegmentIndex" = some m.cls := findClass_of_methodNamed Bd.named
  have hnm := (name_of_methodNamed Bd.named Bd.method).1
  have X0 : Stand p l e ({ frames := 2, cells := 0, slots := 0, locals := 28 } : Room) s m #[(.ref a), (.long p1), (.long p2)] below meth cd s₁ [] 0 0 := Stand.of_body Bd
  have e0 : s₁.heap = h0 := by rw [← hh, Bd.state]; rfl
  have N0 := Fr.nil n0
  have K0 : Keep h0 h0 [a, b, d, y, r] := Keep.refl _ _
  have G : Go p e below s 0 0 (Qad1 Z a b kb d kd y r kr x ps os p1 p2 h0 n0) (s₁.setTop (mkF m 0 #[.val (.ref a), .val (.long p1), .second, .val (.long p2), .second] [])) := by
    show Go p e below s _ _ _ (s₁.setTop (mkF m 0 #[.val (.ref a), .val (.long p1), .second, .val (.long p2), .second] []))
    refine Go.st (fun _ kq_ => XS.aloadN X0.here hx rfl (hb hby dad1_0) rfl rfl kq_) ?_
    show Go p e below s _ _ _ (s₁.setTop (mkF m 1 #[.val (.ref a), .val (.long p1), .second, .val (.long p2), .second] [(.ref a)]))
    obtain ⟨T1, X1, e1, st1⟩ := getF X0 hx hZ hown (host := "") (Or.inl (own_w hw 49 rfl)) Via.refl e0 F_a_count (g := (mkF m 1 #[.val (.ref a), .val (.long p1), .second, .val (.long p2), .second] [(.ref a)])) rfl rfl (hb hby dad1_1)
    refine Go.st st1 ?_
    show Go p e below s _ _ _ (T1.setTop (mkF m 4 #[.val (.ref a), .val (.long p1), .second, .val (.long p2), .second] [(.int (1 : Int32))]))
    refine Go.st (fun _ kq_ => XS.aloadN X1.here hx rfl (hb hby dad1_4) rfl rfl kq_) ?_
    show Go p e below s _ _ _ (T1.setTop (mkF m 5 #[.val (.ref a), .val (.long p1), .second, .val (.long p2), .second] [(.ref a), (.int (1 : Int32))]))
    obtain ⟨T2, X2, e2, st2⟩ := getF X1 hx hZ hown (host := "") (Or.inl (own_w hw 17 rfl)) Via.refl e1 F_a_positions (g := (mkF m 5 #[.val (.ref a), .val (.long p1), .second, .val (.long p2), .second] [(.ref a), (.int (1 : Int32))])) rfl rfl (hb hby dad1_5)
    refine Go.st st2 ?_
    show Go p e below s _ _ _ (T2.setTop (mkF m 8 #[.val (.ref a), .val (.long p1), .second, .val (.long p2), .second] [(.ref b), (.int (1 : Int32))]))
    refine Go.st (fun _ kq_ => own_len X2 hx hZ e2 V_b (g := (mkF m 8 #[.val (.ref a), .val (.long p1), .second, .val (.long p2), .second] [(.ref b), (.int (1 : Int32))])) rfl rfl (hb hby dad1_8) _ kq_) ?_
    show Go p e below s _ _ _ (T2.setTop (mkF m 9 #[.val (.ref a), .val (.long p1), .second, .val (.long p2), .second] [(.int (64 : Int32)), (.int (1 : Int32))]))
    refine Go.st (fun _ kq_ => XS.icmpYes X2.here hx rfl (pc0 := 9) (pc' := 46) rfl (hb hby dad1_9) rfl (by decide) (by decide) (by decide) kq_) ?_
    show Go p e below s _ _ _ (T2.setTop (mkF m 46 #[.val (.ref a), .val (.long p1), .second, .val (.long p2), .second] []))
    refine Go.st (fun _ kq_ => XS.aloadN X2.here hx rfl (hb hby dad1_46) rfl rfl kq_) ?_
    show Go p e below s _ _ _ (T2.setTop (mkF m 47 #[.val (.ref a), .val (.long p1), .second, .val (.long p2), .second] [(.ref a)]))
    obtain ⟨T3, X3, e3, st3⟩ := getF X2 hx hZ hown (host := "") (Or.inl (own_w hw 17 rfl)) Via.refl e2 F_a_positions (g := (mkF m 47 #[.val (.ref a), .val (.long p1), .second, .val (.long p2), .second] [(.ref a)])) rfl rfl (hb hby dad1_47)
    refine Go.st st3 ?_
    show Go p e below s _ _ _ (T3.setTop (mkF m 50 #[.val (.ref a), .val (.long p1), .second, .val (.long p2), .second] [(.ref b)]))
    refine Go.st (fun _ kq_ => XS.aloadN X3.here hx rfl (hb hby dad1_50) rfl rfl kq_) ?_
    show Go p e below s _ _ _ (T3.setTop (mkF m 51 #[.val (.ref a), .val (.long p1), .second, .val (.long p2), .second] [(.ref a), (.ref b)]))
    obtain ⟨T4, X4, e4, st4⟩ := getF X3 hx hZ hown (host := "") (Or.inl (own_w hw 49 rfl)) Via.refl e3 F_a_count (g := (mkF m 51 #[.val (.ref a), .val (.long p1), .second, .val (.long p2), .second] [(.ref a), (.ref b)])) rfl rfl (hb hby dad1_51)
    refine Go.st st4 ?_
    show Go p e below s _ _ _ (T4.setTop (mkF m 54 #[.val (.ref a), .val (.long p1), .second, .val (.long p2), .second] [(.int (1 : Int32)), (.ref b)]))
    refine Go.st (fun _ kq_ => XT.lloadN X4.here hx rfl (hb hby dad1_54) rfl kq_) ?_
    show Go p e below s _ _ _ (T4.setTop (mkF m 55 #[.val (.ref a), .val (.long p1), .second, .val (.long p2), .second] [(.long p1), (.int (1 : Int32)), (.ref b)]))
    obtain ⟨T5, h5, X5, e5, W5, V5, st5⟩ := own_stJ X4 hx hZ e4 V_b (j := (1 : Int32)) (by decide) (by decide) 1 rfl (by rw [hps]; decide) (g := (mkF m 55 #[.val (.ref a), .val (.long p1), .second, .val (.long p2), .second] [(.long p1), (.int (1 : Int32)), (.ref b)])) rfl rfl (hb hby dad1_55)
    have N5 := Fr.snoc X5 N0 g_b
    have O5 := O0.wr W5 g_b
    have K5 := K0.wr W5 (Or.inl (List.mem_of_getElem? (i := 1) rfl))
    have E_a := E_a.wr W5
    have F_a_positions := F_a_positions.other W5 (Or.inl n_ab)
    have F_a_offsets := F_a_offsets.other W5 (Or.inl n_ab)
    have F_a_waiting := F_a_waiting.other W5 (Or.inl n_ab)
    have F_a_count := F_a_count.other W5 (Or.inl n_ab)
    have V_d := V_d.other W5 (Ne.symm n_bd)
    have E_y := E_y.wr W5
    have F_y_wordsInUse := F_y_wordsInUse.other W5 (Or.inl (Ne.symm n_by))
    have F_y_sizeIsSticky := F_y_sizeIsSticky.other W5 (Or.inl (Ne.symm n_by))
    have F_y_words := F_y_words.other W5 (Or.inl (Ne.symm n_by))
    have V_r := V_r.other W5 (Ne.symm n_br)
    have V_b : Arv Z h5 b kb .long (64 : Int32) (List.set ps 1 (.long p1)) (.long (0 : Int64)) := V5
    refine Go.st st5 ?_
    show Go p e below s _ _ _ (T5.setTop (mkF m 56 #[.val (.ref a), .val (.long p1), .second, .val (.long p2), .second] []))
    refine Go.st (fun _ kq_ => XS.aloadN X5.here hx rfl (hb hby dad1_56) rfl rfl kq_) ?_
    show Go p e below s _ _ _ (T5.setTop (mkF m 57 #[.val (.ref a), .val (.long p1), .second, .val (.long p2), .second] [(.ref a)]))
    obtain ⟨T6, X6, e6, st6⟩ := getF X5 hx hZ hown (host := "") (Or.inl (own_w hw 19 rfl)) Via.refl e5 F_a_offsets (g := (mkF m 57 #[.val (.ref a), .val (.long p1), .second, .val (.long p2), .second] [(.ref a)])) rfl rfl (hb hby dad1_57)
    refine Go.st st6 ?_
    show Go p e below s _ _ _ (T6.setTop (mkF m 60 #[.val (.ref a), .val (.long p1), .second, .val (.long p2), .second] [(.ref d)]))
    refine Go.st (fun _ kq_ => XS.aloadN X6.here hx rfl (hb hby dad1_60) rfl rfl kq_) ?_
    show Go p e below s _ _ _ (T6.setTop (mkF m 61 #[.val (.ref a), .val (.long p1), .second, .val (.long p2), .second] [(.ref a), (.ref d)]))
    obtain ⟨T7, X7, e7, st7⟩ := getF X6 hx hZ hown (host := "") (Or.inl (own_w hw 49 rfl)) Via.refl e6 F_a_count (g := (mkF m 61 #[.val (.ref a), .val (.long p1), .second, .val (.long p2), .second] [(.ref a), (.ref d)])) rfl rfl (hb hby dad1_61)
    refine Go.st st7 ?_
    show Go p e below s _ _ _ (T7.setTop (mkF m 64 #[.val (.ref a), .val (.long p1), .second, .val (.long p2), .second] [(.int (1 : Int32)), (.ref d)]))
    refine Go.st (fun _ kq_ => XT.lloadN X7.here hx rfl (hb hby dad1_64) rfl kq_) ?_
    show Go p e below s _ _ _ (T7.setTop (mkF m 65 #[.val (.ref a), .val (.long p1), .second, .val (.long p2), .second] [(.long p2), (.int (1 : Int32)), (.ref d)]))
    obtain ⟨T8, h8, X8, e8, W8, V8, st8⟩ := own_stJ X7 hx hZ e7 V_d (j := (1 : Int32)) (by decide) (by decide) 1 rfl (by rw [hos]; decide) (g := (mkF m 65 #[.val (.ref a), .val (.long p1), .second, .val (.long p2), .second] [(.long p2), (.int (1 : Int32)), (.ref d)])) rfl rfl (hb hby dad1_65)
    have N8 := Fr.snoc X8 N5 g_d
    have O8 := O5.wr W8 g_d
    have K8 := K5.wr W8 (Or.inl (List.mem_of_getElem? (i := 2) rfl))
    have E_a := E_a.wr W8
    have F_a_positions := F_a_positions.other W8 (Or.inl n_ad)
    have F_a_offsets := F_a_offsets.other W8 (Or.inl n_ad)
    have F_a_waiting := F_a_waiting.other W8 (Or.inl n_ad)
    have F_a_count := F_a_count.other W8 (Or.inl n_ad)
    have V_b := V_b.other W8 n_bd
    have E_y := E_y.wr W8
    have F_y_wordsInUse := F_y_wordsInUse.other W8 (Or.inl (Ne.symm n_dy))
    have F_y_sizeIsSticky := F_y_sizeIsSticky.other W8 (Or.inl (Ne.symm n_dy))
    have F_y_words := F_y_words.other W8 (Or.inl (Ne.symm n_dy))
    have V_r := V_r.other W8 (Ne.symm n_dr)
    have V_d : Arv Z h8 d kd .long (64 : Int32) (List.set os 1 (.long p2)) (.long (0 : Int64)) := V8
    refine Go.st st8 ?_
    show Go p e below s _ _ _ (T8.setTop (mkF m 66 #[.val (.ref a), .val (.long p1), .second, .val (.long p2), .second] []))
    refine Go.st (fun _ kq_ => XS.aloadN X8.here hx rfl (hb hby dad1_66) rfl rfl kq_) ?_
    show Go p e below s _ _ _ (T8.setTop (mkF m 67 #[.val (.ref a), .val (.long p1), .second, .val (.long p2), .second] [(.ref a)]))
    obtain ⟨T9, X9, e9, st9⟩ := getF X8 hx hZ hown (host := "") (Or.inl (own_w hw 42 rfl)) Via.refl e8 F_a_waiting (g := (mkF m 67 #[.val (.ref a), .val (.long p1), .second, .val (.long p2), .second] [(.ref a)])) rfl rfl (hb hby dad1_67)
    refine Go.st st9 ?_
    show Go p e below s _ _ _ (T9.setTop (mkF m 70 #[.val (.ref a), .val (.long p1), .second, .val (.long p2), .second] [(.ref y)]))
    refine Go.st (fun _ kq_ => XS.aloadN X9.here hx rfl (hb hby dad1_70) rfl rfl kq_) ?_
    show Go p e below s _ _ _ (T9.setTop (mkF m 71 #[.val (.ref a), .val (.long p1), .second, .val (.long p2), .second] [(.ref a), (.ref y)]))
    obtain ⟨T10, X10, e10, st10⟩ := getF X9 hx hZ hown (host := "") (Or.inl (own_w hw 49 rfl)) Via.refl e9 F_a_count (g := (mkF m 71 #[.val (.ref a), .val (.long p1), .second, .val (.long p2), .second] [(.ref a), (.ref y)])) rfl rfl (hb hby dad1_71)
    refine Go.st st10 ?_
    show Go p e below s _ _ _ (T10.setTop (mkF m 74 #[.val (.ref a), .val (.long p1), .second, .val (.long p2), .second] [(.int (1 : Int32)), (.ref y)]))
    obtain ⟨cq11, kq11, qa11, qb11, qc11⟩ := isOf hZ e10 E_y
    obtain ⟨_, _, ⟨T11, L11, k11, n11⟩, -, X11, ⟨Lc11, hQ11, l11, y11, z11⟩, st11⟩ := X10.virtualBack hx (y := (⟨"java/util/BitSet", "set", "(I)V"⟩ : MethodName)) (z := (⟨"java/util/BitSet", "set", "(I)V"⟩ : MethodName)) hown (mvT hZ (own_w hw 56 rfl)) (mvT hZ (own_w hw 57 rfl)) (notFace_of_selects (args := #[]) (mvT hZ (own_w hw 59 rfl))) (mvT hZ (own_w hw 59 rfl)) (mvT hZ (own_w hw 58 rfl)) (by decide) (backOf (W := 0) (rmst1 l Z a0 hw [] y r kr x h8 n0 O8 E_y F_y_wordsInUse F_y_sizeIsSticky F_y_words V_r g_y g_r n_yr SD) hZ (own_w hw 60 rfl) (own_w hw 23 rfl) (by decide) (by decide)) qa11 qc11 (g := (mkF m 74 #[.val (.ref a), .val (.long p1), .second, .val (.long p2), .second] [(.int (1 : Int32)), (.ref y)])) rfl (by rw [hml]; rfl) (Steps.refl _) (argsL := [(.int (1 : Int32))]) (rest := []) (lenOf pdad1_0 rfl) rfl (by show 2 * 0 + _ ≤ _; exact Nat.le_of_eq rfl) (hb hby dad1_74) (fun _ _ => ⟨rfl, e10, (by decide : 0 + 0 ≤ _), (by decide : 0 + 0 ≤ _)⟩)
    dsimp only [Pt.U, Pt.locs, Pt.cells, Pt.slots] at X11 l11 y11 z11 st11 hQ11
    subst l11 y11 z11
    obtain ⟨rfl, Nc11, Kc11, NE_y, NF_y_wordsInUse, NF_y_sizeIsSticky, NF_y_words, NV_r⟩ := hQ11
    have N11 := Fr.app N8 Nc11
    have E_a := E_a.keep Kc11
    have F_a_positions := F_a_positions.keep Kc11 (ninS n_ay (ninS n_ar nin0))
    have F_a_offsets := F_a_offsets.keep Kc11 (ninS n_ay (ninS n_ar nin0))
    have F_a_waiting := F_a_waiting.keep Kc11 (ninS n_ay (ninS n_ar nin0))
    have F_a_count := F_a_count.keep Kc11 (ninS n_ay (ninS n_ar nin0))
    have V_b := V_b.keep Kc11 (ninS n_by (ninS n_br nin0))
    have V_d := V_d.keep Kc11 (ninS n_dy (ninS n_dr nin0))
    have O11 := O8.keep Kc11 (allS g_y (allS g_r all0))
    have K11 := K8.trans Kc11 (allS (Or.inl (List.mem_of_getElem? (i := 3) rfl)) (allS (Or.inl (List.mem_of_getElem? (i := 4) rfl)) all0))
    have E_y := NE_y
    have F_y_wordsInUse := NF_y_wordsInUse
    have F_y_sizeIsSticky := NF_y_sizeIsSticky
    have F_y_words := NF_y_words
    have V_r := NV_r
    refine Go.tr st11 ?_
    show Go p e below s _ _ _ (T11.setTop (mkF m 77 #[.val (.ref a), .val (.long p1), .second, .val (.long p2), .second] []))
    refine Go.st (fun _ kq_ => XS.aloadN X11.here hx rfl (hb hby dad1_77) rfl rfl kq_) ?_
    show Go p e below s _ _ _ (T11.setTop (mkF m 78 #[.val (.ref a), .val (.long p1), .second, .val (.long p2), .second] [(.ref a)]))
    refine Go.st (fun _ kq_ => XS.dup X11.here hx rfl (hb hby dad1_78) rfl rfl kq_) ?_
    show Go p e below s _ _ _ (T11.setTop (mkF m 79 #[.val (.ref a), .val (.long p1), .second, .val (.long p2), .second] [(.ref a), (.ref a)]))
    obtain ⟨T12, X12, e12, st12⟩ := getF X11 hx hZ hown (host := "") (Or.inl (own_w hw 49 rfl)) Via.refl rfl F_a_count (g := (mkF m 79 #[.val (.ref a), .val (.long p1), .second, .val (.long p2), .second] [(.ref a), (.ref a)])) rfl rfl (hb hby dad1_79)
    refine Go.st st12 ?_
    show Go p e below s _ _ _ (T12.setTop (mkF m 82 #[.val (.ref a), .val (.long p1), .second, .val (.long p2), .second] [(.int (1 : Int32)), (.ref a)]))
    refine Go.st (fun _ kq_ => XS.iconst X12.here hx rfl (hb hby dad1_82) kq_) ?_
    show Go p e below s _ _ _ (T12.setTop (mkF m 83 #[.val (.ref a), .val (.long p1), .second, .val (.long p2), .second] [(.int (1 : Int32)), (.int (1 : Int32)), (.ref a)]))
    refine Go.st (fun _ kq_ => XS.iadd X12.here hx rfl (hb hby dad1_83) rfl kq_) ?_
    show Go p e below s _ _ _ (T12.setTop (mkF m 84 #[.val (.ref a), .val (.long p1), .second, .val (.long p2), .second] [(.int (2 : Int32)), (.ref a)]))
    obtain ⟨T13, h13, X13, e13, W13, st13⟩ := putF X12 hx hZ hown (host := "") (Or.inl (own_w hw 49 rfl)) Via.refl e12 F_a_count E_a (Or.inl (own_w hw 50 rfl)) (own_w hw 8 rfl) (ty := .int) (by decide) rfl rfl (g := (mkF m 84 #[.val (.ref a), .val (.long p1), .second, .val (.long p2), .second] [(.int (2 : Int32)), (.ref a)])) rfl rfl (hb hby dad1_84)
    have N13 := Fr.snoc X13 N11 g_a
    have O13 := O11.wr W13 g_a
    have K13 := K11.wr W13 (Or.inl (List.mem_of_getElem? (i := 0) rfl))
    have E_a := E_a.wr W13
    have F_a_positions := F_a_positions.other W13 (Or.inr (slot_ne (Or.inl (own_w hw 18 rfl)) (Or.inl (own_w hw 50 rfl)) (by decide) (by decide : parseFieldDescriptor "[J" = some (.array .long)) (by decide : parseFieldDescriptor "I" = some .int)))
    have F_a_offsets := F_a_offsets.other W13 (Or.inr (slot_ne (Or.inl (own_w hw 20 rfl)) (Or.inl (own_w hw 50 rfl)) (by decide) (by decide : parseFieldDescriptor "[J" = some (.array .long)) (by decide : parseFieldDescriptor "I" = some .int)))
    have F_a_waiting := F_a_waiting.other W13 (Or.inr (slot_ne (Or.inr (own_w hw 43 rfl)) (Or.inl (own_w hw 50 rfl)) (by decide) (by decide : parseFieldDescriptor "Ljava/util/BitSet;" = some (.object "java/util/BitSet")) (by decide : parseFieldDescriptor "I" = some .int)))
    have V_b := V_b.other W13 (Ne.symm n_ab)
    have V_d := V_d.other W13 (Ne.symm n_ad)
    have E_y := E_y.wr W13
    have F_y_wordsInUse := F_y_wordsInUse.other W13 (Or.inl (Ne.symm n_ay))
    have F_y_sizeIsSticky := F_y_sizeIsSticky.other W13 (Or.inl (Ne.symm n_ay))
    have F_y_words := F_y_words.other W13 (Or.inl (Ne.symm n_ay))
    have V_r := V_r.other W13 (Ne.symm n_ar)
    have F_a_count := F_a_count.same W13
    refine Go.st st13 ?_
    show Go p e below s _ _ _ (T13.setTop (mkF m 87 #[.val (.ref a), .val (.long p1), .second, .val (.long p2), .second] []))
    exact Go.ret X13 hlk (none) (fun _ => rfl) (by rw [e13]; exact ⟨rfl, N13, K13, E_a, F_a_positions, F_a_offsets, F_a_waiting, F_a_count, V_b, V_d, E_y, F_y_wordsInUse, F_y_sizeIsSticky, F_y_words, V_r⟩) (by decide) (by decide) (fun fs hr => X13.returnOut hx Bd.returns (hb hby dad1_87) hr)
  obtain ⟨s2, o2, st2, r2⟩ := G
  exact ⟨s2, o2, castTop (efad1 m a p1 p2) st2, r2⟩
theorem dad2_0 : decode prog_39_method_2_code 0 = .ok (.aload_n 0, 1) := by decide +kernel
theorem dad2_1 : decode prog_39_method_2_code 1 = .ok (.getfield 23, 3) := by decide +kernel
theorem dad2_4 : decode prog_39_method_2_code 4 = .ok (.aload_n 0, 1) := by decide +kernel
theorem dad2_5 : decode prog_39_method_2_code 5 = .ok (.getfield 9, 3) := by decide +kernel
theorem dad2_8 : decode prog_39_method_2_code 8 = .ok (.arraylength, 1) := by decide +kernel
theorem dad2_9 : decode prog_39_method_2_code 9 = .ok (.if_icmp .ne 37, 3) := by decide +kernel
theorem dad2_46 : decode prog_39_method_2_code 46 = .ok (.aload_n 0, 1) := by decide +kernel
theorem dad2_47 : decode prog_39_method_2_code 47 = .ok (.getfield 9, 3) := by decide +kernel
theorem dad2_50 : decode prog_39_method_2_code 50 = .ok (.aload_n 0, 1) := by decide +kernel
theorem dad2_51 : decode prog_39_method_2_code 51 = .ok (.getfield 23, 3) := by decide +kernel
theorem dad2_54 : decode prog_39_method_2_code 54 = .ok (.lload_n 1, 1) := by decide +kernel
theorem dad2_55 : decode prog_39_method_2_code 55 = .ok (.lastore, 1) := by decide +kernel
theorem dad2_56 : decode prog_39_method_2_code 56 = .ok (.aload_n 0, 1) := by decide +kernel
theorem dad2_57 : decode prog_39_method_2_code 57 = .ok (.getfield 13, 3) := by decide +kernel
theorem dad2_60 : decode prog_39_method_2_code 60 = .ok (.aload_n 0, 1) := by decide +kernel
theorem dad2_61 : decode prog_39_method_2_code 61 = .ok (.getfield 23, 3) := by decide +kernel
theorem dad2_64 : decode prog_39_method_2_code 64 = .ok (.lload_n 3, 1) := by decide +kernel
theorem dad2_65 : decode prog_39_method_2_code 65 = .ok (.lastore, 1) := by decide +kernel
theorem dad2_66 : decode prog_39_method_2_code 66 = .ok (.aload_n 0, 1) := by decide +kernel
theorem dad2_67 : decode prog_39_method_2_code 67 = .ok (.getfield 19, 3) := by decide +kernel
theorem dad2_70 : decode prog_39_method_2_code 70 = .ok (.aload_n 0, 1) := by decide +kernel
theorem dad2_71 : decode prog_39_method_2_code 71 = .ok (.getfield 23, 3) := by decide +kernel
theorem dad2_74 : decode prog_39_method_2_code 74 = .ok (.invokevirtual 33, 3) := by decide +kernel
theorem dad2_77 : decode prog_39_method_2_code 77 = .ok (.aload_n 0, 1) := by decide +kernel
theorem dad2_78 : decode prog_39_method_2_code 78 = .ok (.dup, 1) := by decide +kernel
theorem dad2_79 : decode prog_39_method_2_code 79 = .ok (.getfield 23, 3) := by decide +kernel
theorem dad2_82 : decode prog_39_method_2_code 82 = .ok (.iconst 1, 1) := by decide +kernel
theorem dad2_83 : decode prog_39_method_2_code 83 = .ok (.iadd, 1) := by decide +kernel
theorem dad2_84 : decode prog_39_method_2_code 84 = .ok (.putfield 23, 3) := by decide +kernel
theorem dad2_87 : decode prog_39_method_2_code 87 = .ok (.return_, 1) := by decide +kernel
theorem pdad2_0 : parseMethodDescriptor "(I)V" = some ⟨[.int], none⟩ := by decide +kernel
theorem pnad2 : plainName "com/example/assayline/assayline/engine/SegmentIndex" = true := by first | (simp [plainName, overriddenIn]; done) | decide +kernel
theorem efad2 (m : MethodId) (x0 : Addr) (x1 : Int64) (x2 : Int64) : entryFrame m #[(.ref x0), (.long x1), (.long x2)] 5 = mkF m 0 #[.val (.ref x0), .val (.long x1), .second, .val (.long x2), .second] [] := by first | (simp [entryFrame, mkF, argsToLocals, Value.category, maxLocals]; done) | rfl
def Qad2 (Z : State) (a : Addr) (b : Addr) (kb : ClassId) (d : Addr) (kd : ClassId) (y : Addr) (r : Addr) (kr : ClassId) (x : Int64) (ps : List Value) (os : List Value) (p1 : Int64) (p2 : Int64) (h0 : Heap) (n0 : Nat) (v : Option Value) (h : Heap) (L : List Loc) : Prop := v = none ∧ Fr n0 L ∧ Keep h0 h [a, b, d, y, r] ∧ Exa Z h a "com/example/assayline/assayline/engine/SegmentIndex" ∧ Fld Z h a "com/example/assayline/assayline/engine/SegmentIndex" "positions" "[J" (.ref b) ∧ Fld Z h a "com/example/assayline/assayline/engine/SegmentIndex" "offsets" "[J" (.ref d) ∧ Fld Z h a "com/example/assayline/assayline/engine/SegmentIndex" "waiting" "Ljava/util/BitSet;" (.ref y) ∧ Fld Z h a "com/example/assayline/assayline/engine/SegmentIndex" "count" "I" (.int (3 : Int32)) ∧ Arv Z h b kb .long (64 : Int32) (List.set ps 2 (.long p1)) (.long (0 : Int64)) ∧ Arv Z h d kd .long (64 : Int32) (List.set os 2 (.long p2)) (.long (0 : Int64)) ∧ Exa Z h y "java/util/BitSet" ∧ Fld Z h y "java/util/BitSet" "wordsInUse" "I" (.int (1 : Int32)) ∧ Fld Z h y "java/util/BitSet" "sizeIsSticky" "Z" (.int (0 : Int32)) ∧ Fld Z h y "java/util/BitSet" "words" "[J" (.ref r) ∧ Arv Z h r kr .long (1 : Int32) [(.long (x ||| ((1 : Int64) <<< (((2 : Int32)).toInt64 &&& 63))))] (.long (0 : Int64))
set_option maxRecDepth 65536 in
set_option maxHeartbeats 40000000 in
theorem rmad2 (l : Launch) (Z : State) (a0 : Array Value) (hw : ∀ d ∈ tables_1, d.before a0 Z = true) (ws : List Jvm.Cond) (a : Addr) (b : Addr) (kb : ClassId) (d : Addr) (kd : ClassId) (y : Addr) (r : Addr) (kr : ClassId) (x : Int64) (ps : List Value) (os : List Value) (p1 : Int64) (p2 : Int64) (h0 : Heap) (n0 : Nat) (O0 : Old Z n0 h0) (E_a : Exa Z h0 a "com/example/assayline/assayline/engine/SegmentIndex") (F_a_positions : Fld Z h0 a "com/example/assayline/assayline/engine/SegmentIndex" "positions" "[J" (.ref b)) (F_a_offsets : Fld Z h0 a "com/example/assayline/assayline/engine/SegmentIndex" "offsets" "[J" (.ref d)) (F_a_waiting : Fld Z h0 a "com/example/assayline/assayline/engine/SegmentIndex" "waiting" "Ljava/util/BitSet;" (.ref y)) (F_a_count : Fld Z h0 a "com/example/assayline/assayline/engine/SegmentIndex" "count" "I" (.int (2 : Int32))) (V_b : Arv Z h0 b kb .long (64 : Int32) ps (.long (0 : Int64))) (V_d : Arv Z h0 d kd .long (64 : Int32) os (.long (0 : Int64))) (E_y : Exa Z h0 y "java/util/BitSet") (F_y_wordsInUse : Fld Z h0 y "java/util/BitSet" "wordsInUse" "I" (.int (1 : Int32))) (F_y_sizeIsSticky : Fld Z h0 y "java/util/BitSet" "sizeIsSticky" "Z" (.int (0 : Int32))) (F_y_words : Fld Z h0 y "java/util/BitSet" "words" "[J" (.ref r)) (V_r : Arv Z h0 r kr .long (1 : Int32) [(.long x)] (.long (0 : Int64))) (hps : ps.length = 64) (hos : os.length = 64) (g_a : n0 ≤ a) (g_b : n0 ≤ b) (g_d : n0 ≤ d) (g_y : n0 ≤ y) (g_r : n0 ≤ r) (n_ab : a ≠ b) (n_ad : a ≠ d) (n_ay : a ≠ y) (n_ar : a ≠ r) (n_bd : b ≠ d) (n_by : b ≠ y) (n_br : b ≠ r) (n_dy : d ≠ y) (n_dr : d ≠ r) (n_yr : y ≠ r) (SD : Sta Z Z.heap "java/util/BitSet" "$assertionsDisabled" "Z" (.int 1)) :
    MetFree l (⟨"com/example/assayline/assayline/engine/SegmentIndex", "add", "(JJ)V"⟩ : MethodName) (head1 (Jvm.Cond.code (⟨"com/example/assayline/assayline/engine/SegmentIndex", "add", "(JJ)V"⟩ : MethodName) prog_39_method_2_code 5 none :: ws) ({ frames := 2, cells := 0, slots := 0, locals := 28 } : Room)) (fun A_ U_ => A_ = #[(.ref a), (.long p1), (.long p2)] ∧ Z.Warmed39 U_.vm ∧ U_.heap = h0) (fun _ _ _ _ _ => True) (fun _ U o U' => ∃ v L, o = .returned v ∧ Qad2 Z a b kb d kd y r kr x ps os p1 p2 h0 n0 v U'.heap L ∧ FrameEnd U o U' L ({ frames := 2, cells := 0, slots := 0, locals := 28 } : Room).cells ({ frames := 2, cells := 0, slots := 0, locals := 28 } : Room).slots) := by
  refine MetFree.of_bodySF (plainFor_of_name pnad2) hisR ?_
  intro p e s m args below meth cd s₁ Bd hml0 hP hK
  obtain ⟨rfl, hZ, hh⟩ := hP
  have hx := Bd.exec
  have hby := Bd.bytes
  have hlk : meth.locks = false := BodyLoose.notSynchronized Bd
  have hml : cd.maxLocals = 5 := hml0
  have hown : s.vm.findClass "com/example/assayline/assayline/engine/SegmentIndex" = some m.cls := findClass_of_methodNamed Bd.named
  have hnm := (name_of_methodNamed Bd.named Bd.method).1
  have X0 : Stand p l e ({ frames := 2, cells := 0, slots := 0, locals := 28 } : Room) s m #[(.ref a), (.long p1), (.long p2)] below meth cd s₁ [] 0 0 := Stand.of_body Bd
  have e0 : s₁.heap = h0 := by rw [← hh, Bd.state]; rfl
  have N0 := Fr.nil n0
  have K0 : Keep h0 h0 [a, b, d, y, r] := Keep.refl _ _
  have G : Go p e below s 0 0 (Qad2 Z a b kb d kd y r kr x ps os p1 p2 h0 n0) (s₁.setTop (mkF m 0 #[.val (.ref a), .val (.long p1), .second, .val (.long p2), .second] [])) := by
    show Go p e below s _ _ _ (s₁.setTop (mkF m 0 #[.val (.ref a), .val (.long p1), .second, .val (.long p2), .second] []))
    refine Go.st (fun _ kq_ => XS.aloadN X0.here hx rfl (hb hby dad2_0) rfl rfl kq_) ?_
    show Go p e below s _ _ _ (s₁.setTop (mkF m 1 #[.val (.ref a), .val (.long p1), .second, .val (.long p2), .second] [(.ref a)]))
    obtain ⟨T1, X1, e1, st1⟩ := getF X0 hx hZ hown (host := "") (Or.inl (own_w hw 49 rfl)) Via.refl e0 F_a_count (g := (mkF m 1 #[.val (.ref a), .val (.long p1), .second, .val (.long p2), .second] [(.ref a)])) rfl rfl (hb hby dad2_1)
    refine Go.st st1 ?_
    show Go p e below s _ _ _ (T1.setTop (mkF m 4 #[.val (.ref a), .val (.long p1), .second, .val (.long p2), .second] [(.int (2 : Int32))]))
    refine Go.st (fun _ kq_ => XS.aloadN X1.here hx rfl (hb hby dad2_4) rfl rfl kq_) ?_
    show Go p e below s _ _ _ (T1.setTop (mkF m 5 #[.val (.ref a), .val (.long p1), .second, .val (.long p2), .second] [(.ref a), (.int (2 : Int32))]))
    obtain ⟨T2, X2, e2, st2⟩ := getF X1 hx hZ hown (host := "") (Or.inl (own_w hw 17 rfl)) Via.refl e1 F_a_positions (g := (mkF m 5 #[.val (.ref a), .val (.long p1), .second, .val (.long p2), .second] [(.ref a), (.int (2 : Int32))])) rfl rfl (hb hby dad2_5)
    refine Go.st st2 ?_
    show Go p e below s _ _ _ (T2.setTop (mkF m 8 #[.val (.ref a), .val (.long p1), .second, .val (.long p2), .second] [(.ref b), (.int (2 : Int32))]))
    refine Go.st (fun _ kq_ => own_len X2 hx hZ e2 V_b (g := (mkF m 8 #[.val (.ref a), .val (.long p1), .second, .val (.long p2), .second] [(.ref b), (.int (2 : Int32))])) rfl rfl (hb hby dad2_8) _ kq_) ?_
    show Go p e below s _ _ _ (T2.setTop (mkF m 9 #[.val (.ref a), .val (.long p1), .second, .val (.long p2), .second] [(.int (64 : Int32)), (.int (2 : Int32))]))
    refine Go.st (fun _ kq_ => XS.icmpYes X2.here hx rfl (pc0 := 9) (pc' := 46) rfl (hb hby dad2_9) rfl (by decide) (by decide) (by decide) kq_) ?_
    show Go p e below s _ _ _ (T2.setTop (mkF m 46 #[.val (.ref a), .val (.long p1), .second, .val (.long p2), .second] []))
    refine Go.st (fun _ kq_ => XS.aloadN X2.here hx rfl (hb hby dad2_46) rfl rfl kq_) ?_
    show Go p e below s _ _ _ (T2.setTop (mkF m 47 #[.val (.ref a), .val (.long p1), .second, .val (.long p2), .second] [(.ref a)]))
    obtain ⟨T3, X3, e3, st3⟩ := getF X2 hx hZ hown (host := "") (Or.inl (own_w hw 17 rfl)) Via.refl e2 F_a_positions (g := (mkF m 47 #[.val (.ref a), .val (.long p1), .second, .val (.long p2), .second] [(.ref a)])) rfl rfl (hb hby dad2_47)
    refine Go.st st3 ?_
    show Go p e below s _ _ _ (T3.setTop (mkF m 50 #[.val (.ref a), .val (.long p1), .second, .val (.long p2), .second] [(.ref b)]))
    refine Go.st (fun _ kq_ => XS.aloadN X3.here hx rfl (hb hby dad2_50) rfl rfl kq_) ?_
    show Go p e below s _ _ _ (T3.setTop (mkF m 51 #[.val (.ref a), .val (.long p1), .second, .val (.long p2), .second] [(.ref a), (.ref b)]))
    obtain ⟨T4, X4, e4, st4⟩ := getF X3 hx hZ hown (host := "") (Or.inl (own_w hw 49 rfl)) Via.refl e3 F_a_count (g := (mkF m 51 #[.val (.ref a), .val (.long p1), .second, .val (.long p2), .second] [(.ref a), (.ref b)])) rfl rfl (hb hby dad2_51)
    refine Go.st st4 ?_
    show Go p e below s _ _ _ (T4.setTop (mkF m 54 #[.val (.ref a), .val (.long p1), .second, .val (.long p2), .second] [(.int (2 : Int32)), (.ref b)]))
    refine Go.st (fun _ kq_ => XT.lloadN X4.here hx rfl (hb hby dad2_54) rfl kq_) ?_
    show Go p e below s _ _ _ (T4.setTop (mkF m 55 #[.val (.ref a), .val (.long p1), .second, .val (.long p2), .second] [(.long p1), (.int (2 : Int32)), (.ref b)]))
    obtain ⟨T5, h5, X5, e5, W5, V5, st5⟩ := own_stJ X4 hx hZ e4 V_b (j := (2 : Int32)) (by decide) (by decide) 2 rfl (by rw [hps]; decide) (g := (mkF m 55 #[.val (.ref a), .val (.long p1), .second, .val (.long p2), .second] [(.long p1), (.int (2 : Int32)), (.ref b)])) rfl rfl (hb hby dad2_55)
    have N5 := Fr.snoc X5 N0 g_b
    have O5 := O0.wr W5 g_b
    have K5 := K0.wr W5 (Or.inl (List.mem_of_getElem? (i := 1) rfl))
    have E_a := E_a.wr W5
    have F_a_positions := F_a_positions.other W5 (Or.inl n_ab)
    have F_a_offsets := F_a_offsets.other W5 (Or.inl n_ab)
    have F_a_waiting := F_a_waiting.other W5 (Or.inl n_ab)
    have F_a_count := F_a_count.other W5 (Or.inl n_ab)
    have V_d := V_d.other W5 (Ne.symm n_bd)
    have E_y := E_y.wr W5
    have F_y_wordsInUse := F_y_wordsInUse.other W5 (Or.inl (Ne.symm n_by))
    have F_y_sizeIsSticky := F_y_sizeIsSticky.other W5 (Or.inl (Ne.symm n_by))
    have F_y_words := F_y_words.other W5 (Or.inl (Ne.symm n_by))
    have V_r := V_r.other W5 (Ne.symm n_br)
    have V_b : Arv Z h5 b kb .long (64 : Int32) (List.set ps 2 (.long p1)) (.long (0 : Int64)) := V5
    refine Go.st st5 ?_
    show Go p e below s _ _ _ (T5.setTop (mkF m 56 #[.val (.ref a), .val (.long p1), .second, .val (.long p2), .second] []))
    refine Go.st (fun _ kq_ => XS.aloadN X5.here hx rfl (hb hby dad2_56) rfl rfl kq_) ?_
    show Go p e below s _ _ _ (T5.setTop (mkF m 57 #[.val (.ref a), .val (.long p1), .second, .val (.long p2), .second] [(.ref a)]))
    obtain ⟨T6, X6, e6, st6⟩ := getF X5 hx hZ hown (host := "") (Or.inl (own_w hw 19 rfl)) Via.refl e5 F_a_offsets (g := (mkF m 57 #[.val (.ref a), .val (.long p1), .second, .val (.long p2), .second] [(.ref a)])) rfl rfl (hb hby dad2_57)
    refine Go.st st6 ?_
    show Go p e below s _ _ _ (T6.setTop (mkF m 60 #[.val (.ref a), .val (.long p1), .second, .val (.long p2), .second] [(.ref d)]))
    refine Go.st (fun _ kq_ => XS.aloadN X6.here hx rfl (hb hby dad2_60) rfl rfl kq_) ?_
    show Go p e below s _ _ _ (T6.setTop (mkF m 61 #[.val (.ref a), .val (.long p1), .second, .val (.long p2), .second] [(.ref a), (.ref d)]))
    obtain ⟨T7, X7, e7, st7⟩ := getF X6 hx hZ hown (host := "") (Or.inl (own_w hw 49 rfl)) Via.refl e6 F_a_count (g := (mkF m 61 #[.val (.ref a), .val (.long p1), .second, .val (.long p2), .second] [(.ref a), (.ref d)])) rfl rfl (hb hby dad2_61)
    refine Go.st st7 ?_
    show Go p e below s _ _ _ (T7.setTop (mkF m 64 #[.val (.ref a), .val (.long p1), .second, .val (.long p2), .second] [(.int (2 : Int32)), (.ref d)]))
    refine Go.st (fun _ kq_ => XT.lloadN X7.here hx rfl (hb hby dad2_64) rfl kq_) ?_
    show Go p e below s _ _ _ (T7.setTop (mkF m 65 #[.val (.ref a), .val (.long p1), .second, .val (.long p2), .second] [(.long p2), (.int (2 : Int32)), (.ref d)]))
    obtain ⟨T8, h8, X8, e8, W8, V8, st8⟩ := own_stJ X7 hx hZ e7 V_d (j := (2 : Int32)) (by decide) (by decide) 2 rfl (by rw [hos]; decide) (g := (mkF m 65 #[.val (.ref a), .val (.long p1), .second, .val (.long p2), .second] [(.long p2), (.int (2 : Int32)), (.ref d)])) rfl rfl (hb hby dad2_65)
    have N8 := Fr.snoc X8 N5 g_d
    have O8 := O5.wr W8 g_d
    have K8 := K5.wr W8 (Or.inl (List.mem_of_getElem? (i := 2) rfl))
    have E_a := E_a.wr W8
    have F_a_positions := F_a_positions.other W8 (Or.inl n_ad)
    have F_a_offsets := F_a_offsets.other W8 (Or.inl n_ad)
    have F_a_waiting := F_a_waiting.other W8 (Or.inl n_ad)
    have F_a_count := F_a_count.other W8 (Or.inl n_ad)
    have V_b := V_b.other W8 n_bd
    have E_y := E_y.wr W8
    have F_y_wordsInUse := F_y_wordsInUse.other W8 (Or.inl (Ne.symm n_dy))
    have F_y_sizeIsSticky := F_y_sizeIsSticky.other W8 (Or.inl (Ne.symm n_dy))
    have F_y_words := F_y_words.other W8 (Or.inl (Ne.symm n_dy))
    have V_r := V_r.other W8 (Ne.symm n_dr)
    have V_d : Arv Z h8 d kd .long (64 : Int32) (List.set os 2 (.long p2)) (.long (0 : Int64)) := V8
    refine Go.st st8 ?_
    show Go p e below s _ _ _ (T8.setTop (mkF m 66 #[.val (.ref a), .val (.long p1), .second, .val (.long p2), .second] []))
    refine Go.st (fun _ kq_ => XS.aloadN X8.here hx rfl (hb hby dad2_66) rfl rfl kq_) ?_
    show Go p e below s _ _ _ (T8.setTop (mkF m 67 #[.val (.ref a), .val (.long p1), .second, .val (.long p2), .second] [(.ref a)]))
    obtain ⟨T9, X9, e9, st9⟩ := getF X8 hx hZ hown (host := "") (Or.inl (own_w hw 42 rfl)) Via.refl e8 F_a_waiting (g := (mkF m 67 #[.val (.ref a), .val (.long p1), .second, .val (.long p2), .second] [(.ref a)])) rfl rfl (hb hby dad2_67)
    refine Go.st st9 ?_
    show Go p e below s _ _ _ (T9.setTop (mkF m 70 #[.val (.ref a), .val (.long p1), .second, .val (.long p2), .second] [(.ref y)]))
    refine Go.st (fun _ kq_ => XS.aloadN X9.here hx rfl (hb hby dad2_70) rfl rfl kq_) ?_
    show Go p e below s _ _ _ (T9.setTop (mkF m 71 #[.val (.ref a), .val (.long p1), .second, .val (.long p2), .second] [(.ref a), (.ref y)]))
    obtain ⟨T10, X10, e10, st10⟩ := getF X9 hx hZ hown (host := "") (Or.inl (own_w hw 49 rfl)) Via.refl e9 F_a_count (g := (mkF m 71 #[.val (.ref a), .val (.long p1), .second, .val (.long p2), .second] [(.ref a), (.ref y)])) rfl rfl (hb hby dad2_71)
    refine Go.st st10 ?_
    show Go p e below s _ _ _ (T10.setTop (mkF m 74 #[.val (.ref a), .val (.long p1), .second, .val (.long p2), .second] [(.int (2 : Int32)), (.ref y)]))
    obtain ⟨cq11, kq11, qa11, qb11, qc11⟩ := isOf hZ e10 E_y
    obtain ⟨_, _, ⟨T11, L11, k11, n11⟩, -, X11, ⟨Lc11, hQ11, l11, y11, z11⟩, st11⟩ := X10.virtualBack hx (y := (⟨"java/util/BitSet", "set", "(I)V"⟩ : MethodName)) (z := (⟨"java/util/BitSet", "set", "(I)V"⟩ : MethodName)) hown (mvT hZ (own_w hw 56 rfl)) (mvT hZ (own_w hw 57 rfl)) (notFace_of_selects (args := #[]) (mvT hZ (own_w hw 59 rfl))) (mvT hZ (own_w hw 59 rfl)) (mvT hZ (own_w hw 58 rfl)) (by decide) (backOf (W := 0) (rmst2 l Z a0 hw [] y r kr x h8 n0 O8 E_y F_y_wordsInUse F_y_sizeIsSticky F_y_words V_r g_y g_r n_yr SD) hZ (own_w hw 60 rfl) (own_w hw 23 rfl) (by decide) (by decide)) qa11 qc11 (g := (mkF m 74 #[.val (.ref a), .val (.long p1), .second, .val (.long p2), .second] [(.int (2 : Int32)), (.ref y)])) rfl (by rw [hml]; rfl) (Steps.refl _) (argsL := [(.int (2 : Int32))]) (rest := []) (lenOf pdad2_0 rfl) rfl (by show 2 * 0 + _ ≤ _; exact Nat.le_of_eq rfl) (hb hby dad2_74) (fun _ _ => ⟨rfl, e10, (by decide : 0 + 0 ≤ _), (by decide : 0 + 0 ≤ _)⟩)
    dsimp only [Pt.U, Pt.locs, Pt.cells, Pt.slots] at X11 l11 y11 z11 st11 hQ11
    subst l11 y11 z11
    obtain ⟨rfl, Nc11, Kc11, NE_y, NF_y_wordsInUse, NF_y_sizeIsSticky, NF_y_words, NV_r⟩ := hQ11
    have N11 := Fr.app N8 Nc11
    have E_a := E_a.keep Kc11
    have F_a_positions := F_a_positions.keep Kc11 (ninS n_ay (ninS n_ar nin0))
    have F_a_offsets := F_a_offsets.keep Kc11 (ninS n_ay (ninS n_ar nin0))
    have F_a_waiting := F_a_waiting.keep Kc11 (ninS n_ay (ninS n_ar nin0))
    have F_a_count := F_a_count.keep Kc11 (ninS n_ay (ninS n_ar nin0))
    have V_b := V_b.keep Kc11 (ninS n_by (ninS n_br nin0))
    have V_d := V_d.keep Kc11 (ninS n_dy (ninS n_dr nin0))
    have O11 := O8.keep Kc11 (allS g_y (allS g_r all0))
    have K11 := K8.trans Kc11 (allS (Or.inl (List.mem_of_getElem? (i := 3) rfl)) (allS (Or.inl (List.mem_of_getElem? (i := 4) rfl)) all0))
    have E_y := NE_y
    have F_y_wordsInUse := NF_y_wordsInUse
    have F_y_sizeIsSticky := NF_y_sizeIsSticky
    have F_y_words := NF_y_words
    have V_r := NV_r
    refine Go.tr st11 ?_
    show Go p e below s _ _ _ (T11.setTop (mkF m 77 #[.val (.ref a), .val (.long p1), .second, .val (.long p2), .second] []))
    refine Go.st (fun _ kq_ => XS.aloadN X11.here hx rfl (hb hby dad2_77) rfl rfl kq_) ?_
    show Go p e below s _ _ _ (T11.setTop (mkF m 78 #[.val (.ref a), .val (.long p1), .second, .val (.long p2), .second] [(.ref a)]))
    refine Go.st (fun _ kq_ => XS.dup X11.here hx rfl (hb hby dad2_78) rfl rfl kq_) ?_
    show Go p e below s _ _ _ (T11.setTop (mkF m 79 #[.val (.ref a), .val (.long p1), .second, .val (.long p2), .second] [(.ref a), (.ref a)]))
    obtain ⟨T12, X12, e12, st12⟩ := getF X11 hx hZ hown (host := "") (Or.inl (own_w hw 49 rfl)) Via.refl rfl F_a_count (g := (mkF m 79 #[.val (.ref a), .val (.long p1), .second, .val (.long p2), .second] [(.ref a), (.ref a)])) rfl rfl (hb hby dad2_79)
    refine Go.st st12 ?_
    show Go p e below s _ _ _ (T12.setTop (mkF m 82 #[.val (.ref a), .val (.long p1), .second, .val (.long p2), .second] [(.int (2 : Int32)), (.ref a)]))
    refine Go.st (fun _ kq_ => XS.iconst X12.here hx rfl (hb hby dad2_82) kq_) ?_
    show Go p e below s _ _ _ (T12.setTop (mkF m 83 #[.val (.ref a), .val (.long p1), .second, .val (.long p2), .second] [(.int (1 : Int32)), (.int (2 : Int32)), (.ref a)]))
    refine Go.st (fun _ kq_ => XS.iadd X12.here hx rfl (hb hby dad2_83) rfl kq_) ?_
    show Go p e below s _ _ _ (T12.setTop (mkF m 84 #[.val (.ref a), .val (.long p1), .second, .val (.long p2), .second] [(.int (3 : Int32)), (.ref a)]))
    obtain ⟨T13, h13, X13, e13, W13, st13⟩ := putF X12 hx hZ hown (host := "") (Or.inl (own_w hw 49 rfl)) Via.refl e12 F_a_count E_a (Or.inl (own_w hw 50 rfl)) (own_w hw 8 rfl) (ty := .int) (by decide) rfl rfl (g := (mkF m 84 #[.val (.ref a), .val (.long p1), .second, .val (.long p2), .second] [(.int (3 : Int32)), (.ref a)])) rfl rfl (hb hby dad2_84)
    have N13 := Fr.snoc X13 N11 g_a
    have O13 := O11.wr W13 g_a
    have K13 := K11.wr W13 (Or.inl (List.mem_of_getElem? (i := 0) rfl))
    have E_a := E_a.wr W13
    have F_a_positions := F_a_positions.other W13 (Or.inr (slot_ne (Or.inl (own_w hw 18 rfl)) (Or.inl (own_w hw 50 rfl)) (by decide) (by decide : parseFieldDescriptor "[J" = some (.array .long)) (by decide : parseFieldDescriptor "I" = some .int)))
    have F_a_offsets := F_a_offsets.other W13 (Or.inr (slot_ne (Or.inl (own_w hw 20 rfl)) (Or.inl (own_w hw 50 rfl)) (by decide) (by decide : parseFieldDescriptor "[J" = some (.array .long)) (by decide : parseFieldDescriptor "I" = some .int)))
    have F_a_waiting := F_a_waiting.other W13 (Or.inr (slot_ne (Or.inr (own_w hw 43 rfl)) (Or.inl (own_w hw 50 rfl)) (by decide) (by decide : parseFieldDescriptor "Ljava/util/BitSet;" = some (.object "java/util/BitSet")) (by decide : parseFieldDescriptor "I" = some .int)))
    have V_b := V_b.other W13 (Ne.symm n_ab)
    have V_d := V_d.other W13 (Ne.symm n_ad)
    have E_y := E_y.wr W13
    have F_y_wordsInUse := F_y_wordsInUse.other W13 (Or.inl (Ne.symm n_ay))
    have F_y_sizeIsSticky := F_y_sizeIsSticky.other W13 (Or.inl (Ne.symm n_ay))
    have F_y_words := F_y_words.other W13 (Or.inl (Ne.symm n_ay))
    have V_r := V_r.other W13 (Ne.symm n_ar)
    have F_a_count := F_a_count.same W13
    refine Go.st st13 ?_
    show Go p e below s _ _ _ (T13.setTop (mkF m 87 #[.val (.ref a), .val (.long p1), .second, .val (.long p2), .second] []))
    exact Go.ret X13 hlk (none) (fun _ => rfl) (by rw [e13]; exact ⟨rfl, N13, K13, E_a, F_a_positions, F_a_offsets, F_a_waiting, F_a_count, V_b, V_d, E_y, F_y_wordsInUse, F_y_sizeIsSticky, F_y_words, V_r⟩) (by decide) (by decide) (fun fs hr => X13.returnOut hx Bd.returns (hb hby dad2_87) hr)
  obtain ⟨s2, o2, st2, r2⟩ := G
  exact ⟨s2, o2, castTop (efad2 m a p1 p2) st2, r2⟩
theorem dla0_0 : decode prog_39_method_4_code 0 = .ok (.aload_n 0, 1) := by decide +kernel
theorem dla0_1 : decode prog_39_method_4_code 1 = .ok (.getfield 23, 3) := by decide +kernel
theorem dla0_4 : decode prog_39_method_4_code 4 = .ok (.ifCond .ne 7, 3) := by decide +kernel
theorem dla0_7 : decode prog_39_method_4_code 7 = .ok (.lconst 0, 1) := by decide +kernel
theorem dla0_8 : decode prog_39_method_4_code 8 = .ok (.goto 14, 3) := by decide +kernel
theorem dla0_22 : decode prog_39_method_4_code 22 = .ok (.lreturn, 1) := by decide +kernel
theorem pnla0 : plainName "com/example/assayline/assayline/engine/SegmentIndex" = true := by first | (simp [plainName, overriddenIn]; done) | decide +kernel
theorem efla0 (m : MethodId) (x0 : Addr) : entryFrame m #[(.ref x0)] 1 = mkF m 0 #[.val (.ref x0)] [] := by first | (simp [entryFrame, mkF, argsToLocals, Value.category, maxLocals]; done) | rfl
def Qla0 (Z : State) (a : Addr) (h0 : Heap) (n0 : Nat) (v : Option Value) (h : Heap) (L : List Loc) : Prop := v = some (.long 0) ∧ Fr n0 L ∧ h = h0
set_option maxRecDepth 65536 in
set_option maxHeartbeats 40000000 in
theorem rmla0 (l : Launch) (Z : State) (a0 : Array Value) (hw : ∀ d ∈ tables_1, d.before a0 Z = true) (ws : List Jvm.Cond) (a : Addr) (h0 : Heap) (n0 : Nat) (O0 : Old Z n0 h0) (F_a_count : Fld Z h0 a "com/example/assayline/assayline/engine/SegmentIndex" "count" "I" (.int (0 : Int32))) :
    MetFree l (⟨"com/example/assayline/assayline/engine/SegmentIndex", "last", "()J"⟩ : MethodName) (head1 (Jvm.Cond.code (⟨"com/example/assayline/assayline/engine/SegmentIndex", "last", "()J"⟩ : MethodName) prog_39_method_4_code 1 (some .long) :: ws) ({ frames := 0, cells := 0, slots := 0, locals := 0 } : Room)) (fun A_ U_ => A_ = #[(.ref a)] ∧ Z.Warmed39 U_.vm ∧ U_.heap = h0) (fun _ _ _ _ _ => True) (fun _ U o U' => ∃ v L, o = .returned v ∧ Qla0 Z a h0 n0 v U'.heap L ∧ FrameEnd U o U' L ({ frames := 0, cells := 0, slots := 0, locals := 0 } : Room).cells ({ frames := 0, cells := 0, slots := 0, locals := 0 } : Room).slots) := by
  refine MetFree.of_bodySF (plainFor_of_name pnla0) hisR ?_
  intro p e s m args below meth cd s₁ Bd hml0 hP hK
  obtain ⟨rfl, hZ, hh⟩ := hP
  have hx := Bd.exec
  have hby := Bd.bytes
  have hlk : meth.locks = false := BodyLoose.notSynchronized Bd
  have hml : cd.maxLocals = 1 := hml0
  have hown : s.vm.findClass "com/example/assayline/assayline/engine/SegmentIndex" = some m.cls := findClass_of_methodNamed Bd.named
  have hnm := (name_of_methodNamed Bd.named Bd.method).1
  have X0 : Stand p l e ({ frames := 0, cells := 0, slots := 0, locals := 0 } : Room) s m #[(.ref a)] below meth cd s₁ [] 0 0 := Stand.of_body Bd
  have e0 : s₁.heap = h0 := by rw [← hh, Bd.state]; rfl
  have N0 := Fr.nil n0
  have G : Go p e below s 0 0 (Qla0 Z a h0 n0) (s₁.setTop (mkF m 0 #[.val (.ref a)] [])) := by
    show Go p e below s _ _ _ (s₁.setTop (mkF m 0 #[.val (.ref a)] []))
    refine Go.st (fun _ kq_ => XS.aloadN X0.here hx rfl (hb hby dla0_0) rfl rfl kq_) ?_
    show Go p e below s _ _ _ (s₁.setTop (mkF m 1 #[.val (.ref a)] [(.ref a)]))
    obtain ⟨T1, X1, e1, st1⟩ := getF X0 hx hZ hown (host := "") (Or.inl (own_w hw 49 rfl)) Via.refl e0 F_a_count (g := (mkF m 1 #[.val (.ref a)] [(.ref a)])) rfl rfl (hb hby dla0_1)
    refine Go.st st1 ?_
    show Go p e below s _ _ _ (T1.setTop (mkF m 4 #[.val (.ref a)] [(.int (0 : Int32))]))
    refine Go.st (fun _ kq_ => XS.ifNo X1.here hx rfl (hb hby dla0_4) rfl (by decide) kq_) ?_
    show Go p e below s _ _ _ (T1.setTop (mkF m 7 #[.val (.ref a)] []))
    refine Go.st (fun _ kq_ => XT.lconst X1.here hx rfl (hb hby dla0_7) kq_) ?_
    show Go p e below s _ _ _ (T1.setTop (mkF m 8 #[.val (.ref a)] [(.long (0 : Int64))]))
    refine Go.st (fun _ kq_ => XS.goto X1.here hx rfl (pc0 := 8) (pc' := 22) rfl (hb hby dla0_8) (by decide) (by decide) kq_) ?_
    show Go p e below s _ _ _ (T1.setTop (mkF m 22 #[.val (.ref a)] [(.long (0 : Int64))]))
    exact Go.ret X1 hlk (some (.long (0 : Int64))) (fun h => by rw [Bd.returns] at h; cases h) (by rw [e1]; exact ⟨rfl, N0, rfl⟩) (by decide) (by decide) (fun fs hr => retOut X1 hx Bd.returns rfl (Or.inr (Or.inl ⟨rfl, rfl, _, rfl⟩)) (hb hby dla0_22) hr)
  obtain ⟨s2, o2, st2, r2⟩ := G
  exact ⟨s2, o2, castTop (efla0 m a) st2, r2⟩
theorem dla1_0 : decode prog_39_method_4_code 0 = .ok (.aload_n 0, 1) := by decide +kernel
theorem dla1_1 : decode prog_39_method_4_code 1 = .ok (.getfield 23, 3) := by decide +kernel
theorem dla1_4 : decode prog_39_method_4_code 4 = .ok (.ifCond .ne 7, 3) := by decide +kernel
theorem dla1_11 : decode prog_39_method_4_code 11 = .ok (.aload_n 0, 1) := by decide +kernel
theorem dla1_12 : decode prog_39_method_4_code 12 = .ok (.getfield 9, 3) := by decide +kernel
theorem dla1_15 : decode prog_39_method_4_code 15 = .ok (.aload_n 0, 1) := by decide +kernel
theorem dla1_16 : decode prog_39_method_4_code 16 = .ok (.getfield 23, 3) := by decide +kernel
theorem dla1_19 : decode prog_39_method_4_code 19 = .ok (.iconst 1, 1) := by decide +kernel
theorem dla1_20 : decode prog_39_method_4_code 20 = .ok (.isub, 1) := by decide +kernel
theorem dla1_21 : decode prog_39_method_4_code 21 = .ok (.laload, 1) := by decide +kernel
theorem dla1_22 : decode prog_39_method_4_code 22 = .ok (.lreturn, 1) := by decide +kernel
theorem pnla1 : plainName "com/example/assayline/assayline/engine/SegmentIndex" = true := by first | (simp [plainName, overriddenIn]; done) | decide +kernel
theorem efla1 (m : MethodId) (x0 : Addr) : entryFrame m #[(.ref x0)] 1 = mkF m 0 #[.val (.ref x0)] [] := by first | (simp [entryFrame, mkF, argsToLocals, Value.category, maxLocals]; done) | rfl
def Qla1 (Z : State) (a : Addr) (b : Addr) (kb : ClassId) (ps : List Value) (z : Int64) (h0 : Heap) (n0 : Nat) (v : Option Value) (h : Heap) (L : List Loc) : Prop := v = some (.long z) ∧ Fr n0 L ∧ h = h0
set_option maxRecDepth 65536 in
set_option maxHeartbeats 40000000 in
theorem rmla1 (l : Launch) (Z : State) (a0 : Array Value) (hw : ∀ d ∈ tables_1, d.before a0 Z = true) (ws : List Jvm.Cond) (a : Addr) (b : Addr) (kb : ClassId) (ps : List Value) (z : Int64) (h0 : Heap) (n0 : Nat) (O0 : Old Z n0 h0) (F_a_count : Fld Z h0 a "com/example/assayline/assayline/engine/SegmentIndex" "count" "I" (.int (1 : Int32))) (F_a_positions : Fld Z h0 a "com/example/assayline/assayline/engine/SegmentIndex" "positions" "[J" (.ref b)) (V_b : Arv Z h0 b kb .long (64 : Int32) ps (.long (0 : Int64))) (hz : ps.getD ((0 : Int32)).toNatClampNeg (.long (0 : Int64)) = .long z) :
    MetFree l (⟨"com/example/assayline/assayline/engine/SegmentIndex", "last", "()J"⟩ : MethodName) (head1 (Jvm.Cond.code (⟨"com/example/assayline/assayline/engine/SegmentIndex", "last", "()J"⟩ : MethodName) prog_39_method_4_code 1 (some .long) :: ws) ({ frames := 0, cells := 0, slots := 0, locals := 0 } : Room)) (fun A_ U_ => A_ = #[(.ref a)] ∧ Z.Warmed39 U_.vm ∧ U_.heap = h0) (fun _ _ _ _ _ => True) (fun _ U o U' => ∃ v L, o = .returned v ∧ Qla1 Z a b kb ps z h0 n0 v U'.heap L ∧ FrameEnd U o U' L ({ frames := 0, cells := 0, slots := 0, locals := 0 } : Room).cells ({ frames := 0, cells := 0, slots := 0, locals := 0 } : Room).slots) := by
  refine MetFree.of_bodySF (plainFor_of_name pnla1) hisR ?_
  intro p e s m args below meth cd s₁ Bd hml0 hP hK
  obtain ⟨rfl, hZ, hh⟩ := hP
  have hx := Bd.exec
  have hby := Bd.bytes
  have hlk : meth.locks = false := BodyLoose.notSynchronized Bd
  have hml : cd.maxLocals = 1 := hml0
  have hown : s.vm.findClass "com/example/assayline/assayline/engine/SegmentIndex" = some m.cls := findClass_of_methodNamed Bd.named
  have hnm := (name_of_methodNamed Bd.named Bd.method).1
  have X0 : Stand p l e ({ frames := 0, cells := 0, slots := 0, locals := 0 } : Room) s m #[(.ref a)] below meth cd s₁ [] 0 0 := Stand.of_body Bd
  have e0 : s₁.heap = h0 := by rw [← hh, Bd.state]; rfl
  have N0 := Fr.nil n0
  have G : Go p e below s 0 0 (Qla1 Z a b kb ps z h0 n0) (s₁.setTop (mkF m 0 #[.val (.ref a)] [])) := by
    show Go p e below s _ _ _ (s₁.setTop (mkF m 0 #[.val (.ref a)] []))
    refine Go.st (fun _ kq_ => XS.aloadN X0.here hx rfl (hb hby dla1_0) rfl rfl kq_) ?_
    show Go p e below s _ _ _ (s₁.setTop (mkF m 1 #[.val (.ref a)] [(.ref a)]))
    obtain ⟨T1, X1, e1, st1⟩ := getF X0 hx hZ hown (host := "") (Or.inl (own_w hw 49 rfl)) Via.refl e0 F_a_count (g := (mkF m 1 #[.val (.ref a)] [(.ref a)])) rfl rfl (hb hby dla1_1)
    refine Go.st st1 ?_
    show Go p e below s _ _ _ (T1.setTop (mkF m 4 #[.val (.ref a)] [(.int (1 : Int32))]))
    refine Go.st (fun _ kq_ => XS.ifYes X1.here hx rfl (pc0 := 4) (pc' := 11) rfl (hb hby dla1_4) rfl (by decide) (by decide) (by decide) kq_) ?_
    show Go p e below s _ _ _ (T1.setTop (mkF m 11 #[.val (.ref a)] []))
    refine Go.st (fun _ kq_ => XS.aloadN X1.here hx rfl (hb hby dla1_11) rfl rfl kq_) ?_
    show Go p e below s _ _ _ (T1.setTop (mkF m 12 #[.val (.ref a)] [(.ref a)]))
    obtain ⟨T2, X2, e2, st2⟩ := getF X1 hx hZ hown (host := "") (Or.inl (own_w hw 17 rfl)) Via.refl e1 F_a_positions (g := (mkF m 12 #[.val (.ref a)] [(.ref a)])) rfl rfl (hb hby dla1_12)
    refine Go.st st2 ?_
    show Go p e below s _ _ _ (T2.setTop (mkF m 15 #[.val (.ref a)] [(.ref b)]))
    refine Go.st (fun _ kq_ => XS.aloadN X2.here hx rfl (hb hby dla1_15) rfl rfl kq_) ?_
    show Go p e below s _ _ _ (T2.setTop (mkF m 16 #[.val (.ref a)] [(.ref a), (.ref b)]))
    obtain ⟨T3, X3, e3, st3⟩ := getF X2 hx hZ hown (host := "") (Or.inl (own_w hw 49 rfl)) Via.refl e2 F_a_count (g := (mkF m 16 #[.val (.ref a)] [(.ref a), (.ref b)])) rfl rfl (hb hby dla1_16)
    refine Go.st st3 ?_
    show Go p e below s _ _ _ (T3.setTop (mkF m 19 #[.val (.ref a)] [(.int (1 : Int32)), (.ref b)]))
    refine Go.st (fun _ kq_ => XS.iconst X3.here hx rfl (hb hby dla1_19) kq_) ?_
    show Go p e below s _ _ _ (T3.setTop (mkF m 20 #[.val (.ref a)] [(.int (1 : Int32)), (.int (1 : Int32)), (.ref b)]))
    refine Go.st (fun _ kq_ => XS.isub X3.here hx rfl (hb hby dla1_20) rfl kq_) ?_
    show Go p e below s _ _ _ (T3.setTop (mkF m 21 #[.val (.ref a)] [(.int (0 : Int32)), (.ref b)]))
    refine Go.st (fun _ kq_ => own_laload X3 hx hZ e3 V_b (by decide) (by decide) (v := .long z) hz (g := (mkF m 21 #[.val (.ref a)] [(.int (0 : Int32)), (.ref b)])) rfl rfl (hb hby dla1_21) _ kq_) ?_
    show Go p e below s _ _ _ (T3.setTop (mkF m 22 #[.val (.ref a)] [(.long z)]))
    exact Go.ret X3 hlk (some (.long z)) (fun h => by rw [Bd.returns] at h; cases h) (by rw [e3]; exact ⟨rfl, N0, rfl⟩) (by decide) (by decide) (fun fs hr => retOut X3 hx Bd.returns rfl (Or.inr (Or.inl ⟨rfl, rfl, _, rfl⟩)) (hb hby dla1_22) hr)
  obtain ⟨s2, o2, st2, r2⟩ := G
  exact ⟨s2, o2, castTop (efla1 m a) st2, r2⟩
theorem dla2_0 : decode prog_39_method_4_code 0 = .ok (.aload_n 0, 1) := by decide +kernel
theorem dla2_1 : decode prog_39_method_4_code 1 = .ok (.getfield 23, 3) := by decide +kernel
theorem dla2_4 : decode prog_39_method_4_code 4 = .ok (.ifCond .ne 7, 3) := by decide +kernel
theorem dla2_11 : decode prog_39_method_4_code 11 = .ok (.aload_n 0, 1) := by decide +kernel
theorem dla2_12 : decode prog_39_method_4_code 12 = .ok (.getfield 9, 3) := by decide +kernel
theorem dla2_15 : decode prog_39_method_4_code 15 = .ok (.aload_n 0, 1) := by decide +kernel
theorem dla2_16 : decode prog_39_method_4_code 16 = .ok (.getfield 23, 3) := by decide +kernel
theorem dla2_19 : decode prog_39_method_4_code 19 = .ok (.iconst 1, 1) := by decide +kernel
theorem dla2_20 : decode prog_39_method_4_code 20 = .ok (.isub, 1) := by decide +kernel
theorem dla2_21 : decode prog_39_method_4_code 21 = .ok (.laload, 1) := by decide +kernel
theorem dla2_22 : decode prog_39_method_4_code 22 = .ok (.lreturn, 1) := by decide +kernel
theorem pnla2 : plainName "com/example/assayline/assayline/engine/SegmentIndex" = true := by first | (simp [plainName, overriddenIn]; done) | decide +kernel
theorem efla2 (m : MethodId) (x0 : Addr) : entryFrame m #[(.ref x0)] 1 = mkF m 0 #[.val (.ref x0)] [] := by first | (simp [entryFrame, mkF, argsToLocals, Value.category, maxLocals]; done) | rfl
def Qla2 (Z : State) (a : Addr) (b : Addr) (kb : ClassId) (ps : List Value) (z : Int64) (h0 : Heap) (n0 : Nat) (v : Option Value) (h : Heap) (L : List Loc) : Prop := v = some (.long z) ∧ Fr n0 L ∧ h = h0
set_option maxRecDepth 65536 in
set_option maxHeartbeats 40000000 in
theorem rmla2 (l : Launch) (Z : State) (a0 : Array Value) (hw : ∀ d ∈ tables_1, d.before a0 Z = true) (ws : List Jvm.Cond) (a : Addr) (b : Addr) (kb : ClassId) (ps : List Value) (z : Int64) (h0 : Heap) (n0 : Nat) (O0 : Old Z n0 h0) (F_a_count : Fld Z h0 a "com/example/assayline/assayline/engine/SegmentIndex" "count" "I" (.int (2 : Int32))) (F_a_positions : Fld Z h0 a "com/example/assayline/assayline/engine/SegmentIndex" "positions" "[J" (.ref b)) (V_b : Arv Z h0 b kb .long (64 : Int32) ps (.long (0 : Int64))) (hz : ps.getD ((1 : Int32)).toNatClampNeg (.long (0 : Int64)) = .long z) :
    MetFree l (⟨"com/example/assayline/assayline/engine/SegmentIndex", "last", "()J"⟩ : MethodName) (head1 (Jvm.Cond.code (⟨"com/example/assayline/assayline/engine/SegmentIndex", "last", "()J"⟩ : MethodName) prog_39_method_4_code 1 (some .long) :: ws) ({ frames := 0, cells := 0, slots := 0, locals := 0 } : Room)) (fun A_ U_ => A_ = #[(.ref a)] ∧ Z.Warmed39 U_.vm ∧ U_.heap = h0) (fun _ _ _ _ _ => True) (fun _ U o U' => ∃ v L, o = .returned v ∧ Qla2 Z a b kb ps z h0 n0 v U'.heap L ∧ FrameEnd U o U' L ({ frames := 0, cells := 0, slots := 0, locals := 0 } : Room).cells ({ frames := 0, cells := 0, slots := 0, locals := 0 } : Room).slots) := by
  refine MetFree.of_bodySF (plainFor_of_name pnla2) hisR ?_
  intro p e s m args below meth cd s₁ Bd hml0 hP hK
  obtain ⟨rfl, hZ, hh⟩ := hP
  have hx := Bd.exec
  have hby := Bd.bytes
  have hlk : meth.locks = false := BodyLoose.notSynchronized Bd
  have hml : cd.maxLocals = 1 := hml0
  have hown : s.vm.findClass "com/example/assayline/assayline/engine/SegmentIndex" = some m.cls := findClass_of_methodNamed Bd.named
  have hnm := (name_of_methodNamed Bd.named Bd.method).1
  have X0 : Stand p l e ({ frames := 0, cells := 0, slots := 0, locals := 0 } : Room) s m #[(.ref a)] below meth cd s₁ [] 0 0 := Stand.of_body Bd
  have e0 : s₁.heap = h0 := by rw [← hh, Bd.state]; rfl
  have N0 := Fr.nil n0
  have G : Go p e below s 0 0 (Qla2 Z a b kb ps z h0 n0) (s₁.setTop (mkF m 0 #[.val (.ref a)] [])) := by
    show Go p e below s _ _ _ (s₁.setTop (mkF m 0 #[.val (.ref a)] []))
    refine Go.st (fun _ kq_ => XS.aloadN X0.here hx rfl (hb hby dla2_0) rfl rfl kq_) ?_
    show Go p e below s _ _ _ (s₁.setTop (mkF m 1 #[.val (.ref a)] [(.ref a)]))
    obtain ⟨T1, X1, e1, st1⟩ := getF X0 hx hZ hown (host := "") (Or.inl (own_w hw 49 rfl)) Via.refl e0 F_a_count (g := (mkF m 1 #[.val (.ref a)] [(.ref a)])) rfl rfl (hb hby dla2_1)
    refine Go.st st1 ?_
    show Go p e below s _ _ _ (T1.setTop (mkF m 4 #[.val (.ref a)] [(.int (2 : Int32))]))
    refine Go.st (fun _ kq_ => XS.ifYes X1.here hx rfl (pc0 := 4) (pc' := 11) rfl (hb hby dla2_4) rfl (by decide) (by decide) (by decide) kq_) ?_
    show Go p e below s _ _ _ (T1.setTop (mkF m 11 #[.val (.ref a)] []))
    refine Go.st (fun _ kq_ => XS.aloadN X1.here hx rfl (hb hby dla2_11) rfl rfl kq_) ?_
    show Go p e below s _ _ _ (T1.setTop (mkF m 12 #[.val (.ref a)] [(.ref a)]))
    obtain ⟨T2, X2, e2, st2⟩ := getF X1 hx hZ hown (host := "") (Or.inl (own_w hw 17 rfl)) Via.refl e1 F_a_positions (g := (mkF m 12 #[.val (.ref a)] [(.ref a)])) rfl rfl (hb hby dla2_12)
    refine Go.st st2 ?_
    show Go p e below s _ _ _ (T2.setTop (mkF m 15 #[.val (.ref a)] [(.ref b)]))
    refine Go.st (fun _ kq_ => XS.aloadN X2.here hx rfl (hb hby dla2_15) rfl rfl kq_) ?_
    show Go p e below s _ _ _ (T2.setTop (mkF m 16 #[.val (.ref a)] [(.ref a), (.ref b)]))
    obtain ⟨T3, X3, e3, st3⟩ := getF X2 hx hZ hown (host := "") (Or.inl (own_w hw 49 rfl)) Via.refl e2 F_a_count (g := (mkF m 16 #[.val (.ref a)] [(.ref a), (.ref b)])) rfl rfl (hb hby dla2_16)
    refine Go.st st3 ?_
    show Go p e below s _ _ _ (T3.setTop (mkF m 19 #[.val (.ref a)] [(.int (2 : Int32)), (.ref b)]))
    refine Go.st (fun _ kq_ => XS.iconst X3.here hx rfl (hb hby dla2_19) kq_) ?_
    show Go p e below s _ _ _ (T3.setTop (mkF m 20 #[.val (.ref a)] [(.int (1 : Int32)), (.int (2 : Int32)), (.ref b)]))
    refine Go.st (fun _ kq_ => XS.isub X3.here hx rfl (hb hby dla2_20) rfl kq_) ?_
    show Go p e below s _ _ _ (T3.setTop (mkF m 21 #[.val (.ref a)] [(.int (1 : Int32)), (.ref b)]))
    refine Go.st (fun _ kq_ => own_laload X3 hx hZ e3 V_b (by decide) (by decide) (v := .long z) hz (g := (mkF m 21 #[.val (.ref a)] [(.int (1 : Int32)), (.ref b)])) rfl rfl (hb hby dla2_21) _ kq_) ?_
    show Go p e below s _ _ _ (T3.setTop (mkF m 22 #[.val (.ref a)] [(.long z)]))
    exact Go.ret X3 hlk (some (.long z)) (fun h => by rw [Bd.returns] at h; cases h) (by rw [e3]; exact ⟨rfl, N0, rfl⟩) (by decide) (by decide) (fun fs hr => retOut X3 hx Bd.returns rfl (Or.inr (Or.inl ⟨rfl, rfl, _, rfl⟩)) (hb hby dla2_22) hr)
  obtain ⟨s2, o2, st2, r2⟩ := G
  exact ⟨s2, o2, castTop (efla2 m a) st2, r2⟩
theorem dla3_0 : decode prog_39_method_4_code 0 = .ok (.aload_n 0, 1) := by decide +kernel
theorem dla3_1 : decode prog_39_method_4_code 1 = .ok (.getfield 23, 3) := by decide +kernel
theorem dla3_4 : decode prog_39_method_4_code 4 = .ok (.ifCond .ne 7, 3) := by decide +kernel
theorem dla3_11 : decode prog_39_method_4_code 11 = .ok (.aload_n 0, 1) := by decide +kernel
theorem dla3_12 : decode prog_39_method_4_code 12 = .ok (.getfield 9, 3) := by decide +kernel
theorem dla3_15 : decode prog_39_method_4_code 15 = .ok (.aload_n 0, 1) := by decide +kernel
theorem dla3_16 : decode prog_39_method_4_code 16 = .ok (.getfield 23, 3) := by decide +kernel
theorem dla3_19 : decode prog_39_method_4_code 19 = .ok (.iconst 1, 1) := by decide +kernel
theorem dla3_20 : decode prog_39_method_4_code 20 = .ok (.isub, 1) := by decide +kernel
theorem dla3_21 : decode prog_39_method_4_code 21 = .ok (.laload, 1) := by decide +kernel
theorem dla3_22 : decode prog_39_method_4_code 22 = .ok (.lreturn, 1) := by decide +kernel
theorem pnla3 : plainName "com/example/assayline/assayline/engine/SegmentIndex" = true := by first | (simp [plainName, overriddenIn]; done) | decide +kernel
theorem efla3 (m : MethodId) (x0 : Addr) : entryFrame m #[(.ref x0)] 1 = mkF m 0 #[.val (.ref x0)] [] := by first | (simp [entryFrame, mkF, argsToLocals, Value.category, maxLocals]; done) | rfl
def Qla3 (Z : State) (a : Addr) (b : Addr) (kb : ClassId) (ps : List Value) (z : Int64) (h0 : Heap) (n0 : Nat) (v : Option Value) (h : Heap) (L : List Loc) : Prop := v = some (.long z) ∧ Fr n0 L ∧ h = h0
set_option maxRecDepth 65536 in
set_option maxHeartbeats 40000000 in
theorem rmla3 (l : Launch) (Z : State) (a0 : Array Value) (hw : ∀ d ∈ tables_1, d.before a0 Z = true) (ws : List Jvm.Cond) (a : Addr) (b : Addr) (kb : ClassId) (ps : List Value) (z : Int64) (h0 : Heap) (n0 : Nat) (O0 : Old Z n0 h0) (F_a_count : Fld Z h0 a "com/example/assayline/assayline/engine/SegmentIndex" "count" "I" (.int (3 : Int32))) (F_a_positions : Fld Z h0 a "com/example/assayline/assayline/engine/SegmentIndex" "positions" "[J" (.ref b)) (V_b : Arv Z h0 b kb .long (64 : Int32) ps (.long (0 : Int64))) (hz : ps.getD ((2 : Int32)).toNatClampNeg (.long (0 : Int64)) = .long z) :
    MetFree l (⟨"com/example/assayline/assayline/engine/SegmentIndex", "last", "()J"⟩ : MethodName) (head1 (Jvm.Cond.code (⟨"com/example/assayline/assayline/engine/SegmentIndex", "last", "()J"⟩ : MethodName) prog_39_method_4_code 1 (some .long) :: ws) ({ frames := 0, cells := 0, slots := 0, locals := 0 } : Room)) (fun A_ U_ => A_ = #[(.ref a)] ∧ Z.Warmed39 U_.vm ∧ U_.heap = h0) (fun _ _ _ _ _ => True) (fun _ U o U' => ∃ v L, o = .returned v ∧ Qla3 Z a b kb ps z h0 n0 v U'.heap L ∧ FrameEnd U o U' L ({ frames := 0, cells := 0, slots := 0, locals := 0 } : Room).cells ({ frames := 0, cells := 0, slots := 0, locals := 0 } : Room).slots) := by
  refine MetFree.of_bodySF (plainFor_of_name pnla3) hisR ?_
  intro p e s m args below meth cd s₁ Bd hml0 hP hK
  obtain ⟨rfl, hZ, hh⟩ := hP
  have hx := Bd.exec
  have hby := Bd.bytes
  have hlk : meth.locks = false := BodyLoose.notSynchronized Bd
  have hml : cd.maxLocals = 1 := hml0
  have hown : s.vm.findClass "com/example/assayline/assayline/engine/SegmentIndex" = some m.cls := findClass_of_methodNamed Bd.named
  have hnm := (name_of_methodNamed Bd.named Bd.method).1
  have X0 : Stand p l e ({ frames := 0, cells := 0, slots := 0, locals := 0 } : Room) s m #[(.ref a)] below meth cd s₁ [] 0 0 := Stand.of_body Bd
  have e0 : s₁.heap = h0 := by rw [← hh, Bd.state]; rfl
  have N0 := Fr.nil n0
  have G : Go p e below s 0 0 (Qla3 Z a b kb ps z h0 n0) (s₁.setTop (mkF m 0 #[.val (.ref a)] [])) := by
    show Go p e below s _ _ _ (s₁.setTop (mkF m 0 #[.val (.ref a)] []))
    refine Go.st (fun _ kq_ => XS.aloadN X0.here hx rfl (hb hby dla3_0) rfl rfl kq_) ?_
    show Go p e below s _ _ _ (s₁.setTop (mkF m 1 #[.val (.ref a)] [(.ref a)]))
    obtain ⟨T1, X1, e1, st1⟩ := getF X0 hx hZ hown (host := "") (Or.inl (own_w hw 49 rfl)) Via.refl e0 F_a_count (g := (mkF m 1 #[.val (.ref a)] [(.ref a)])) rfl rfl (hb hby dla3_1)
    refine Go.st st1 ?_
    show Go p e below s _ _ _ (T1.setTop (mkF m 4 #[.val (.ref a)] [(.int (3 : Int32))]))
    refine Go.st (fun _ kq_ => XS.ifYes X1.here hx rfl (pc0 := 4) (pc' := 11) rfl (hb hby dla3_4) rfl (by decide) (by decide) (by decide) kq_) ?_
    show Go p e below s _ _ _ (T1.setTop (mkF m 11 #[.val (.ref a)] []))
    refine Go.st (fun _ kq_ => XS.aloadN X1.here hx rfl (hb hby dla3_11) rfl rfl kq_) ?_
    show Go p e below s _ _ _ (T1.setTop (mkF m 12 #[.val (.ref a)] [(.ref a)]))
    obtain ⟨T2, X2, e2, st2⟩ := getF X1 hx hZ hown (host := "") (Or.inl (own_w hw 17 rfl)) Via.refl e1 F_a_positions (g := (mkF m 12 #[.val (.ref a)] [(.ref a)])) rfl rfl (hb hby dla3_12)
    refine Go.st st2 ?_
    show Go p e below s _ _ _ (T2.setTop (mkF m 15 #[.val (.ref a)] [(.ref b)]))
    refine Go.st (fun _ kq_ => XS.aloadN X2.here hx rfl (hb hby dla3_15) rfl rfl kq_) ?_
    show Go p e below s _ _ _ (T2.setTop (mkF m 16 #[.val (.ref a)] [(.ref a), (.ref b)]))
    obtain ⟨T3, X3, e3, st3⟩ := getF X2 hx hZ hown (host := "") (Or.inl (own_w hw 49 rfl)) Via.refl e2 F_a_count (g := (mkF m 16 #[.val (.ref a)] [(.ref a), (.ref b)])) rfl rfl (hb hby dla3_16)
    refine Go.st st3 ?_
    show Go p e below s _ _ _ (T3.setTop (mkF m 19 #[.val (.ref a)] [(.int (3 : Int32)), (.ref b)]))
    refine Go.st (fun _ kq_ => XS.iconst X3.here hx rfl (hb hby dla3_19) kq_) ?_
    show Go p e below s _ _ _ (T3.setTop (mkF m 20 #[.val (.ref a)] [(.int (1 : Int32)), (.int (3 : Int32)), (.ref b)]))
    refine Go.st (fun _ kq_ => XS.isub X3.here hx rfl (hb hby dla3_20) rfl kq_) ?_
    show Go p e below s _ _ _ (T3.setTop (mkF m 21 #[.val (.ref a)] [(.int (2 : Int32)), (.ref b)]))
    refine Go.st (fun _ kq_ => own_laload X3 hx hZ e3 V_b (by decide) (by decide) (v := .long z) hz (g := (mkF m 21 #[.val (.ref a)] [(.int (2 : Int32)), (.ref b)])) rfl rfl (hb hby dla3_21) _ kq_) ?_
    show Go p e below s _ _ _ (T3.setTop (mkF m 22 #[.val (.ref a)] [(.long z)]))
    exact Go.ret X3 hlk (some (.long z)) (fun h => by rw [Bd.returns] at h; cases h) (by rw [e3]; exact ⟨rfl, N0, rfl⟩) (by decide) (by decide) (fun fs hr => retOut X3 hx Bd.returns rfl (Or.inr (Or.inl ⟨rfl, rfl, _, rfl⟩)) (hb hby dla3_22) hr)
  obtain ⟨s2, o2, st2, r2⟩ := G
  exact ⟨s2, o2, castTop (efla3 m a) st2, r2⟩
theorem own_last (ps : List Value) (k : Nat) (z d : Value) (h : k < ps.length) : (List.set ps k z).getD k d = z := by
  rw [List.getD_eq_getElem?_getD, List.getElem?_set_self h]
  rfl
theorem pd0_0 : parseMethodDescriptor "(JJ)J" = some ⟨[.long, .long], some .long⟩ := by decide +kernel
theorem pd0_1 : parseMethodDescriptor "()V" = some ⟨[], none⟩ := by decide +kernel
theorem pd0_2 : parseMethodDescriptor "()J" = some ⟨[], some .long⟩ := by decide +kernel
theorem pd0_3 : parseMethodDescriptor "(JJ)V" = some ⟨[.long, .long], none⟩ := by decide +kernel
theorem pn0 : plainName "com/example/assayline/assayline/engine/SegmentIndexLastPinLaw" = true := by first | (simp [plainName, overriddenIn]; done) | decide +kernel
theorem ef0 (m : MethodId) (x0 : Int64) (x1 : Int64) (x2 : Int64) (x3 : Int64) : entryFrame m #[(.long x0), (.long x1), (.long x2), (.long x3)] maxLocals = mkF m 0 #[.val (.long x0), .second, .val (.long x1), .second, .val (.long x2), .second, .val (.long x3), .second, .unset, .unset, .unset, .unset, .unset, .unset, .unset, .unset] [] := by first | (simp [entryFrame, mkF, argsToLocals, Value.category, maxLocals]; done) | rfl
def Q0 (Z : State) (p0 : Int64) (p1 : Int64) (p2 : Int64) (p3 : Int64) (h0 : Heap) (n0 : Nat) (v : Option Value) (h : Heap) (L : List Loc) : Prop := v = some (.int 1) ∧ Fr n0 L
set_option maxRecDepth 65536 in
set_option maxHeartbeats 40000000 in
theorem rm0 (l : Launch) (Z : State) (a0 : Array Value) (hw : ∀ d ∈ tables_1, d.before a0 Z = true) (ws : List Jvm.Cond) (p0 : Int64) (p1 : Int64) (p2 : Int64) (p3 : Int64) (h0 : Heap) (n0 : Nat) (O0 : Old Z n0 h0) (SD : Sta Z Z.heap "java/util/BitSet" "$assertionsDisabled" "Z" (.int 1)) :
    MetFree l x (head1 (Jvm.Cond.code x code maxLocals ret :: ws) room_1) (fun A_ U_ => A_ = #[(.long p0), (.long p1), (.long p2), (.long p3)] ∧ Z.Warmed39 U_.vm ∧ U_.heap = h0) (fun _ _ _ _ _ => True) (fun _ U o U' => ∃ v L, o = .returned v ∧ Q0 Z p0 p1 p2 p3 h0 n0 v U'.heap L ∧ FrameEnd U o U' L room_1.cells room_1.slots) := by
  refine MetFree.of_bodySF (plainFor_of_name pn0) hisR ?_
  intro p e s m args below meth cd s₁ Bd hml0 hP hK
  obtain ⟨rfl, hZ, hh⟩ := hP
  have hx := Bd.exec
  have hby := Bd.bytes
  have hlk : meth.locks = false := BodyLoose.notSynchronized Bd
  have hml : cd.maxLocals = 16 := hml0
  have hown : s.vm.findClass "com/example/assayline/assayline/engine/SegmentIndexLastPinLaw" = some m.cls := findClass_of_methodNamed Bd.named
  have hnm := (name_of_methodNamed Bd.named Bd.method).1
  have X0 : Stand p l e room_1 s m #[(.long p0), (.long p1), (.long p2), (.long p3)] below meth cd s₁ [] 0 0 := Stand.of_body Bd
  have e0 : s₁.heap = h0 := by rw [← hh, Bd.state]; rfl
  have N0 := Fr.nil n0
  have G : Go p e below s room_1.cells room_1.slots (Q0 Z p0 p1 p2 p3 h0 n0) (s₁.setTop (mkF m 0 #[.val (.long p0), .second, .val (.long p1), .second, .val (.long p2), .second, .val (.long p3), .second, .unset, .unset, .unset, .unset, .unset, .unset, .unset, .unset] [])) := by
    show Go p e below s _ _ _ (s₁.setTop (mkF m 0 #[.val (.long p0), .second, .val (.long p1), .second, .val (.long p2), .second, .val (.long p3), .second, .unset, .unset, .unset, .unset, .unset, .unset, .unset, .unset] []))
    refine Go.st (fun _ kq_ => XT.lloadN X0.here hx rfl (hb hby at_0) rfl kq_) ?_
    show Go p e below s _ _ _ (s₁.setTop (mkF m 1 #[.val (.long p0), .second, .val (.long p1), .second, .val (.long p2), .second, .val (.long p3), .second, .unset, .unset, .unset, .unset, .unset, .unset, .unset, .unset] [(.long p0)]))
    refine Go.st (fun _ kq_ => XT.lloadN X0.here hx rfl (hb hby at_1) rfl kq_) ?_
    show Go p e below s _ _ _ (s₁.setTop (mkF m 2 #[.val (.long p0), .second, .val (.long p1), .second, .val (.long p2), .second, .val (.long p3), .second, .unset, .unset, .unset, .unset, .unset, .unset, .unset, .unset] [(.long p1), (.long p0)]))
    refine Go.st (fun _ kq_ => XT.lload X0.here hx rfl (hb hby at_2) rfl kq_) ?_
    show Go p e below s _ _ _ (s₁.setTop (mkF m 4 #[.val (.long p0), .second, .val (.long p1), .second, .val (.long p2), .second, .val (.long p3), .second, .unset, .unset, .unset, .unset, .unset, .unset, .unset, .unset] [(.long p2), (.long p1), (.long p0)]))
    obtain ⟨_, _, ⟨T1, L1, k1, n1⟩, -, X1, ⟨Lc1, hQ1, l1, y1, z1⟩, st1⟩ := Jvm.LawKit.callS X0 hx (y := (⟨"java/lang/Math", "min", "(JJ)J"⟩ : MethodName)) hown (mvT hZ (own_w hw 0 rfl)) (mvT hZ (own_w hw 1 rfl)) (mvT hZ (own_w hw 2 rfl)) (mvT hZ (own_w hw 3 rfl)) (by decide) (backOf (W := 2) (rmmn l Z a0 hw [] p1 p2 h0 n0 O0 ) hZ (own_w hw 3 rfl) (own_w hw 2 rfl) (by decide) (by decide)) (g := (mkF m 4 #[.val (.long p0), .second, .val (.long p1), .second, .val (.long p2), .second, .val (.long p3), .second, .unset, .unset, .unset, .unset, .unset, .unset, .unset, .unset] [(.long p2), (.long p1), (.long p0)])) rfl (by rw [hml]; rfl) (argsL := [(.long p1), (.long p2)]) (rest := [(.long p0)]) (lenOf pd0_0 rfl) rfl (by show 2 * 0 + _ ≤ _; exact Nat.le_of_eq rfl) (hb hby at_4) (fun _ _ => ⟨rfl, e0, (by decide : 0 + 0 ≤ _), (by decide : 0 + 0 ≤ _)⟩)
    dsimp only [Pt.U, Pt.locs, Pt.cells, Pt.slots] at X1 l1 y1 z1 st1 hQ1
    subst l1 y1 z1
    obtain ⟨rfl, Nc1, e1⟩ := hQ1
    have N1 := Fr.app N0 Nc1
    refine Go.st st1 ?_
    show Go p e below s _ _ _ (T1.setTop (mkF m 7 #[.val (.long p0), .second, .val (.long p1), .second, .val (.long p2), .second, .val (.long p3), .second, .unset, .unset, .unset, .unset, .unset, .unset, .unset, .unset] [(.long (fMin p1 p2)), (.long p0)]))
    obtain ⟨_, _, ⟨T2, L2, k2, n2⟩, -, X2, ⟨Lc2, hQ2, l2, y2, z2⟩, st2⟩ := Jvm.LawKit.callS X1 hx (y := (⟨"java/lang/Math", "min", "(JJ)J"⟩ : MethodName)) hown (mvT hZ (own_w hw 0 rfl)) (mvT hZ (own_w hw 1 rfl)) (mvT hZ (own_w hw 2 rfl)) (mvT hZ (own_w hw 3 rfl)) (by decide) (backOf (W := 0) (rmmn l Z a0 hw [] p0 (fMin p1 p2) h0 n0 O0 ) hZ (own_w hw 3 rfl) (own_w hw 2 rfl) (by decide) (by decide)) (g := (mkF m 7 #[.val (.long p0), .second, .val (.long p1), .second, .val (.long p2), .second, .val (.long p3), .second, .unset, .unset, .unset, .unset, .unset, .unset, .unset, .unset] [(.long (fMin p1 p2)), (.long p0)])) rfl (by rw [hml]; rfl) (argsL := [(.long p0), (.long (fMin p1 p2))]) (rest := []) (lenOf pd0_0 rfl) rfl (by show 2 * 0 + _ ≤ _; exact Nat.le_of_eq rfl) (hb hby at_7) (fun _ _ => ⟨rfl, e1, (by decide : 0 + 0 ≤ _), (by decide : 0 + 0 ≤ _)⟩)
    dsimp only [Pt.U, Pt.locs, Pt.cells, Pt.slots] at X2 l2 y2 z2 st2 hQ2
    subst l2 y2 z2
    obtain ⟨rfl, Nc2, e2⟩ := hQ2
    have N2 := Fr.app N1 Nc2
    refine Go.st st2 ?_
    show Go p e below s _ _ _ (T2.setTop (mkF m 10 #[.val (.long p0), .second, .val (.long p1), .second, .val (.long p2), .second, .val (.long p3), .second, .unset, .unset, .unset, .unset, .unset, .unset, .unset, .unset] [(.long (fMin p0 (fMin p1 p2)))]))
    refine Go.st (fun _ kq_ => XT.lstore X2.here hx rfl (hb hby at_10) rfl (l' := #[.val (.long p0), .second, .val (.long p1), .second, .val (.long p2), .second, .val (.long p3), .second, .val (.long (fMin p0 (fMin p1 p2))), .second, .unset, .unset, .unset, .unset, .unset, .unset]) rfl kq_) ?_
    show Go p e below s _ _ _ (T2.setTop (mkF m 12 #[.val (.long p0), .second, .val (.long p1), .second, .val (.long p2), .second, .val (.long p3), .second, .val (.long (fMin p0 (fMin p1 p2))), .second, .unset, .unset, .unset, .unset, .unset, .unset] []))
    refine Go.st (fun _ kq_ => XT.lloadN X2.here hx rfl (hb hby at_12) rfl kq_) ?_
    show Go p e below s _ _ _ (T2.setTop (mkF m 13 #[.val (.long p0), .second, .val (.long p1), .second, .val (.long p2), .second, .val (.long p3), .second, .val (.long (fMin p0 (fMin p1 p2))), .second, .unset, .unset, .unset, .unset, .unset, .unset] [(.long p0)]))
    refine Go.st (fun _ kq_ => XT.lloadN X2.here hx rfl (hb hby at_13) rfl kq_) ?_
    show Go p e below s _ _ _ (T2.setTop (mkF m 14 #[.val (.long p0), .second, .val (.long p1), .second, .val (.long p2), .second, .val (.long p3), .second, .val (.long (fMin p0 (fMin p1 p2))), .second, .unset, .unset, .unset, .unset, .unset, .unset] [(.long p1), (.long p0)]))
    refine Go.st (fun _ kq_ => XT.lload X2.here hx rfl (hb hby at_14) rfl kq_) ?_
    show Go p e below s _ _ _ (T2.setTop (mkF m 16 #[.val (.long p0), .second, .val (.long p1), .second, .val (.long p2), .second, .val (.long p3), .second, .val (.long (fMin p0 (fMin p1 p2))), .second, .unset, .unset, .unset, .unset, .unset, .unset] [(.long p2), (.long p1), (.long p0)]))
    obtain ⟨_, _, ⟨T3, L3, k3, n3⟩, -, X3, ⟨Lc3, hQ3, l3, y3, z3⟩, st3⟩ := Jvm.LawKit.callS X2 hx (y := (⟨"java/lang/Math", "max", "(JJ)J"⟩ : MethodName)) hown (mvT hZ (own_w hw 4 rfl)) (mvT hZ (own_w hw 5 rfl)) (mvT hZ (own_w hw 2 rfl)) (mvT hZ (own_w hw 6 rfl)) (by decide) (backOf (W := 2) (rmmx l Z a0 hw [] p1 p2 h0 n0 O0 ) hZ (own_w hw 6 rfl) (own_w hw 2 rfl) (by decide) (by decide)) (g := (mkF m 16 #[.val (.long p0), .second, .val (.long p1), .second, .val (.long p2), .second, .val (.long p3), .second, .val (.long (fMin p0 (fMin p1 p2))), .second, .unset, .unset, .unset, .unset, .unset, .unset] [(.long p2), (.long p1), (.long p0)])) rfl (by rw [hml]; rfl) (argsL := [(.long p1), (.long p2)]) (rest := [(.long p0)]) (lenOf pd0_0 rfl) rfl (by show 2 * 0 + _ ≤ _; exact Nat.le_of_eq rfl) (hb hby at_16) (fun _ _ => ⟨rfl, e2, (by decide : 0 + 0 ≤ _), (by decide : 0 + 0 ≤ _)⟩)
    dsimp only [Pt.U, Pt.locs, Pt.cells, Pt.slots] at X3 l3 y3 z3 st3 hQ3
    subst l3 y3 z3
    obtain ⟨rfl, Nc3, e3⟩ := hQ3
    have N3 := Fr.app N2 Nc3
    refine Go.st st3 ?_
    show Go p e below s _ _ _ (T3.setTop (mkF m 19 #[.val (.long p0), .second, .val (.long p1), .second, .val (.long p2), .second, .val (.long p3), .second, .val (.long (fMin p0 (fMin p1 p2))), .second, .unset, .unset, .unset, .unset, .unset, .unset] [(.long (fMax p1 p2)), (.long p0)]))
    obtain ⟨_, _, ⟨T4, L4, k4, n4⟩, -, X4, ⟨Lc4, hQ4, l4, y4, z4⟩, st4⟩ := Jvm.LawKit.callS X3 hx (y := (⟨"java/lang/Math", "max", "(JJ)J"⟩ : MethodName)) hown (mvT hZ (own_w hw 4 rfl)) (mvT hZ (own_w hw 5 rfl)) (mvT hZ (own_w hw 2 rfl)) (mvT hZ (own_w hw 6 rfl)) (by decide) (backOf (W := 0) (rmmx l Z a0 hw [] p0 (fMax p1 p2) h0 n0 O0 ) hZ (own_w hw 6 rfl) (own_w hw 2 rfl) (by decide) (by decide)) (g := (mkF m 19 #[.val (.long p0), .second, .val (.long p1), .second, .val (.long p2), .second, .val (.long p3), .second, .val (.long (fMin p0 (fMin p1 p2))), .second, .unset, .unset, .unset, .unset, .unset, .unset] [(.long (fMax p1 p2)), (.long p0)])) rfl (by rw [hml]; rfl) (argsL := [(.long p0), (.long (fMax p1 p2))]) (rest := []) (lenOf pd0_0 rfl) rfl (by show 2 * 0 + _ ≤ _; exact Nat.le_of_eq rfl) (hb hby at_19) (fun _ _ => ⟨rfl, e3, (by decide : 0 + 0 ≤ _), (by decide : 0 + 0 ≤ _)⟩)
    dsimp only [Pt.U, Pt.locs, Pt.cells, Pt.slots] at X4 l4 y4 z4 st4 hQ4
    subst l4 y4 z4
    obtain ⟨rfl, Nc4, e4⟩ := hQ4
    have N4 := Fr.app N3 Nc4
    refine Go.st st4 ?_
    show Go p e below s _ _ _ (T4.setTop (mkF m 22 #[.val (.long p0), .second, .val (.long p1), .second, .val (.long p2), .second, .val (.long p3), .second, .val (.long (fMin p0 (fMin p1 p2))), .second, .unset, .unset, .unset, .unset, .unset, .unset] [(.long (fMax p0 (fMax p1 p2)))]))
    refine Go.st (fun _ kq_ => XT.lstore X4.here hx rfl (hb hby at_22) rfl (l' := #[.val (.long p0), .second, .val (.long p1), .second, .val (.long p2), .second, .val (.long p3), .second, .val (.long (fMin p0 (fMin p1 p2))), .second, .val (.long (fMax p0 (fMax p1 p2))), .second, .unset, .unset, .unset, .unset]) rfl kq_) ?_
    show Go p e below s _ _ _ (T4.setTop (mkF m 24 #[.val (.long p0), .second, .val (.long p1), .second, .val (.long p2), .second, .val (.long p3), .second, .val (.long (fMin p0 (fMin p1 p2))), .second, .val (.long (fMax p0 (fMax p1 p2))), .second, .unset, .unset, .unset, .unset] []))
    refine Go.st (fun _ kq_ => XT.lloadN X4.here hx rfl (hb hby at_24) rfl kq_) ?_
    show Go p e below s _ _ _ (T4.setTop (mkF m 25 #[.val (.long p0), .second, .val (.long p1), .second, .val (.long p2), .second, .val (.long p3), .second, .val (.long (fMin p0 (fMin p1 p2))), .second, .val (.long (fMax p0 (fMax p1 p2))), .second, .unset, .unset, .unset, .unset] [(.long p0)]))
    refine Go.st (fun _ kq_ => XT.lloadN X4.here hx rfl (hb hby at_25) rfl kq_) ?_
    show Go p e below s _ _ _ (T4.setTop (mkF m 26 #[.val (.long p0), .second, .val (.long p1), .second, .val (.long p2), .second, .val (.long p3), .second, .val (.long (fMin p0 (fMin p1 p2))), .second, .val (.long (fMax p0 (fMax p1 p2))), .second, .unset, .unset, .unset, .unset] [(.long p1), (.long p0)]))
    obtain ⟨_, _, ⟨T5, L5, k5, n5⟩, -, X5, ⟨Lc5, hQ5, l5, y5, z5⟩, st5⟩ := Jvm.LawKit.callS X4 hx (y := (⟨"java/lang/Math", "min", "(JJ)J"⟩ : MethodName)) hown (mvT hZ (own_w hw 0 rfl)) (mvT hZ (own_w hw 1 rfl)) (mvT hZ (own_w hw 2 rfl)) (mvT hZ (own_w hw 3 rfl)) (by decide) (backOf (W := 0) (rmmn l Z a0 hw [] p0 p1 h0 n0 O0 ) hZ (own_w hw 3 rfl) (own_w hw 2 rfl) (by decide) (by decide)) (g := (mkF m 26 #[.val (.long p0), .second, .val (.long p1), .second, .val (.long p2), .second, .val (.long p3), .second, .val (.long (fMin p0 (fMin p1 p2))), .second, .val (.long (fMax p0 (fMax p1 p2))), .second, .unset, .unset, .unset, .unset] [(.long p1), (.long p0)])) rfl (by rw [hml]; rfl) (argsL := [(.long p0), (.long p1)]) (rest := []) (lenOf pd0_0 rfl) rfl (by show 2 * 0 + _ ≤ _; exact Nat.le_of_eq rfl) (hb hby at_26) (fun _ _ => ⟨rfl, e4, (by decide : 0 + 0 ≤ _), (by decide : 0 + 0 ≤ _)⟩)
    dsimp only [Pt.U, Pt.locs, Pt.cells, Pt.slots] at X5 l5 y5 z5 st5 hQ5
    subst l5 y5 z5
    obtain ⟨rfl, Nc5, e5⟩ := hQ5
    have N5 := Fr.app N4 Nc5
    refine Go.st st5 ?_
    show Go p e below s _ _ _ (T5.setTop (mkF m 29 #[.val (.long p0), .second, .val (.long p1), .second, .val (.long p2), .second, .val (.long p3), .second, .val (.long (fMin p0 (fMin p1 p2))), .second, .val (.long (fMax p0 (fMax p1 p2))), .second, .unset, .unset, .unset, .unset] [(.long (fMin p0 p1))]))
    refine Go.st (fun _ kq_ => XT.lloadN X5.here hx rfl (hb hby at_29) rfl kq_) ?_
    show Go p e below s _ _ _ (T5.setTop (mkF m 30 #[.val (.long p0), .second, .val (.long p1), .second, .val (.long p2), .second, .val (.long p3), .second, .val (.long (fMin p0 (fMin p1 p2))), .second, .val (.long (fMax p0 (fMax p1 p2))), .second, .unset, .unset, .unset, .unset] [(.long p0), (.long (fMin p0 p1))]))
    refine Go.st (fun _ kq_ => XT.lloadN X5.here hx rfl (hb hby at_30) rfl kq_) ?_
    show Go p e below s _ _ _ (T5.setTop (mkF m 31 #[.val (.long p0), .second, .val (.long p1), .second, .val (.long p2), .second, .val (.long p3), .second, .val (.long (fMin p0 (fMin p1 p2))), .second, .val (.long (fMax p0 (fMax p1 p2))), .second, .unset, .unset, .unset, .unset] [(.long p1), (.long p0), (.long (fMin p0 p1))]))
    obtain ⟨_, _, ⟨T6, L6, k6, n6⟩, -, X6, ⟨Lc6, hQ6, l6, y6, z6⟩, st6⟩ := Jvm.LawKit.callS X5 hx (y := (⟨"java/lang/Math", "max", "(JJ)J"⟩ : MethodName)) hown (mvT hZ (own_w hw 4 rfl)) (mvT hZ (own_w hw 5 rfl)) (mvT hZ (own_w hw 2 rfl)) (mvT hZ (own_w hw 6 rfl)) (by decide) (backOf (W := 2) (rmmx l Z a0 hw [] p0 p1 h0 n0 O0 ) hZ (own_w hw 6 rfl) (own_w hw 2 rfl) (by decide) (by decide)) (g := (mkF m 31 #[.val (.long p0), .second, .val (.long p1), .second, .val (.long p2), .second, .val (.long p3), .second, .val (.long (fMin p0 (fMin p1 p2))), .second, .val (.long (fMax p0 (fMax p1 p2))), .second, .unset, .unset, .unset, .unset] [(.long p1), (.long p0), (.long (fMin p0 p1))])) rfl (by rw [hml]; rfl) (argsL := [(.long p0), (.long p1)]) (rest := [(.long (fMin p0 p1))]) (lenOf pd0_0 rfl) rfl (by show 2 * 0 + _ ≤ _; exact Nat.le_of_eq rfl) (hb hby at_31) (fun _ _ => ⟨rfl, e5, (by decide : 0 + 0 ≤ _), (by decide : 0 + 0 ≤ _)⟩)
    dsimp only [Pt.U, Pt.locs, Pt.cells, Pt.slots] at X6 l6 y6 z6 st6 hQ6
    subst l6 y6 z6
    obtain ⟨rfl, Nc6, e6⟩ := hQ6
    have N6 := Fr.app N5 Nc6
    refine Go.st st6 ?_
    show Go p e below s _ _ _ (T6.setTop (mkF m 34 #[.val (.long p0), .second, .val (.long p1), .second, .val (.long p2), .second, .val (.long p3), .second, .val (.long (fMin p0 (fMin p1 p2))), .second, .val (.long (fMax p0 (fMax p1 p2))), .second, .unset, .unset, .unset, .unset] [(.long (fMax p0 p1)), (.long (fMin p0 p1))]))
    refine Go.st (fun _ kq_ => XT.lload X6.here hx rfl (hb hby at_34) rfl kq_) ?_
    show Go p e below s _ _ _ (T6.setTop (mkF m 36 #[.val (.long p0), .second, .val (.long p1), .second, .val (.long p2), .second, .val (.long p3), .second, .val (.long (fMin p0 (fMin p1 p2))), .second, .val (.long (fMax p0 (fMax p1 p2))), .second, .unset, .unset, .unset, .unset] [(.long p2), (.long (fMax p0 p1)), (.long (fMin p0 p1))]))
    obtain ⟨_, _, ⟨T7, L7, k7, n7⟩, -, X7, ⟨Lc7, hQ7, l7, y7, z7⟩, st7⟩ := Jvm.LawKit.callS X6 hx (y := (⟨"java/lang/Math", "min", "(JJ)J"⟩ : MethodName)) hown (mvT hZ (own_w hw 0 rfl)) (mvT hZ (own_w hw 1 rfl)) (mvT hZ (own_w hw 2 rfl)) (mvT hZ (own_w hw 3 rfl)) (by decide) (backOf (W := 2) (rmmn l Z a0 hw [] (fMax p0 p1) p2 h0 n0 O0 ) hZ (own_w hw 3 rfl) (own_w hw 2 rfl) (by decide) (by decide)) (g := (mkF m 36 #[.val (.long p0), .second, .val (.long p1), .second, .val (.long p2), .second, .val (.long p3), .second, .val (.long (fMin p0 (fMin p1 p2))), .second, .val (.long (fMax p0 (fMax p1 p2))), .second, .unset, .unset, .unset, .unset] [(.long p2), (.long (fMax p0 p1)), (.long (fMin p0 p1))])) rfl (by rw [hml]; rfl) (argsL := [(.long (fMax p0 p1)), (.long p2)]) (rest := [(.long (fMin p0 p1))]) (lenOf pd0_0 rfl) rfl (by show 2 * 0 + _ ≤ _; exact Nat.le_of_eq rfl) (hb hby at_36) (fun _ _ => ⟨rfl, e6, (by decide : 0 + 0 ≤ _), (by decide : 0 + 0 ≤ _)⟩)
    dsimp only [Pt.U, Pt.locs, Pt.cells, Pt.slots] at X7 l7 y7 z7 st7 hQ7
    subst l7 y7 z7
    obtain ⟨rfl, Nc7, e7⟩ := hQ7
    have N7 := Fr.app N6 Nc7
    refine Go.st st7 ?_
    show Go p e below s _ _ _ (T7.setTop (mkF m 39 #[.val (.long p0), .second, .val (.long p1), .second, .val (.long p2), .second, .val (.long p3), .second, .val (.long (fMin p0 (fMin p1 p2))), .second, .val (.long (fMax p0 (fMax p1 p2))), .second, .unset, .unset, .unset, .unset] [(.long (fMin (fMax p0 p1) p2)), (.long (fMin p0 p1))]))
    obtain ⟨_, _, ⟨T8, L8, k8, n8⟩, -, X8, ⟨Lc8, hQ8, l8, y8, z8⟩, st8⟩ := Jvm.LawKit.callS X7 hx (y := (⟨"java/lang/Math", "max", "(JJ)J"⟩ : MethodName)) hown (mvT hZ (own_w hw 4 rfl)) (mvT hZ (own_w hw 5 rfl)) (mvT hZ (own_w hw 2 rfl)) (mvT hZ (own_w hw 6 rfl)) (by decide) (backOf (W := 0) (rmmx l Z a0 hw [] (fMin p0 p1) (fMin (fMax p0 p1) p2) h0 n0 O0 ) hZ (own_w hw 6 rfl) (own_w hw 2 rfl) (by decide) (by decide)) (g := (mkF m 39 #[.val (.long p0), .second, .val (.long p1), .second, .val (.long p2), .second, .val (.long p3), .second, .val (.long (fMin p0 (fMin p1 p2))), .second, .val (.long (fMax p0 (fMax p1 p2))), .second, .unset, .unset, .unset, .unset] [(.long (fMin (fMax p0 p1) p2)), (.long (fMin p0 p1))])) rfl (by rw [hml]; rfl) (argsL := [(.long (fMin p0 p1)), (.long (fMin (fMax p0 p1) p2))]) (rest := []) (lenOf pd0_0 rfl) rfl (by show 2 * 0 + _ ≤ _; exact Nat.le_of_eq rfl) (hb hby at_39) (fun _ _ => ⟨rfl, e7, (by decide : 0 + 0 ≤ _), (by decide : 0 + 0 ≤ _)⟩)
    dsimp only [Pt.U, Pt.locs, Pt.cells, Pt.slots] at X8 l8 y8 z8 st8 hQ8
    subst l8 y8 z8
    obtain ⟨rfl, Nc8, e8⟩ := hQ8
    have N8 := Fr.app N7 Nc8
    refine Go.st st8 ?_
    show Go p e below s _ _ _ (T8.setTop (mkF m 42 #[.val (.long p0), .second, .val (.long p1), .second, .val (.long p2), .second, .val (.long p3), .second, .val (.long (fMin p0 (fMin p1 p2))), .second, .val (.long (fMax p0 (fMax p1 p2))), .second, .unset, .unset, .unset, .unset] [(.long (fMax (fMin p0 p1) (fMin (fMax p0 p1) p2)))]))
    refine Go.st (fun _ kq_ => XT.lstore X8.here hx rfl (hb hby at_42) rfl (l' := #[.val (.long p0), .second, .val (.long p1), .second, .val (.long p2), .second, .val (.long p3), .second, .val (.long (fMin p0 (fMin p1 p2))), .second, .val (.long (fMax p0 (fMax p1 p2))), .second, .val (.long (fMax (fMin p0 p1) (fMin (fMax p0 p1) p2))), .second, .unset, .unset]) rfl kq_) ?_
    show Go p e below s _ _ _ (T8.setTop (mkF m 44 #[.val (.long p0), .second, .val (.long p1), .second, .val (.long p2), .second, .val (.long p3), .second, .val (.long (fMin p0 (fMin p1 p2))), .second, .val (.long (fMax p0 (fMax p1 p2))), .second, .val (.long (fMax (fMin p0 p1) (fMin (fMax p0 p1) p2))), .second, .unset, .unset] []))
    obtain ⟨lo, hlo⟩ : ∃ z, (fMin p0 (fMin p1 p2)) = z := ⟨_, rfl⟩
    rw [hlo]
    obtain ⟨hi, hhi⟩ : ∃ z, (fMax p0 (fMax p1 p2)) = z := ⟨_, rfl⟩
    rw [hhi]
    obtain ⟨md, hmd⟩ : ∃ z, (fMax (fMin p0 p1) (fMin (fMax p0 p1) p2)) = z := ⟨_, rfl⟩
    rw [hmd]
    show Go p e below s _ _ _ (T8.setTop (mkF m 44 #[.val (.long p0), .second, .val (.long p1), .second, .val (.long p2), .second, .val (.long p3), .second, .val (.long lo), .second, .val (.long hi), .second, .val (.long md), .second, .unset, .unset] []))
    obtain ⟨T9, h9, X9, e9, E9, A9, D9, -, st9⟩ := newO X8 hx hZ hown (own_w hw 7 rfl) (own_w hw 8 rfl) (own_w hw 9 rfl) e8 (g := (mkF m 44 #[.val (.long p0), .second, .val (.long p1), .second, .val (.long p2), .second, .val (.long p3), .second, .val (.long lo), .second, .val (.long hi), .second, .val (.long md), .second, .unset, .unset] [])) rfl (hb hby at_44) (by decide) (by decide)
    obtain ⟨a9, g9⟩ : ∃ z, z = h0.size := ⟨_, rfl⟩
    rw [← g9] at A9 D9 st9
    have g_a9 : n0 ≤ a9 := Nat.le_trans (own_old O0) (Nat.le_of_eq g9.symm)
    have O9 := O0.ext E9
    have E_a9 : Exa Z h9 a9 "com/example/assayline/assayline/engine/SegmentIndex" := A9
    have F_a9_positions : Fld Z h9 a9 "com/example/assayline/assayline/engine/SegmentIndex" "positions" "[J" .null := D9 (Or.inl (own_w hw 18 rfl)) (ty := (.array .long)) (by decide)
    have F_a9_offsets : Fld Z h9 a9 "com/example/assayline/assayline/engine/SegmentIndex" "offsets" "[J" .null := D9 (Or.inl (own_w hw 20 rfl)) (ty := (.array .long)) (by decide)
    have F_a9_waiting : Fld Z h9 a9 "com/example/assayline/assayline/engine/SegmentIndex" "waiting" "Ljava/util/BitSet;" .null := D9 (Or.inr (own_w hw 43 rfl)) (ty := (.object "java/util/BitSet")) (by decide)
    have F_a9_count : Fld Z h9 a9 "com/example/assayline/assayline/engine/SegmentIndex" "count" "I" (.int (0 : Int32)) := D9 (Or.inl (own_w hw 50 rfl)) (ty := .int) (by decide)
    refine Go.st st9 ?_
    show Go p e below s _ _ _ (T9.setTop (mkF m 47 #[.val (.long p0), .second, .val (.long p1), .second, .val (.long p2), .second, .val (.long p3), .second, .val (.long lo), .second, .val (.long hi), .second, .val (.long md), .second, .unset, .unset] [(.ref a9)]))
    refine Go.st (fun _ kq_ => XS.dup X9.here hx rfl (hb hby at_47) rfl rfl kq_) ?_
    show Go p e below s _ _ _ (T9.setTop (mkF m 48 #[.val (.long p0), .second, .val (.long p1), .second, .val (.long p2), .second, .val (.long p3), .second, .val (.long lo), .second, .val (.long hi), .second, .val (.long md), .second, .unset, .unset] [(.ref a9), (.ref a9)]))
    obtain ⟨_, _, ⟨T10, L10, k10, n10⟩, -, X10, ⟨Lc10, hQ10, l10, y10, z10⟩, st10⟩ := X9.specialBack hx (y := (⟨"com/example/assayline/assayline/engine/SegmentIndex", "<init>", "()V"⟩ : MethodName)) rfl hown (mvT hZ (own_w hw 10 rfl)) (mvT hZ (own_w hw 11 rfl)) (mvT hZ (own_w hw 12 rfl)) (by decide) (backOf (W := 1) (rmsi l Z a0 hw [] a9 h9 n0 O9 E_a9 F_a9_positions F_a9_offsets F_a9_waiting F_a9_count g_a9) hZ (own_w hw 12 rfl) (own_w hw 9 rfl) (by decide) (by decide)) (g := (mkF m 48 #[.val (.long p0), .second, .val (.long p1), .second, .val (.long p2), .second, .val (.long p3), .second, .val (.long lo), .second, .val (.long hi), .second, .val (.long md), .second, .unset, .unset] [(.ref a9), (.ref a9)])) rfl (by rw [hml]; rfl) (Steps.refl _) (a := a9) (argsL := []) (rest := [(.ref a9)]) (lenOf pd0_1 rfl) rfl (by show 2 * 0 + _ ≤ _; exact Nat.le_of_eq rfl) (hb hby at_48) (fun _ _ => ⟨rfl, e9, (by decide : 1 + 4 ≤ _), (by decide : 4 + 132 ≤ _)⟩)
    dsimp only [Pt.U, Pt.locs, Pt.cells, Pt.slots] at X10 l10 y10 z10 st10 hQ10
    subst l10 y10 z10
    obtain ⟨b10, kb10, d10, kd10, y10, r10, kr10, rfl, Nc10, Kc10, gq_b10, sq_b10, gq_d10, sq_d10, gq_y10, sq_y10, gq_r10, sq_r10, ne_b10_d10, ne_b10_y10, ne_b10_r10, ne_d10_y10, ne_d10_r10, ne_y10_r10, NE_a9, NF_a9_positions, NF_a9_offsets, NF_a9_waiting, NF_a9_count, NV_b10, NV_d10, NE_y10, NF_y10_wordsInUse, NF_y10_sizeIsSticky, NF_y10_words, NV_r10⟩ := hQ10
    have N10 := Fr.app N8 Nc10
    have g_b10 : n0 ≤ b10 := gq_b10
    have ne_a9_b10 : a9 ≠ b10 := Nat.ne_of_lt (Nat.lt_of_lt_of_le E_a9.lt sq_b10)
    have g_d10 : n0 ≤ d10 := gq_d10
    have ne_a9_d10 : a9 ≠ d10 := Nat.ne_of_lt (Nat.lt_of_lt_of_le E_a9.lt sq_d10)
    have g_y10 : n0 ≤ y10 := gq_y10
    have ne_a9_y10 : a9 ≠ y10 := Nat.ne_of_lt (Nat.lt_of_lt_of_le E_a9.lt sq_y10)
    have g_r10 : n0 ≤ r10 := gq_r10
    have ne_a9_r10 : a9 ≠ r10 := Nat.ne_of_lt (Nat.lt_of_lt_of_le E_a9.lt sq_r10)
    have O10 := O9.keep Kc10 (allS g_a9 all0)
    have E_a9 := NE_a9
    have F_a9_positions := NF_a9_positions
    have F_a9_offsets := NF_a9_offsets
    have F_a9_waiting := NF_a9_waiting
    have F_a9_count := NF_a9_count
    have V_b10 := NV_b10
    have V_d10 := NV_d10
    have E_y10 := NE_y10
    have F_y10_wordsInUse := NF_y10_wordsInUse
    have F_y10_sizeIsSticky := NF_y10_sizeIsSticky
    have F_y10_words := NF_y10_words
    have V_r10 := NV_r10
    refine Go.tr st10 ?_
    show Go p e below s _ _ _ (T10.setTop (mkF m 51 #[.val (.long p0), .second, .val (.long p1), .second, .val (.long p2), .second, .val (.long p3), .second, .val (.long lo), .second, .val (.long hi), .second, .val (.long md), .second, .unset, .unset] [(.ref a9)]))
    refine Go.st (fun _ kq_ => XS.astore X10.here hx rfl (hb hby at_51) rfl rfl (l' := #[.val (.long p0), .second, .val (.long p1), .second, .val (.long p2), .second, .val (.long p3), .second, .val (.long lo), .second, .val (.long hi), .second, .val (.long md), .second, .val (.ref a9), .unset]) rfl kq_) ?_
    show Go p e below s _ _ _ (T10.setTop (mkF m 53 #[.val (.long p0), .second, .val (.long p1), .second, .val (.long p2), .second, .val (.long p3), .second, .val (.long lo), .second, .val (.long hi), .second, .val (.long md), .second, .val (.ref a9), .unset] []))
    refine Go.st (fun _ kq_ => XS.aload X10.here hx rfl (hb hby at_53) rfl rfl kq_) ?_
    show Go p e below s _ _ _ (T10.setTop (mkF m 55 #[.val (.long p0), .second, .val (.long p1), .second, .val (.long p2), .second, .val (.long p3), .second, .val (.long lo), .second, .val (.long hi), .second, .val (.long md), .second, .val (.ref a9), .unset] [(.ref a9)]))
    obtain ⟨cq11, kq11, qa11, qb11, qc11⟩ := isOf hZ rfl E_a9
    obtain ⟨_, _, ⟨T11, L11, k11, n11⟩, -, X11, ⟨Lc11, hQ11, l11, y11, z11⟩, st11⟩ := X10.virtualBack hx (y := (⟨"com/example/assayline/assayline/engine/SegmentIndex", "last", "()J"⟩ : MethodName)) (z := (⟨"com/example/assayline/assayline/engine/SegmentIndex", "last", "()J"⟩ : MethodName)) hown (mvT hZ (own_w hw 44 rfl)) (mvT hZ (own_w hw 45 rfl)) (notFace_of_selects (args := #[]) (mvT hZ (own_w hw 47 rfl))) (mvT hZ (own_w hw 47 rfl)) (mvT hZ (own_w hw 46 rfl)) (by decide) (backOf (W := 0) (rmla0 l Z a0 hw [] a9 T10.heap n0 O10 F_a9_count) hZ (own_w hw 48 rfl) (own_w hw 9 rfl) (by decide) (by decide)) qa11 qc11 (g := (mkF m 55 #[.val (.long p0), .second, .val (.long p1), .second, .val (.long p2), .second, .val (.long p3), .second, .val (.long lo), .second, .val (.long hi), .second, .val (.long md), .second, .val (.ref a9), .unset] [(.ref a9)])) rfl (by rw [hml]; rfl) (Steps.refl _) (argsL := []) (rest := []) (lenOf pd0_2 rfl) rfl (by show 2 * 0 + _ ≤ _; exact Nat.le_of_eq rfl) (hb hby at_55) (fun _ _ => ⟨rfl, rfl, (by decide : 5 + 0 ≤ _), (by decide : 136 + 0 ≤ _)⟩)
    dsimp only [Pt.U, Pt.locs, Pt.cells, Pt.slots] at X11 l11 y11 z11 st11 hQ11
    subst l11 y11 z11
    obtain ⟨rfl, Nc11, e11⟩ := hQ11
    have N11 := Fr.app N10 Nc11
    refine Go.tr st11 ?_
    show Go p e below s _ _ _ (T11.setTop (mkF m 58 #[.val (.long p0), .second, .val (.long p1), .second, .val (.long p2), .second, .val (.long p3), .second, .val (.long lo), .second, .val (.long hi), .second, .val (.long md), .second, .val (.ref a9), .unset] [(.long (0 : Int64))]))
    refine Go.st (fun _ kq_ => XT.lconst X11.here hx rfl (hb hby at_58) kq_) ?_
    show Go p e below s _ _ _ (T11.setTop (mkF m 59 #[.val (.long p0), .second, .val (.long p1), .second, .val (.long p2), .second, .val (.long p3), .second, .val (.long lo), .second, .val (.long hi), .second, .val (.long md), .second, .val (.ref a9), .unset] [(.long (0 : Int64)), (.long (0 : Int64))]))
    refine Go.st (fun _ kq_ => XT.lcmp X11.here hx rfl (hb hby at_59) rfl kq_) ?_
    show Go p e below s _ _ _ (T11.setTop (mkF m 60 #[.val (.long p0), .second, .val (.long p1), .second, .val (.long p2), .second, .val (.long p3), .second, .val (.long lo), .second, .val (.long hi), .second, .val (.long md), .second, .val (.ref a9), .unset] [(.int (XT.cmpL (0 : Int64) (0 : Int64)))]))
    refine Go.st (fun _ kq_ => XS.ifNo X11.here hx rfl (hb hby at_60) rfl (by decide) kq_) ?_
    show Go p e below s _ _ _ (T11.setTop (mkF m 63 #[.val (.long p0), .second, .val (.long p1), .second, .val (.long p2), .second, .val (.long p3), .second, .val (.long lo), .second, .val (.long hi), .second, .val (.long md), .second, .val (.ref a9), .unset] []))
    refine Go.st (fun _ kq_ => XS.iconst X11.here hx rfl (hb hby at_63) kq_) ?_
    show Go p e below s _ _ _ (T11.setTop (mkF m 64 #[.val (.long p0), .second, .val (.long p1), .second, .val (.long p2), .second, .val (.long p3), .second, .val (.long lo), .second, .val (.long hi), .second, .val (.long md), .second, .val (.ref a9), .unset] [(.int (1 : Int32))]))
    refine Go.st (fun _ kq_ => XS.goto X11.here hx rfl (pc0 := 64) (pc' := 68) rfl (hb hby at_64) (by decide) (by decide) kq_) ?_
    show Go p e below s _ _ _ (T11.setTop (mkF m 68 #[.val (.long p0), .second, .val (.long p1), .second, .val (.long p2), .second, .val (.long p3), .second, .val (.long lo), .second, .val (.long hi), .second, .val (.long md), .second, .val (.ref a9), .unset] [(.int (1 : Int32))]))
    refine Go.st (fun _ kq_ => XS.istore X11.here hx rfl (hb hby at_68) rfl (l' := #[.val (.long p0), .second, .val (.long p1), .second, .val (.long p2), .second, .val (.long p3), .second, .val (.long lo), .second, .val (.long hi), .second, .val (.long md), .second, .val (.ref a9), .val (.int (1 : Int32))]) rfl kq_) ?_
    show Go p e below s _ _ _ (T11.setTop (mkF m 70 #[.val (.long p0), .second, .val (.long p1), .second, .val (.long p2), .second, .val (.long p3), .second, .val (.long lo), .second, .val (.long hi), .second, .val (.long md), .second, .val (.ref a9), .val (.int (1 : Int32))] []))
    refine Go.st (fun _ kq_ => XS.aload X11.here hx rfl (hb hby at_70) rfl rfl kq_) ?_
    show Go p e below s _ _ _ (T11.setTop (mkF m 72 #[.val (.long p0), .second, .val (.long p1), .second, .val (.long p2), .second, .val (.long p3), .second, .val (.long lo), .second, .val (.long hi), .second, .val (.long md), .second, .val (.ref a9), .val (.int (1 : Int32))] [(.ref a9)]))
    refine Go.st (fun _ kq_ => XT.lload X11.here hx rfl (hb hby at_72) rfl kq_) ?_
    show Go p e below s _ _ _ (T11.setTop (mkF m 74 #[.val (.long p0), .second, .val (.long p1), .second, .val (.long p2), .second, .val (.long p3), .second, .val (.long lo), .second, .val (.long hi), .second, .val (.long md), .second, .val (.ref a9), .val (.int (1 : Int32))] [(.long lo), (.ref a9)]))
    refine Go.st (fun _ kq_ => XT.lload X11.here hx rfl (hb hby at_74) rfl kq_) ?_
    show Go p e below s _ _ _ (T11.setTop (mkF m 76 #[.val (.long p0), .second, .val (.long p1), .second, .val (.long p2), .second, .val (.long p3), .second, .val (.long lo), .second, .val (.long hi), .second, .val (.long md), .second, .val (.ref a9), .val (.int (1 : Int32))] [(.long p3), (.long lo), (.ref a9)]))
    obtain ⟨cq12, kq12, qa12, qb12, qc12⟩ := isOf hZ e11 E_a9
    obtain ⟨_, _, ⟨T12, L12, k12, n12⟩, -, X12, ⟨Lc12, hQ12, l12, y12, z12⟩, st12⟩ := X11.virtualBack hx (y := (⟨"com/example/assayline/assayline/engine/SegmentIndex", "add", "(JJ)V"⟩ : MethodName)) (z := (⟨"com/example/assayline/assayline/engine/SegmentIndex", "add", "(JJ)V"⟩ : MethodName)) hown (mvT hZ (own_w hw 51 rfl)) (mvT hZ (own_w hw 52 rfl)) (notFace_of_selects (args := #[]) (mvT hZ (own_w hw 54 rfl))) (mvT hZ (own_w hw 54 rfl)) (mvT hZ (own_w hw 53 rfl)) (by decide) (backOf (W := 0) (rmad0 l Z a0 hw [] a9 b10 kb10 d10 kd10 y10 r10 kr10 (0 : Int64) (List.replicate 64 (.long (0 : Int64))) (List.replicate 64 (.long (0 : Int64))) lo p3 T10.heap n0 O10 E_a9 F_a9_positions F_a9_offsets F_a9_waiting F_a9_count V_b10 V_d10 E_y10 F_y10_wordsInUse F_y10_sizeIsSticky F_y10_words V_r10 (List.length_replicate ..) (List.length_replicate ..) g_a9 g_b10 g_d10 g_y10 g_r10 ne_a9_b10 ne_a9_d10 ne_a9_y10 ne_a9_r10 ne_b10_d10 ne_b10_y10 ne_b10_r10 ne_d10_y10 ne_d10_r10 ne_y10_r10 SD) hZ (own_w hw 55 rfl) (own_w hw 9 rfl) (by decide) (by decide)) qa12 qc12 (g := (mkF m 76 #[.val (.long p0), .second, .val (.long p1), .second, .val (.long p2), .second, .val (.long p3), .second, .val (.long lo), .second, .val (.long hi), .second, .val (.long md), .second, .val (.ref a9), .val (.int (1 : Int32))] [(.long p3), (.long lo), (.ref a9)])) rfl (by rw [hml]; rfl) (Steps.refl _) (argsL := [(.long lo), (.long p3)]) (rest := []) (lenOf pd0_3 rfl) rfl (by show 2 * 0 + _ ≤ _; exact Nat.le_of_eq rfl) (hb hby at_76) (fun _ _ => ⟨rfl, e11, (by decide : 5 + 0 ≤ _), (by decide : 136 + 0 ≤ _)⟩)
    dsimp only [Pt.U, Pt.locs, Pt.cells, Pt.slots] at X12 l12 y12 z12 st12 hQ12
    subst l12 y12 z12
    obtain ⟨rfl, Nc12, Kc12, NE_a9, NF_a9_positions, NF_a9_offsets, NF_a9_waiting, NF_a9_count, NV_b10, NV_d10, NE_y10, NF_y10_wordsInUse, NF_y10_sizeIsSticky, NF_y10_words, NV_r10⟩ := hQ12
    have N12 := Fr.app N11 Nc12
    have O12 := O10.keep Kc12 (allS g_a9 (allS g_b10 (allS g_d10 (allS g_y10 (allS g_r10 all0)))))
    have E_a9 := NE_a9
    have F_a9_positions := NF_a9_positions
    have F_a9_offsets := NF_a9_offsets
    have F_a9_waiting := NF_a9_waiting
    have F_a9_count := NF_a9_count
    have V_b10 := NV_b10
    have V_d10 := NV_d10
    have E_y10 := NE_y10
    have F_y10_wordsInUse := NF_y10_wordsInUse
    have F_y10_sizeIsSticky := NF_y10_sizeIsSticky
    have F_y10_words := NF_y10_words
    have V_r10 := NV_r10
    refine Go.tr st12 ?_
    show Go p e below s _ _ _ (T12.setTop (mkF m 79 #[.val (.long p0), .second, .val (.long p1), .second, .val (.long p2), .second, .val (.long p3), .second, .val (.long lo), .second, .val (.long hi), .second, .val (.long md), .second, .val (.ref a9), .val (.int (1 : Int32))] []))
    refine Go.st (fun _ kq_ => XS.iload X12.here hx rfl (hb hby at_79) rfl kq_) ?_
    show Go p e below s _ _ _ (T12.setTop (mkF m 81 #[.val (.long p0), .second, .val (.long p1), .second, .val (.long p2), .second, .val (.long p3), .second, .val (.long lo), .second, .val (.long hi), .second, .val (.long md), .second, .val (.ref a9), .val (.int (1 : Int32))] [(.int (1 : Int32))]))
    refine Go.st (fun _ kq_ => XS.ifNo X12.here hx rfl (hb hby at_81) rfl (by decide) kq_) ?_
    show Go p e below s _ _ _ (T12.setTop (mkF m 84 #[.val (.long p0), .second, .val (.long p1), .second, .val (.long p2), .second, .val (.long p3), .second, .val (.long lo), .second, .val (.long hi), .second, .val (.long md), .second, .val (.ref a9), .val (.int (1 : Int32))] []))
    refine Go.st (fun _ kq_ => XS.aload X12.here hx rfl (hb hby at_84) rfl rfl kq_) ?_
    show Go p e below s _ _ _ (T12.setTop (mkF m 86 #[.val (.long p0), .second, .val (.long p1), .second, .val (.long p2), .second, .val (.long p3), .second, .val (.long lo), .second, .val (.long hi), .second, .val (.long md), .second, .val (.ref a9), .val (.int (1 : Int32))] [(.ref a9)]))
    obtain ⟨cq13, kq13, qa13, qb13, qc13⟩ := isOf hZ rfl E_a9
    obtain ⟨_, _, ⟨T13, L13, k13, n13⟩, -, X13, ⟨Lc13, hQ13, l13, y13, z13⟩, st13⟩ := X12.virtualBack hx (y := (⟨"com/example/assayline/assayline/engine/SegmentIndex", "last", "()J"⟩ : MethodName)) (z := (⟨"com/example/assayline/assayline/engine/SegmentIndex", "last", "()J"⟩ : MethodName)) hown (mvT hZ (own_w hw 44 rfl)) (mvT hZ (own_w hw 45 rfl)) (notFace_of_selects (args := #[]) (mvT hZ (own_w hw 47 rfl))) (mvT hZ (own_w hw 47 rfl)) (mvT hZ (own_w hw 46 rfl)) (by decide) (backOf (W := 0) (rmla1 l Z a0 hw [] a9 b10 kb10 (List.set (List.replicate 64 (.long (0 : Int64))) 0 (.long lo)) lo T12.heap n0 O12 F_a9_count F_a9_positions V_b10 (own_last _ 0 _ _ (by rw [(List.length_replicate ..)]; decide))) hZ (own_w hw 48 rfl) (own_w hw 9 rfl) (by decide) (by decide)) qa13 qc13 (g := (mkF m 86 #[.val (.long p0), .second, .val (.long p1), .second, .val (.long p2), .second, .val (.long p3), .second, .val (.long lo), .second, .val (.long hi), .second, .val (.long md), .second, .val (.ref a9), .val (.int (1 : Int32))] [(.ref a9)])) rfl (by rw [hml]; rfl) (Steps.refl _) (argsL := []) (rest := []) (lenOf pd0_2 rfl) rfl (by show 2 * 0 + _ ≤ _; exact Nat.le_of_eq rfl) (hb hby at_86) (fun _ _ => ⟨rfl, rfl, (by decide : 5 + 0 ≤ _), (by decide : 136 + 0 ≤ _)⟩)
    dsimp only [Pt.U, Pt.locs, Pt.cells, Pt.slots] at X13 l13 y13 z13 st13 hQ13
    subst l13 y13 z13
    obtain ⟨rfl, Nc13, e13⟩ := hQ13
    have N13 := Fr.app N12 Nc13
    refine Go.tr st13 ?_
    show Go p e below s _ _ _ (T13.setTop (mkF m 89 #[.val (.long p0), .second, .val (.long p1), .second, .val (.long p2), .second, .val (.long p3), .second, .val (.long lo), .second, .val (.long hi), .second, .val (.long md), .second, .val (.ref a9), .val (.int (1 : Int32))] [(.long lo)]))
    refine Go.st (fun _ kq_ => XT.lload X13.here hx rfl (hb hby at_89) rfl kq_) ?_
    show Go p e below s _ _ _ (T13.setTop (mkF m 91 #[.val (.long p0), .second, .val (.long p1), .second, .val (.long p2), .second, .val (.long p3), .second, .val (.long lo), .second, .val (.long hi), .second, .val (.long md), .second, .val (.ref a9), .val (.int (1 : Int32))] [(.long lo), (.long lo)]))
    refine Go.st (fun _ kq_ => XT.lcmp X13.here hx rfl (hb hby at_91) rfl kq_) ?_
    show Go p e below s _ _ _ (T13.setTop (mkF m 92 #[.val (.long p0), .second, .val (.long p1), .second, .val (.long p2), .second, .val (.long p3), .second, .val (.long lo), .second, .val (.long hi), .second, .val (.long md), .second, .val (.ref a9), .val (.int (1 : Int32))] [(.int (XT.cmpL lo lo))]))
    refine Go.st (fun _ kq_ => XS.ifNo X13.here hx rfl (hb hby at_92) rfl (XT.ll_ne_f rfl) kq_) ?_
    show Go p e below s _ _ _ (T13.setTop (mkF m 95 #[.val (.long p0), .second, .val (.long p1), .second, .val (.long p2), .second, .val (.long p3), .second, .val (.long lo), .second, .val (.long hi), .second, .val (.long md), .second, .val (.ref a9), .val (.int (1 : Int32))] []))
    refine Go.st (fun _ kq_ => XS.iconst X13.here hx rfl (hb hby at_95) kq_) ?_
    show Go p e below s _ _ _ (T13.setTop (mkF m 96 #[.val (.long p0), .second, .val (.long p1), .second, .val (.long p2), .second, .val (.long p3), .second, .val (.long lo), .second, .val (.long hi), .second, .val (.long md), .second, .val (.ref a9), .val (.int (1 : Int32))] [(.int (1 : Int32))]))
    refine Go.st (fun _ kq_ => XS.goto X13.here hx rfl (pc0 := 96) (pc' := 100) rfl (hb hby at_96) (by decide) (by decide) kq_) ?_
    show Go p e below s _ _ _ (T13.setTop (mkF m 100 #[.val (.long p0), .second, .val (.long p1), .second, .val (.long p2), .second, .val (.long p3), .second, .val (.long lo), .second, .val (.long hi), .second, .val (.long md), .second, .val (.ref a9), .val (.int (1 : Int32))] [(.int (1 : Int32))]))
    refine Go.st (fun _ kq_ => XS.istore X13.here hx rfl (hb hby at_100) rfl (l' := #[.val (.long p0), .second, .val (.long p1), .second, .val (.long p2), .second, .val (.long p3), .second, .val (.long lo), .second, .val (.long hi), .second, .val (.long md), .second, .val (.ref a9), .val (.int (1 : Int32))]) rfl kq_) ?_
    show Go p e below s _ _ _ (T13.setTop (mkF m 102 #[.val (.long p0), .second, .val (.long p1), .second, .val (.long p2), .second, .val (.long p3), .second, .val (.long lo), .second, .val (.long hi), .second, .val (.long md), .second, .val (.ref a9), .val (.int (1 : Int32))] []))
    refine Go.st (fun _ kq_ => XT.lload X13.here hx rfl (hb hby at_102) rfl kq_) ?_
    show Go p e below s _ _ _ (T13.setTop (mkF m 104 #[.val (.long p0), .second, .val (.long p1), .second, .val (.long p2), .second, .val (.long p3), .second, .val (.long lo), .second, .val (.long hi), .second, .val (.long md), .second, .val (.ref a9), .val (.int (1 : Int32))] [(.long lo)]))
    refine Go.st (fun _ kq_ => XT.lload X13.here hx rfl (hb hby at_104) rfl kq_) ?_
    show Go p e below s _ _ _ (T13.setTop (mkF m 106 #[.val (.long p0), .second, .val (.long p1), .second, .val (.long p2), .second, .val (.long p3), .second, .val (.long lo), .second, .val (.long hi), .second, .val (.long md), .second, .val (.ref a9), .val (.int (1 : Int32))] [(.long md), (.long lo)]))
    refine Go.st (fun _ kq_ => XT.lcmp X13.here hx rfl (hb hby at_106) rfl kq_) ?_
    show Go p e below s _ _ _ (T13.setTop (mkF m 107 #[.val (.long p0), .second, .val (.long p1), .second, .val (.long p2), .second, .val (.long p3), .second, .val (.long lo), .second, .val (.long hi), .second, .val (.long md), .second, .val (.ref a9), .val (.int (1 : Int32))] [(.int (XT.cmpL lo md))]))
    by_cases c107_14 : lo < md
    · refine Go.st (fun _ kq_ => XS.ifNo X13.here hx rfl (hb hby at_107) rfl (XT.ll_ge_f c107_14) kq_) ?_
      show Go p e below s _ _ _ (T13.setTop (mkF m 110 #[.val (.long p0), .second, .val (.long p1), .second, .val (.long p2), .second, .val (.long p3), .second, .val (.long lo), .second, .val (.long hi), .second, .val (.long md), .second, .val (.ref a9), .val (.int (1 : Int32))] []))
      refine Go.st (fun _ kq_ => XS.aload X13.here hx rfl (hb hby at_110) rfl rfl kq_) ?_
      show Go p e below s _ _ _ (T13.setTop (mkF m 112 #[.val (.long p0), .second, .val (.long p1), .second, .val (.long p2), .second, .val (.long p3), .second, .val (.long lo), .second, .val (.long hi), .second, .val (.long md), .second, .val (.ref a9), .val (.int (1 : Int32))] [(.ref a9)]))
      refine Go.st (fun _ kq_ => XT.lload X13.here hx rfl (hb hby at_112) rfl kq_) ?_
      show Go p e below s _ _ _ (T13.setTop (mkF m 114 #[.val (.long p0), .second, .val (.long p1), .second, .val (.long p2), .second, .val (.long p3), .second, .val (.long lo), .second, .val (.long hi), .second, .val (.long md), .second, .val (.ref a9), .val (.int (1 : Int32))] [(.long md), (.ref a9)]))
      refine Go.st (fun _ kq_ => XT.lload X13.here hx rfl (hb hby at_114) rfl kq_) ?_
      show Go p e below s _ _ _ (T13.setTop (mkF m 116 #[.val (.long p0), .second, .val (.long p1), .second, .val (.long p2), .second, .val (.long p3), .second, .val (.long lo), .second, .val (.long hi), .second, .val (.long md), .second, .val (.ref a9), .val (.int (1 : Int32))] [(.long p3), (.long md), (.ref a9)]))
      refine Go.st (fun _ kq_ => XT.lconst X13.here hx rfl (hb hby at_116) kq_) ?_
      show Go p e below s _ _ _ (T13.setTop (mkF m 117 #[.val (.long p0), .second, .val (.long p1), .second, .val (.long p2), .second, .val (.long p3), .second, .val (.long lo), .second, .val (.long hi), .second, .val (.long md), .second, .val (.ref a9), .val (.int (1 : Int32))] [(.long (1 : Int64)), (.long p3), (.long md), (.ref a9)]))
      refine Go.st (fun _ kq_ => XT.ladd X13.here hx rfl (hb hby at_117) rfl kq_) ?_
      show Go p e below s _ _ _ (T13.setTop (mkF m 118 #[.val (.long p0), .second, .val (.long p1), .second, .val (.long p2), .second, .val (.long p3), .second, .val (.long lo), .second, .val (.long hi), .second, .val (.long md), .second, .val (.ref a9), .val (.int (1 : Int32))] [(.long (p3 + (1 : Int64))), (.long md), (.ref a9)]))
      obtain ⟨cq15, kq15, qa15, qb15, qc15⟩ := isOf hZ e13 E_a9
      obtain ⟨_, _, ⟨T15, L15, k15, n15⟩, -, X15, ⟨Lc15, hQ15, l15, y15, z15⟩, st15⟩ := X13.virtualBack hx (y := (⟨"com/example/assayline/assayline/engine/SegmentIndex", "add", "(JJ)V"⟩ : MethodName)) (z := (⟨"com/example/assayline/assayline/engine/SegmentIndex", "add", "(JJ)V"⟩ : MethodName)) hown (mvT hZ (own_w hw 51 rfl)) (mvT hZ (own_w hw 52 rfl)) (notFace_of_selects (args := #[]) (mvT hZ (own_w hw 54 rfl))) (mvT hZ (own_w hw 54 rfl)) (mvT hZ (own_w hw 53 rfl)) (by decide) (backOf (W := 0) (rmad1 l Z a0 hw [] a9 b10 kb10 d10 kd10 y10 r10 kr10 ((0 : Int64) ||| ((1 : Int64) <<< (((0 : Int32)).toInt64 &&& 63))) (List.set (List.replicate 64 (.long (0 : Int64))) 0 (.long lo)) (List.set (List.replicate 64 (.long (0 : Int64))) 0 (.long p3)) md (p3 + (1 : Int64)) T12.heap n0 O12 E_a9 F_a9_positions F_a9_offsets F_a9_waiting F_a9_count V_b10 V_d10 E_y10 F_y10_wordsInUse F_y10_sizeIsSticky F_y10_words V_r10 (List.length_set.trans (List.length_replicate ..)) (List.length_set.trans (List.length_replicate ..)) g_a9 g_b10 g_d10 g_y10 g_r10 ne_a9_b10 ne_a9_d10 ne_a9_y10 ne_a9_r10 ne_b10_d10 ne_b10_y10 ne_b10_r10 ne_d10_y10 ne_d10_r10 ne_y10_r10 SD) hZ (own_w hw 55 rfl) (own_w hw 9 rfl) (by decide) (by decide)) qa15 qc15 (g := (mkF m 118 #[.val (.long p0), .second, .val (.long p1), .second, .val (.long p2), .second, .val (.long p3), .second, .val (.long lo), .second, .val (.long hi), .second, .val (.long md), .second, .val (.ref a9), .val (.int (1 : Int32))] [(.long (p3 + (1 : Int64))), (.long md), (.ref a9)])) rfl (by rw [hml]; rfl) (Steps.refl _) (argsL := [(.long md), (.long (p3 + (1 : Int64)))]) (rest := []) (lenOf pd0_3 rfl) rfl (by show 2 * 0 + _ ≤ _; exact Nat.le_of_eq rfl) (hb hby at_118) (fun _ _ => ⟨rfl, e13, (by decide : 5 + 0 ≤ _), (by decide : 136 + 0 ≤ _)⟩)
      dsimp only [Pt.U, Pt.locs, Pt.cells, Pt.slots] at X15 l15 y15 z15 st15 hQ15
      subst l15 y15 z15
      obtain ⟨rfl, Nc15, Kc15, NE_a9, NF_a9_positions, NF_a9_offsets, NF_a9_waiting, NF_a9_count, NV_b10, NV_d10, NE_y10, NF_y10_wordsInUse, NF_y10_sizeIsSticky, NF_y10_words, NV_r10⟩ := hQ15
      have N15 := Fr.app N13 Nc15
      have O15 := O12.keep Kc15 (allS g_a9 (allS g_b10 (allS g_d10 (allS g_y10 (allS g_r10 all0)))))
      have E_a9 := NE_a9
      have F_a9_positions := NF_a9_positions
      have F_a9_offsets := NF_a9_offsets
      have F_a9_waiting := NF_a9_waiting
      have F_a9_count := NF_a9_count
      have V_b10 := NV_b10
      have V_d10 := NV_d10
      have E_y10 := NE_y10
      have F_y10_wordsInUse := NF_y10_wordsInUse
      have F_y10_sizeIsSticky := NF_y10_sizeIsSticky
      have F_y10_words := NF_y10_words
      have V_r10 := NV_r10
      refine Go.tr st15 ?_
      show Go p e below s _ _ _ (T15.setTop (mkF m 121 #[.val (.long p0), .second, .val (.long p1), .second, .val (.long p2), .second, .val (.long p3), .second, .val (.long lo), .second, .val (.long hi), .second, .val (.long md), .second, .val (.ref a9), .val (.int (1 : Int32))] []))
      refine Go.st (fun _ kq_ => XS.iload X15.here hx rfl (hb hby at_121) rfl kq_) ?_
      show Go p e below s _ _ _ (T15.setTop (mkF m 123 #[.val (.long p0), .second, .val (.long p1), .second, .val (.long p2), .second, .val (.long p3), .second, .val (.long lo), .second, .val (.long hi), .second, .val (.long md), .second, .val (.ref a9), .val (.int (1 : Int32))] [(.int (1 : Int32))]))
      refine Go.st (fun _ kq_ => XS.ifNo X15.here hx rfl (hb hby at_123) rfl (by decide) kq_) ?_
      show Go p e below s _ _ _ (T15.setTop (mkF m 126 #[.val (.long p0), .second, .val (.long p1), .second, .val (.long p2), .second, .val (.long p3), .second, .val (.long lo), .second, .val (.long hi), .second, .val (.long md), .second, .val (.ref a9), .val (.int (1 : Int32))] []))
      refine Go.st (fun _ kq_ => XS.aload X15.here hx rfl (hb hby at_126) rfl rfl kq_) ?_
      show Go p e below s _ _ _ (T15.setTop (mkF m 128 #[.val (.long p0), .second, .val (.long p1), .second, .val (.long p2), .second, .val (.long p3), .second, .val (.long lo), .second, .val (.long hi), .second, .val (.long md), .second, .val (.ref a9), .val (.int (1 : Int32))] [(.ref a9)]))
      obtain ⟨cq16, kq16, qa16, qb16, qc16⟩ := isOf hZ rfl E_a9
      obtain ⟨_, _, ⟨T16, L16, k16, n16⟩, -, X16, ⟨Lc16, hQ16, l16, y16, z16⟩, st16⟩ := X15.virtualBack hx (y := (⟨"com/example/assayline/assayline/engine/SegmentIndex", "last", "()J"⟩ : MethodName)) (z := (⟨"com/example/assayline/assayline/engine/SegmentIndex", "last", "()J"⟩ : MethodName)) hown (mvT hZ (own_w hw 44 rfl)) (mvT hZ (own_w hw 45 rfl)) (notFace_of_selects (args := #[]) (mvT hZ (own_w hw 47 rfl))) (mvT hZ (own_w hw 47 rfl)) (mvT hZ (own_w hw 46 rfl)) (by decide) (backOf (W := 0) (rmla2 l Z a0 hw [] a9 b10 kb10 (List.set (List.set (List.replicate 64 (.long (0 : Int64))) 0 (.long lo)) 1 (.long md)) md T15.heap n0 O15 F_a9_count F_a9_positions V_b10 (own_last _ 1 _ _ (by rw [(List.length_set.trans (List.length_replicate ..))]; decide))) hZ (own_w hw 48 rfl) (own_w hw 9 rfl) (by decide) (by decide)) qa16 qc16 (g := (mkF m 128 #[.val (.long p0), .second, .val (.long p1), .second, .val (.long p2), .second, .val (.long p3), .second, .val (.long lo), .second, .val (.long hi), .second, .val (.long md), .second, .val (.ref a9), .val (.int (1 : Int32))] [(.ref a9)])) rfl (by rw [hml]; rfl) (Steps.refl _) (argsL := []) (rest := []) (lenOf pd0_2 rfl) rfl (by show 2 * 0 + _ ≤ _; exact Nat.le_of_eq rfl) (hb hby at_128) (fun _ _ => ⟨rfl, rfl, (by decide : 5 + 0 ≤ _), (by decide : 136 + 0 ≤ _)⟩)
      dsimp only [Pt.U, Pt.locs, Pt.cells, Pt.slots] at X16 l16 y16 z16 st16 hQ16
      subst l16 y16 z16
      obtain ⟨rfl, Nc16, e16⟩ := hQ16
      have N16 := Fr.app N15 Nc16
      refine Go.tr st16 ?_
      show Go p e below s _ _ _ (T16.setTop (mkF m 131 #[.val (.long p0), .second, .val (.long p1), .second, .val (.long p2), .second, .val (.long p3), .second, .val (.long lo), .second, .val (.long hi), .second, .val (.long md), .second, .val (.ref a9), .val (.int (1 : Int32))] [(.long md)]))
      refine Go.st (fun _ kq_ => XT.lload X16.here hx rfl (hb hby at_131) rfl kq_) ?_
      show Go p e below s _ _ _ (T16.setTop (mkF m 133 #[.val (.long p0), .second, .val (.long p1), .second, .val (.long p2), .second, .val (.long p3), .second, .val (.long lo), .second, .val (.long hi), .second, .val (.long md), .second, .val (.ref a9), .val (.int (1 : Int32))] [(.long md), (.long md)]))
      refine Go.st (fun _ kq_ => XT.lcmp X16.here hx rfl (hb hby at_133) rfl kq_) ?_
      show Go p e below s _ _ _ (T16.setTop (mkF m 134 #[.val (.long p0), .second, .val (.long p1), .second, .val (.long p2), .second, .val (.long p3), .second, .val (.long lo), .second, .val (.long hi), .second, .val (.long md), .second, .val (.ref a9), .val (.int (1 : Int32))] [(.int (XT.cmpL md md))]))
      refine Go.st (fun _ kq_ => XS.ifNo X16.here hx rfl (hb hby at_134) rfl (XT.ll_ne_f rfl) kq_) ?_
      show Go p e below s _ _ _ (T16.setTop (mkF m 137 #[.val (.long p0), .second, .val (.long p1), .second, .val (.long p2), .second, .val (.long p3), .second, .val (.long lo), .second, .val (.long hi), .second, .val (.long md), .second, .val (.ref a9), .val (.int (1 : Int32))] []))
      refine Go.st (fun _ kq_ => XS.iconst X16.here hx rfl (hb hby at_137) kq_) ?_
      show Go p e below s _ _ _ (T16.setTop (mkF m 138 #[.val (.long p0), .second, .val (.long p1), .second, .val (.long p2), .second, .val (.long p3), .second, .val (.long lo), .second, .val (.long hi), .second, .val (.long md), .second, .val (.ref a9), .val (.int (1 : Int32))] [(.int (1 : Int32))]))
      refine Go.st (fun _ kq_ => XS.goto X16.here hx rfl (pc0 := 138) (pc' := 142) rfl (hb hby at_138) (by decide) (by decide) kq_) ?_
      show Go p e below s _ _ _ (T16.setTop (mkF m 142 #[.val (.long p0), .second, .val (.long p1), .second, .val (.long p2), .second, .val (.long p3), .second, .val (.long lo), .second, .val (.long hi), .second, .val (.long md), .second, .val (.ref a9), .val (.int (1 : Int32))] [(.int (1 : Int32))]))
      refine Go.st (fun _ kq_ => XS.istore X16.here hx rfl (hb hby at_142) rfl (l' := #[.val (.long p0), .second, .val (.long p1), .second, .val (.long p2), .second, .val (.long p3), .second, .val (.long lo), .second, .val (.long hi), .second, .val (.long md), .second, .val (.ref a9), .val (.int (1 : Int32))]) rfl kq_) ?_
      show Go p e below s _ _ _ (T16.setTop (mkF m 144 #[.val (.long p0), .second, .val (.long p1), .second, .val (.long p2), .second, .val (.long p3), .second, .val (.long lo), .second, .val (.long hi), .second, .val (.long md), .second, .val (.ref a9), .val (.int (1 : Int32))] []))
      refine Go.st (fun _ kq_ => XT.lload X16.here hx rfl (hb hby at_144) rfl kq_) ?_
      show Go p e below s _ _ _ (T16.setTop (mkF m 146 #[.val (.long p0), .second, .val (.long p1), .second, .val (.long p2), .second, .val (.long p3), .second, .val (.long lo), .second, .val (.long hi), .second, .val (.long md), .second, .val (.ref a9), .val (.int (1 : Int32))] [(.long md)]))
      refine Go.st (fun _ kq_ => XT.lload X16.here hx rfl (hb hby at_146) rfl kq_) ?_
      show Go p e below s _ _ _ (T16.setTop (mkF m 148 #[.val (.long p0), .second, .val (.long p1), .second, .val (.long p2), .second, .val (.long p3), .second, .val (.long lo), .second, .val (.long hi), .second, .val (.long md), .second, .val (.ref a9), .val (.int (1 : Int32))] [(.long hi), (.long md)]))
      refine Go.st (fun _ kq_ => XT.lcmp X16.here hx rfl (hb hby at_148) rfl kq_) ?_
      show Go p e below s _ _ _ (T16.setTop (mkF m 149 #[.val (.long p0), .second, .val (.long p1), .second, .val (.long p2), .second, .val (.long p3), .second, .val (.long lo), .second, .val (.long hi), .second, .val (.long md), .second, .val (.ref a9), .val (.int (1 : Int32))] [(.int (XT.cmpL md hi))]))
      by_cases c149_17 : md < hi
      · refine Go.st (fun _ kq_ => XS.ifNo X16.here hx rfl (hb hby at_149) rfl (XT.ll_ge_f c149_17) kq_) ?_
        show Go p e below s _ _ _ (T16.setTop (mkF m 152 #[.val (.long p0), .second, .val (.long p1), .second, .val (.long p2), .second, .val (.long p3), .second, .val (.long lo), .second, .val (.long hi), .second, .val (.long md), .second, .val (.ref a9), .val (.int (1 : Int32))] []))
        refine Go.st (fun _ kq_ => XS.aload X16.here hx rfl (hb hby at_152) rfl rfl kq_) ?_
        show Go p e below s _ _ _ (T16.setTop (mkF m 154 #[.val (.long p0), .second, .val (.long p1), .second, .val (.long p2), .second, .val (.long p3), .second, .val (.long lo), .second, .val (.long hi), .second, .val (.long md), .second, .val (.ref a9), .val (.int (1 : Int32))] [(.ref a9)]))
        refine Go.st (fun _ kq_ => XT.lload X16.here hx rfl (hb hby at_154) rfl kq_) ?_
        show Go p e below s _ _ _ (T16.setTop (mkF m 156 #[.val (.long p0), .second, .val (.long p1), .second, .val (.long p2), .second, .val (.long p3), .second, .val (.long lo), .second, .val (.long hi), .second, .val (.long md), .second, .val (.ref a9), .val (.int (1 : Int32))] [(.long hi), (.ref a9)]))
        refine Go.st (fun _ kq_ => XT.lload X16.here hx rfl (hb hby at_156) rfl kq_) ?_
        show Go p e below s _ _ _ (T16.setTop (mkF m 158 #[.val (.long p0), .second, .val (.long p1), .second, .val (.long p2), .second, .val (.long p3), .second, .val (.long lo), .second, .val (.long hi), .second, .val (.long md), .second, .val (.ref a9), .val (.int (1 : Int32))] [(.long p3), (.long hi), (.ref a9)]))
        refine Go.st (fun _ kq_ => X16.ldc2J hx hown (mvT hZ (own_w hw 77 rfl)) rfl (hb hby at_158) kq_) ?_
        show Go p e below s _ _ _ (T16.setTop (mkF m 161 #[.val (.long p0), .second, .val (.long p1), .second, .val (.long p2), .second, .val (.long p3), .second, .val (.long lo), .second, .val (.long hi), .second, .val (.long md), .second, .val (.ref a9), .val (.int (1 : Int32))] [(.long (2 : Int64)), (.long p3), (.long hi), (.ref a9)]))
        refine Go.st (fun _ kq_ => XT.ladd X16.here hx rfl (hb hby at_161) rfl kq_) ?_
        show Go p e below s _ _ _ (T16.setTop (mkF m 162 #[.val (.long p0), .second, .val (.long p1), .second, .val (.long p2), .second, .val (.long p3), .second, .val (.long lo), .second, .val (.long hi), .second, .val (.long md), .second, .val (.ref a9), .val (.int (1 : Int32))] [(.long (p3 + (2 : Int64))), (.long hi), (.ref a9)]))
        obtain ⟨cq18, kq18, qa18, qb18, qc18⟩ := isOf hZ e16 E_a9
        obtain ⟨_, _, ⟨T18, L18, k18, n18⟩, -, X18, ⟨Lc18, hQ18, l18, y18, z18⟩, st18⟩ := X16.virtualBack hx (y := (⟨"com/example/assayline/assayline/engine/SegmentIndex", "add", "(JJ)V"⟩ : MethodName)) (z := (⟨"com/example/assayline/assayline/engine/SegmentIndex", "add", "(JJ)V"⟩ : MethodName)) hown (mvT hZ (own_w hw 51 rfl)) (mvT hZ (own_w hw 52 rfl)) (notFace_of_selects (args := #[]) (mvT hZ (own_w hw 54 rfl))) (mvT hZ (own_w hw 54 rfl)) (mvT hZ (own_w hw 53 rfl)) (by decide) (backOf (W := 0) (rmad2 l Z a0 hw [] a9 b10 kb10 d10 kd10 y10 r10 kr10 (((0 : Int64) ||| ((1 : Int64) <<< (((0 : Int32)).toInt64 &&& 63))) ||| ((1 : Int64) <<< (((1 : Int32)).toInt64 &&& 63))) (List.set (List.set (List.replicate 64 (.long (0 : Int64))) 0 (.long lo)) 1 (.long md)) (List.set (List.set (List.replicate 64 (.long (0 : Int64))) 0 (.long p3)) 1 (.long (p3 + (1 : Int64)))) hi (p3 + (2 : Int64)) T15.heap n0 O15 E_a9 F_a9_positions F_a9_offsets F_a9_waiting F_a9_count V_b10 V_d10 E_y10 F_y10_wordsInUse F_y10_sizeIsSticky F_y10_words V_r10 (List.length_set.trans (List.length_set.trans (List.length_replicate ..))) (List.length_set.trans (List.length_set.trans (List.length_replicate ..))) g_a9 g_b10 g_d10 g_y10 g_r10 ne_a9_b10 ne_a9_d10 ne_a9_y10 ne_a9_r10 ne_b10_d10 ne_b10_y10 ne_b10_r10 ne_d10_y10 ne_d10_r10 ne_y10_r10 SD) hZ (own_w hw 55 rfl) (own_w hw 9 rfl) (by decide) (by decide)) qa18 qc18 (g := (mkF m 162 #[.val (.long p0), .second, .val (.long p1), .second, .val (.long p2), .second, .val (.long p3), .second, .val (.long lo), .second, .val (.long hi), .second, .val (.long md), .second, .val (.ref a9), .val (.int (1 : Int32))] [(.long (p3 + (2 : Int64))), (.long hi), (.ref a9)])) rfl (by rw [hml]; rfl) (Steps.refl _) (argsL := [(.long hi), (.long (p3 + (2 : Int64)))]) (rest := []) (lenOf pd0_3 rfl) rfl (by show 2 * 0 + _ ≤ _; exact Nat.le_of_eq rfl) (hb hby at_162) (fun _ _ => ⟨rfl, e16, (by decide : 5 + 0 ≤ _), (by decide : 136 + 0 ≤ _)⟩)
        dsimp only [Pt.U, Pt.locs, Pt.cells, Pt.slots] at X18 l18 y18 z18 st18 hQ18
        subst l18 y18 z18
        obtain ⟨rfl, Nc18, Kc18, NE_a9, NF_a9_positions, NF_a9_offsets, NF_a9_waiting, NF_a9_count, NV_b10, NV_d10, NE_y10, NF_y10_wordsInUse, NF_y10_sizeIsSticky, NF_y10_words, NV_r10⟩ := hQ18
        have N18 := Fr.app N16 Nc18
        have O18 := O15.keep Kc18 (allS g_a9 (allS g_b10 (allS g_d10 (allS g_y10 (allS g_r10 all0)))))
        have E_a9 := NE_a9
        have F_a9_positions := NF_a9_positions
        have F_a9_offsets := NF_a9_offsets
        have F_a9_waiting := NF_a9_waiting
        have F_a9_count := NF_a9_count
        have V_b10 := NV_b10
        have V_d10 := NV_d10
        have E_y10 := NE_y10
        have F_y10_wordsInUse := NF_y10_wordsInUse
        have F_y10_sizeIsSticky := NF_y10_sizeIsSticky
        have F_y10_words := NF_y10_words
        have V_r10 := NV_r10
        refine Go.tr st18 ?_
        show Go p e below s _ _ _ (T18.setTop (mkF m 165 #[.val (.long p0), .second, .val (.long p1), .second, .val (.long p2), .second, .val (.long p3), .second, .val (.long lo), .second, .val (.long hi), .second, .val (.long md), .second, .val (.ref a9), .val (.int (1 : Int32))] []))
        refine Go.st (fun _ kq_ => XS.iload X18.here hx rfl (hb hby at_165) rfl kq_) ?_
        show Go p e below s _ _ _ (T18.setTop (mkF m 167 #[.val (.long p0), .second, .val (.long p1), .second, .val (.long p2), .second, .val (.long p3), .second, .val (.long lo), .second, .val (.long hi), .second, .val (.long md), .second, .val (.ref a9), .val (.int (1 : Int32))] [(.int (1 : Int32))]))
        refine Go.st (fun _ kq_ => XS.ifNo X18.here hx rfl (hb hby at_167) rfl (by decide) kq_) ?_
        show Go p e below s _ _ _ (T18.setTop (mkF m 170 #[.val (.long p0), .second, .val (.long p1), .second, .val (.long p2), .second, .val (.long p3), .second, .val (.long lo), .second, .val (.long hi), .second, .val (.long md), .second, .val (.ref a9), .val (.int (1 : Int32))] []))
        refine Go.st (fun _ kq_ => XS.aload X18.here hx rfl (hb hby at_170) rfl rfl kq_) ?_
        show Go p e below s _ _ _ (T18.setTop (mkF m 172 #[.val (.long p0), .second, .val (.long p1), .second, .val (.long p2), .second, .val (.long p3), .second, .val (.long lo), .second, .val (.long hi), .second, .val (.long md), .second, .val (.ref a9), .val (.int (1 : Int32))] [(.ref a9)]))
        obtain ⟨cq19, kq19, qa19, qb19, qc19⟩ := isOf hZ rfl E_a9
        obtain ⟨_, _, ⟨T19, L19, k19, n19⟩, -, X19, ⟨Lc19, hQ19, l19, y19, z19⟩, st19⟩ := X18.virtualBack hx (y := (⟨"com/example/assayline/assayline/engine/SegmentIndex", "last", "()J"⟩ : MethodName)) (z := (⟨"com/example/assayline/assayline/engine/SegmentIndex", "last", "()J"⟩ : MethodName)) hown (mvT hZ (own_w hw 44 rfl)) (mvT hZ (own_w hw 45 rfl)) (notFace_of_selects (args := #[]) (mvT hZ (own_w hw 47 rfl))) (mvT hZ (own_w hw 47 rfl)) (mvT hZ (own_w hw 46 rfl)) (by decide) (backOf (W := 0) (rmla3 l Z a0 hw [] a9 b10 kb10 (List.set (List.set (List.set (List.replicate 64 (.long (0 : Int64))) 0 (.long lo)) 1 (.long md)) 2 (.long hi)) hi T18.heap n0 O18 F_a9_count F_a9_positions V_b10 (own_last _ 2 _ _ (by rw [(List.length_set.trans (List.length_set.trans (List.length_replicate ..)))]; decide))) hZ (own_w hw 48 rfl) (own_w hw 9 rfl) (by decide) (by decide)) qa19 qc19 (g := (mkF m 172 #[.val (.long p0), .second, .val (.long p1), .second, .val (.long p2), .second, .val (.long p3), .second, .val (.long lo), .second, .val (.long hi), .second, .val (.long md), .second, .val (.ref a9), .val (.int (1 : Int32))] [(.ref a9)])) rfl (by rw [hml]; rfl) (Steps.refl _) (argsL := []) (rest := []) (lenOf pd0_2 rfl) rfl (by show 2 * 0 + _ ≤ _; exact Nat.le_of_eq rfl) (hb hby at_172) (fun _ _ => ⟨rfl, rfl, (by decide : 5 + 0 ≤ _), (by decide : 136 + 0 ≤ _)⟩)
        dsimp only [Pt.U, Pt.locs, Pt.cells, Pt.slots] at X19 l19 y19 z19 st19 hQ19
        subst l19 y19 z19
        obtain ⟨rfl, Nc19, e19⟩ := hQ19
        have N19 := Fr.app N18 Nc19
        refine Go.tr st19 ?_
        show Go p e below s _ _ _ (T19.setTop (mkF m 175 #[.val (.long p0), .second, .val (.long p1), .second, .val (.long p2), .second, .val (.long p3), .second, .val (.long lo), .second, .val (.long hi), .second, .val (.long md), .second, .val (.ref a9), .val (.int (1 : Int32))] [(.long hi)]))
        refine Go.st (fun _ kq_ => XT.lload X19.here hx rfl (hb hby at_175) rfl kq_) ?_
        show Go p e below s _ _ _ (T19.setTop (mkF m 177 #[.val (.long p0), .second, .val (.long p1), .second, .val (.long p2), .second, .val (.long p3), .second, .val (.long lo), .second, .val (.long hi), .second, .val (.long md), .second, .val (.ref a9), .val (.int (1 : Int32))] [(.long hi), (.long hi)]))
        refine Go.st (fun _ kq_ => XT.lcmp X19.here hx rfl (hb hby at_177) rfl kq_) ?_
        show Go p e below s _ _ _ (T19.setTop (mkF m 178 #[.val (.long p0), .second, .val (.long p1), .second, .val (.long p2), .second, .val (.long p3), .second, .val (.long lo), .second, .val (.long hi), .second, .val (.long md), .second, .val (.ref a9), .val (.int (1 : Int32))] [(.int (XT.cmpL hi hi))]))
        refine Go.st (fun _ kq_ => XS.ifNo X19.here hx rfl (hb hby at_178) rfl (XT.ll_ne_f rfl) kq_) ?_
        show Go p e below s _ _ _ (T19.setTop (mkF m 181 #[.val (.long p0), .second, .val (.long p1), .second, .val (.long p2), .second, .val (.long p3), .second, .val (.long lo), .second, .val (.long hi), .second, .val (.long md), .second, .val (.ref a9), .val (.int (1 : Int32))] []))
        refine Go.st (fun _ kq_ => XS.iconst X19.here hx rfl (hb hby at_181) kq_) ?_
        show Go p e below s _ _ _ (T19.setTop (mkF m 182 #[.val (.long p0), .second, .val (.long p1), .second, .val (.long p2), .second, .val (.long p3), .second, .val (.long lo), .second, .val (.long hi), .second, .val (.long md), .second, .val (.ref a9), .val (.int (1 : Int32))] [(.int (1 : Int32))]))
        refine Go.st (fun _ kq_ => XS.goto X19.here hx rfl (pc0 := 182) (pc' := 186) rfl (hb hby at_182) (by decide) (by decide) kq_) ?_
        show Go p e below s _ _ _ (T19.setTop (mkF m 186 #[.val (.long p0), .second, .val (.long p1), .second, .val (.long p2), .second, .val (.long p3), .second, .val (.long lo), .second, .val (.long hi), .second, .val (.long md), .second, .val (.ref a9), .val (.int (1 : Int32))] [(.int (1 : Int32))]))
        refine Go.st (fun _ kq_ => XS.istore X19.here hx rfl (hb hby at_186) rfl (l' := #[.val (.long p0), .second, .val (.long p1), .second, .val (.long p2), .second, .val (.long p3), .second, .val (.long lo), .second, .val (.long hi), .second, .val (.long md), .second, .val (.ref a9), .val (.int (1 : Int32))]) rfl kq_) ?_
        show Go p e below s _ _ _ (T19.setTop (mkF m 188 #[.val (.long p0), .second, .val (.long p1), .second, .val (.long p2), .second, .val (.long p3), .second, .val (.long lo), .second, .val (.long hi), .second, .val (.long md), .second, .val (.ref a9), .val (.int (1 : Int32))] []))
        refine Go.st (fun _ kq_ => XS.iload X19.here hx rfl (hb hby at_188) rfl kq_) ?_
        show Go p e below s _ _ _ (T19.setTop (mkF m 190 #[.val (.long p0), .second, .val (.long p1), .second, .val (.long p2), .second, .val (.long p3), .second, .val (.long lo), .second, .val (.long hi), .second, .val (.long md), .second, .val (.ref a9), .val (.int (1 : Int32))] [(.int (1 : Int32))]))
        exact Go.ret X19 hlk (some (.int (nar .boolean (1 : Int32)))) (fun h => by rw [Bd.returns] at h; cases h) (by rw [e19]; exact ⟨rfl, N19⟩) (by decide) (by decide) (fun fs hr => retN X19 hx (t := .boolean) Bd.returns (by simp) (hb hby at_190) hr)
      · refine Go.st (fun _ kq_ => XS.ifYes X16.here hx rfl (pc0 := 149) (pc' := 188) rfl (hb hby at_149) rfl (XT.ll_ge_t c149_17) (by decide) (by decide) kq_) ?_
        show Go p e below s _ _ _ (T16.setTop (mkF m 188 #[.val (.long p0), .second, .val (.long p1), .second, .val (.long p2), .second, .val (.long p3), .second, .val (.long lo), .second, .val (.long hi), .second, .val (.long md), .second, .val (.ref a9), .val (.int (1 : Int32))] []))
        refine Go.st (fun _ kq_ => XS.iload X16.here hx rfl (hb hby at_188) rfl kq_) ?_
        show Go p e below s _ _ _ (T16.setTop (mkF m 190 #[.val (.long p0), .second, .val (.long p1), .second, .val (.long p2), .second, .val (.long p3), .second, .val (.long lo), .second, .val (.long hi), .second, .val (.long md), .second, .val (.ref a9), .val (.int (1 : Int32))] [(.int (1 : Int32))]))
        exact Go.ret X16 hlk (some (.int (nar .boolean (1 : Int32)))) (fun h => by rw [Bd.returns] at h; cases h) (by rw [e16]; exact ⟨rfl, N16⟩) (by decide) (by decide) (fun fs hr => retN X16 hx (t := .boolean) Bd.returns (by simp) (hb hby at_190) hr)
    · refine Go.st (fun _ kq_ => XS.ifYes X13.here hx rfl (pc0 := 107) (pc' := 188) rfl (hb hby at_107) rfl (XT.ll_ge_t c107_14) (by decide) (by decide) kq_) ?_
      show Go p e below s _ _ _ (T13.setTop (mkF m 188 #[.val (.long p0), .second, .val (.long p1), .second, .val (.long p2), .second, .val (.long p3), .second, .val (.long lo), .second, .val (.long hi), .second, .val (.long md), .second, .val (.ref a9), .val (.int (1 : Int32))] []))
      refine Go.st (fun _ kq_ => XS.iload X13.here hx rfl (hb hby at_188) rfl kq_) ?_
      show Go p e below s _ _ _ (T13.setTop (mkF m 190 #[.val (.long p0), .second, .val (.long p1), .second, .val (.long p2), .second, .val (.long p3), .second, .val (.long lo), .second, .val (.long hi), .second, .val (.long md), .second, .val (.ref a9), .val (.int (1 : Int32))] [(.int (1 : Int32))]))
      exact Go.ret X13 hlk (some (.int (nar .boolean (1 : Int32)))) (fun h => by rw [Bd.returns] at h; cases h) (by rw [e13]; exact ⟨rfl, N13⟩) (by decide) (by decide) (fun fs hr => retN X13 hx (t := .boolean) Bd.returns (by simp) (hb hby at_190) hr)
  obtain ⟨s2, o2, st2, r2⟩ := G
  exact ⟨s2, o2, castTop (ef0 m p0 p1 p2 p3) st2, r2⟩
set_option maxRecDepth 65536 in
set_option maxHeartbeats 40000000 in
theorem comes_1 {Post : Tables → Env → Array Value → State → Outcome → State → Prop} (hpost : ∀ tb e args s v u, (limb_1_1.after args s (.returned v) u = true ∧ limb_1_2.after args s (.returned v) u = true ∧ True) → FrameEnd s (.returned v) u (Jvm.fieldLocs frame_1_writes args s ++ Jvm.arrayLocs frame_1_arrays args s ++ Jvm.staticLocs frame_1_statics s) 24 384 → Post tb e args s (.returned v) u) :
    ArmFor flags0 classFile x code maxLocals ret World_1 tables_1 room_1 Calls_1 rest_1 Pre_1 Post := by
  intro l hfl _ _ p e ha hc hk s m args below hf hA hF happ hP
  obtain ⟨hcalls, hrest, hpre⟩ := hP
  obtain ⟨-, -, -, hnamed, -, -, -, hat⟩ := (Spec.applies_iff hf).mp happ
  obtain ⟨hg, hn⟩ := and_e (Cond.before_iff.mp (show (Jvm.Cond.and given_1 narrow_1).before args s = true from hpre))
  obtain ⟨h1, r1⟩ := and_e hg
  obtain ⟨a0, r2⟩ := and_e r1
  obtain ⟨a1, r3⟩ := and_e r2
  obtain ⟨a2, r4⟩ := and_e r3
  obtain ⟨w0, w1, w2, w3, rfl⟩ : ∃ w0 w1 w2 w3 : Value, args = #[w0, w1, w2, w3] := by
    have hs : args.size = 4 := by simpa [Cond.value, given_1] using h1
    obtain ⟨L⟩ := args
    match L, hs with
    | [w0, w1, w2, w3], _ => exact ⟨w0, w1, w2, w3, rfl⟩
  have hw := fun d (hd : d ∈ tables_1) => atoms_spec (ws := Jvm.Cond.code x code maxLocals ret :: tables_1) hat d (List.mem_cons_of_mem _ hd)
  obtain ⟨hsets, hown0⟩ := atoms_of _ (rest_1_c_eq ▸ (show rest_1_c.before _ s = true from hrest))
  have hfit : Fit s := fun {y c} hc i hi => by
    obtain ⟨ha, rfl⟩ := Array.getElem?_eq_some_iff.mp hc
    have q := List.all_eq_true.mp ((Array.all_eq_true_iff_forall_mem.mp hF) _ (Array.getElem_mem ha)) i (List.mem_range.mpr hi)
    simpa [Array.getElem?_eq_getElem hi] using q
  obtain ⟨i0, ei0⟩ := isL_v a0
  obtain rfl : w0 = (.long i0) := Option.some.inj ei0
  obtain ⟨i1, ei1⟩ := isL_v a1
  obtain rfl : w1 = (.long i1) := Option.some.inj ei1
  obtain ⟨i2, ei2⟩ := isL_v a2
  obtain rfl : w2 = (.long i2) := Option.some.inj ei2
  obtain ⟨i3, ei3⟩ := isL_v r4
  obtain rfl : w3 = (.long i3) := Option.some.inj ei3
  have q0 := Cond.before_iff.mp (hsets _ (List.mem_of_getElem? (i := 2) rfl))
  obtain ⟨vq, eq1, fq⟩ := static_fit hfit (hsets _ (List.mem_of_getElem? (i := 0) rfl)) (ty := .boolean) (by decide)
  obtain ⟨iq, rfl⟩ := fit_I fq (by simp)
  have e5 : iq = 1 := gotT (Cond.eq_ints eq1 (Term.int_eval (1))) q0
  subst e5
  have SD : Sta s s.heap "java/util/BitSet" "$assertionsDisabled" "Z" (.int 1) := Sta.start eq1 (Or.inl (hsets _ (List.mem_of_getElem? (i := 1) rfl)))
  obtain ⟨n, o, h1, h2, h3, _, L, rfl, ⟨rfl, N⟩, hq⟩ := rm0 l s _ hw tables_1 i0 i1 i2 i3 s.heap s.heap.size (Old.start s) SD p e ha hc hk s m _ below hf ((Spec.applies_iff_loose hf).mp happ).1 ⟨rfl, State.Warmed39.refl s, rfl⟩ trivial
  refine ⟨n, _, h1, h2, h3, hpost _ _ _ _ _ _ ⟨Cond.after_iff.mpr rfl, Cond.after_iff.mpr (eq_i res_at (Term.int_eval (1)) rfl), trivial⟩ ⟨hq.1, hq.2.1, (hq.2.2.sift fun y hy => Or.inr (N y hy)).mono (by decide) (by decide)⟩⟩
theorem main_1_1 : Claimed_1_1 := comes_1 fun _ _ _ _ _ _ h hF => ⟨h.1, hF⟩
theorem main_1_2 : Claimed_1_2 := comes_1 fun _ _ _ _ _ _ h hF => ⟨h.2.1, hF⟩
end Jvm.Pilot.@@N@@
namespace Jvm.Pilot.@@N@@
open Jvm Jvm.ClassFile Sem Op Lib Jvm.Free Jvm.Stand Jvm.Pilot.@@N@@.Jvm.D
/-! MADE BY PROGRAM (witnessworld.py) out of the Statement's table words and the real class files: 13 classes; the members and pool entries that the words name. The judged class is class 1, her method 1. -/
namespace start1
open Jvm.ClassFile
def u (s : String) : CpInfo := .utf8 (stringToUtf16 s)
/-- a pool by its gaps: so many unusable entries, then the entry; so many at the end -/
def gap : Nat → List CpInfo → List CpInfo
  | 0, r => r
  | n + 1, r => .unusable :: gap n r
def poolList (es : List (Nat × CpInfo)) (last : Nat) : List CpInfo := es.foldr (fun e r => gap e.1 (e.2 :: r)) (gap last [])
def pool (es : List (Nat × CpInfo)) (last : Nat) : Array CpInfo := ⟨poolList es last⟩
def fileOf (pool : Array CpInfo) (this : Nat) (attrs : Array Attribute := #[]) (ms : Array MethodInfo := #[]) (fl : Nat := 33) (sup : Nat := 0) (ifs : Array Nat := #[]) (fds : Array FieldInfo := #[]) : ClassFile where
  minorVersion := 0
  majorVersion := 65
  constantPool := pool
  accessFlags := fl
  thisClass := this
  superClass := sup
  interfaces := ifs
  fields := fds
  methods := ms
  attributes := attrs
def plain (name : String) (sup : Option ClassId) : Class where
  name := name
  kind := .ordinary
  loader := none
  accessFlags := 33
  super := sup
  interfaces := #[]
  cf := none
  fields := #[]
  methods := #[]
  instanceTypes := #[]
  staticTypes := #[]
  resolved := #[]
  callSites := []
  init := .initialized
  statics := none
  mirror := none

def pool0 : Array CpInfo := pool [(5, u "<init>"), (0, u "()V"), (1, .class_ 10), (1, u "java/lang/Object")] 113

def k0c0 : Code := { maxStack := 0, maxLocals := 1, code := object_method_1_code, exceptionTable := #[], attributes := #[] }
def k0m0 : Method := { name := "<init>", desc := "()V", sig := { parameters := [], returnType := none }, accessFlags := 1, code := some k0c0 }
/-- java/lang/Object -/
def k0 : Class := { plain "java/lang/Object" none with
  accessFlags := 33
  interfaces := #[]
  cf := some (fileOf pool0 8 #[] #[{ accessFlags := 1, nameIndex := 5, descriptorIndex := 6, attributes := #[] }] 33 0 #[] #[])
  fields := #[]
  methods := #[k0m0]
  instanceTypes := #[]
  staticTypes := #[]
  resolved := Array.replicate 124 none
  statics := none }

def pool1 : Array CpInfo := pool [(2, .class_ 4), (0, .nameAndType 5 6), (0, u "java/lang/Object"), (0, u "<init>"), (0, u "()V"), (0, .methodref 8 9), (0, .class_ 10), (0, .nameAndType 11 12), (0, u "java/lang/Math"), (0, u "min"), (0, u "(JJ)J"), (0, .methodref 8 14), (0, .nameAndType 15 12), (0, u "max"), (0, .class_ 17), (0, u "com/example/assayline/assayline/engine/SegmentIndex"), (0, .methodref 16 3), (0, .methodref 16 20), (0, .nameAndType 21 22), (0, u "last"), (0, u "()J"), (0, .methodref 16 24), (0, .nameAndType 25 26), (0, u "add"), (0, u "(JJ)V"), (0, .long 2), (1, .class_ 30), (0, u "com/example/assayline/assayline/engine/SegmentIndexLastPinLaw"), (2, u "law"), (0, u "(JJJJ)Z")] 3

def k1m0 : Method := { name := "<init>", desc := "()V", sig := { parameters := [], returnType := none }, accessFlags := 1, code := none }
def k1c1 : Code := { maxStack := 7, maxLocals := 16, code := code, exceptionTable := #[], attributes := #[] }
def k1m1 : Method := { name := "law", desc := "(JJJJ)Z", sig := { parameters := [.long, .long, .long, .long], returnType := some .boolean }, accessFlags := 9, code := some k1c1 }
/-- com/example/assayline/assayline/engine/SegmentIndexLastPinLaw -/
def k1 : Class := { plain "com/example/assayline/assayline/engine/SegmentIndexLastPinLaw" (some 0) with
  accessFlags := 49
  interfaces := #[]
  cf := some (fileOf pool1 29 #[] #[{ accessFlags := 1, nameIndex := 5, descriptorIndex := 6, attributes := #[] }, { accessFlags := 9, nameIndex := 33, descriptorIndex := 34, attributes := #[] }] 49 2 #[] #[])
  fields := #[]
  methods := #[k1m0, k1m1]
  instanceTypes := #[]
  staticTypes := #[]
  resolved := Array.replicate 38 none
  statics := none }

def pool2 : Array CpInfo := pool [(1, .class_ 2), (0, u "java/lang/Math"), (1, .class_ 6), (1, u "java/lang/Object"), (0, u "<init>"), (0, u "()V"), (89, .class_ 100), (1, u "java/lang/Math$RandomNumberGeneratorHolder"), (20, u "(JJ)J"), (50, u "negativeZeroFloatBits"), (0, u "J"), (2, u "negativeZeroDoubleBits"), (21, u "max"), (2, u "min"), (43, u "$assertionsDisabled"), (0, u "Z"), (91, u "twoToTheDoubleScaleDown"), (0, u "D"), (4, u "twoToTheDoubleScaleUp"), (9, u "E"), (3, u "PI"), (2, u "TAU"), (2, u "DEGREES_TO_RADIANS"), (0, u "RADIANS_TO_DEGREES")] 94

def k2m0 : Method := { name := "<init>", desc := "()V", sig := { parameters := [], returnType := none }, accessFlags := 2, code := none }
def k2c1 : Code := { maxStack := 4, maxLocals := 4, code := jdk_29_method_66_code, exceptionTable := #[], attributes := #[] }
def k2m1 : Method := { name := "max", desc := "(JJ)J", sig := { parameters := [.long, .long], returnType := some .long }, accessFlags := 9, code := some k2c1 }
def k2c2 : Code := { maxStack := 4, maxLocals := 4, code := jdk_29_method_70_code, exceptionTable := #[], attributes := #[] }
def k2m2 : Method := { name := "min", desc := "(JJ)J", sig := { parameters := [.long, .long], returnType := some .long }, accessFlags := 9, code := some k2c2 }
/-- java/lang/Math -/
def k2 : Class := { plain "java/lang/Math" (some 0) with
  accessFlags := 49
  interfaces := #[]
  cf := some (fileOf pool2 1 #[.nestMembers #[98]] #[{ accessFlags := 2, nameIndex := 7, descriptorIndex := 8, attributes := #[] }, { accessFlags := 9, nameIndex := 198, descriptorIndex := 121, attributes := #[] }, { accessFlags := 9, nameIndex := 201, descriptorIndex := 121, attributes := #[] }] 49 4 #[] #[{ accessFlags := 25, nameIndex := 354, descriptorIndex := 339, attributes := #[] }, { accessFlags := 25, nameIndex := 358, descriptorIndex := 339, attributes := #[] }, { accessFlags := 25, nameIndex := 361, descriptorIndex := 339, attributes := #[] }, { accessFlags := 26, nameIndex := 364, descriptorIndex := 339, attributes := #[] }, { accessFlags := 26, nameIndex := 365, descriptorIndex := 339, attributes := #[] }, { accessFlags := 26, nameIndex := 172, descriptorIndex := 173, attributes := #[] }, { accessFlags := 26, nameIndex := 176, descriptorIndex := 173, attributes := #[] }, { accessFlags := 8, nameIndex := 344, descriptorIndex := 339, attributes := #[] }, { accessFlags := 8, nameIndex := 338, descriptorIndex := 339, attributes := #[] }, { accessFlags := 4120, nameIndex := 245, descriptorIndex := 246, attributes := #[] }])
  fields := #[{ name := "E", type := .double, accessFlags := 25, slot := 0, constantValue := 0 }, { name := "PI", type := .double, accessFlags := 25, slot := 1, constantValue := 0 }, { name := "TAU", type := .double, accessFlags := 25, slot := 2, constantValue := 0 }, { name := "DEGREES_TO_RADIANS", type := .double, accessFlags := 26, slot := 3, constantValue := 0 }, { name := "RADIANS_TO_DEGREES", type := .double, accessFlags := 26, slot := 4, constantValue := 0 }, { name := "negativeZeroFloatBits", type := .long, accessFlags := 26, slot := 5, constantValue := 0 }, { name := "negativeZeroDoubleBits", type := .long, accessFlags := 26, slot := 6, constantValue := 0 }, { name := "twoToTheDoubleScaleUp", type := .double, accessFlags := 8, slot := 7, constantValue := 0 }, { name := "twoToTheDoubleScaleDown", type := .double, accessFlags := 8, slot := 8, constantValue := 0 }, { name := "$assertionsDisabled", type := .boolean, accessFlags := 4120, slot := 9, constantValue := 0 }]
  methods := #[k2m0, k2m1, k2m2]
  instanceTypes := #[]
  staticTypes := #[.double, .double, .double, .double, .double, .long, .long, .double, .double, .boolean]
  resolved := Array.replicate 460 none
  statics := none }

def pool3 : Array CpInfo := pool [(1, .methodref 2 3), (0, .class_ 4), (0, .nameAndType 5 6), (0, u "java/lang/Object"), (0, u "<init>"), (0, u "()V"), (0, .class_ 8), (0, u "com/example/assayline/assayline/engine/SegmentIndex"), (0, .fieldref 7 10), (0, .nameAndType 11 12), (0, u "positions"), (0, u "[J"), (0, .fieldref 7 14), (0, .nameAndType 15 12), (0, u "offsets"), (0, .class_ 17), (0, u "java/util/BitSet"), (0, .methodref 16 3), (0, .fieldref 7 20), (0, .nameAndType 21 22), (0, u "waiting"), (0, u "Ljava/util/BitSet;"), (0, .fieldref 7 24), (0, .nameAndType 25 26), (0, u "count"), (0, u "I"), (6, .methodref 16 34), (0, .nameAndType 35 36), (0, u "set"), (0, u "(I)V"), (43, u "add"), (1, u "FIRST_CAPACITY"), (4, u "(JJ)V"), (1, u "last"), (0, u "()J")] 18

def k3c0 : Code := { maxStack := 3, maxLocals := 1, code := prog_39_method_1_code, exceptionTable := #[], attributes := #[] }
def k3m0 : Method := { name := "<init>", desc := "()V", sig := { parameters := [], returnType := none }, accessFlags := 0, code := some k3c0 }
def k3c1 : Code := { maxStack := 4, maxLocals := 5, code := prog_39_method_2_code, exceptionTable := #[], attributes := #[] }
def k3m1 : Method := { name := "add", desc := "(JJ)V", sig := { parameters := [.long, .long], returnType := none }, accessFlags := 0, code := some k3c1 }
def k3c2 : Code := { maxStack := 3, maxLocals := 1, code := prog_39_method_4_code, exceptionTable := #[], attributes := #[] }
def k3m2 : Method := { name := "last", desc := "()J", sig := { parameters := [], returnType := some .long }, accessFlags := 0, code := some k3c2 }
/-- com/example/assayline/assayline/engine/SegmentIndex -/
def k3 : Class := { plain "com/example/assayline/assayline/engine/SegmentIndex" (some 0) with
  accessFlags := 48
  interfaces := #[]
  cf := some (fileOf pool3 7 #[] #[{ accessFlags := 0, nameIndex := 5, descriptorIndex := 6, attributes := #[] }, { accessFlags := 0, nameIndex := 80, descriptorIndex := 87, attributes := #[] }, { accessFlags := 0, nameIndex := 89, descriptorIndex := 90, attributes := #[] }] 48 2 #[] #[{ accessFlags := 26, nameIndex := 82, descriptorIndex := 26, attributes := #[] }, { accessFlags := 2, nameIndex := 11, descriptorIndex := 12, attributes := #[] }, { accessFlags := 2, nameIndex := 15, descriptorIndex := 12, attributes := #[] }, { accessFlags := 2, nameIndex := 25, descriptorIndex := 26, attributes := #[] }, { accessFlags := 18, nameIndex := 21, descriptorIndex := 22, attributes := #[] }])
  fields := #[{ name := "FIRST_CAPACITY", type := .int, accessFlags := 26, slot := 0, constantValue := 0 }, { name := "positions", type := (.array .long), accessFlags := 2, slot := 0, constantValue := 0 }, { name := "offsets", type := (.array .long), accessFlags := 2, slot := 1, constantValue := 0 }, { name := "count", type := .int, accessFlags := 2, slot := 2, constantValue := 0 }, { name := "waiting", type := (.object "java/util/BitSet"), accessFlags := 18, slot := 3, constantValue := 0 }]
  methods := #[k3m0, k3m1, k3m2]
  instanceTypes := #[(.array .long), (.array .long), .int, (.object "java/util/BitSet")]
  staticTypes := #[.int]
  resolved := Array.replicate 109 none
  statics := none }

def pool4 : Array CpInfo := pool [(1, .class_ 2), (0, u "java/lang/Cloneable"), (0, .class_ 4), (0, u "java/lang/Object")] 2

/-- java/lang/Cloneable -/
def k4 : Class := { plain "java/lang/Cloneable" (some 0) with
  accessFlags := 1537
  interfaces := #[]
  cf := some (fileOf pool4 1 #[] #[] 1537 3 #[] #[])
  fields := #[]
  methods := #[]
  instanceTypes := #[]
  staticTypes := #[]
  resolved := Array.replicate 7 none
  statics := none }

def pool5 : Array CpInfo := pool [(1, .class_ 2), (0, u "java/io/Serializable"), (0, .class_ 4), (0, u "java/lang/Object")] 2

/-- java/io/Serializable -/
def k5 : Class := { plain "java/io/Serializable" (some 0) with
  accessFlags := 1537
  interfaces := #[]
  cf := some (fileOf pool5 1 #[] #[] 1537 3 #[] #[])
  fields := #[]
  methods := #[]
  instanceTypes := #[]
  staticTypes := #[]
  resolved := Array.replicate 7 none
  statics := none }

def pool6 : Array CpInfo := pool [(1, .class_ 2), (0, u "java/util/BitSet"), (0, .fieldref 1 4), (0, .nameAndType 5 6), (0, u "$assertionsDisabled"), (0, u "Z"), (0, .fieldref 1 8), (0, .nameAndType 9 10), (0, u "wordsInUse"), (0, u "I"), (0, .fieldref 1 12), (0, .nameAndType 13 14), (0, u "words"), (0, u "[J"), (3, .nameAndType 19 20), (0, u "<init>"), (0, u "()V"), (0, .methodref 22 18), (0, .class_ 23), (0, u "java/lang/Object"), (0, .fieldref 1 25), (0, .nameAndType 26 6), (0, u "sizeIsSticky"), (0, .methodref 1 28), (0, .nameAndType 29 30), (0, u "initWords"), (0, u "(I)V"), (21, .methodref 1 53), (0, .nameAndType 54 55), (0, u "wordIndex"), (0, u "(I)I"), (0, .methodref 1 57), (0, .nameAndType 58 20), (0, u "checkInvariants"), (80, .methodref 1 140), (0, .nameAndType 141 30), (0, u "ensureCapacity"), (13, .methodref 1 156), (0, .nameAndType 157 30), (0, u "expandTo"), (11, u "set"), (99, .class_ 270), (0, u "java/util/BitSet$1BitSetSpliterator"), (22, u "serialPersistentFields"), (0, u "[Ljava/io/ObjectStreamField;"), (0, .class_ 296), (0, u "java/lang/Cloneable"), (0, .class_ 298), (0, u "java/io/Serializable"), (0, u "ADDRESS_BITS_PER_WORD"), (2, u "BITS_PER_WORD"), (1, u "BIT_INDEX_MASK"), (1, u "WORD_MASK"), (0, u "J"), (0, u "serialVersionUID")] 108

def k6c0 : Code := { maxStack := 2, maxLocals := 1, code := jdk_92_method_1_code, exceptionTable := #[], attributes := #[] }
def k6m0 : Method := { name := "wordIndex", desc := "(I)I", sig := { parameters := [.int], returnType := some .int }, accessFlags := 10, code := some k6c0 }
def k6c1 : Code := { maxStack := 4, maxLocals := 1, code := jdk_92_method_2_code, exceptionTable := #[], attributes := #[] }
def k6m1 : Method := { name := "checkInvariants", desc := "()V", sig := { parameters := [], returnType := none }, accessFlags := 2, code := some k6c1 }
def k6c2 : Code := { maxStack := 2, maxLocals := 1, code := jdk_92_method_4_code, exceptionTable := #[], attributes := #[] }
def k6m2 : Method := { name := "<init>", desc := "()V", sig := { parameters := [], returnType := none }, accessFlags := 1, code := some k6c2 }
def k6c3 : Code := { maxStack := 3, maxLocals := 2, code := jdk_92_method_6_code, exceptionTable := #[], attributes := #[] }
def k6m3 : Method := { name := "initWords", desc := "(I)V", sig := { parameters := [.int], returnType := none }, accessFlags := 2, code := some k6c3 }
def k6c4 : Code := { maxStack := 3, maxLocals := 3, code := jdk_92_method_14_code, exceptionTable := #[], attributes := #[] }
def k6m4 : Method := { name := "ensureCapacity", desc := "(I)V", sig := { parameters := [.int], returnType := none }, accessFlags := 2, code := some k6c4 }
def k6c5 : Code := { maxStack := 2, maxLocals := 3, code := jdk_92_method_15_code, exceptionTable := #[], attributes := #[] }
def k6m5 : Method := { name := "expandTo", desc := "(I)V", sig := { parameters := [.int], returnType := none }, accessFlags := 2, code := some k6c5 }
def k6c6 : Code := { maxStack := 7, maxLocals := 3, code := jdk_92_method_19_code, exceptionTable := #[], attributes := #[] }
def k6m6 : Method := { name := "set", desc := "(I)V", sig := { parameters := [.int], returnType := none }, accessFlags := 1, code := some k6c6 }
/-- java/util/BitSet -/
def k6 : Class := { plain "java/util/BitSet" (some 0) with
  accessFlags := 33
  interfaces := #[4, 5]
  cf := some (fileOf pool6 1 #[.nestMembers #[269]] #[{ accessFlags := 10, nameIndex := 54, descriptorIndex := 55, attributes := #[] }, { accessFlags := 2, nameIndex := 58, descriptorIndex := 20, attributes := #[] }, { accessFlags := 1, nameIndex := 19, descriptorIndex := 20, attributes := #[] }, { accessFlags := 2, nameIndex := 29, descriptorIndex := 30, attributes := #[] }, { accessFlags := 2, nameIndex := 141, descriptorIndex := 30, attributes := #[] }, { accessFlags := 2, nameIndex := 157, descriptorIndex := 30, attributes := #[] }, { accessFlags := 1, nameIndex := 169, descriptorIndex := 30, attributes := #[] }] 33 22 #[295, 297] #[{ accessFlags := 26, nameIndex := 299, descriptorIndex := 10, attributes := #[] }, { accessFlags := 26, nameIndex := 302, descriptorIndex := 10, attributes := #[] }, { accessFlags := 26, nameIndex := 304, descriptorIndex := 10, attributes := #[] }, { accessFlags := 26, nameIndex := 306, descriptorIndex := 307, attributes := #[] }, { accessFlags := 26, nameIndex := 293, descriptorIndex := 294, attributes := #[] }, { accessFlags := 2, nameIndex := 13, descriptorIndex := 14, attributes := #[] }, { accessFlags := 130, nameIndex := 9, descriptorIndex := 10, attributes := #[] }, { accessFlags := 130, nameIndex := 26, descriptorIndex := 6, attributes := #[] }, { accessFlags := 26, nameIndex := 308, descriptorIndex := 307, attributes := #[] }, { accessFlags := 4120, nameIndex := 5, descriptorIndex := 6, attributes := #[] }])
  fields := #[{ name := "ADDRESS_BITS_PER_WORD", type := .int, accessFlags := 26, slot := 0, constantValue := 0 }, { name := "BITS_PER_WORD", type := .int, accessFlags := 26, slot := 1, constantValue := 0 }, { name := "BIT_INDEX_MASK", type := .int, accessFlags := 26, slot := 2, constantValue := 0 }, { name := "WORD_MASK", type := .long, accessFlags := 26, slot := 3, constantValue := 0 }, { name := "serialPersistentFields", type := (.array (.object "java/io/ObjectStreamField")), accessFlags := 26, slot := 4, constantValue := 0 }, { name := "words", type := (.array .long), accessFlags := 2, slot := 0, constantValue := 0 }, { name := "wordsInUse", type := .int, accessFlags := 130, slot := 1, constantValue := 0 }, { name := "sizeIsSticky", type := .boolean, accessFlags := 130, slot := 2, constantValue := 0 }, { name := "serialVersionUID", type := .long, accessFlags := 26, slot := 5, constantValue := 0 }, { name := "$assertionsDisabled", type := .boolean, accessFlags := 4120, slot := 6, constantValue := 0 }]
  methods := #[k6m0, k6m1, k6m2, k6m3, k6m4, k6m5, k6m6]
  instanceTypes := #[(.array .long), .int, .boolean]
  staticTypes := #[.int, .int, .int, .long, (.array (.object "java/io/ObjectStreamField")), .long, .boolean]
  resolved := Array.replicate 417 none
  statics := some 0 }

/-- the primitive byte -/
def k7 : Class := { plain "byte" none with kind := .primitive 'B', accessFlags := 0x411 }
/-- [B -/
def k8 : Class := { plain "[B" (some 0) with kind := .array 7 .byte, interfaces := #[4, 5], accessFlags := 1041 }

/-- the primitive int -/
def k9 : Class := { plain "int" none with kind := .primitive 'I', accessFlags := 0x411 }
/-- [I -/
def k10 : Class := { plain "[I" (some 0) with kind := .array 9 .int, interfaces := #[4, 5], accessFlags := 1041 }

/-- the primitive long -/
def k11 : Class := { plain "long" none with kind := .primitive 'J', accessFlags := 0x411 }
/-- [J -/
def k12 : Class := { plain "[J" (some 0) with kind := .array 11 .long, interfaces := #[4, 5], accessFlags := 1041 }

def heap : Heap := #[{ cls := 6, slots := #[.int 0, .int 0, .int 0, .long 0, .null, .long 0, .int 1], vm := .statics 6 }]
def classes : Array Class := #[k0, k1, k2, k3, k4, k5, k6, k7, k8, k9, k10, k11, k12]
def interned : List (Array UInt16 × Addr) := []
def slotsUsed : Nat := 7
def theMethod : MethodId := ⟨1, 1⟩
def args0 : Array Value := #[.long 5, .long 3, .long 7, .long 9]
def aboutOver (below : List Frame) : State where
  vm := { classes := classes, interned := interned.toArray }
  heap := heap
  slotsUsed := slotsUsed
  threads := #[{ frames := .invoking theMethod args0 :: below }]
def below0 : List Frame := [.native { method := ⟨0, 0⟩, args := #[] }]
def about1 : State := aboutOver below0
def p0 : Program := .bare "" "" ""
def e0 : Env := launch0.env 0 0 0
theorem w_frames : about1.frames = Frame.invoking theMethod args0 :: below0 := rfl
set_option maxRecDepth 65536 in
theorem w_args : argsFit about1.vm theMethod args0 = true := by decide +kernel
set_option maxRecDepth 65536 in
theorem w_heap : heapFits about1 = true := by decide +kernel
set_option maxRecDepth 65536 in
theorem w_runnable : about1.curStatus? = some .runnable := by decide +kernel
set_option maxRecDepth 65536 in
theorem w_alone : about1.alone = true := by decide +kernel
set_option maxRecDepth 65536 in
theorem w_named : about1.methodNamed? x = some theMethod := by decide +kernel
set_option maxRecDepth 65536 in
theorem w_hears : about1.hears theMethod below0 = true := by decide +kernel
set_option maxRecDepth 65536 in
theorem w_ripe : about1.ripe theMethod args0 below0 = true := by decide +kernel
theorem w_running : about1.status = .running := rfl
set_option maxRecDepth 65536 in
theorem w_room : about1.hasRoom e0.platform room_1 = true :=
  launch0.hasRoom_least _ room_1 (by decide +kernel) (by decide +kernel) (by decide +kernel) (by decide +kernel) (by decide +kernel) (by decide +kernel)
theorem allAtoms_all (ts : List Jvm.Cond) (a : Array Jvm.Value) (st : Jvm.State) : (allAtoms ts).before a st = ts.all (fun c => c.before a st) := by
  induction ts with
  | nil => rfl
  | cons c t ih =>
    show (Jvm.Cond.and c (allAtoms t)).before a st = _
    rw [Jvm.Cond.before_and, ih, List.all_cons]
def words1 : List Jvm.Cond := Jvm.Cond.code x code maxLocals ret :: tables_1
/-- a 'code' word, met by the world's own term for the bytes: nothing is compared byte by byte -/
theorem code_word {y : MethodName} {bytes : ByteArray} {mx : Nat} {rt : Option FieldType} {a : Array Value} {s : State} {m : MethodId} {meth : Method} {c : Code} (h1 : s.methodNamed? y = some m) (h2 : s.vm.method? m = some meth) (h3 : meth.code = some c) (h4 : c.code = bytes)
    (h5 : (c.maxLocals == mx && c.exceptionTable.isEmpty && decide (c.maxStack ≤ mostOperands) && decide (meth.sig.returnType = rt) && !meth.locks && decide (parseMethodDescriptor y.desc = some meth.sig)) = true) : (Jvm.Cond.code y bytes mx rt).before a s = true := by
  simp only [Bool.and_eq_true, beq_iff_eq, Bool.not_eq_true', decide_eq_true_eq] at h5
  obtain ⟨⟨⟨⟨⟨g1, g2⟩, g3⟩, g4⟩, g5⟩, g6⟩ := h5
  simp [Cond.before, Cond.holds, Cond.value, h1, h2, h3, h4, g1, g2, g3, g4, g5, g6]
def isCode : Jvm.Cond → Bool
  | .code _ _ _ _ => true
  | _ => false
theorem all_split {L : List Jvm.Cond} {P : Jvm.Cond → Bool} (h1 : L.all (fun c => isCode c || P c) = true) (h2 : ∀ c ∈ L.filter isCode, P c = true) : L.all P = true := by
  refine List.all_eq_true.mpr fun c hc => ?_
  have h := List.all_eq_true.mp h1 c hc
  rcases Bool.eq_false_or_eq_true (isCode c) with hi | hi
  · exact h2 c (List.mem_filter.mpr ⟨hc, hi⟩)
  · simpa [hi] using h
set_option maxRecDepth 65536 in
theorem w_c0 : (Jvm.Cond.code x code maxLocals ret).before args0 about1 = true := code_word (m := ⟨1, 1⟩) (meth := k1m1) (c := k1c1) (by decide +kernel) rfl rfl rfl (by decide +kernel)
set_option maxRecDepth 65536 in
theorem w_c1 : (Jvm.Cond.code ({ cls := "java/lang/Math", name := "min", desc := "(JJ)J" } : Jvm.MethodName) jdk_29_method_70_code (4 : Nat) (Option.some Jvm.ClassFile.FieldType.long)).before args0 about1 = true := code_word (m := ⟨2, 2⟩) (meth := k2m2) (c := k2c2) (by decide +kernel) rfl rfl rfl (by decide +kernel)
set_option maxRecDepth 65536 in
theorem w_c2 : (Jvm.Cond.code ({ cls := "java/lang/Math", name := "max", desc := "(JJ)J" } : Jvm.MethodName) jdk_29_method_66_code (4 : Nat) (Option.some Jvm.ClassFile.FieldType.long)).before args0 about1 = true := code_word (m := ⟨2, 1⟩) (meth := k2m1) (c := k2c1) (by decide +kernel) rfl rfl rfl (by decide +kernel)
set_option maxRecDepth 65536 in
theorem w_c3 : (Jvm.Cond.code ({ cls := "com/example/assayline/assayline/engine/SegmentIndex", name := "<init>", desc := "()V" } : Jvm.MethodName) prog_39_method_1_code (1 : Nat) (Option.none : Option Jvm.ClassFile.FieldType)).before args0 about1 = true := code_word (m := ⟨3, 0⟩) (meth := k3m0) (c := k3c0) (by decide +kernel) rfl rfl rfl (by decide +kernel)
set_option maxRecDepth 65536 in
theorem w_c4 : (Jvm.Cond.code ({ cls := "java/lang/Object", name := "<init>", desc := "()V" } : Jvm.MethodName) object_method_1_code (1 : Nat) (Option.none : Option Jvm.ClassFile.FieldType)).before args0 about1 = true := code_word (m := ⟨0, 0⟩) (meth := k0m0) (c := k0c0) (by decide +kernel) rfl rfl rfl (by decide +kernel)
set_option maxRecDepth 65536 in
theorem w_c5 : (Jvm.Cond.code ({ cls := "java/util/BitSet", name := "<init>", desc := "()V" } : Jvm.MethodName) jdk_92_method_4_code (1 : Nat) (Option.none : Option Jvm.ClassFile.FieldType)).before args0 about1 = true := code_word (m := ⟨6, 2⟩) (meth := k6m2) (c := k6c2) (by decide +kernel) rfl rfl rfl (by decide +kernel)
set_option maxRecDepth 65536 in
theorem w_c6 : (Jvm.Cond.code ({ cls := "java/util/BitSet", name := "initWords", desc := "(I)V" } : Jvm.MethodName) jdk_92_method_6_code (2 : Nat) (Option.none : Option Jvm.ClassFile.FieldType)).before args0 about1 = true := code_word (m := ⟨6, 3⟩) (meth := k6m3) (c := k6c3) (by decide +kernel) rfl rfl rfl (by decide +kernel)
set_option maxRecDepth 65536 in
theorem w_c7 : (Jvm.Cond.code ({ cls := "java/util/BitSet", name := "wordIndex", desc := "(I)I" } : Jvm.MethodName) jdk_92_method_1_code (1 : Nat) (Option.some Jvm.ClassFile.FieldType.int)).before args0 about1 = true := code_word (m := ⟨6, 0⟩) (meth := k6m0) (c := k6c0) (by decide +kernel) rfl rfl rfl (by decide +kernel)
set_option maxRecDepth 65536 in
theorem w_c8 : (Jvm.Cond.code ({ cls := "com/example/assayline/assayline/engine/SegmentIndex", name := "last", desc := "()J" } : Jvm.MethodName) prog_39_method_4_code (1 : Nat) (Option.some Jvm.ClassFile.FieldType.long)).before args0 about1 = true := code_word (m := ⟨3, 2⟩) (meth := k3m2) (c := k3c2) (by decide +kernel) rfl rfl rfl (by decide +kernel)
set_option maxRecDepth 65536 in
theorem w_c9 : (Jvm.Cond.code ({ cls := "com/example/assayline/assayline/engine/SegmentIndex", name := "add", desc := "(JJ)V" } : Jvm.MethodName) prog_39_method_2_code (5 : Nat) (Option.none : Option Jvm.ClassFile.FieldType)).before args0 about1 = true := code_word (m := ⟨3, 1⟩) (meth := k3m1) (c := k3c1) (by decide +kernel) rfl rfl rfl (by decide +kernel)
set_option maxRecDepth 65536 in
theorem w_c10 : (Jvm.Cond.code ({ cls := "java/util/BitSet", name := "set", desc := "(I)V" } : Jvm.MethodName) jdk_92_method_19_code (3 : Nat) (Option.none : Option Jvm.ClassFile.FieldType)).before args0 about1 = true := code_word (m := ⟨6, 6⟩) (meth := k6m6) (c := k6c6) (by decide +kernel) rfl rfl rfl (by decide +kernel)
set_option maxRecDepth 65536 in
theorem w_c11 : (Jvm.Cond.code ({ cls := "java/util/BitSet", name := "expandTo", desc := "(I)V" } : Jvm.MethodName) jdk_92_method_15_code (3 : Nat) (Option.none : Option Jvm.ClassFile.FieldType)).before args0 about1 = true := code_word (m := ⟨6, 5⟩) (meth := k6m5) (c := k6c5) (by decide +kernel) rfl rfl rfl (by decide +kernel)
set_option maxRecDepth 65536 in
theorem w_c12 : (Jvm.Cond.code ({ cls := "java/util/BitSet", name := "ensureCapacity", desc := "(I)V" } : Jvm.MethodName) jdk_92_method_14_code (3 : Nat) (Option.none : Option Jvm.ClassFile.FieldType)).before args0 about1 = true := code_word (m := ⟨6, 4⟩) (meth := k6m4) (c := k6c4) (by decide +kernel) rfl rfl rfl (by decide +kernel)
set_option maxRecDepth 65536 in
theorem w_c13 : (Jvm.Cond.code ({ cls := "java/util/BitSet", name := "checkInvariants", desc := "()V" } : Jvm.MethodName) jdk_92_method_2_code (1 : Nat) (Option.none : Option Jvm.ClassFile.FieldType)).before args0 about1 = true := code_word (m := ⟨6, 1⟩) (meth := k6m1) (c := k6c1) (by decide +kernel) rfl rfl rfl (by decide +kernel)
def codes1 : List Jvm.Cond := [Jvm.Cond.code x code maxLocals ret, Jvm.Cond.code ({ cls := "java/lang/Math", name := "min", desc := "(JJ)J" } : Jvm.MethodName) jdk_29_method_70_code (4 : Nat) (Option.some Jvm.ClassFile.FieldType.long), Jvm.Cond.code ({ cls := "java/lang/Math", name := "max", desc := "(JJ)J" } : Jvm.MethodName) jdk_29_method_66_code (4 : Nat) (Option.some Jvm.ClassFile.FieldType.long), Jvm.Cond.code ({ cls := "com/example/assayline/assayline/engine/SegmentIndex", name := "<init>", desc := "()V" } : Jvm.MethodName) prog_39_method_1_code (1 : Nat) (Option.none : Option Jvm.ClassFile.FieldType), Jvm.Cond.code ({ cls := "java/lang/Object", name := "<init>", desc := "()V" } : Jvm.MethodName) object_method_1_code (1 : Nat) (Option.none : Option Jvm.ClassFile.FieldType), Jvm.Cond.code ({ cls := "java/util/BitSet", name := "<init>", desc := "()V" } : Jvm.MethodName) jdk_92_method_4_code (1 : Nat) (Option.none : Option Jvm.ClassFile.FieldType), Jvm.Cond.code ({ cls := "java/util/BitSet", name := "initWords", desc := "(I)V" } : Jvm.MethodName) jdk_92_method_6_code (2 : Nat) (Option.none : Option Jvm.ClassFile.FieldType), Jvm.Cond.code ({ cls := "java/util/BitSet", name := "wordIndex", desc := "(I)I" } : Jvm.MethodName) jdk_92_method_1_code (1 : Nat) (Option.some Jvm.ClassFile.FieldType.int), Jvm.Cond.code ({ cls := "com/example/assayline/assayline/engine/SegmentIndex", name := "last", desc := "()J" } : Jvm.MethodName) prog_39_method_4_code (1 : Nat) (Option.some Jvm.ClassFile.FieldType.long), Jvm.Cond.code ({ cls := "com/example/assayline/assayline/engine/SegmentIndex", name := "add", desc := "(JJ)V" } : Jvm.MethodName) prog_39_method_2_code (5 : Nat) (Option.none : Option Jvm.ClassFile.FieldType), Jvm.Cond.code ({ cls := "java/util/BitSet", name := "set", desc := "(I)V" } : Jvm.MethodName) jdk_92_method_19_code (3 : Nat) (Option.none : Option Jvm.ClassFile.FieldType), Jvm.Cond.code ({ cls := "java/util/BitSet", name := "expandTo", desc := "(I)V" } : Jvm.MethodName) jdk_92_method_15_code (3 : Nat) (Option.none : Option Jvm.ClassFile.FieldType), Jvm.Cond.code ({ cls := "java/util/BitSet", name := "ensureCapacity", desc := "(I)V" } : Jvm.MethodName) jdk_92_method_14_code (3 : Nat) (Option.none : Option Jvm.ClassFile.FieldType), Jvm.Cond.code ({ cls := "java/util/BitSet", name := "checkInvariants", desc := "()V" } : Jvm.MethodName) jdk_92_method_2_code (1 : Nat) (Option.none : Option Jvm.ClassFile.FieldType)]
set_option maxRecDepth 65536 in
theorem codes_eq : words1.filter isCode = codes1 := rfl
theorem w_codes : ∀ c ∈ words1.filter isCode, c.before args0 about1 = true := by
  rw [codes_eq]
  intro c hc
  simp only [codes1, List.mem_cons, List.not_mem_nil, or_false] at hc
  rcases hc with rfl | rfl | rfl | rfl | rfl | rfl | rfl | rfl | rfl | rfl | rfl | rfl | rfl | rfl
  · exact w_c0
  · exact w_c1
  · exact w_c2
  · exact w_c3
  · exact w_c4
  · exact w_c5
  · exact w_c6
  · exact w_c7
  · exact w_c8
  · exact w_c9
  · exact w_c10
  · exact w_c11
  · exact w_c12
  · exact w_c13
set_option maxRecDepth 65536 in
theorem w_t1 : (words1.take 24).all (fun c => isCode c || c.before args0 about1) = true := by decide +kernel
set_option maxRecDepth 65536 in
theorem w_t2 : ((words1.drop 24).take 24).all (fun c => isCode c || c.before args0 about1) = true := by decide +kernel
set_option maxRecDepth 65536 in
theorem w_t3 : (((words1.drop 24).drop 24).take 24).all (fun c => isCode c || c.before args0 about1) = true := by decide +kernel
set_option maxRecDepth 65536 in
theorem w_t4 : (((words1.drop 24).drop 24).drop 24).all (fun c => isCode c || c.before args0 about1) = true := by decide +kernel
theorem w_tables : (allAtoms (Jvm.Cond.code x code maxLocals ret :: tables_1)).before args0 about1 = true := by
  rw [allAtoms_all]
  show words1.all (fun c => c.before args0 about1) = true
  refine all_split ?_ w_codes
  rw [← List.take_append_drop 24 words1, List.all_append, w_t1, ← List.take_append_drop 24 (words1.drop 24), List.all_append, w_t2, ← List.take_append_drop 24 ((words1.drop 24).drop 24), List.all_append, w_t3, w_t4]
  rfl
set_option maxRecDepth 65536 in
theorem w_rest : rest_1_c.before args0 about1 = true := by decide +kernel
set_option maxRecDepth 65536 in
theorem w_case : (Jvm.Cond.and given_1 narrow_1).before args0 about1 = true := by decide +kernel
theorem w_applies : (headSpec (Jvm.Cond.code x code maxLocals ret :: tables_1) room_1).applies x e0.platform about1 = true :=
  (Spec.applies_iff w_frames).mpr ⟨w_running, w_runnable, w_alone, w_named, w_hears, w_ripe, w_room, w_tables⟩
theorem atStart : AtStart classFile x code maxLocals ret World_1 tables_1 room_1 Calls_1 rest_1 Pre_1 launch0 p0 e0 about1 theMethod args0 below0 :=
  ⟨lists_1, trivial, launch0.admits_env _ _ _, launch0.least_env, fairChoices_fair.cas, fairChoices_fair.clock, w_frames, w_args, w_heap, w_applies, trivial, w_rest, w_case⟩
end start1
theorem witness_1 : WitnessClaimed_1 := ⟨start1.p0, start1.e0, start1.about1, start1.theMethod, start1.args0, start1.below0, start1.atStart⟩
end Jvm.Pilot.@@N@@
