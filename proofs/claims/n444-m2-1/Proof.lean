import JvmDerived
import JvmDerived.Pilot.@@N@@Statement
import JvmDerived.Pilot.@@N@@Code
set_option linter.unusedVariables false
set_option linter.unusedSimpArgs false
namespace Jvm.RoadKit
open Sem ClassFile Op Lib Jvm.Stand Jvm.Free Jvm.LawKit
section New
variable {p : Program} {l : Launch} {e : Env} {R : Room} {s : State} {m : MethodId} {args : Array Value} {below : List Frame} {meth : Method} {c : Code} {T : State} {locs : List Loc} {cells slots : Nat}
theorem retI (X : Stand p l e R s m args below meth c T locs cells slots) (hx : p.tables.exec = Jvm.exec) {pc : Nat} {Ls : Array Slot} {z : Int32} {rest : List Value} (hret : meth.sig.returnType = some .int) (hd : decode c.code pc = .ok (.ireturn, 1)) {fs : List Frame}
    (hl : ∀ (f : JFrame) (acts : List Action), f.method = m → f.locked = none → f.entered = [] → (doReturn e (T.setTop f) acts (some (.int z))).1 = T.setFrames fs) : Steps p.tables e below (T.setTop (mkF m pc Ls (.int z :: rest))) (T.setFrames fs) := by
  have hm' : T.vm.method? m = some meth := X.method'
  have hn : narrow .int (.int z) = .int z := rfl
  show Steps p.tables e below (T.setTop { method := m, pc := pc, locals := Ls, stack := _ :: rest, locked := none }) _
  jvm_step X.here [X.here.top, hx, hd, hm', hret, hn]
  first | (intro acts; rw [hl _ acts rfl rfl rfl]) | rw [hl _ _ rfl rfl rfl]
  exact Steps.refl _
end New
end Jvm.RoadKit
set_option maxRecDepth 65536
namespace Jvm.FP.Core
theorem own_rrA {V X Y : Nat} (h : 2 * V ≤ 2 * X + Y) (K : 4503599627370496 * Y ≤ X) : V * 9007199254740992 ≤ X * 9007199254740993 := by omega
theorem own_rrB {V X Y : Nat} (h : 2 * X ≤ 2 * V + Y) (K : 4503599627370496 * Y ≤ X) : X * 9007199254740991 ≤ V * 9007199254740992 := by omega
theorem own_rr {A B : Nat} {e e0 : Int} (hA : 0 < A) (hB : 0 < B) (h0 : e0 ≤ b64.qmin) (h0e : e0 ≤ e)
    (hlow : 4503599627370496 * (B * 2 ^ (b64.qmin - e0).toNat) ≤ A * 2 ^ (e - e0).toNat) (hup : A * 2 ^ (e - e0).toNat ≤ 2 ^ 1500 * (B * 2 ^ (b64.qmin - e0).toNat)) :
    ∃ c q, roundRatio b64 false A B e = .fin false c q ∧ inUnits c q b64.qmin * (B * 2 ^ (b64.qmin - e0).toNat) * 9007199254740992 ≤ A * 2 ^ (e - e0).toNat * 9007199254740993 ∧ A * 2 ^ (e - e0).toNat * 9007199254740991 ≤ inUnits c q b64.qmin * (B * 2 ^ (b64.qmin - e0).toNat) * 9007199254740992 := by
  rcases roundRatio_cases b64 false A B e with ⟨c, q, hR⟩ | hR
  · refine ⟨c, q, hR, ?_⟩
    unfold roundRatio at hR
    rw [if_neg (by omega)] at hR
    unfold roundAt at hR
    have hq := quantum_ge b64 A B e
    have hnb := quantum_not_below (f := b64) hA hB e
    have hm := nearest_units_le (f := b64) hA hB e
    generalize quantum b64 A B e = r at *
    have hz := (settle_value good_b64 hm hR hq).2
    rw [hz]
    have hD := unitsDen_pos hB e r
    have hs := nearest_spec (unitsNum A e r) (unitsDen B e r) hD
    obtain ⟨hs1, hs2, -⟩ := hs
    -- the common factor
    have eA : A * 2 ^ (e - e0).toNat = unitsNum A e r * 2 ^ (min e r - e0).toNat := by
      unfold unitsNum
      rw [Nat.mul_assoc, ← Nat.pow_add]
      congr 2
      omega
    have eB : B * 2 ^ (r - e0).toNat = unitsDen B e r * 2 ^ (min e r - e0).toNat := by
      unfold unitsDen
      rw [Nat.mul_assoc, ← Nat.pow_add]
      congr 2
      omega
    have eZ : ∀ n, inUnits n r b64.qmin * (B * 2 ^ (b64.qmin - e0).toNat) = n * (B * 2 ^ (r - e0).toNat) := fun n => by
      unfold inUnits
      rw [show (r - e0).toNat = (r - b64.qmin).toNat + (b64.qmin - e0).toNat by omega, Nat.pow_add]
      ac_rfl
    have K : 4503599627370496 * unitsDen B e r ≤ unitsNum A e r := by
      rcases hnb with h | h
      · subst h
        rw [eA, eB] at hlow
        have hp := Nat.two_pow_pos (min e b64.qmin - e0).toNat
        rw [← Nat.mul_assoc] at hlow
        exact Nat.le_of_mul_le_mul_right hlow hp
      · rw [show ((b64.p : Int) - 1) = ((52 : Nat) : Int) from rfl, ← units_below] at h
        exact Nat.le_of_not_lt h
    rw [eZ, eA, eB]
    generalize unitsNum A e r = X at *
    generalize unitsDen B e r = Y at *
    generalize nearest X Y = n at *
    generalize 2 ^ (min e r - e0).toNat = M
    have hs1' : 2 * X ≤ 2 * (n * Y) + Y := by rw [Nat.add_mul, Nat.mul_assoc] at hs1; omega
    have hs2' : 2 * (n * Y) ≤ 2 * X + Y := by rw [Nat.mul_assoc] at hs2; exact hs2
    generalize hnY : n * Y = V at *
    have a1 := own_rrA hs2' K
    have a2 := own_rrB hs1' K
    have e1 : n * (Y * M) = V * M := by rw [← Nat.mul_assoc, hnY]
    rw [e1]
    constructor
    · calc V * M * 9007199254740992 = (V * 9007199254740992) * M := by ac_rfl
        _ ≤ (X * 9007199254740993) * M := Nat.mul_le_mul_right _ a1
        _ = X * M * 9007199254740993 := by ac_rfl
    · calc X * M * 9007199254740991 = (X * 9007199254740991) * M := by ac_rfl
        _ ≤ (V * 9007199254740992) * M := Nat.mul_le_mul_right _ a2
        _ = V * M * 9007199254740992 := by ac_rfl
  · exfalso
    have hV : fits b64 (.fin false (2 ^ 52) 500) := by unfold fits; decide +kernel
    have h := zmag_roundRatio_le good_b64 (s := false) hB hV (by intro h; cases h) h0 h0e (by
      unfold inUnits
      refine Nat.le_trans hup ?_
      rw [Nat.mul_assoc (zmag _ _), Nat.mul_comm (2 ^ _) B]
      exact Nat.mul_le_mul_right _ (by decide +kernel))
    rw [hR] at h
    revert h
    decide +kernel

def oU : Nat := 2 ^ 1074
/-- x is finite, not negative, and worth z units -/
def Pz (x : UInt64) (z : Nat) : Prop := ∃ c q, val64 x = .fin false c q ∧ inUnits c q b64.qmin = z
theorem own_qge {x : UInt64} {c : Nat} {q : Int} (h : val64 x = .fin false c q) : b64.qmin ≤ q := by
  have := val64_fits x
  rw [h] at this
  exact this.2.1
theorem own_qm : b64.qmin = -1074 := by decide
theorem own_dmul {x y : UInt64} {zx zy : Nat} (hx : Pz x zx) (hy : Pz y zy) (hl : zx * zy = 0 ∨ (4503599627370496 * oU ≤ zx * zy ∧ zx * zy ≤ 2 ^ 1500 * oU)) :
    ∃ z, Pz (dmul x y) z ∧ z * oU * 9007199254740992 ≤ zx * zy * 9007199254740993 ∧ zx * zy * 9007199254740991 ≤ z * oU * 9007199254740992 := by
  obtain ⟨c, q, hx, rfl⟩ := hx
  obtain ⟨d, r, hy, rfl⟩ := hy
  have hq := own_qge hx
  have hr := own_qge hy
  have ev : val64 (dmul x y) = roundRatio b64 false (c * d) 1 (q + r) := by
    rw [val64_dmul, hx, hy]
    rfl
  have eX : inUnits c q b64.qmin * inUnits d r b64.qmin = c * d * 2 ^ (q + r - 2 * b64.qmin).toNat := by
    unfold inUnits
    rw [show (q + r - 2 * b64.qmin).toNat = (q - b64.qmin).toNat + (r - b64.qmin).toNat by omega, Nat.pow_add]
    ac_rfl
  have eW : 1 * 2 ^ (b64.qmin - 2 * b64.qmin).toNat = oU := by rw [own_qm, Nat.one_mul]; rfl
  by_cases h0 : c * d = 0
  · refine ⟨0, ⟨0, b64.qmin, ?_, by unfold inUnits; omega⟩, ?_, ?_⟩
    · rw [ev, h0]
      rfl
    · rw [Nat.zero_mul, Nat.zero_mul]
      exact Nat.zero_le _
    · rw [eX, h0]
      omega
  · rw [eX] at hl ⊢
    have hl' := hl.resolve_left (fun h => by
      rcases Nat.mul_eq_zero.mp h with h | h
      · exact h0 h
      · exact absurd h (Nat.ne_of_gt (Nat.two_pow_pos _)))
    obtain ⟨c', q', hR, h1, h2⟩ := own_rr (A := c * d) (B := 1) (e := q + r) (e0 := 2 * b64.qmin) (by omega) (by decide) (by rw [own_qm]; decide) (by omega) (by rw [eW]; exact hl'.1) (by rw [eW]; exact hl'.2)
    rw [eW] at h1 h2
    exact ⟨_, ⟨c', q', ev.trans hR, rfl⟩, h1, h2⟩
theorem own_ddiv {x y : UInt64} {zx zy : Nat} (hx : Pz x zx) (hy : Pz y zy) (hpos : 0 < zy) (hl : zx = 0 ∨ (4503599627370496 * zy ≤ zx * oU ∧ zx * oU ≤ 2 ^ 1500 * zy)) :
    ∃ z, Pz (ddiv x y) z ∧ z * zy * 9007199254740992 ≤ zx * oU * 9007199254740993 ∧ zx * oU * 9007199254740991 ≤ z * zy * 9007199254740992 := by
  obtain ⟨c, q, hx, rfl⟩ := hx
  obtain ⟨d, r, hy, rfl⟩ := hy
  have hq := own_qge hx
  have hr := own_qge hy
  have hd : d ≠ 0 := fun h => by
    subst h
    unfold inUnits at hpos
    rw [Nat.zero_mul] at hpos
    exact absurd hpos (Nat.lt_irrefl _)
  have ev : val64 (ddiv x y) = roundRatio b64 false c d (q - r) := by
    rw [val64_ddiv, hx, hy]
    show (if d = 0 then _ else roundRatio b64 _ c d (q - r)) = _
    rw [if_neg hd]
    rfl
  have eX : inUnits c q b64.qmin * oU = c * 2 ^ (q - r - (2 * b64.qmin - r)).toNat := by
    unfold inUnits oU
    rw [show (q - r - (2 * b64.qmin - r)).toNat = (q - b64.qmin).toNat + 1074 by rw [own_qm] at *; omega, Nat.pow_add]
    exact Nat.mul_assoc _ _ _
  have eW : d * 2 ^ (b64.qmin - (2 * b64.qmin - r)).toNat = inUnits d r b64.qmin := by
    unfold inUnits
    rw [show (b64.qmin - (2 * b64.qmin - r)).toNat = (r - b64.qmin).toNat by omega]
  by_cases h0 : c = 0
  · refine ⟨0, ⟨0, b64.qmin, ?_, by unfold inUnits; omega⟩, ?_, ?_⟩
    · rw [ev, h0]
      rfl
    · rw [Nat.zero_mul, Nat.zero_mul]
      exact Nat.zero_le _
    · rw [eX, h0]
      omega
  · have hl' := hl.resolve_left (fun h => by
      unfold inUnits at h
      rcases Nat.mul_eq_zero.mp h with h | h
      · exact h0 h
      · exact absurd h (Nat.ne_of_gt (Nat.two_pow_pos _)))
    rw [eX] at hl' ⊢
    obtain ⟨c', q', hR, h1, h2⟩ := own_rr (A := c) (B := d) (e := q - r) (e0 := 2 * b64.qmin - r) (by omega) (by omega) (by omega) (by rw [own_qm] at *; omega) (by rw [eW]; exact hl'.1) (by rw [eW]; exact hl'.2)
    rw [eW] at h1 h2
    exact ⟨_, ⟨c', q', ev.trans hR, rfl⟩, h1, h2⟩
theorem own_dadd {x y : UInt64} {zx zy : Nat} (hx : Pz x zx) (hy : Pz y zy) (h1 : 4503599627370496 ≤ zx + zy) (h2 : zx + zy ≤ 2 ^ 1500) :
    ∃ z, Pz (dadd x y) z ∧ z * 9007199254740992 ≤ (zx + zy) * 9007199254740993 ∧ (zx + zy) * 9007199254740991 ≤ z * 9007199254740992 := by
  obtain ⟨c, q, hx, rfl⟩ := hx
  obtain ⟨d, r, hy, rfl⟩ := hy
  have hq := own_qge hx
  have hr := own_qge hy
  have hv : sumUnits false c q false d r (min q r) = ((inUnits c q (min q r) + inUnits d r (min q r) : Nat) : Int) := by
    unfold sumUnits signed
    rw [Int.natCast_add]
    rfl
  have ev : val64 (dadd x y) = roundRatio b64 false (inUnits c q (min q r) + inUnits d r (min q r)) 1 (min q r) := by
    rw [val64_dadd, hx, hy]
    show round b64 (.fin (sumSign false false (sumUnits false c q false d r (min q r))) (sumUnits false c q false d r (min q r)).natAbs (min q r)) = _
    rw [hv]
    have es : sumSign false false ((inUnits c q (min q r) + inUnits d r (min q r) : Nat) : Int) = false := by
      unfold sumSign
      split
      · rfl
      · exact decide_eq_false (by omega)
    rw [es]
    rfl
  have eX : (inUnits c q (min q r) + inUnits d r (min q r)) * 2 ^ (min q r - b64.qmin).toNat = inUnits c q b64.qmin + inUnits d r b64.qmin := by
    rw [Nat.add_mul, inUnits_move c (q := q) (r := min q r) (e := b64.qmin) (by omega) (by omega), inUnits_move d (q := r) (r := min q r) (e := b64.qmin) (by omega) (by omega)]
  have eW : 1 * 2 ^ (b64.qmin - b64.qmin).toNat = 1 := by rw [Int.sub_self]; rfl
  obtain ⟨c', q', hR, a1, a2⟩ := own_rr (A := inUnits c q (min q r) + inUnits d r (min q r)) (B := 1) (e := min q r) (e0 := b64.qmin) (by
      apply Nat.pos_of_ne_zero
      intro h
      rw [h, Nat.zero_mul] at eX
      rw [← eX] at h1
      exact absurd h1 (by decide)) (by decide) (Int.le_refl _) (by omega) (by rw [eW, eX]; exact h1) (by rw [eW, eX, Nat.mul_one]; exact h2)
  rw [eW, Nat.mul_one, eX] at a1 a2
  exact ⟨_, ⟨c', q', ev.trans hR, rfl⟩, a1, a2⟩
theorem own_apMu {z zx zy d1 d2 n1 n2 U P p a1 a2 a3 : Nat} (hU : 0 < U) (hP : 0 < P) (h : z * U * P ≤ zx * zy * p) (h1 : zx * d1 * P ≤ n1 * U * a1) (h2 : zy * d2 * P ≤ n2 * U * a2) (ha : a1 * a2 * p ≤ a3 * P * P) : z * (d1 * d2) * P ≤ n1 * n2 * U * a3 := by
  refine Nat.le_of_mul_le_mul_right (c := U * P * P) ?_ (Nat.mul_pos (Nat.mul_pos hU hP) hP)
  calc z * (d1 * d2) * P * (U * P * P) = (z * U * P) * (d1 * d2 * P * P) := by ac_rfl
    _ ≤ (zx * zy * p) * (d1 * d2 * P * P) := Nat.mul_le_mul_right _ h
    _ = ((zx * d1 * P) * (zy * d2 * P)) * p := by ac_rfl
    _ ≤ ((n1 * U * a1) * (n2 * U * a2)) * p := Nat.mul_le_mul_right _ (Nat.mul_le_mul h1 h2)
    _ = (n1 * n2 * U * U) * (a1 * a2 * p) := by ac_rfl
    _ ≤ (n1 * n2 * U * U) * (a3 * P * P) := Nat.mul_le_mul_left _ ha
    _ = n1 * n2 * U * a3 * (U * P * P) := by ac_rfl
theorem own_apMl {z zx zy d1 d2 n1 n2 U P p b1 b2 b3 : Nat} (hU : 0 < U) (hP : 0 < P) (h : zx * zy * p ≤ z * U * P) (h1 : n1 * U * b1 ≤ zx * d1 * P) (h2 : n2 * U * b2 ≤ zy * d2 * P) (hb : b3 * P * P ≤ b1 * b2 * p) : n1 * n2 * U * b3 ≤ z * (d1 * d2) * P := by
  refine Nat.le_of_mul_le_mul_right (c := U * P * P) ?_ (Nat.mul_pos (Nat.mul_pos hU hP) hP)
  calc n1 * n2 * U * b3 * (U * P * P) = (n1 * n2 * U * U) * (b3 * P * P) := by ac_rfl
    _ ≤ (n1 * n2 * U * U) * (b1 * b2 * p) := Nat.mul_le_mul_left _ hb
    _ = ((n1 * U * b1) * (n2 * U * b2)) * p := by ac_rfl
    _ ≤ ((zx * d1 * P) * (zy * d2 * P)) * p := Nat.mul_le_mul_right _ (Nat.mul_le_mul h1 h2)
    _ = (zx * zy * p) * (d1 * d2 * P * P) := by ac_rfl
    _ ≤ (z * U * P) * (d1 * d2 * P * P) := Nat.mul_le_mul_right _ h
    _ = z * (d1 * d2) * P * (U * P * P) := by ac_rfl
theorem own_apDu {z zx zy d1 d2 n1 n2 U P p a1 b2 a3 : Nat} (hU : 0 < U) (hb2 : 0 < b2) (h : z * zy * P ≤ zx * U * p) (h1 : zx * d1 * P ≤ n1 * U * a1) (h2 : n2 * U * b2 ≤ zy * d2 * P) (ha : a1 * p ≤ a3 * b2) : z * (d1 * n2) * P ≤ n1 * d2 * U * a3 := by
  refine Nat.le_of_mul_le_mul_right (c := U * b2) ?_ (Nat.mul_pos hU hb2)
  calc z * (d1 * n2) * P * (U * b2) = (z * d1 * P) * (n2 * U * b2) := by ac_rfl
    _ ≤ (z * d1 * P) * (zy * d2 * P) := Nat.mul_le_mul_left _ h2
    _ = (z * zy * P) * (d1 * d2 * P) := by ac_rfl
    _ ≤ (zx * U * p) * (d1 * d2 * P) := Nat.mul_le_mul_right _ h
    _ = (zx * d1 * P) * (U * p * d2) := by ac_rfl
    _ ≤ (n1 * U * a1) * (U * p * d2) := Nat.mul_le_mul_right _ h1
    _ = (n1 * d2 * U * U) * (a1 * p) := by ac_rfl
    _ ≤ (n1 * d2 * U * U) * (a3 * b2) := Nat.mul_le_mul_left _ ha
    _ = n1 * d2 * U * a3 * (U * b2) := by ac_rfl
theorem own_apDl {z zx zy d1 d2 n1 n2 U P p b1 a2 b3 : Nat} (hU : 0 < U) (ha2 : 0 < a2) (h : zx * U * p ≤ z * zy * P) (h1 : n1 * U * b1 ≤ zx * d1 * P) (h2 : zy * d2 * P ≤ n2 * U * a2) (hb : b3 * a2 ≤ b1 * p) : n1 * d2 * U * b3 ≤ z * (d1 * n2) * P := by
  refine Nat.le_of_mul_le_mul_right (c := U * a2) ?_ (Nat.mul_pos hU ha2)
  calc n1 * d2 * U * b3 * (U * a2) = (n1 * d2 * U * U) * (b3 * a2) := by ac_rfl
    _ ≤ (n1 * d2 * U * U) * (b1 * p) := Nat.mul_le_mul_left _ hb
    _ = (n1 * U * b1) * (U * p * d2) := by ac_rfl
    _ ≤ (zx * d1 * P) * (U * p * d2) := Nat.mul_le_mul_right _ h1
    _ = (zx * U * p) * (d1 * d2 * P) := by ac_rfl
    _ ≤ (z * zy * P) * (d1 * d2 * P) := Nat.mul_le_mul_right _ h
    _ = (z * d1 * P) * (zy * d2 * P) := by ac_rfl
    _ ≤ (z * d1 * P) * (n2 * U * a2) := Nat.mul_le_mul_left _ h2
    _ = z * (d1 * n2) * P * (U * a2) := by ac_rfl
theorem own_apAu {z zx zy d n1 n2 U P p a a3 : Nat} (hP : 0 < P) (h : z * P ≤ (zx + zy) * p) (h1 : zx * d * P ≤ n1 * U * a) (h2 : zy * d * P ≤ n2 * U * a) (ha : a * p ≤ a3 * P) : z * d * P ≤ (n1 + n2) * U * a3 := by
  refine Nat.le_of_mul_le_mul_right (c := P) ?_ hP
  calc z * d * P * P = (z * P) * (d * P) := by ac_rfl
    _ ≤ ((zx + zy) * p) * (d * P) := Nat.mul_le_mul_right _ h
    _ = (zx * d * P + zy * d * P) * p := by simp only [Nat.add_mul]; ac_rfl
    _ ≤ (n1 * U * a + n2 * U * a) * p := Nat.mul_le_mul_right _ (Nat.add_le_add h1 h2)
    _ = (n1 + n2) * U * (a * p) := by simp only [Nat.add_mul]; ac_rfl
    _ ≤ (n1 + n2) * U * (a3 * P) := Nat.mul_le_mul_left _ ha
    _ = (n1 + n2) * U * a3 * P := by ac_rfl
theorem own_apAl {z zx zy d n1 n2 U P p b b3 : Nat} (hP : 0 < P) (h : (zx + zy) * p ≤ z * P) (h1 : n1 * U * b ≤ zx * d * P) (h2 : n2 * U * b ≤ zy * d * P) (hb : b3 * P ≤ b * p) : (n1 + n2) * U * b3 ≤ z * d * P := by
  refine Nat.le_of_mul_le_mul_right (c := P) ?_ hP
  calc (n1 + n2) * U * b3 * P = (n1 + n2) * U * (b3 * P) := by ac_rfl
    _ ≤ (n1 + n2) * U * (b * p) := Nat.mul_le_mul_left _ hb
    _ = (n1 * U * b + n2 * U * b) * p := by simp only [Nat.add_mul]; ac_rfl
    _ ≤ (zx * d * P + zy * d * P) * p := Nat.mul_le_mul_right _ (Nat.add_le_add h1 h2)
    _ = ((zx + zy) * p) * (d * P) := by simp only [Nat.add_mul]; ac_rfl
    _ ≤ (z * P) * (d * P) := Nat.mul_le_mul_right _ h
    _ = z * d * P * P := by ac_rfl
theorem oU_pos : 0 < oU := Nat.two_pow_pos _
/-- x is finite and between n/d * b/2^53 and n/d * a/2^53 -/
def Ap (x : UInt64) (n d a b : Nat) : Prop := ∃ z, Pz x z ∧ z * d * 9007199254740992 ≤ n * oU * a ∧ n * oU * b ≤ z * d * 9007199254740992
/-- what is asked of an operand -/
def Rg (n d a b : Nat) : Prop := n ≤ 2 ^ 64 ∧ 1 ≤ d ∧ d ≤ 2 ^ 64 ∧ a ≤ 18014398509481984 ∧ 4503599627370496 ≤ b
theorem own_rgL {n d b z U k : Nat} (hn : 1 ≤ n) (hd : d ≤ k) (hb : 4503599627370496 ≤ b) (h : n * U * b ≤ z * d * 9007199254740992) : U ≤ z * (2 * k) := by
  have h1 : U * 4503599627370496 ≤ n * U * b := Nat.mul_le_mul (by calc U = 1 * U := (Nat.one_mul U).symm
    _ ≤ n * U := Nat.mul_le_mul_right _ hn) hb
  have h2 : z * d * 9007199254740992 ≤ z * k * 9007199254740992 := Nat.mul_le_mul_right _ (Nat.mul_le_mul_left _ hd)
  rw [show z * (2 * k) = 2 * (z * k) by ac_rfl]
  generalize z * k = y at *
  generalize n * U * b = w at *
  generalize z * d = v at *
  omega
theorem own_rgU {n d a z U k : Nat} (hn : n ≤ k) (hd : 1 ≤ d) (ha : a ≤ 18014398509481984) (h : z * d * 9007199254740992 ≤ n * U * a) : z ≤ 2 * k * U := by
  have h1 : n * U * a ≤ k * U * 18014398509481984 := Nat.mul_le_mul (Nat.mul_le_mul_right _ hn) ha
  have h2 : z ≤ z * d := by calc z = z * 1 := (Nat.mul_one z).symm
    _ ≤ z * d := Nat.mul_le_mul_left _ hd
  rw [Nat.mul_assoc]
  generalize k * U = y at *
  generalize n * U * a = w at *
  generalize z * d = v at *
  omega
theorem own_rg {z n d a b : Nat} (R : Rg n d a b) (h1 : z * d * 9007199254740992 ≤ n * oU * a) (h2 : n * oU * b ≤ z * d * 9007199254740992) : (n = 0 → z = 0) ∧ (1 ≤ n → 2 ^ 1009 ≤ z) ∧ z ≤ 2 ^ 1139 := by
  obtain ⟨r1, r2, r3, r4, r5⟩ := R
  refine ⟨fun h => ?_, fun h => ?_, ?_⟩
  · subst h
    rw [Nat.zero_mul, Nat.zero_mul] at h1
    have : z * d = 0 := by generalize z * d = v at *; omega
    rcases Nat.mul_eq_zero.mp this with q | q
    · exact q
    · omega
  · have q := own_rgL h r3 r5 h2
    have e : oU = 2 ^ 1009 * (2 * 2 ^ 64) := by unfold oU; decide +kernel
    rw [e] at q
    exact Nat.le_of_mul_le_mul_right q (by decide +kernel)
  · refine Nat.le_trans (own_rgU r1 r2 r4 h1) ?_
    unfold oU
    decide +kernel
theorem Ap.mul {x y : UInt64} {n1 d1 a1 b1 n2 d2 a2 b2 : Nat} (a3 b3 : Nat) (hx : Ap x n1 d1 a1 b1) (hy : Ap y n2 d2 a2 b2) (R1 : Rg n1 d1 a1 b1) (R2 : Rg n2 d2 a2 b2) (ha : a1 * a2 * 9007199254740993 ≤ a3 * 9007199254740992 * 9007199254740992) (hb : b3 * 9007199254740992 * 9007199254740992 ≤ b1 * b2 * 9007199254740991) : Ap (dmul x y) (n1 * n2) (d1 * d2) a3 b3 := by
  obtain ⟨zx, px, u1, l1⟩ := hx
  obtain ⟨zy, py, u2, l2⟩ := hy
  obtain ⟨k1, m1, t1⟩ := own_rg R1 u1 l1
  obtain ⟨k2, m2, t2⟩ := own_rg R2 u2 l2
  obtain ⟨z, pz, q1, q2⟩ := own_dmul px py (by
    by_cases h1 : n1 = 0
    · left; rw [k1 h1, Nat.zero_mul]
    · by_cases h2 : n2 = 0
      · left; rw [k2 h2, Nat.mul_zero]
      · right
        refine ⟨Nat.le_trans ?_ (Nat.mul_le_mul (m1 (by omega)) (m2 (by omega))), Nat.le_trans (Nat.mul_le_mul t1 t2) ?_⟩
        · unfold oU; decide +kernel
        · unfold oU; decide +kernel)
  exact ⟨z, pz, own_apMu oU_pos (by decide) q1 u1 u2 ha, own_apMl oU_pos (by decide) q2 l1 l2 hb⟩
theorem Ap.div {x y : UInt64} {n1 d1 a1 b1 n2 d2 a2 b2 : Nat} (a3 b3 : Nat) (hx : Ap x n1 d1 a1 b1) (hy : Ap y n2 d2 a2 b2) (R1 : Rg n1 d1 a1 b1) (R2 : Rg n2 d2 a2 b2) (hn : 1 ≤ n2) (ha2 : 0 < a2) (ha : a1 * 9007199254740993 ≤ a3 * b2) (hb : b3 * a2 ≤ b1 * 9007199254740991) : Ap (ddiv x y) (n1 * d2) (d1 * n2) a3 b3 := by
  obtain ⟨zx, px, u1, l1⟩ := hx
  obtain ⟨zy, py, u2, l2⟩ := hy
  obtain ⟨k1, m1, t1⟩ := own_rg R1 u1 l1
  obtain ⟨k2, m2, t2⟩ := own_rg R2 u2 l2
  have hzy := m2 hn
  obtain ⟨z, pz, q1, q2⟩ := own_ddiv px py (Nat.lt_of_lt_of_le (Nat.two_pow_pos 1009) hzy) (by
    by_cases h1 : n1 = 0
    · left; exact k1 h1
    · right
      refine ⟨Nat.le_trans (Nat.mul_le_mul_left _ t2) (Nat.le_trans ?_ (Nat.mul_le_mul_right _ (m1 (by omega)))), Nat.le_trans (Nat.mul_le_mul_right _ t1) (Nat.le_trans ?_ (Nat.mul_le_mul_left _ hzy))⟩
      · unfold oU; decide +kernel
      · unfold oU; decide +kernel)
  exact ⟨z, pz, own_apDu oU_pos (Nat.lt_of_lt_of_le (by decide) R2.2.2.2.2) q1 u1 l2 ha, own_apDl oU_pos ha2 q2 l1 u2 hb⟩
theorem Ap.add {x y : UInt64} {n1 n2 d a b : Nat} (a3 b3 : Nat) (hx : Ap x n1 d a b) (hy : Ap y n2 d a b) (R1 : Rg n1 d a b) (R2 : Rg n2 d a b) (hn : 1 ≤ n1) (ha : a * 9007199254740993 ≤ a3 * 9007199254740992) (hb : b3 * 9007199254740992 ≤ b * 9007199254740991) : Ap (dadd x y) (n1 + n2) d a3 b3 := by
  obtain ⟨zx, px, u1, l1⟩ := hx
  obtain ⟨zy, py, u2, l2⟩ := hy
  obtain ⟨k1, m1, t1⟩ := own_rg R1 u1 l1
  obtain ⟨k2, m2, t2⟩ := own_rg R2 u2 l2
  have hzx := m1 hn
  obtain ⟨z, pz, q1, q2⟩ := own_dadd px py (Nat.le_trans (Nat.le_trans (by decide +kernel) hzx) (Nat.le_add_right _ _)) (Nat.le_trans (Nat.add_le_add t1 t2) (by decide +kernel))
  exact ⟨z, pz, own_apAu (by decide) q1 u1 u2 ha, own_apAl (by decide) q2 l1 l2 hb⟩
theorem own_sc {z d k P n U a : Nat} (u : z * d * P ≤ n * U * a) : z * (d * k) * P ≤ n * k * U * a := by
  calc z * (d * k) * P = (z * d * P) * k := by ac_rfl
    _ ≤ (n * U * a) * k := Nat.mul_le_mul_right _ u
    _ = n * k * U * a := by ac_rfl
theorem own_sc2 {z d k P n U a : Nat} (u : n * U * a ≤ z * d * P) : n * k * U * a ≤ z * (d * k) * P := by
  calc n * k * U * a = (n * U * a) * k := by ac_rfl
    _ ≤ (z * d * P) * k := Nat.mul_le_mul_right _ u
    _ = z * (d * k) * P := by ac_rfl
theorem Ap.scale {x : UInt64} {n d a b : Nat} (k : Nat) (h : Ap x n d a b) : Ap x (n * k) (d * k) a b := by
  obtain ⟨z, p, u, l⟩ := h
  exact ⟨z, p, own_sc u, own_sc2 l⟩
theorem Ap.weak {x : UInt64} {n d a b a' b' : Nat} (h : Ap x n d a b) (ha : a ≤ a') (hb : b' ≤ b) : Ap x n d a' b' := by
  obtain ⟨z, p, u, l⟩ := h
  exact ⟨z, p, Nat.le_trans u (Nat.mul_le_mul_left _ ha), Nat.le_trans (Nat.mul_le_mul_left _ hb) l⟩
theorem Ap.exact {x : UInt64} {z n d : Nat} (p : Pz x z) (h : z * d = n * oU) : Ap x n d 9007199254740992 9007199254740992 :=
  ⟨z, p, by rw [h]; exact Nat.le_refl _, by rw [h]; exact Nat.le_refl _⟩
end Jvm.FP.Core
namespace Jvm.FP.Core
theorem Pz.ne {x : UInt64} {z : Nat} (h : Pz x z) : val64 x ≠ .nan := by
  obtain ⟨c, q, h, -⟩ := h
  rw [h]
  exact fun e => by cases e
theorem Pz.zval {x : UInt64} {z : Nat} (h : Pz x z) : zval b64 (val64 x) = (z : Int) := by
  obtain ⟨c, q, h, rfl⟩ := h
  rw [h]
  rfl
theorem Pz.fin {x : UInt64} {z : Nat} (h : Pz x z) : DFin x := by
  obtain ⟨c, q, h, -⟩ := h
  exact ⟨false, c, q, h⟩
theorem own_i2d {x : Int32} {n : Nat} (h : x.toInt = (n : Int)) : Pz (i2d x) (n * oU) := by
  obtain ⟨c, q, hv⟩ := l2d_shape x.toInt64
  have h64 : x.toInt64.toInt = x.toInt := Int32.toInt_toInt64 x
  rw [← i2d_l2d, h64, h, decide_eq_false (by omega)] at hv
  refine ⟨c, q, hv, ?_⟩
  have hz := DInt_zval (i2d_int x)
  rw [hv, h] at hz
  have e : ((inUnits c q b64.qmin : Nat) : Int) = ((n * oU : Nat) : Int) := by
    rw [Int.natCast_mul]
    exact hz
  exact Int.ofNat.inj e
theorem own_ai {x : Int32} {n : Nat} (h : x.toInt = (n : Int)) : Ap (i2d x) n 1 9007199254740992 9007199254740992 := Ap.exact (own_i2d h) (Nat.mul_one _)
theorem own_c75 : Ap 4604930618986332160 3 4 9007199254740992 9007199254740992 := Ap.exact (z := 3 * 2 ^ 1072) ⟨3 * 2 ^ 51, -53, by decide +kernel, by decide +kernel⟩ (by unfold oU; decide +kernel)
theorem own_c25 : Ap 4598175219545276416 1 4 9007199254740992 9007199254740992 := Ap.exact (z := 2 ^ 1072) ⟨2 ^ 52, -54, by decide +kernel, by decide +kernel⟩ (by unfold oU; decide +kernel)
theorem own_c2 : Ap 4611686018427387904 2 1 9007199254740992 9007199254740992 := Ap.exact (z := 2 ^ 1075) ⟨2 ^ 52, -51, by decide +kernel, by decide +kernel⟩ (by unfold oU; decide +kernel)
theorem own_c3 : Ap 4613937818241073152 3 1 9007199254740992 9007199254740992 := Ap.exact (z := 3 * 2 ^ 1074) ⟨3 * 2 ^ 51, -51, by decide +kernel, by decide +kernel⟩ (by unfold oU; decide +kernel)
theorem own_c8 : Ap 4620693217682128896 8 1 9007199254740992 9007199254740992 := Ap.exact (z := 2 ^ 1077) ⟨2 ^ 52, -49, by decide +kernel, by decide +kernel⟩ (by unfold oU; decide +kernel)
theorem Ap.to {x : UInt64} {n d a b n' d' : Nat} (h : Ap x n d a b) (hn : n = n') (hd : d = d') : Ap x n' d' a b := by subst hn hd; exact h
def oAvg (A : Int32) : UInt64 := ddiv (i2d A) 4620693217682128896
def oX1 (Lx : Int32) : UInt64 := dmul 4604930618986332160 (i2d Lx)
def oX2 (Lx A : Int32) : UInt64 := ddiv (oX1 Lx) (oAvg A)
def oX3 (Lx A : Int32) : UInt64 := dadd 4598175219545276416 (oX2 Lx A)
def oK (Lx A : Int32) : UInt64 := dmul 4611686018427387904 (oX3 Lx A)
def oY1 (F : Int32) : UInt64 := dmul 4613937818241073152 (i2d F)
def oY2 (F Lx A : Int32) : UInt64 := dadd (oK Lx A) (i2d F)
def oY3 (F Lx A : Int32) : UInt64 := ddiv (oY1 F) (oY2 F Lx A)
def oS (F Lx A I : Int32) : UInt64 := dmul (oY3 F Lx A) (i2d I)
def oT (I : Int32) : UInt64 := dmul 4613937818241073152 (i2d I)
section
variable {F Lx A I : Int32} {f l a i : Nat}
theorem own_avg (hA : A.toInt = (a : Int)) (ha1 : 1 ≤ a) (ha2 : a ≤ 4096) : Ap (oAvg A) a 8 9007199254740993 9007199254740991 :=
  ((own_ai hA).div 9007199254740993 9007199254740991 own_c8 ⟨by omega, by decide, by decide, by decide, by decide⟩ ⟨by decide, by decide, by decide, by decide, by decide⟩ (by decide) (by decide) (by decide) (by decide)).to (by omega) (by omega)
theorem own_x1 (hL : Lx.toInt = (l : Int)) (hl : l < 2147483648) : Ap (oX1 Lx) (3 * l) 4 9007199254740993 9007199254740991 :=
  (own_c75.mul 9007199254740993 9007199254740991 (own_ai hL) ⟨by decide, by decide, by decide, by decide, by decide⟩ ⟨by omega, by decide, by decide, by decide, by decide⟩ (by decide) (by decide)).to rfl rfl
theorem own_x2 (hL : Lx.toInt = (l : Int)) (hl : l < 2147483648) (hA : A.toInt = (a : Int)) (ha1 : 1 ≤ a) (ha2 : a ≤ 4096) : Ap (oX2 Lx A) (24 * l) (4 * a) 9007199254740996 9007199254740988 :=
  ((own_x1 hL hl).div 9007199254740996 9007199254740988 (own_avg hA ha1 ha2) ⟨by omega, by decide, by decide, by decide, by decide⟩ ⟨by omega, by decide, by decide, by decide, by decide⟩ ha1 (by decide) (by decide) (by decide)).to (by omega) (by omega)
theorem own_x3 (hL : Lx.toInt = (l : Int)) (hl : l < 2147483648) (hA : A.toInt = (a : Int)) (ha1 : 1 ≤ a) (ha2 : a ≤ 4096) : Ap (oX3 Lx A) (a + 24 * l) (4 * a) 9007199254740998 9007199254740986 :=
  (((own_c25.scale a).to (Nat.one_mul a) rfl).weak (a' := 9007199254740996) (b' := 9007199254740988) (by decide) (by decide)).add 9007199254740998 9007199254740986 (own_x2 hL hl hA ha1 ha2) ⟨by omega, by omega, by omega, by decide, by decide⟩ ⟨by omega, by omega, by omega, by decide, by decide⟩ ha1 (by decide) (by decide)
theorem own_k (hL : Lx.toInt = (l : Int)) (hl : l < 2147483648) (hA : A.toInt = (a : Int)) (ha1 : 1 ≤ a) (ha2 : a ≤ 4096) : Ap (oK Lx A) (2 * a + 48 * l) (4 * a) 9007199254741000 9007199254740984 :=
  (own_c2.mul 9007199254741000 9007199254740984 (own_x3 hL hl hA ha1 ha2) ⟨by decide, by decide, by decide, by decide, by decide⟩ ⟨by omega, by omega, by omega, by decide, by decide⟩ (by decide) (by decide)).to (by omega) (by omega)
theorem own_y1 (hF : F.toInt = (f : Int)) (hf : f < 2147483648) : Ap (oY1 F) (3 * f) 1 9007199254740993 9007199254740991 :=
  (own_c3.mul 9007199254740993 9007199254740991 (own_ai hF) ⟨by decide, by decide, by decide, by decide, by decide⟩ ⟨by omega, by decide, by decide, by decide, by decide⟩ (by decide) (by decide)).to rfl rfl
theorem own_fa (hf : f < 2147483648) (ha2 : a ≤ 4096) : f * (4 * a) ≤ 35184372088832 := Nat.le_trans (Nat.mul_le_mul (Nat.le_of_lt hf) (show 4 * a ≤ 16384 by omega)) (by decide)
theorem own_y2 (hF : F.toInt = (f : Int)) (hf : f < 2147483648) (hL : Lx.toInt = (l : Int)) (hl : l < 2147483648) (hA : A.toInt = (a : Int)) (ha1 : 1 ≤ a) (ha2 : a ≤ 4096) : Ap (oY2 F Lx A) (2 * a + 48 * l + f * (4 * a)) (4 * a) 9007199254741002 9007199254740982 :=
  (own_k hL hl hA ha1 ha2).add 9007199254741002 9007199254740982 ((((own_ai hF).scale (4 * a)).to rfl (Nat.one_mul _)).weak (by decide) (by decide)) ⟨by omega, by omega, by omega, by decide, by decide⟩ ⟨Nat.le_trans (own_fa hf ha2) (by decide), by omega, by omega, by decide, by decide⟩ (by omega) (by decide) (by decide)
theorem own_y3 (hF : F.toInt = (f : Int)) (hf : f < 2147483648) (hL : Lx.toInt = (l : Int)) (hl : l < 2147483648) (hA : A.toInt = (a : Int)) (ha1 : 1 ≤ a) (ha2 : a ≤ 4096) : Ap (oY3 F Lx A) (3 * f * (4 * a)) (2 * a + 48 * l + f * (4 * a)) 9007199254741006 9007199254740978 :=
  ((own_y1 hF hf).div 9007199254741006 9007199254740978 (own_y2 hF hf hL hl hA ha1 ha2) ⟨by omega, by decide, by decide, by decide, by decide⟩ ⟨by have := own_fa hf ha2; omega, by omega, by omega, by decide, by decide⟩ (by omega) (by decide) (by decide) (by decide)).to rfl (Nat.one_mul _)
theorem own_s (hF : F.toInt = (f : Int)) (hf : f < 2147483648) (hL : Lx.toInt = (l : Int)) (hl : l < 2147483648) (hA : A.toInt = (a : Int)) (ha1 : 1 ≤ a) (ha2 : a ≤ 4096) (hI : I.toInt = (i : Int)) (hi : i ≤ 16383) : Ap (oS F Lx A I) (3 * f * (4 * a) * i) (2 * a + 48 * l + f * (4 * a)) 9007199254741008 9007199254740976 :=
  ((own_y3 hF hf hL hl hA ha1 ha2).mul 9007199254741008 9007199254740976 (own_ai hI) ⟨by have := own_fa hf ha2; rw [Nat.mul_assoc]; omega, by omega, by have := own_fa hf ha2; omega, by decide, by decide⟩ ⟨by omega, by decide, by decide, by decide, by decide⟩ (by decide) (by decide)).to rfl (Nat.mul_one _)
theorem own_t (hI : I.toInt = (i : Int)) (hi : i ≤ 16383) : Ap (oT I) (3 * i) 1 9007199254740993 9007199254740991 :=
  (own_c3.mul 9007199254740993 9007199254740991 (own_ai hI) ⟨by decide, by decide, by decide, by decide, by decide⟩ ⟨by omega, by decide, by decide, by decide, by decide⟩ (by decide) (by decide)).to rfl rfl
end
end Jvm.FP.Core
namespace Jvm.FP.Core
theorem own_l1 {x y w : Nat} (h3 : x * 9007199254740976 ≤ y * 9007199254740992) (h2 : y + w ≤ x) : x * 9007199254740976 + w * 9007199254740992 ≤ x * 9007199254740992 :=
  Nat.le_trans (Nat.add_le_add_right h3 _) (by rw [← Nat.add_mul]; exact Nat.mul_le_mul_right _ h2)
theorem own_half {x y P Q : Nat} (u : 2 * x * P ≤ 2 * y * Q) : x * P ≤ y * Q := by
  rw [Nat.mul_assoc, Nat.mul_assoc] at u
  exact Nat.le_of_mul_le_mul_left u (by decide)
theorem own_hlo (a l w : Nat) : 3 * w * 16383 ≤ (a + 24 * l + w) * 49149 := by omega
theorem own_l2 {g A R : Nat} (k2 : g * 17 ≤ A * 9007199254740991) : g * 9007199254741008 ≤ (A + R + g) * 9007199254740991 := by omega
theorem own_near2 {zs U num den lo : Nat} (hU : 0 < U) (hd : 0 < den) (h : zs * den * 9007199254740992 ≤ num * U * 9007199254741008) (hl : num < (lo + 1) * den) (hlo : lo ≤ 49149) : zs < (lo + 2) * U := by
  refine Nat.lt_of_not_le fun q => ?_
  have hW : 0 < U * den := Nat.mul_pos hU hd
  have h1 : (lo + 2) * (U * den) * 9007199254740992 ≤ num * U * 9007199254741008 := by
    refine Nat.le_trans (Nat.mul_le_mul_right _ ?_) h
    rw [← Nat.mul_assoc]
    exact Nat.mul_le_mul_right _ q
  have h2 : num * U ≤ (lo + 1) * (U * den) := by
    rw [Nat.mul_comm U den, ← Nat.mul_assoc]
    exact Nat.mul_le_mul_right _ (Nat.le_of_lt hl)
  have h3 : (lo + 2) * (U * den) * 9007199254740992 ≤ (lo + 1) * (U * den) * 9007199254741008 := Nat.le_trans h1 (Nat.mul_le_mul_right _ h2)
  rw [Nat.mul_right_comm (lo + 2), Nat.mul_right_comm (lo + 1)] at h3
  have h4 := Nat.le_of_mul_le_mul_right h3 hW
  omega
theorem own_near1 {zs U num den lo : Nat} (hU : 0 < U) (hd : 0 < den) (h : num * U * 9007199254740976 ≤ zs * den * 9007199254740992) (hl : lo * den ≤ num) (hlo : lo ≤ 49149) : lo * U < zs + U := by
  refine Nat.lt_of_not_le fun q => ?_
  have hW : 0 < U * den := Nat.mul_pos hU hd
  have h1 : lo * (U * den) * 9007199254740976 ≤ num * U * 9007199254740976 := by
    refine Nat.mul_le_mul_right _ ?_
    rw [Nat.mul_comm U den, ← Nat.mul_assoc]
    exact Nat.mul_le_mul_right _ hl
  have h2 : zs * den + U * den ≤ lo * (U * den) := by
    rw [← Nat.add_mul, ← Nat.mul_assoc]
    exact Nat.mul_le_mul_right _ q
  have h3 := Nat.le_trans h1 h
  have e : ∀ k, lo * (U * den) * k = (lo * k) * (U * den) := fun k => Nat.mul_right_comm _ _ _
  have h4 : (lo * 9007199254740976 + 9007199254740992) * (U * den) ≤ (lo * 9007199254740992) * (U * den) := by
    rw [Nat.add_mul, ← e, ← e, Nat.mul_comm 9007199254740992]
    exact own_l1 h3 h2
  have h5 := Nat.le_of_mul_le_mul_right h4 hW
  omega
theorem own_top {zs zt U f a i E R : Nat} (ha : 0 < a) (hU : 0 < U) (hf : f < 2147483648) (hE : E = 2 * a + R + f * (4 * a)) (h : zs * E * 9007199254740992 ≤ 3 * f * (4 * a) * i * U * 9007199254741008) (ht : 3 * i * U * 9007199254740991 ≤ zt * 9007199254740992) : zs ≤ zt := by
  have hE0 : 0 < E := by omega
  have k1 : f * (4 * a) * 9007199254741008 ≤ E * 9007199254740991 := by
    have k2 : f * (4 * a) * 17 ≤ 2 * a * 9007199254740991 := by
      rw [show f * (4 * a) * 17 = (f * 68) * a by rw [← Nat.mul_assoc f 4 a, Nat.mul_right_comm (f * 4) a 17, Nat.mul_assoc f 4 17], show 2 * a * 9007199254740991 = 18014398509481982 * a by omega]
      exact Nat.mul_le_mul_right _ (by omega)
    rw [hE]
    exact own_l2 k2
  have h1 : zs * 9007199254740992 * E ≤ 3 * i * U * 9007199254740991 * E := by
    calc zs * 9007199254740992 * E = zs * E * 9007199254740992 := Nat.mul_right_comm _ _ _
      _ ≤ 3 * f * (4 * a) * i * U * 9007199254741008 := h
      _ = 3 * i * U * (f * (4 * a) * 9007199254741008) := by
        generalize 9007199254741008 = p
        generalize 4 * a = g
        ac_rfl
      _ ≤ 3 * i * U * (E * 9007199254740991) := Nat.mul_le_mul_left _ k1
      _ = 3 * i * U * 9007199254740991 * E := by
        generalize 9007199254740991 = p
        ac_rfl
  have h2 := Nat.le_of_mul_le_mul_right h1 hE0
  have h3 := Nat.le_trans h2 ht
  omega
theorem own_all {F Lx A I : Int32} {f l a i : Nat} (hF : F.toInt = (f : Int)) (hf : f < 2147483648) (hL : Lx.toInt = (l : Int)) (hl : l < 2147483648) (hA : A.toInt = (a : Int)) (ha1 : 1 ≤ a) (ha2 : a ≤ 4096) (hI : I.toInt = (i : Int)) (hi : i ≤ 16383) :
    ∃ zs zt, Pz (oS F Lx A I) zs ∧ Pz (oT I) zt ∧ zs ≤ zt ∧ zs < (6 * a * f * i / (a + 24 * l + 2 * a * f) + 2) * oU ∧ 6 * a * f * i / (a + 24 * l + 2 * a * f) * oU < zs + oU ∧ (i = 0 → zs = 0) ∧ 6 * a * f * i / (a + 24 * l + 2 * a * f) ≤ 49149 := by
  have hden : 0 < a + 24 * l + 2 * a * f := by omega
  have e1 : 2 * a + 48 * l + f * (4 * a) = 2 * (a + 24 * l + 2 * a * f) := by
    rw [show f * (4 * a) = 2 * (2 * a * f) by rw [Nat.mul_comm f, show 4 * a = 2 * (2 * a) by omega, Nat.mul_assoc]]
    omega
  have e2 : 3 * f * (4 * a) * i = 2 * (6 * a * f * i) := by
    rw [show 3 * f * (4 * a) * i = 12 * (f * a * i) by rw [show 3 * f * (4 * a) = 12 * (f * a) by rw [Nat.mul_assoc, Nat.mul_left_comm f, ← Nat.mul_assoc], Nat.mul_assoc], show 6 * a * f * i = 6 * (f * a * i) by rw [Nat.mul_assoc 6, Nat.mul_comm a f, Nat.mul_assoc]]
    omega
  have hlo : 6 * a * f * i / (a + 24 * l + 2 * a * f) ≤ 49149 := by
    refine Nat.div_le_of_le_mul ?_
    have q : 6 * a * f * i ≤ 6 * a * f * 16383 := Nat.mul_le_mul_left _ hi
    have q2 : 6 * a * f = 3 * (2 * a * f) := by rw [show 6 * a = 3 * (2 * a) by omega, Nat.mul_assoc]
    rw [q2] at q ⊢
    exact Nat.le_trans q (by rw [Nat.mul_comm (a + 24 * l + 2 * a * f)]; exact Nat.le_trans (own_hlo a l (2 * a * f)) (Nat.le_of_eq (Nat.mul_comm _ _)))
  obtain ⟨zs, ps, u, lw⟩ := own_s hF hf hL hl hA ha1 ha2 hI hi
  obtain ⟨zt, pt, -, lt⟩ := own_t hI hi
  rw [Nat.mul_one] at lt
  have u2 : zs * (a + 24 * l + 2 * a * f) * 9007199254740992 ≤ 6 * a * f * i * oU * 9007199254741008 := by
    rw [e1, e2, Nat.mul_left_comm zs, Nat.mul_assoc 2 (6 * a * f * i)] at u
    exact own_half u
  have l2 : 6 * a * f * i * oU * 9007199254740976 ≤ zs * (a + 24 * l + 2 * a * f) * 9007199254740992 := by
    rw [e1, e2, Nat.mul_left_comm zs, Nat.mul_assoc 2 (6 * a * f * i)] at lw
    exact own_half lw
  refine ⟨zs, zt, ps, pt, own_top ha1 oU_pos hf rfl u lt, own_near2 oU_pos hden u2 ?_ hlo, own_near1 oU_pos hden l2 (Nat.div_mul_le_self _ _) hlo, fun h => ?_, hlo⟩
  · exact (Nat.div_lt_iff_lt_mul hden).mp (Nat.lt_succ_self _)
  · subst h
    rw [Nat.mul_zero, Nat.zero_mul, Nat.zero_mul] at u2
    rcases Nat.mul_eq_zero.mp (Nat.le_zero.mp u2) with h3 | h3
    · rcases Nat.mul_eq_zero.mp h3 with q | q
      · exact q
      · exact absurd q (Nat.ne_of_gt hden)
    · exact absurd h3 (by decide)
end Jvm.FP.Core
namespace Jvm.Pilot.@@N@@
open Jvm Jvm.ClassFile Sem Op Lib Jvm.Free Jvm.Stand Jvm.LawKit Jvm.RoadKit Bundle Jvm.Pilot.@@N@@.Jvm.D
/-! own small kit: a walk forward, state by state -/
section OwnKit
variable {p : Program} {l : Launch} {e : Env} {R : Room} {s : State} {m : MethodId} {args : Array Value} {below : List Frame} {meth : Method} {c : Code} {T : State} {locs : List Loc} {cells slots : Nat} {rc rs : Nat} {Q : Option Value → Heap → List Loc → Prop} {Z : State} {h h' : Heap} {a b : Addr} {S S' : State}
/-- from S the run comes to its return, and Q holds there -/
def Go (p : Program) (e : Env) (below : List Frame) (s : State) (rc rs : Nat) (Q : Option Value → Heap → List Loc → Prop) (S : State) : Prop :=
  ∃ s₂ o, Steps p.tables e below S s₂ ∧ s₂.status = .running ∧ Ended s₂ below o ∧ ∃ v L, o = .returned v ∧ Q v s₂.heap L ∧ FrameEnd s o s₂ L rc rs
theorem Go.st (k : ∀ t, Steps p.tables e below S' t → Steps p.tables e below S t) (g : Go p e below s rc rs Q S') : Go p e below s rc rs Q S := by
  obtain ⟨x, y, z, r⟩ := g
  exact ⟨x, y, k x z, r⟩
theorem Go.tr (k : Steps p.tables e below S S') (g : Go p e below s rc rs Q S') : Go p e below s rc rs Q S := by
  obtain ⟨x, y, z, r⟩ := g
  exact ⟨x, y, k.trans z, r⟩
theorem Go.ret (X : Stand p l e R s m args below meth c T locs cells slots) (hlk : meth.locks = false) (v : Option Value) (hv : meth.sig.returnType = none → v = none) {g : JFrame} (hQ : Q v T.heap locs) (hc : cells ≤ rc) (hs : slots ≤ rs)
    (k : ∀ fs, (∀ (f : JFrame) (acts : List Action), f.method = m → f.locked = none → f.entered = [] → (doReturn e (T.setTop f) acts v).1 = T.setFrames fs) → Steps p.tables e below (T.setTop g) (T.setFrames fs)) : Go p e below s rc rs Q (T.setTop g) := by
  obtain ⟨fs, hr, hrun, hended, hW, hsame⟩ := X.leave (v := v) hv hlk
  exact ⟨_, _, k fs hr, hrun, hended, _, _, rfl, hQ, ⟨_, rfl⟩, hW, hsame.mono hc hs⟩
theorem own_w {a0 : Array Value} (hw : ∀ d ∈ tables_1, d.before a0 Z = true) (k : Nat) {d : Jvm.Cond} (q : tables_1[k]? = some d) : d.before a0 Z = true := hw _ (List.mem_of_getElem? q)
theorem own_idx {n j : Int32} {cl : Cell} (S : cl.slots.size = n.toNatClampNeg) (q1 : ¬ j < 0) (q2 : j < n) : ¬ (j < 0 ∨ cl.slots.size ≤ j.toNatClampNeg) := inb_of S ⟨q1, q2⟩
theorem own_iaload (X : Stand p l e R s m args below meth c T locs cells slots) (hx : p.tables.exec = Jvm.exec) (hZ : Z.Warmed39 s.vm) (eT : T.heap = h) {k : ClassId} {n : Int32} {vs : List Value} {d : Value} (V : Arv Z h a k .int n vs d) {j : Int32} (q1 : ¬ j < 0) (q2 : j < n) {v : Value} (hv : vs.getD j.toNatClampNeg d = v) {g : JFrame} (hg : g.method = m) {rest : List Value} (hs : g.stack = .int j :: .ref a :: rest) (hd : decode c.code g.pc = .ok (.iaload, 1)) (t : State) (kk : Steps p.tables e below (T.setTop { g with pc := g.pc + 1, stack := v :: rest }) t) : Steps p.tables e below (T.setTop g) t := by
  obtain ⟨cl, A, -, S, -, H, -⟩ := V
  have hin := own_idx S q1 q2
  exact X.iaload hx (j := j) (v := v) (by rw [eT]; exact A.1) (State.isArrayOf_alike hZ.alike A.2.1) A.2.2 hin (H.at hin hv) (g := g) hg hs hd _ kk
theorem own_laload (X : Stand p l e R s m args below meth c T locs cells slots) (hx : p.tables.exec = Jvm.exec) (hZ : Z.Warmed39 s.vm) (eT : T.heap = h) {k : ClassId} {n : Int32} {vs : List Value} {d : Value} (V : Arv Z h a k .long n vs d) {j : Int32} (q1 : ¬ j < 0) (q2 : j < n) {v : Value} (hv : vs.getD j.toNatClampNeg d = v) {g : JFrame} (hg : g.method = m) {rest : List Value} (hs : g.stack = .int j :: .ref a :: rest) (hd : decode c.code g.pc = .ok (.laload, 1)) (t : State) (kk : Steps p.tables e below (T.setTop { g with pc := g.pc + 1, stack := v :: rest }) t) : Steps p.tables e below (T.setTop g) t := by
  obtain ⟨cl, A, -, S, -, H, -⟩ := V
  have hin := own_idx S q1 q2
  exact X.laload hx (j := j) (v := v) (by rw [eT]; exact A.1) (State.isArrayOf_alike hZ.alike A.2.1) A.2.2 hin (H.at hin hv) (g := g) hg hs hd _ kk
theorem own_caload (X : Stand p l e R s m args below meth c T locs cells slots) (hx : p.tables.exec = Jvm.exec) (hZ : Z.Warmed39 s.vm) (eT : T.heap = h) {k : ClassId} {n : Int32} {vs : List Value} {d : Value} (V : Arv Z h a k .char n vs d) {j : Int32} (q1 : ¬ j < 0) (q2 : j < n) {v : Value} (hv : vs.getD j.toNatClampNeg d = v) {g : JFrame} (hg : g.method = m) {rest : List Value} (hs : g.stack = .int j :: .ref a :: rest) (hd : decode c.code g.pc = .ok (.caload, 1)) (t : State) (kk : Steps p.tables e below (T.setTop { g with pc := g.pc + 1, stack := v :: rest }) t) : Steps p.tables e below (T.setTop g) t := by
  obtain ⟨cl, A, -, S, -, H, -⟩ := V
  have hin := own_idx S q1 q2
  exact X.caload hx (j := j) (v := v) (by rw [eT]; exact A.1) (State.isArrayOf_alike hZ.alike A.2.1) A.2.2 hin (H.at hin hv) (g := g) hg hs hd _ kk
theorem own_baloadB (X : Stand p l e R s m args below meth c T locs cells slots) (hx : p.tables.exec = Jvm.exec) (hZ : Z.Warmed39 s.vm) (eT : T.heap = h) {k : ClassId} {n : Int32} {vs : List Value} {d : Value} (V : Arv Z h a k .byte n vs d) {j : Int32} (q1 : ¬ j < 0) (q2 : j < n) {v : Value} (hv : vs.getD j.toNatClampNeg d = v) {g : JFrame} (hg : g.method = m) {rest : List Value} (hs : g.stack = .int j :: .ref a :: rest) (hd : decode c.code g.pc = .ok (.baload, 1)) (t : State) (kk : Steps p.tables e below (T.setTop { g with pc := g.pc + 1, stack := v :: rest }) t) : Steps p.tables e below (T.setTop g) t := by
  obtain ⟨cl, A, -, S, -, H, -⟩ := V
  have hin := own_idx S q1 q2
  exact X.baloadBytes hx (j := j) (v := v) (by rw [eT]; exact A.1) (State.isArrayOf_alike hZ.alike A.2.1) A.2.2 hin (H.at hin hv) (g := g) hg hs hd _ kk
theorem own_baloadZ (X : Stand p l e R s m args below meth c T locs cells slots) (hx : p.tables.exec = Jvm.exec) (hZ : Z.Warmed39 s.vm) (eT : T.heap = h) {k : ClassId} {n : Int32} {vs : List Value} {d : Value} (V : Arv Z h a k .boolean n vs d) {j : Int32} (q1 : ¬ j < 0) (q2 : j < n) {v : Value} (hv : vs.getD j.toNatClampNeg d = v) {g : JFrame} (hg : g.method = m) {rest : List Value} (hs : g.stack = .int j :: .ref a :: rest) (hd : decode c.code g.pc = .ok (.baload, 1)) (t : State) (kk : Steps p.tables e below (T.setTop { g with pc := g.pc + 1, stack := v :: rest }) t) : Steps p.tables e below (T.setTop g) t := by
  obtain ⟨cl, A, -, S, -, H, -⟩ := V
  have hin := own_idx S q1 q2
  exact X.baloadBooleans hx (j := j) (v := v) (by rw [eT]; exact A.1) (State.isArrayOf_alike hZ.alike A.2.1) A.2.2 hin (H.at hin hv) (g := g) hg hs hd _ kk
theorem own_aaload (X : Stand p l e R s m args below meth c T locs cells slots) (hx : p.tables.exec = Jvm.exec) (hZ : Z.Warmed39 s.vm) (eT : T.heap = h) {k : ClassId} {n : Int32} {vs : List Value} {d : Value} {ty : FieldType} (V : Arv Z h a k ty n vs d) (hty : ty.isReference = true) {j : Int32} (q1 : ¬ j < 0) (q2 : j < n) {v : Value} (hv : vs.getD j.toNatClampNeg d = v) {g : JFrame} (hg : g.method = m) {rest : List Value} (hs : g.stack = .int j :: .ref a :: rest) (hd : decode c.code g.pc = .ok (.aaload, 1)) (t : State) (kk : Steps p.tables e below (T.setTop { g with pc := g.pc + 1, stack := v :: rest }) t) : Steps p.tables e below (T.setTop g) t := by
  obtain ⟨cl, A, -, S, -, H, -⟩ := V
  have hin := own_idx S q1 q2
  exact X.aaload hx (j := j) (v := v) (by rw [eT]; exact A.1) (State.isArrayOf_alike hZ.alike A.2.1) hty A.2.2 hin (H.at hin hv) (g := g) hg hs hd _ kk
theorem own_len (X : Stand p l e R s m args below meth c T locs cells slots) (hx : p.tables.exec = Jvm.exec) (hZ : Z.Warmed39 s.vm) (eT : T.heap = h) {k : ClassId} {n : Int32} {vs : List Value} {d : Value} {ty : FieldType} (V : Arv Z h a k ty n vs d) {g : JFrame} (hg : g.method = m) {rest : List Value} (hs : g.stack = .ref a :: rest) (hd : decode c.code g.pc = .ok (.arraylength, 1)) (t : State) (kk : Steps p.tables e below (T.setTop { g with pc := g.pc + 1, stack := .int n :: rest }) t) : Steps p.tables e below (T.setTop g) t := by
  obtain ⟨cl, A, -, S, N, -, -⟩ := V
  refine X.arraylength hx (by rw [eT]; exact A.1) (State.isArrayOf_alike hZ.alike A.2.1) (g := g) hg hs hd _ ?_
  rw [len_of S N]
  exact kk
theorem own_stI (X : Stand p l e R s m args below meth c T locs cells slots) (hx : p.tables.exec = Jvm.exec) (hZ : Z.Warmed39 s.vm) (eT : T.heap = h) {k : ClassId} {n : Int32} {vs : List Value} {d : Value} (V : Arv Z h a k .int n vs d) {j x : Int32} (q1 : ¬ j < 0) (q2 : j < n) (i : Nat) (hi : j.toNatClampNeg = i) (hl : i < vs.length) {g : JFrame} (hg : g.method = m) {rest : List Value} (hs : g.stack = .int x :: .int j :: .ref a :: rest) (hd : decode c.code g.pc = .ok (.iastore, 1)) :
    ∃ T' h', Stand p l e R s m args below meth c T' (locs ++ [⟨a, j.toNatClampNeg⟩]) cells slots ∧ T'.heap = h' ∧ Wr h h' a j.toNatClampNeg (.int x) ∧ Arv Z h' a k .int n (vs.set i (.int x)) d ∧ ∀ t, Steps p.tables e below (T'.setTop { g with pc := g.pc + 1, stack := rest }) t → Steps p.tables e below (T.setTop g) t := by
  obtain ⟨cl, A, q, S, N, H, G⟩ := V
  obtain ⟨T', h', X', e', W', st⟩ := stI X hx hZ eT A (own_idx S q1 q2) (g := g) hg hs hd
  exact ⟨T', h', X', e', W', Arv.set A q S N H G rfl W' i hi hl, st⟩
theorem own_stJ (X : Stand p l e R s m args below meth c T locs cells slots) (hx : p.tables.exec = Jvm.exec) (hZ : Z.Warmed39 s.vm) (eT : T.heap = h) {k : ClassId} {n : Int32} {vs : List Value} {d : Value} (V : Arv Z h a k .long n vs d) {j : Int32} {x : Int64} (q1 : ¬ j < 0) (q2 : j < n) (i : Nat) (hi : j.toNatClampNeg = i) (hl : i < vs.length) {g : JFrame} (hg : g.method = m) {rest : List Value} (hs : g.stack = .long x :: .int j :: .ref a :: rest) (hd : decode c.code g.pc = .ok (.lastore, 1)) :
    ∃ T' h', Stand p l e R s m args below meth c T' (locs ++ [⟨a, j.toNatClampNeg⟩]) cells slots ∧ T'.heap = h' ∧ Wr h h' a j.toNatClampNeg (.long x) ∧ Arv Z h' a k .long n (vs.set i (.long x)) d ∧ ∀ t, Steps p.tables e below (T'.setTop { g with pc := g.pc + 1, stack := rest }) t → Steps p.tables e below (T.setTop g) t := by
  obtain ⟨cl, A, q, S, N, H, G⟩ := V
  obtain ⟨T', h', X', e', W', st⟩ := stJ X hx hZ eT A (own_idx S q1 q2) (g := g) hg hs hd
  exact ⟨T', h', X', e', W', Arv.set A q S N H G rfl W' i hi hl, st⟩
theorem own_stC (X : Stand p l e R s m args below meth c T locs cells slots) (hx : p.tables.exec = Jvm.exec) (hZ : Z.Warmed39 s.vm) (eT : T.heap = h) {k : ClassId} {n : Int32} {vs : List Value} {d : Value} (V : Arv Z h a k .char n vs d) {j x : Int32} (q1 : ¬ j < 0) (q2 : j < n) (i : Nat) (hi : j.toNatClampNeg = i) (hl : i < vs.length) {g : JFrame} (hg : g.method = m) {rest : List Value} (hs : g.stack = .int x :: .int j :: .ref a :: rest) (hd : decode c.code g.pc = .ok (.castore, 1)) :
    ∃ T' h', Stand p l e R s m args below meth c T' (locs ++ [⟨a, j.toNatClampNeg⟩]) cells slots ∧ T'.heap = h' ∧ Wr h h' a j.toNatClampNeg (.int (nar .char x)) ∧ Arv Z h' a k .char n (vs.set i (.int (nar .char x))) d ∧ ∀ t, Steps p.tables e below (T'.setTop { g with pc := g.pc + 1, stack := rest }) t → Steps p.tables e below (T.setTop g) t := by
  obtain ⟨cl, A, q, S, N, H, G⟩ := V
  obtain ⟨T', h', X', e', W', st⟩ := stC X hx hZ eT A (own_idx S q1 q2) (g := g) hg hs hd
  exact ⟨T', h', X', e', W', Arv.set A q S N H G (fits_nar_char _) W' i hi hl, st⟩
theorem own_stB (X : Stand p l e R s m args below meth c T locs cells slots) (hx : p.tables.exec = Jvm.exec) (hZ : Z.Warmed39 s.vm) (eT : T.heap = h) {k : ClassId} {n : Int32} {vs : List Value} {d : Value} (V : Arv Z h a k .byte n vs d) {j x : Int32} (q1 : ¬ j < 0) (q2 : j < n) (i : Nat) (hi : j.toNatClampNeg = i) (hl : i < vs.length) {g : JFrame} (hg : g.method = m) {rest : List Value} (hs : g.stack = .int x :: .int j :: .ref a :: rest) (hd : decode c.code g.pc = .ok (.bastore, 1)) :
    ∃ T' h', Stand p l e R s m args below meth c T' (locs ++ [⟨a, j.toNatClampNeg⟩]) cells slots ∧ T'.heap = h' ∧ Wr h h' a j.toNatClampNeg (.int (nar .byte x)) ∧ Arv Z h' a k .byte n (vs.set i (.int (nar .byte x))) d ∧ ∀ t, Steps p.tables e below (T'.setTop { g with pc := g.pc + 1, stack := rest }) t → Steps p.tables e below (T.setTop g) t := by
  obtain ⟨cl, A, q, S, N, H, G⟩ := V
  obtain ⟨T', h', X', e', W', st⟩ := stB X hx hZ eT A (own_idx S q1 q2) (g := g) hg hs hd
  exact ⟨T', h', X', e', W', Arv.set A q S N H G (fits_nar_byte _) W' i hi hl, st⟩
theorem own_stZ (X : Stand p l e R s m args below meth c T locs cells slots) (hx : p.tables.exec = Jvm.exec) (hZ : Z.Warmed39 s.vm) (eT : T.heap = h) {k : ClassId} {n : Int32} {vs : List Value} {d : Value} (V : Arv Z h a k .boolean n vs d) {j x : Int32} (q1 : ¬ j < 0) (q2 : j < n) (i : Nat) (hi : j.toNatClampNeg = i) (hl : i < vs.length) {g : JFrame} (hg : g.method = m) {rest : List Value} (hs : g.stack = .int x :: .int j :: .ref a :: rest) (hd : decode c.code g.pc = .ok (.bastore, 1)) :
    ∃ T' h', Stand p l e R s m args below meth c T' (locs ++ [⟨a, j.toNatClampNeg⟩]) cells slots ∧ T'.heap = h' ∧ Wr h h' a j.toNatClampNeg (.int (nar .boolean x)) ∧ Arv Z h' a k .boolean n (vs.set i (.int (nar .boolean x))) d ∧ ∀ t, Steps p.tables e below (T'.setTop { g with pc := g.pc + 1, stack := rest }) t → Steps p.tables e below (T.setTop g) t := by
  obtain ⟨cl, A, q, S, N, H, G⟩ := V
  obtain ⟨T', h', X', e', W', st⟩ := stZ X hx hZ eT A (own_idx S q1 q2) (g := g) hg hs hd
  exact ⟨T', h', X', e', W', Arv.set A q S N H G (fits_nar_bool _) W' i hi hl, st⟩
theorem own_old {n0 : Nat} (O : Old Z n0 h) : n0 ≤ h.size := O.1 ▸ O.2.1
theorem own_res {z z' y : Int32} (hq : y = z') (hz : z = z') : some (Value.int z) = some (Value.int y) := by rw [hq, hz]
theorem own_resJ {z z' y : Int64} (hq : y = z') (hz : z = z') : some (Value.long z) = some (Value.long y) := by rw [hq, hz]
theorem own_narR {v : Value} {t : FieldType} (q : v.isRef = true) (r : t.isReference = true := by rfl) : narrow t v = v := by
  rcases ref_cases q with rfl | ⟨_, rfl⟩ <;> cases t <;> first | rfl | (simp [FieldType.isReference] at r)
theorem own_fitR {v : Value} {t : FieldType} (q : v.isRef = true) (r : t.isReference = true := by rfl) : fits t v = true := by
  rcases ref_cases q with rfl | ⟨_, rfl⟩ <;> cases t <;> first | rfl | (simp [FieldType.isReference] at r)
theorem own_fld {ar : Array Value} {t : Term} {x : Addr} {C n d : String} {k : Int32} (ht : t.eval ar s none [] s = some (.ref x)) (q : (Jvm.Cond.eq (.field t C n d) (.int k)).value ar s none s [] = some true) : Fld s s.heap x C n d (.int k) := by
  obtain ⟨u, w, e1, e2, -, k2⟩ := cmp_v (Or.inl q)
  have e3 : (Term.int k).eval ar s none [] s = some (.int k) := Term.int_eval k
  rw [e3] at e2
  obtain rfl := Option.some.inj e2
  obtain ⟨z, rfl⟩ := k2
  have e4 : z = k := gotT (Cond.eq_ints e1 e3) q
  subst e4
  rw [fld_at ht] at e1
  exact Fld.start e1
theorem own_neI {u w : Int32} (q : u ≠ w) : Value.int u ≠ Value.int w := fun z => q (Value.int.inj z)
theorem own_stR (X : Stand p l e R s m args below meth c T locs cells slots) (hx : p.tables.exec = Jvm.exec) (hZ : Z.Warmed39 s.vm) (eT : T.heap = h) {k : ClassId} {n : Int32} {vs : List Value} {d : Value} {ty : FieldType} {C : String} (V : Arv Z h a k ty n vs d) (hty : ty.isReference = true) (O : Ovr Z k C) {y : Addr} (I : Ins Z h y C true) {j : Int32} (q1 : ¬ j < 0) (q2 : j < n) (i : Nat) (hi : j.toNatClampNeg = i) (hl : i < vs.length) {g : JFrame} (hg : g.method = m) {rest : List Value} (hs : g.stack = .ref y :: .int j :: .ref a :: rest) (hd : decode c.code g.pc = .ok (.aastore, 1)) :
    ∃ T' h', Stand p l e R s m args below meth c T' (locs ++ [⟨a, j.toNatClampNeg⟩]) cells slots ∧ T'.heap = h' ∧ Wr h h' a j.toNatClampNeg (.ref y) ∧ Arv Z h' a k ty n (vs.set i (.ref y)) d ∧ ∀ t, Steps p.tables e below (T'.setTop { g with pc := g.pc + 1, stack := rest }) t → Steps p.tables e below (T.setTop g) t := by
  obtain ⟨cl, A, q, S, N, H, G⟩ := V
  obtain ⟨T', h', X', e', W', st⟩ := stR X hx hZ eT A (own_idx S q1 q2) hty (Sto.ofV A q O I) (g := g) hg hs hd
  exact ⟨T', h', X', e', W', Arv.set A q S N H G (own_fitR rfl hty) W' i hi hl, st⟩
theorem own_dupx2 (X : Stand p l e R s m args below meth c T locs cells slots) (hx : p.tables.exec = Jvm.exec) {g : JFrame} (hg : g.method = m) {x y z : Value} {rest : List Value} (hd : decode c.code g.pc = .ok (.dup_x2, 1)) (hs : g.stack = x :: y :: z :: rest) (hc : x.category = 1) (hc' : y.category = 1) (hc'' : z.category = 1) (t : State) (kk : Steps p.tables e below (T.setTop { g with pc := g.pc + 1, stack := x :: y :: z :: x :: rest }) t) : Steps p.tables e below (T.setTop g) t := by
  subst hg
  jvm_step X.here [X.here.top, hx, hd, dup_x2.wp_sem, hs, hc, hc', hc'']
  exact kk
theorem own_gen {n0 : Nat} (X : Stand p l e R s m args below meth c T locs cells slots) (N : Fr n0 locs) : ∃ L, Stand p l e R s m args below meth c T L cells slots ∧ Fr n0 L := ⟨_, X, N⟩
end OwnKit
theorem own_lt (x y : Int32) : (x < y) = (x.toInt < y.toInt) := propext Int32.lt_iff_toInt_lt
theorem own_eq (x y : Int32) : (x = y) = (x.toInt = y.toInt) := propext Int32.toInt_inj.symm
theorem own_nnA {x : UInt64} {n d a b : Nat} (h : FP.Core.Ap x n d a b) : Jvm.Free.Fl.NoNaN64 x := by
  obtain ⟨z, p, -, -⟩ := h
  exact (Jvm.Free.Fl.fin64_core.mpr p.fin).noNaN
def oSc (F Lx A I : Int32) : UInt64 := if F = (0 : Int32) then FP.dconst0 else FP.Core.oS F Lx A I
theorem own_z0 {x : Int32} {n : Nat} (h : x.toInt = (n : Int)) (q : x = (0 : Int32)) : n = 0 := by
  subst q
  have : (0 : Int32).toInt = 0 := rfl
  omega
theorem own_allSc {F Lx A I : Int32} {f l a i : Nat} (hF : F.toInt = (f : Int)) (hf : f < 2147483648) (hL : Lx.toInt = (l : Int)) (hl : l < 2147483648) (hA : A.toInt = (a : Int)) (ha1 : 1 ≤ a) (ha2 : a ≤ 4096) (hI : I.toInt = (i : Int)) (hi : i ≤ 16383) :
    ∃ zs zt, FP.Core.Pz (oSc F Lx A I) zs ∧ FP.Core.Pz (FP.Core.oT I) zt ∧ zs ≤ zt ∧ zs < (6 * a * f * i / (a + 24 * l + 2 * a * f) + 2) * FP.Core.oU ∧ 6 * a * f * i / (a + 24 * l + 2 * a * f) * FP.Core.oU < zs + FP.Core.oU ∧ (f = 0 ∨ i = 0 → zs = 0) ∧ 6 * a * f * i / (a + 24 * l + 2 * a * f) ≤ 49149 := by
  obtain ⟨zs, zt, ps, pt, h1, h2, h3, h4, h5⟩ := FP.Core.own_all hF hf hL hl hA ha1 ha2 hI hi
  unfold oSc
  by_cases h0 : F = (0 : Int32)
  · have hf0 := own_z0 hF h0
    subst hf0
    rw [if_pos h0]
    have e0 : 6 * a * 0 * i / (a + 24 * l + 2 * a * 0) = 0 := by rw [Nat.mul_zero, Nat.zero_mul, Nat.zero_div]
    rw [e0]
    have hU := FP.Core.oU_pos
    refine ⟨0, zt, ⟨0, FP.Core.b64.qmin, FP.Core.val64_dconst0, ?_⟩, pt, Nat.zero_le _, ?_, ?_, fun _ => rfl, by decide⟩
    · unfold FP.Core.inUnits; rw [Nat.zero_mul]
    · rw [Nat.zero_add]; exact Nat.mul_pos (by decide) hU
    · rw [Nat.zero_mul, Nat.zero_add]; exact hU
  · rw [if_neg h0]
    refine ⟨zs, zt, ps, pt, h1, h2, h3, fun q => ?_, h5⟩
    rcases q with q | q
    · exfalso
      apply h0
      rw [own_eq]
      rw [hF, q]
      rfl
    · exact h4 q
theorem own_cv {x y : UInt64} {zx zy : Int} (hx : FP.Core.val64 x ≠ .nan) (ex : FP.Core.zval FP.Core.b64 (FP.Core.val64 x) = zx) (hy : FP.Core.val64 y ≠ .nan) (ey : FP.Core.zval FP.Core.b64 (FP.Core.val64 y) = zy) (o : CmpOp) : cmpValue (FP.dcmp x y) o = if zx < zy then -1 else if zx = zy then 0 else 1 := by
  rw [show FP.dcmp x y = _ from FP.Core.dcmp_zval hx hy, ex, ey, FP.Core.compare_ite]
  split
  · rfl
  · split <;> rfl
theorem own_pz0 : FP.Core.Pz FP.dconst0 0 := ⟨0, FP.Core.b64.qmin, FP.Core.val64_dconst0, by unfold FP.Core.inUnits; rw [Nat.zero_mul]⟩
theorem own_c0 {x : UInt64} {z : Nat} (p : FP.Core.Pz x z) (h : z = 0) (o : CmpOp) : cmpValue (FP.dcmp x FP.dconst0) o = (0 : Int32) := by
  subst h
  rw [own_cv p.ne p.zval own_pz0.ne own_pz0.zval, if_neg (by omega), if_pos rfl]
theorem own_cge {x : UInt64} {z : Nat} (p : FP.Core.Pz x z) (o : CmpOp) : ¬ cmpValue (FP.dcmp x FP.dconst0) o < (0 : Int32) := by
  rw [own_cv p.ne p.zval own_pz0.ne own_pz0.zval, if_neg (by omega)]
  split <;> decide
theorem own_cle {x y : UInt64} {z t : Nat} (p : FP.Core.Pz x z) (q : FP.Core.Pz y t) (h : z ≤ t) (o : CmpOp) : ¬ (0 : Int32) < cmpValue (FP.dcmp x y) o := by
  rw [own_cv p.ne p.zval q.ne q.zval]
  split
  · decide
  · rw [if_pos (by omega)]; decide
theorem own_l2dZ {x : Int64} (h1 : -9007199254740992 < x.toInt) (h2 : x.toInt < 9007199254740992) : FP.Core.val64 (FP.l2d x) ≠ .nan ∧ FP.Core.zval FP.Core.b64 (FP.Core.val64 (FP.l2d x)) = x.toInt * (FP.Core.oU : Int) := by
  have w := FP.Core.l2d_whole (a := x) ⟨h1, h2⟩
  exact ⟨w.ne_nan, FP.Core.DInt_zval w⟩
theorem own_cgt {x : UInt64} {z L : Nat} {lo : Int64} (p : FP.Core.Pz x z) (hL : lo.toInt = (L : Int)) (hb : L ≤ 49149) (h : L * FP.Core.oU < z + FP.Core.oU) (o : CmpOp) : cmpValue (FP.dcmp x (FP.l2d (lo - (1 : Int64)))) o = (1 : Int32) := by
  have e : (lo - (1 : Int64)).toInt = (L : Int) - 1 := by
    rw [FP.Core.int64_sub (by rw [hL]; show _ ≤ (L : Int) - 1; omega) (by rw [hL]; show (L : Int) - 1 < _; omega), hL]
    rfl
  have w := own_l2dZ (x := lo - (1 : Int64)) (by rw [e]; omega) (by rw [e]; omega)
  rw [e] at w
  have k : ((L : Int) - 1) * (FP.Core.oU : Int) = ((L * FP.Core.oU : Nat) : Int) - (FP.Core.oU : Int) := by rw [Int.sub_mul, Int.one_mul, Int.natCast_mul]
  rw [k] at w
  generalize L * FP.Core.oU = y at *
  generalize FP.Core.oU = u at *
  rw [own_cv p.ne p.zval w.1 w.2, if_neg (by omega), if_neg (by omega)]
theorem own_clt {x : UInt64} {z L : Nat} {lo : Int64} (p : FP.Core.Pz x z) (hL : lo.toInt = (L : Int)) (hb : L ≤ 49149) (h : z < (L + 2) * FP.Core.oU) (o : CmpOp) : cmpValue (FP.dcmp x (FP.l2d (lo + (2 : Int64)))) o = (-1 : Int32) := by
  have e : (lo + (2 : Int64)).toInt = (L : Int) + 2 := by
    rw [FP.Core.int64_add (by rw [hL]; show _ ≤ (L : Int) + 2; omega) (by rw [hL]; show (L : Int) + 2 < _; omega), hL]
    rfl
  have w := own_l2dZ (x := lo + (2 : Int64)) (by rw [e]; omega) (by rw [e]; omega)
  rw [e] at w
  have k : ((L : Int) + 2) * (FP.Core.oU : Int) = (((L + 2) * FP.Core.oU : Nat) : Int) := by rw [Int.natCast_mul]; rfl
  rw [k] at w
  generalize (L + 2) * FP.Core.oU = y at *
  rw [own_cv p.ne p.zval w.1 w.2, if_pos (by omega)]
theorem own_mulN {x y : Int64} {m n : Nat} (hx : x.toInt = (m : Int)) (hy : y.toInt = (n : Int)) (hb : m * n < 9223372036854775808) : (x * y).toInt = ((m * n : Nat) : Int) := by
  have e : x.toInt * y.toInt = ((m * n : Nat) : Int) := by rw [hx, hy, Int.natCast_mul]
  rw [FP.Core.int64_mul (by rw [e]; generalize m * n = w at *; omega) (by rw [e]; generalize m * n = w at *; omega), e]
theorem own_addN {x y : Int64} {m n : Nat} (hx : x.toInt = (m : Int)) (hy : y.toInt = (n : Int)) (hb : m + n < 9223372036854775808) : (x + y).toInt = ((m + n : Nat) : Int) := by
  rw [FP.Core.int64_add (by rw [hx, hy]; omega) (by rw [hx, hy]; omega), hx, hy, Int.natCast_add]
theorem own_toL {x : Int32} {n : Nat} (h : x.toInt = (n : Int)) : x.toInt64.toInt = (n : Int) := (Int32.toInt_toInt64 x).trans h
section
variable {F Lx A I : Int32} {f l a i : Nat}
theorem own_num (hF : F.toInt = (f : Int)) (hf : f < 2147483648) (hA : A.toInt = (a : Int)) (ha2 : a ≤ 4096) (hI : I.toInt = (i : Int)) (hi : i ≤ 16383) : ∃ n : Int64, ((((6 : Int64) * (A.toInt64)) * (F.toInt64)) * (I.toInt64)) = n ∧ n.toInt = ((6 * a * f * i : Nat) : Int) := by
  refine ⟨_, rfl, ?_⟩
  have b1 : 6 * a * f ≤ 52776558133248 := Nat.le_trans (Nat.mul_le_mul (show 6 * a ≤ 24576 by omega) (Nat.le_of_lt hf)) (by decide)
  have b2 : 6 * a * f * i ≤ 864643000000000000 := Nat.le_trans (Nat.mul_le_mul b1 hi) (by decide)
  exact own_mulN (own_mulN (own_mulN (m := 6) rfl (own_toL hA) (by omega)) (own_toL hF) (by omega)) (own_toL hI) (by omega)
theorem own_den (hF : F.toInt = (f : Int)) (hf : f < 2147483648) (hL : Lx.toInt = (l : Int)) (hl : l < 2147483648) (hA : A.toInt = (a : Int)) (ha2 : a ≤ 4096) : ∃ n : Int64, (((A.toInt64) + ((24 : Int64) * (Lx.toInt64))) + (((2 : Int64) * (A.toInt64)) * (F.toInt64))) = n ∧ n.toInt = ((a + 24 * l + 2 * a * f : Nat) : Int) := by
  refine ⟨_, rfl, ?_⟩
  have b1 : 2 * a * f ≤ 17592186044416 := Nat.le_trans (Nat.mul_le_mul (show 2 * a ≤ 8192 by omega) (Nat.le_of_lt hf)) (by decide)
  exact own_addN (own_addN (own_toL hA) (own_mulN (m := 24) rfl (own_toL hL) (by omega)) (by omega)) (own_mulN (own_mulN (m := 2) rfl (own_toL hA) (by omega)) (own_toL hF) (by omega)) (by omega)
end
theorem own_lo {x y : Int64} {m n : Nat} (hx : x.toInt = (m : Int)) (hy : y.toInt = (n : Int)) (hn : 0 < n) : ∃ z : Int64, (x / y) = z ∧ z.toInt = ((m / n : Nat) : Int) := by
  refine ⟨_, rfl, ?_⟩
  have h := (c_ldiv x y (n : Int) hy (fun q => by
    have : (-1 : Int64).toInt = -1 := by decide
    rw [q, this] at hy
    omega)).1 (by rw [hx]; omega)
  rw [h, hx]
  rfl
theorem own_nzL {y : Int64} {n : Nat} (hy : y.toInt = (n : Int)) (hn : 0 < n) : ¬ y = (0 : Int64) := fun q => by
  have : (0 : Int64).toInt = 0 := rfl
  rw [q, this] at hy
  omega
theorem own_m31 (p : Int32) : ∃ (F : Int32) (f : Nat), (p &&& (2147483647 : Int32)) = F ∧ F.toInt = (f : Int) ∧ f < 2147483648 := by
  have h := c_mask p 2147483647 31 (by decide) (by decide)
  have h2 : 0 ≤ (p &&& (2147483647 : Int32)).toInt := by rw [h]; exact Int.emod_nonneg _ (by decide)
  refine ⟨_, (p &&& (2147483647 : Int32)).toInt.toNat, rfl, (Int.toNat_of_nonneg h2).symm, ?_⟩
  have := (p &&& (2147483647 : Int32)).toInt_lt
  omega
theorem own_m14 (p : Int32) : ∃ (F : Int32) (f : Nat), (p &&& (16383 : Int32)) = F ∧ F.toInt = (f : Int) ∧ f ≤ 16383 := by
  have h := c_mask p 16383 14 (by decide) (by decide)
  have h2 : 0 ≤ (p &&& (16383 : Int32)).toInt := by rw [h]; exact Int.emod_nonneg _ (by decide)
  refine ⟨_, (p &&& (16383 : Int32)).toInt.toNat, rfl, (Int.toNat_of_nonneg h2).symm, ?_⟩
  omega
theorem own_m12 (p : Int32) : ∃ (F : Int32) (f : Nat), ((p &&& (4095 : Int32)) + (1 : Int32)) = F ∧ F.toInt = (f : Int) ∧ 1 ≤ f ∧ f ≤ 4096 := by
  have h := c_mask p 4095 12 (by decide) (by decide)
  have h2 : 0 ≤ (p &&& (4095 : Int32)).toInt := by rw [h]; exact Int.emod_nonneg _ (by decide)
  have h3 := c_iadd (p &&& (4095 : Int32)) 1
  have r := rng32 ((p &&& (4095 : Int32)) + (1 : Int32))
  simp only [Int32.reduceToInt] at h3
  refine ⟨_, ((p &&& (4095 : Int32)) + (1 : Int32)).toInt.toNat, rfl, (Int.toNat_of_nonneg (by omega)).symm, ?_, ?_⟩ <;> omega
theorem dsc_0 : decode prog_3_method_3_code 0 = .ok (.iload_n 0, 1) := by decide +kernel
theorem dsc_1 : decode prog_3_method_3_code 1 = .ok (.ifCond .ne 5, 3) := by decide +kernel
theorem dsc_4 : decode prog_3_method_3_code 4 = .ok (.dconst 0, 1) := by decide +kernel
theorem dsc_5 : decode prog_3_method_3_code 5 = .ok (.dreturn, 1) := by decide +kernel
theorem dsc_6 : decode prog_3_method_3_code 6 = .ok (.ldc2_w 21, 3) := by decide +kernel
theorem dsc_9 : decode prog_3_method_3_code 9 = .ok (.ldc2_w 23, 3) := by decide +kernel
theorem dsc_12 : decode prog_3_method_3_code 12 = .ok (.ldc2_w 25, 3) := by decide +kernel
theorem dsc_15 : decode prog_3_method_3_code 15 = .ok (.iload_n 1, 1) := by decide +kernel
theorem dsc_16 : decode prog_3_method_3_code 16 = .ok (.i2d, 1) := by decide +kernel
theorem dsc_17 : decode prog_3_method_3_code 17 = .ok (.dmul, 1) := by decide +kernel
theorem dsc_18 : decode prog_3_method_3_code 18 = .ok (.dload_n 2, 1) := by decide +kernel
theorem dsc_19 : decode prog_3_method_3_code 19 = .ok (.ddiv, 1) := by decide +kernel
theorem dsc_20 : decode prog_3_method_3_code 20 = .ok (.dadd, 1) := by decide +kernel
theorem dsc_21 : decode prog_3_method_3_code 21 = .ok (.dmul, 1) := by decide +kernel
theorem dsc_22 : decode prog_3_method_3_code 22 = .ok (.dstore 6, 2) := by decide +kernel
theorem dsc_24 : decode prog_3_method_3_code 24 = .ok (.ldc2_w 27, 3) := by decide +kernel
theorem dsc_27 : decode prog_3_method_3_code 27 = .ok (.iload_n 0, 1) := by decide +kernel
theorem dsc_28 : decode prog_3_method_3_code 28 = .ok (.i2d, 1) := by decide +kernel
theorem dsc_29 : decode prog_3_method_3_code 29 = .ok (.dmul, 1) := by decide +kernel
theorem dsc_30 : decode prog_3_method_3_code 30 = .ok (.dload 6, 2) := by decide +kernel
theorem dsc_32 : decode prog_3_method_3_code 32 = .ok (.iload_n 0, 1) := by decide +kernel
theorem dsc_33 : decode prog_3_method_3_code 33 = .ok (.i2d, 1) := by decide +kernel
theorem dsc_34 : decode prog_3_method_3_code 34 = .ok (.dadd, 1) := by decide +kernel
theorem dsc_35 : decode prog_3_method_3_code 35 = .ok (.ddiv, 1) := by decide +kernel
theorem dsc_36 : decode prog_3_method_3_code 36 = .ok (.dload 4, 2) := by decide +kernel
theorem dsc_38 : decode prog_3_method_3_code 38 = .ok (.dmul, 1) := by decide +kernel
theorem dsc_39 : decode prog_3_method_3_code 39 = .ok (.dreturn, 1) := by decide +kernel
theorem pnsc : plainName "com/example/element_ranker/elementranker/Bm25" = true := by first | (simp [plainName, overriddenIn]; done) | decide +kernel
theorem efsc (m : MethodId) (x0 : Int32) (x1 : Int32) (x2 : UInt64) (x3 : UInt64) : entryFrame m #[(.int x0), (.int x1), (.double x2), (.double x3)] 8 = mkF m 0 #[.val (.int x0), .val (.int x1), .val (.double x2), .second, .val (.double x3), .second, .unset, .unset] [] := by first | (simp [entryFrame, mkF, argsToLocals, Value.category, maxLocals]; done) | rfl
def Qsc (Z : State) (F : Int32) (Lx : Int32) (A : Int32) (I : Int32) (nf : Nat) (nl : Nat) (na : Nat) (ni : Nat) (h0 : Heap) (n0 : Nat) (v : Option Value) (h : Heap) (L : List Loc) : Prop := v = some (.double (oSc F Lx A I)) ∧ Fr n0 L ∧ h = h0
set_option maxRecDepth 65536 in
set_option maxHeartbeats 40000000 in
theorem rmsc (l : Launch) (Z : State) (a0 : Array Value) (hw : ∀ d ∈ tables_1, d.before a0 Z = true) (ws : List Jvm.Cond) (F : Int32) (Lx : Int32) (A : Int32) (I : Int32) (nf : Nat) (nl : Nat) (na : Nat) (ni : Nat) (h0 : Heap) (n0 : Nat) (O0 : Old Z n0 h0) (hF : F.toInt = (nf : Int)) (hf : nf < 2147483648) (hL : Lx.toInt = (nl : Int)) (hl : nl < 2147483648) (hA : A.toInt = (na : Int)) (ha1 : 1 ≤ na) (ha2 : na ≤ 4096) (hI : I.toInt = (ni : Int)) (hi : ni ≤ 16383) :
    MetFree l (⟨"com/example/element_ranker/elementranker/Bm25", "score", "(IIDD)D"⟩ : MethodName) (head1 (Jvm.Cond.code (⟨"com/example/element_ranker/elementranker/Bm25", "score", "(IIDD)D"⟩ : MethodName) prog_3_method_3_code 8 (some .double) :: ws) ({ frames := 0, cells := 0, slots := 0, locals := 0 } : Room)) (fun A_ U_ => A_ = #[(.int F), (.int Lx), (.double (FP.Core.oAvg A)), (.double (FP.i2d I))] ∧ Z.Warmed39 U_.vm ∧ U_.heap = h0) (fun _ _ _ _ _ => True) (fun _ U o U' => ∃ v L, o = .returned v ∧ Qsc Z F Lx A I nf nl na ni h0 n0 v U'.heap L ∧ FrameEnd U o U' L ({ frames := 0, cells := 0, slots := 0, locals := 0 } : Room).cells ({ frames := 0, cells := 0, slots := 0, locals := 0 } : Room).slots) := by
  refine MetFree.of_bodySF (plainFor_of_name pnsc) hisR ?_
  intro p e s m args below meth cd s₁ Bd hml0 hP hK
  obtain ⟨rfl, hZ, hh⟩ := hP
  have hx := Bd.exec
  have hby := Bd.bytes
  have hlk : meth.locks = false := BodyLoose.notSynchronized Bd
  have hml : cd.maxLocals = 8 := hml0
  have hown : s.vm.findClass "com/example/element_ranker/elementranker/Bm25" = some m.cls := findClass_of_methodNamed Bd.named
  have hnm := (name_of_methodNamed Bd.named Bd.method).1
  have X0 : Stand p l e ({ frames := 0, cells := 0, slots := 0, locals := 0 } : Room) s m #[(.int F), (.int Lx), (.double (FP.Core.oAvg A)), (.double (FP.i2d I))] below meth cd s₁ [] 0 0 := Stand.of_body Bd
  have e0 : s₁.heap = h0 := by rw [← hh, Bd.state]; rfl
  have N0 := Fr.nil n0
  have G : Go p e below s 0 0 (Qsc Z F Lx A I nf nl na ni h0 n0) (s₁.setTop (mkF m 0 #[.val (.int F), .val (.int Lx), .val (.double (FP.Core.oAvg A)), .second, .val (.double (FP.i2d I)), .second, .unset, .unset] [])) := by
    show Go p e below s _ _ _ (s₁.setTop (mkF m 0 #[.val (.int F), .val (.int Lx), .val (.double (FP.Core.oAvg A)), .second, .val (.double (FP.i2d I)), .second, .unset, .unset] []))
    refine Go.st (fun _ kq_ => XS.iloadN X0.here hx rfl (hb hby dsc_0) rfl kq_) ?_
    show Go p e below s _ _ _ (s₁.setTop (mkF m 1 #[.val (.int F), .val (.int Lx), .val (.double (FP.Core.oAvg A)), .second, .val (.double (FP.i2d I)), .second, .unset, .unset] [(.int F)]))
    by_cases c1_1 : F = (0 : Int32)
    · refine Go.st (fun _ kq_ => XS.ifNo X0.here hx rfl (hb hby dsc_1) rfl (XT.i0_ne_f c1_1) kq_) ?_
      show Go p e below s _ _ _ (s₁.setTop (mkF m 4 #[.val (.int F), .val (.int Lx), .val (.double (FP.Core.oAvg A)), .second, .val (.double (FP.i2d I)), .second, .unset, .unset] []))
      refine Go.st (fun _ kq_ => XS.dconst0 X0.here hx rfl (hb hby dsc_4) rfl kq_) ?_
      show Go p e below s _ _ _ (s₁.setTop (mkF m 5 #[.val (.int F), .val (.int Lx), .val (.double (FP.Core.oAvg A)), .second, .val (.double (FP.i2d I)), .second, .unset, .unset] [(.double FP.dconst0)]))
      exact Go.ret X0 hlk (some (.double FP.dconst0)) (fun h => by rw [Bd.returns] at h; cases h) (by rw [e0]; exact ⟨by unfold oSc; rw [if_pos c1_1], N0, rfl⟩) (by decide) (by decide) (fun fs hr => retOut X0 hx Bd.returns rfl (Or.inr (Or.inr (Or.inl ⟨rfl, rfl, _, rfl⟩))) (hb hby dsc_5) hr)
    · refine Go.st (fun _ kq_ => XS.ifYes X0.here hx rfl (pc0 := 1) (pc' := 6) rfl (hb hby dsc_1) rfl (XT.i0_ne_t c1_1) (by decide) (by decide) kq_) ?_
      show Go p e below s _ _ _ (s₁.setTop (mkF m 6 #[.val (.int F), .val (.int Lx), .val (.double (FP.Core.oAvg A)), .second, .val (.double (FP.i2d I)), .second, .unset, .unset] []))
      refine Go.st (fun _ kq_ => X0.ldc2DoubleC hx hown (mvT hZ (own_w hw 10 rfl)) (g := (mkF m 6 #[.val (.int F), .val (.int Lx), .val (.double (FP.Core.oAvg A)), .second, .val (.double (FP.i2d I)), .second, .unset, .unset] [])) rfl (hb hby dsc_6) _ kq_) ?_
      show Go p e below s _ _ _ (s₁.setTop (mkF m 9 #[.val (.int F), .val (.int Lx), .val (.double (FP.Core.oAvg A)), .second, .val (.double (FP.i2d I)), .second, .unset, .unset] [(.double (4611686018427387904 : UInt64))]))
      refine Go.st (fun _ kq_ => X0.ldc2DoubleC hx hown (mvT hZ (own_w hw 11 rfl)) (g := (mkF m 9 #[.val (.int F), .val (.int Lx), .val (.double (FP.Core.oAvg A)), .second, .val (.double (FP.i2d I)), .second, .unset, .unset] [(.double (4611686018427387904 : UInt64))])) rfl (hb hby dsc_9) _ kq_) ?_
      show Go p e below s _ _ _ (s₁.setTop (mkF m 12 #[.val (.int F), .val (.int Lx), .val (.double (FP.Core.oAvg A)), .second, .val (.double (FP.i2d I)), .second, .unset, .unset] [(.double (4598175219545276416 : UInt64)), (.double (4611686018427387904 : UInt64))]))
      refine Go.st (fun _ kq_ => X0.ldc2DoubleC hx hown (mvT hZ (own_w hw 12 rfl)) (g := (mkF m 12 #[.val (.int F), .val (.int Lx), .val (.double (FP.Core.oAvg A)), .second, .val (.double (FP.i2d I)), .second, .unset, .unset] [(.double (4598175219545276416 : UInt64)), (.double (4611686018427387904 : UInt64))])) rfl (hb hby dsc_12) _ kq_) ?_
      show Go p e below s _ _ _ (s₁.setTop (mkF m 15 #[.val (.int F), .val (.int Lx), .val (.double (FP.Core.oAvg A)), .second, .val (.double (FP.i2d I)), .second, .unset, .unset] [(.double (4604930618986332160 : UInt64)), (.double (4598175219545276416 : UInt64)), (.double (4611686018427387904 : UInt64))]))
      refine Go.st (fun _ kq_ => XS.iloadN X0.here hx rfl (hb hby dsc_15) rfl kq_) ?_
      show Go p e below s _ _ _ (s₁.setTop (mkF m 16 #[.val (.int F), .val (.int Lx), .val (.double (FP.Core.oAvg A)), .second, .val (.double (FP.i2d I)), .second, .unset, .unset] [(.int Lx), (.double (4604930618986332160 : UInt64)), (.double (4598175219545276416 : UInt64)), (.double (4611686018427387904 : UInt64))]))
      refine Go.st (fun _ kq_ => XS.i2dS X0.here hx rfl (hb hby dsc_16) rfl rfl kq_) ?_
      show Go p e below s _ _ _ (s₁.setTop (mkF m 17 #[.val (.int F), .val (.int Lx), .val (.double (FP.Core.oAvg A)), .second, .val (.double (FP.i2d I)), .second, .unset, .unset] [(.double (FP.i2d Lx)), (.double (4604930618986332160 : UInt64)), (.double (4598175219545276416 : UInt64)), (.double (4611686018427387904 : UInt64))]))
      refine Go.st (fun _ kq_ => XS.dmulS X0.here hx rfl (hb hby dsc_17) rfl (own_nnA (FP.Core.own_x1 hL hl)) rfl kq_) ?_
      show Go p e below s _ _ _ (s₁.setTop (mkF m 18 #[.val (.int F), .val (.int Lx), .val (.double (FP.Core.oAvg A)), .second, .val (.double (FP.i2d I)), .second, .unset, .unset] [(.double (FP.dmul (4604930618986332160 : UInt64) (FP.i2d Lx))), (.double (4598175219545276416 : UInt64)), (.double (4611686018427387904 : UInt64))]))
      show Go p e below s _ _ _ (s₁.setTop (mkF m 18 #[.val (.int F), .val (.int Lx), .val (.double (FP.Core.oAvg A)), .second, .val (.double (FP.i2d I)), .second, .unset, .unset] [(.double (FP.Core.oX1 Lx)), (.double (4598175219545276416 : UInt64)), (.double (4611686018427387904 : UInt64))]))
      refine Go.st (fun _ kq_ => XS.dloadN X0.here hx rfl (hb hby dsc_18) rfl kq_) ?_
      show Go p e below s _ _ _ (s₁.setTop (mkF m 19 #[.val (.int F), .val (.int Lx), .val (.double (FP.Core.oAvg A)), .second, .val (.double (FP.i2d I)), .second, .unset, .unset] [(.double (FP.Core.oAvg A)), (.double (FP.Core.oX1 Lx)), (.double (4598175219545276416 : UInt64)), (.double (4611686018427387904 : UInt64))]))
      refine Go.st (fun _ kq_ => XS.ddivS X0.here hx rfl (hb hby dsc_19) rfl (own_nnA (FP.Core.own_x2 hL hl hA ha1 ha2)) rfl kq_) ?_
      show Go p e below s _ _ _ (s₁.setTop (mkF m 20 #[.val (.int F), .val (.int Lx), .val (.double (FP.Core.oAvg A)), .second, .val (.double (FP.i2d I)), .second, .unset, .unset] [(.double (FP.ddiv (FP.Core.oX1 Lx) (FP.Core.oAvg A))), (.double (4598175219545276416 : UInt64)), (.double (4611686018427387904 : UInt64))]))
      show Go p e below s _ _ _ (s₁.setTop (mkF m 20 #[.val (.int F), .val (.int Lx), .val (.double (FP.Core.oAvg A)), .second, .val (.double (FP.i2d I)), .second, .unset, .unset] [(.double (FP.Core.oX2 Lx A)), (.double (4598175219545276416 : UInt64)), (.double (4611686018427387904 : UInt64))]))
      refine Go.st (fun _ kq_ => XS.daddS X0.here hx rfl (hb hby dsc_20) rfl (own_nnA (FP.Core.own_x3 hL hl hA ha1 ha2)) rfl kq_) ?_
      show Go p e below s _ _ _ (s₁.setTop (mkF m 21 #[.val (.int F), .val (.int Lx), .val (.double (FP.Core.oAvg A)), .second, .val (.double (FP.i2d I)), .second, .unset, .unset] [(.double (FP.dadd (4598175219545276416 : UInt64) (FP.Core.oX2 Lx A))), (.double (4611686018427387904 : UInt64))]))
      show Go p e below s _ _ _ (s₁.setTop (mkF m 21 #[.val (.int F), .val (.int Lx), .val (.double (FP.Core.oAvg A)), .second, .val (.double (FP.i2d I)), .second, .unset, .unset] [(.double (FP.Core.oX3 Lx A)), (.double (4611686018427387904 : UInt64))]))
      refine Go.st (fun _ kq_ => XS.dmulS X0.here hx rfl (hb hby dsc_21) rfl (own_nnA (FP.Core.own_k hL hl hA ha1 ha2)) rfl kq_) ?_
      show Go p e below s _ _ _ (s₁.setTop (mkF m 22 #[.val (.int F), .val (.int Lx), .val (.double (FP.Core.oAvg A)), .second, .val (.double (FP.i2d I)), .second, .unset, .unset] [(.double (FP.dmul (4611686018427387904 : UInt64) (FP.Core.oX3 Lx A)))]))
      show Go p e below s _ _ _ (s₁.setTop (mkF m 22 #[.val (.int F), .val (.int Lx), .val (.double (FP.Core.oAvg A)), .second, .val (.double (FP.i2d I)), .second, .unset, .unset] [(.double (FP.Core.oK Lx A))]))
      refine Go.st (fun _ kq_ => XS.dstore X0.here hx rfl (hb hby dsc_22) rfl (l' := #[.val (.int F), .val (.int Lx), .val (.double (FP.Core.oAvg A)), .second, .val (.double (FP.i2d I)), .second, .val (.double (FP.Core.oK Lx A)), .second]) rfl kq_) ?_
      show Go p e below s _ _ _ (s₁.setTop (mkF m 24 #[.val (.int F), .val (.int Lx), .val (.double (FP.Core.oAvg A)), .second, .val (.double (FP.i2d I)), .second, .val (.double (FP.Core.oK Lx A)), .second] []))
      refine Go.st (fun _ kq_ => X0.ldc2DoubleC hx hown (mvT hZ (own_w hw 13 rfl)) (g := (mkF m 24 #[.val (.int F), .val (.int Lx), .val (.double (FP.Core.oAvg A)), .second, .val (.double (FP.i2d I)), .second, .val (.double (FP.Core.oK Lx A)), .second] [])) rfl (hb hby dsc_24) _ kq_) ?_
      show Go p e below s _ _ _ (s₁.setTop (mkF m 27 #[.val (.int F), .val (.int Lx), .val (.double (FP.Core.oAvg A)), .second, .val (.double (FP.i2d I)), .second, .val (.double (FP.Core.oK Lx A)), .second] [(.double (4613937818241073152 : UInt64))]))
      refine Go.st (fun _ kq_ => XS.iloadN X0.here hx rfl (hb hby dsc_27) rfl kq_) ?_
      show Go p e below s _ _ _ (s₁.setTop (mkF m 28 #[.val (.int F), .val (.int Lx), .val (.double (FP.Core.oAvg A)), .second, .val (.double (FP.i2d I)), .second, .val (.double (FP.Core.oK Lx A)), .second] [(.int F), (.double (4613937818241073152 : UInt64))]))
      refine Go.st (fun _ kq_ => XS.i2dS X0.here hx rfl (hb hby dsc_28) rfl rfl kq_) ?_
      show Go p e below s _ _ _ (s₁.setTop (mkF m 29 #[.val (.int F), .val (.int Lx), .val (.double (FP.Core.oAvg A)), .second, .val (.double (FP.i2d I)), .second, .val (.double (FP.Core.oK Lx A)), .second] [(.double (FP.i2d F)), (.double (4613937818241073152 : UInt64))]))
      refine Go.st (fun _ kq_ => XS.dmulS X0.here hx rfl (hb hby dsc_29) rfl (own_nnA (FP.Core.own_y1 hF hf)) rfl kq_) ?_
      show Go p e below s _ _ _ (s₁.setTop (mkF m 30 #[.val (.int F), .val (.int Lx), .val (.double (FP.Core.oAvg A)), .second, .val (.double (FP.i2d I)), .second, .val (.double (FP.Core.oK Lx A)), .second] [(.double (FP.dmul (4613937818241073152 : UInt64) (FP.i2d F)))]))
      show Go p e below s _ _ _ (s₁.setTop (mkF m 30 #[.val (.int F), .val (.int Lx), .val (.double (FP.Core.oAvg A)), .second, .val (.double (FP.i2d I)), .second, .val (.double (FP.Core.oK Lx A)), .second] [(.double (FP.Core.oY1 F))]))
      refine Go.st (fun _ kq_ => XS.dload X0.here hx rfl (hb hby dsc_30) rfl kq_) ?_
      show Go p e below s _ _ _ (s₁.setTop (mkF m 32 #[.val (.int F), .val (.int Lx), .val (.double (FP.Core.oAvg A)), .second, .val (.double (FP.i2d I)), .second, .val (.double (FP.Core.oK Lx A)), .second] [(.double (FP.Core.oK Lx A)), (.double (FP.Core.oY1 F))]))
      refine Go.st (fun _ kq_ => XS.iloadN X0.here hx rfl (hb hby dsc_32) rfl kq_) ?_
      show Go p e below s _ _ _ (s₁.setTop (mkF m 33 #[.val (.int F), .val (.int Lx), .val (.double (FP.Core.oAvg A)), .second, .val (.double (FP.i2d I)), .second, .val (.double (FP.Core.oK Lx A)), .second] [(.int F), (.double (FP.Core.oK Lx A)), (.double (FP.Core.oY1 F))]))
      refine Go.st (fun _ kq_ => XS.i2dS X0.here hx rfl (hb hby dsc_33) rfl rfl kq_) ?_
      show Go p e below s _ _ _ (s₁.setTop (mkF m 34 #[.val (.int F), .val (.int Lx), .val (.double (FP.Core.oAvg A)), .second, .val (.double (FP.i2d I)), .second, .val (.double (FP.Core.oK Lx A)), .second] [(.double (FP.i2d F)), (.double (FP.Core.oK Lx A)), (.double (FP.Core.oY1 F))]))
      refine Go.st (fun _ kq_ => XS.daddS X0.here hx rfl (hb hby dsc_34) rfl (own_nnA (FP.Core.own_y2 hF hf hL hl hA ha1 ha2)) rfl kq_) ?_
      show Go p e below s _ _ _ (s₁.setTop (mkF m 35 #[.val (.int F), .val (.int Lx), .val (.double (FP.Core.oAvg A)), .second, .val (.double (FP.i2d I)), .second, .val (.double (FP.Core.oK Lx A)), .second] [(.double (FP.dadd (FP.Core.oK Lx A) (FP.i2d F))), (.double (FP.Core.oY1 F))]))
      show Go p e below s _ _ _ (s₁.setTop (mkF m 35 #[.val (.int F), .val (.int Lx), .val (.double (FP.Core.oAvg A)), .second, .val (.double (FP.i2d I)), .second, .val (.double (FP.Core.oK Lx A)), .second] [(.double (FP.Core.oY2 F Lx A)), (.double (FP.Core.oY1 F))]))
      refine Go.st (fun _ kq_ => XS.ddivS X0.here hx rfl (hb hby dsc_35) rfl (own_nnA (FP.Core.own_y3 hF hf hL hl hA ha1 ha2)) rfl kq_) ?_
      show Go p e below s _ _ _ (s₁.setTop (mkF m 36 #[.val (.int F), .val (.int Lx), .val (.double (FP.Core.oAvg A)), .second, .val (.double (FP.i2d I)), .second, .val (.double (FP.Core.oK Lx A)), .second] [(.double (FP.ddiv (FP.Core.oY1 F) (FP.Core.oY2 F Lx A)))]))
      show Go p e below s _ _ _ (s₁.setTop (mkF m 36 #[.val (.int F), .val (.int Lx), .val (.double (FP.Core.oAvg A)), .second, .val (.double (FP.i2d I)), .second, .val (.double (FP.Core.oK Lx A)), .second] [(.double (FP.Core.oY3 F Lx A))]))
      refine Go.st (fun _ kq_ => XS.dload X0.here hx rfl (hb hby dsc_36) rfl kq_) ?_
      show Go p e below s _ _ _ (s₁.setTop (mkF m 38 #[.val (.int F), .val (.int Lx), .val (.double (FP.Core.oAvg A)), .second, .val (.double (FP.i2d I)), .second, .val (.double (FP.Core.oK Lx A)), .second] [(.double (FP.i2d I)), (.double (FP.Core.oY3 F Lx A))]))
      refine Go.st (fun _ kq_ => XS.dmulS X0.here hx rfl (hb hby dsc_38) rfl (own_nnA (FP.Core.own_s hF hf hL hl hA ha1 ha2 hI hi)) rfl kq_) ?_
      show Go p e below s _ _ _ (s₁.setTop (mkF m 39 #[.val (.int F), .val (.int Lx), .val (.double (FP.Core.oAvg A)), .second, .val (.double (FP.i2d I)), .second, .val (.double (FP.Core.oK Lx A)), .second] [(.double (FP.dmul (FP.Core.oY3 F Lx A) (FP.i2d I)))]))
      show Go p e below s _ _ _ (s₁.setTop (mkF m 39 #[.val (.int F), .val (.int Lx), .val (.double (FP.Core.oAvg A)), .second, .val (.double (FP.i2d I)), .second, .val (.double (FP.Core.oK Lx A)), .second] [(.double (FP.Core.oS F Lx A I))]))
      exact Go.ret X0 hlk (some (.double (FP.Core.oS F Lx A I))) (fun h => by rw [Bd.returns] at h; cases h) (by rw [e0]; exact ⟨by unfold oSc; rw [if_neg c1_1], N0, rfl⟩) (by decide) (by decide) (fun fs hr => retOut X0 hx Bd.returns rfl (Or.inr (Or.inr (Or.inl ⟨rfl, rfl, _, rfl⟩))) (hb hby dsc_39) hr)
  obtain ⟨s2, o2, st2, r2⟩ := G
  exact ⟨s2, o2, castTop (efsc m F Lx (FP.Core.oAvg A) (FP.i2d I)) st2, r2⟩
theorem pd0_0 : parseMethodDescriptor "(IIDD)D" = some ⟨[.int, .int, .double, .double], some .double⟩ := by decide +kernel
theorem pn0 : plainName "com/example/element_ranker/elementranker/Bm25ScorePinLaw" = true := by first | (simp [plainName, overriddenIn]; done) | decide +kernel
theorem ef0 (m : MethodId) (x0 : Int32) (x1 : Int32) (x2 : Int32) (x3 : Int32) : entryFrame m #[(.int x0), (.int x1), (.int x2), (.int x3)] maxLocals = mkF m 0 #[.val (.int x0), .val (.int x1), .val (.int x2), .val (.int x3), .unset, .unset, .unset, .unset, .unset, .unset, .unset, .unset, .unset, .unset, .unset, .unset, .unset, .unset, .unset] [] := by first | (simp [entryFrame, mkF, argsToLocals, Value.category, maxLocals]; done) | rfl
def Q0 (Z : State) (p0 : Int32) (p1 : Int32) (p2 : Int32) (p3 : Int32) (h0 : Heap) (n0 : Nat) (v : Option Value) (h : Heap) (L : List Loc) : Prop := v = some (.int 1) ∧ Fr n0 L
set_option maxRecDepth 65536 in
set_option maxHeartbeats 40000000 in
theorem rm0 (l : Launch) (Z : State) (a0 : Array Value) (hw : ∀ d ∈ tables_1, d.before a0 Z = true) (ws : List Jvm.Cond) (p0 : Int32) (p1 : Int32) (p2 : Int32) (p3 : Int32) (h0 : Heap) (n0 : Nat) (O0 : Old Z n0 h0)  :
    MetFree l x (head1 (Jvm.Cond.code x code maxLocals ret :: ws) room_1) (fun A_ U_ => A_ = #[(.int p0), (.int p1), (.int p2), (.int p3)] ∧ Z.Warmed39 U_.vm ∧ U_.heap = h0) (fun _ _ _ _ _ => True) (fun _ U o U' => ∃ v L, o = .returned v ∧ Q0 Z p0 p1 p2 p3 h0 n0 v U'.heap L ∧ FrameEnd U o U' L room_1.cells room_1.slots) := by
  refine MetFree.of_bodySF (plainFor_of_name pn0) hisR ?_
  intro p e s m args below meth cd s₁ Bd hml0 hP hK
  obtain ⟨rfl, hZ, hh⟩ := hP
  have hx := Bd.exec
  have hby := Bd.bytes
  have hlk : meth.locks = false := BodyLoose.notSynchronized Bd
  have hml : cd.maxLocals = 19 := hml0
  have hown : s.vm.findClass "com/example/element_ranker/elementranker/Bm25ScorePinLaw" = some m.cls := findClass_of_methodNamed Bd.named
  have hnm := (name_of_methodNamed Bd.named Bd.method).1
  have X0 : Stand p l e room_1 s m #[(.int p0), (.int p1), (.int p2), (.int p3)] below meth cd s₁ [] 0 0 := Stand.of_body Bd
  have e0 : s₁.heap = h0 := by rw [← hh, Bd.state]; rfl
  have N0 := Fr.nil n0
  have G : Go p e below s room_1.cells room_1.slots (Q0 Z p0 p1 p2 p3 h0 n0) (s₁.setTop (mkF m 0 #[.val (.int p0), .val (.int p1), .val (.int p2), .val (.int p3), .unset, .unset, .unset, .unset, .unset, .unset, .unset, .unset, .unset, .unset, .unset, .unset, .unset, .unset, .unset] [])) := by
    show Go p e below s _ _ _ (s₁.setTop (mkF m 0 #[.val (.int p0), .val (.int p1), .val (.int p2), .val (.int p3), .unset, .unset, .unset, .unset, .unset, .unset, .unset, .unset, .unset, .unset, .unset, .unset, .unset, .unset, .unset] []))
    refine Go.st (fun _ kq_ => XS.iloadN X0.here hx rfl (hb hby at_0) rfl kq_) ?_
    show Go p e below s _ _ _ (s₁.setTop (mkF m 1 #[.val (.int p0), .val (.int p1), .val (.int p2), .val (.int p3), .unset, .unset, .unset, .unset, .unset, .unset, .unset, .unset, .unset, .unset, .unset, .unset, .unset, .unset, .unset] [(.int p0)]))
    refine Go.st (fun _ kq_ => X0.ldcI hx hown (mvT hZ (own_w hw 0 rfl)) rfl (hb hby at_1) kq_) ?_
    show Go p e below s _ _ _ (s₁.setTop (mkF m 3 #[.val (.int p0), .val (.int p1), .val (.int p2), .val (.int p3), .unset, .unset, .unset, .unset, .unset, .unset, .unset, .unset, .unset, .unset, .unset, .unset, .unset, .unset, .unset] [(.int (2147483647 : Int32)), (.int p0)]))
    refine Go.st (fun _ kq_ => XS.iand X0.here hx rfl (hb hby at_3) rfl kq_) ?_
    show Go p e below s _ _ _ (s₁.setTop (mkF m 4 #[.val (.int p0), .val (.int p1), .val (.int p2), .val (.int p3), .unset, .unset, .unset, .unset, .unset, .unset, .unset, .unset, .unset, .unset, .unset, .unset, .unset, .unset, .unset] [(.int (p0 &&& (2147483647 : Int32)))]))
    obtain ⟨F, nf, eF, hF, hf⟩ := own_m31 p0
    rw [eF]
    show Go p e below s _ _ _ (s₁.setTop (mkF m 4 #[.val (.int p0), .val (.int p1), .val (.int p2), .val (.int p3), .unset, .unset, .unset, .unset, .unset, .unset, .unset, .unset, .unset, .unset, .unset, .unset, .unset, .unset, .unset] [(.int F)]))
    refine Go.st (fun _ kq_ => XS.istore X0.here hx rfl (hb hby at_4) rfl (l' := #[.val (.int p0), .val (.int p1), .val (.int p2), .val (.int p3), .val (.int F), .unset, .unset, .unset, .unset, .unset, .unset, .unset, .unset, .unset, .unset, .unset, .unset, .unset, .unset]) rfl kq_) ?_
    show Go p e below s _ _ _ (s₁.setTop (mkF m 6 #[.val (.int p0), .val (.int p1), .val (.int p2), .val (.int p3), .val (.int F), .unset, .unset, .unset, .unset, .unset, .unset, .unset, .unset, .unset, .unset, .unset, .unset, .unset, .unset] []))
    refine Go.st (fun _ kq_ => XS.iloadN X0.here hx rfl (hb hby at_6) rfl kq_) ?_
    show Go p e below s _ _ _ (s₁.setTop (mkF m 7 #[.val (.int p0), .val (.int p1), .val (.int p2), .val (.int p3), .val (.int F), .unset, .unset, .unset, .unset, .unset, .unset, .unset, .unset, .unset, .unset, .unset, .unset, .unset, .unset] [(.int p1)]))
    refine Go.st (fun _ kq_ => X0.ldcI hx hown (mvT hZ (own_w hw 0 rfl)) rfl (hb hby at_7) kq_) ?_
    show Go p e below s _ _ _ (s₁.setTop (mkF m 9 #[.val (.int p0), .val (.int p1), .val (.int p2), .val (.int p3), .val (.int F), .unset, .unset, .unset, .unset, .unset, .unset, .unset, .unset, .unset, .unset, .unset, .unset, .unset, .unset] [(.int (2147483647 : Int32)), (.int p1)]))
    refine Go.st (fun _ kq_ => XS.iand X0.here hx rfl (hb hby at_9) rfl kq_) ?_
    show Go p e below s _ _ _ (s₁.setTop (mkF m 10 #[.val (.int p0), .val (.int p1), .val (.int p2), .val (.int p3), .val (.int F), .unset, .unset, .unset, .unset, .unset, .unset, .unset, .unset, .unset, .unset, .unset, .unset, .unset, .unset] [(.int (p1 &&& (2147483647 : Int32)))]))
    obtain ⟨Lx, nl, eL, hL, hl⟩ := own_m31 p1
    rw [eL]
    show Go p e below s _ _ _ (s₁.setTop (mkF m 10 #[.val (.int p0), .val (.int p1), .val (.int p2), .val (.int p3), .val (.int F), .unset, .unset, .unset, .unset, .unset, .unset, .unset, .unset, .unset, .unset, .unset, .unset, .unset, .unset] [(.int Lx)]))
    refine Go.st (fun _ kq_ => XS.istore X0.here hx rfl (hb hby at_10) rfl (l' := #[.val (.int p0), .val (.int p1), .val (.int p2), .val (.int p3), .val (.int F), .val (.int Lx), .unset, .unset, .unset, .unset, .unset, .unset, .unset, .unset, .unset, .unset, .unset, .unset, .unset]) rfl kq_) ?_
    show Go p e below s _ _ _ (s₁.setTop (mkF m 12 #[.val (.int p0), .val (.int p1), .val (.int p2), .val (.int p3), .val (.int F), .val (.int Lx), .unset, .unset, .unset, .unset, .unset, .unset, .unset, .unset, .unset, .unset, .unset, .unset, .unset] []))
    refine Go.st (fun _ kq_ => XS.iloadN X0.here hx rfl (hb hby at_12) rfl kq_) ?_
    show Go p e below s _ _ _ (s₁.setTop (mkF m 13 #[.val (.int p0), .val (.int p1), .val (.int p2), .val (.int p3), .val (.int F), .val (.int Lx), .unset, .unset, .unset, .unset, .unset, .unset, .unset, .unset, .unset, .unset, .unset, .unset, .unset] [(.int p2)]))
    refine Go.st (fun _ kq_ => XS.sipush X0.here hx rfl (hb hby at_13) kq_) ?_
    show Go p e below s _ _ _ (s₁.setTop (mkF m 16 #[.val (.int p0), .val (.int p1), .val (.int p2), .val (.int p3), .val (.int F), .val (.int Lx), .unset, .unset, .unset, .unset, .unset, .unset, .unset, .unset, .unset, .unset, .unset, .unset, .unset] [(.int (4095 : Int32)), (.int p2)]))
    refine Go.st (fun _ kq_ => XS.iand X0.here hx rfl (hb hby at_16) rfl kq_) ?_
    show Go p e below s _ _ _ (s₁.setTop (mkF m 17 #[.val (.int p0), .val (.int p1), .val (.int p2), .val (.int p3), .val (.int F), .val (.int Lx), .unset, .unset, .unset, .unset, .unset, .unset, .unset, .unset, .unset, .unset, .unset, .unset, .unset] [(.int (p2 &&& (4095 : Int32)))]))
    refine Go.st (fun _ kq_ => XS.iconst X0.here hx rfl (hb hby at_17) kq_) ?_
    show Go p e below s _ _ _ (s₁.setTop (mkF m 18 #[.val (.int p0), .val (.int p1), .val (.int p2), .val (.int p3), .val (.int F), .val (.int Lx), .unset, .unset, .unset, .unset, .unset, .unset, .unset, .unset, .unset, .unset, .unset, .unset, .unset] [(.int (1 : Int32)), (.int (p2 &&& (4095 : Int32)))]))
    refine Go.st (fun _ kq_ => XS.iadd X0.here hx rfl (hb hby at_18) rfl kq_) ?_
    show Go p e below s _ _ _ (s₁.setTop (mkF m 19 #[.val (.int p0), .val (.int p1), .val (.int p2), .val (.int p3), .val (.int F), .val (.int Lx), .unset, .unset, .unset, .unset, .unset, .unset, .unset, .unset, .unset, .unset, .unset, .unset, .unset] [(.int ((p2 &&& (4095 : Int32)) + (1 : Int32)))]))
    obtain ⟨A, na, eA, hA, ha1, ha2⟩ := own_m12 p2
    rw [eA]
    show Go p e below s _ _ _ (s₁.setTop (mkF m 19 #[.val (.int p0), .val (.int p1), .val (.int p2), .val (.int p3), .val (.int F), .val (.int Lx), .unset, .unset, .unset, .unset, .unset, .unset, .unset, .unset, .unset, .unset, .unset, .unset, .unset] [(.int A)]))
    refine Go.st (fun _ kq_ => XS.istore X0.here hx rfl (hb hby at_19) rfl (l' := #[.val (.int p0), .val (.int p1), .val (.int p2), .val (.int p3), .val (.int F), .val (.int Lx), .val (.int A), .unset, .unset, .unset, .unset, .unset, .unset, .unset, .unset, .unset, .unset, .unset, .unset]) rfl kq_) ?_
    show Go p e below s _ _ _ (s₁.setTop (mkF m 21 #[.val (.int p0), .val (.int p1), .val (.int p2), .val (.int p3), .val (.int F), .val (.int Lx), .val (.int A), .unset, .unset, .unset, .unset, .unset, .unset, .unset, .unset, .unset, .unset, .unset, .unset] []))
    refine Go.st (fun _ kq_ => XS.iloadN X0.here hx rfl (hb hby at_21) rfl kq_) ?_
    show Go p e below s _ _ _ (s₁.setTop (mkF m 22 #[.val (.int p0), .val (.int p1), .val (.int p2), .val (.int p3), .val (.int F), .val (.int Lx), .val (.int A), .unset, .unset, .unset, .unset, .unset, .unset, .unset, .unset, .unset, .unset, .unset, .unset] [(.int p3)]))
    refine Go.st (fun _ kq_ => XS.sipush X0.here hx rfl (hb hby at_22) kq_) ?_
    show Go p e below s _ _ _ (s₁.setTop (mkF m 25 #[.val (.int p0), .val (.int p1), .val (.int p2), .val (.int p3), .val (.int F), .val (.int Lx), .val (.int A), .unset, .unset, .unset, .unset, .unset, .unset, .unset, .unset, .unset, .unset, .unset, .unset] [(.int (16383 : Int32)), (.int p3)]))
    refine Go.st (fun _ kq_ => XS.iand X0.here hx rfl (hb hby at_25) rfl kq_) ?_
    show Go p e below s _ _ _ (s₁.setTop (mkF m 26 #[.val (.int p0), .val (.int p1), .val (.int p2), .val (.int p3), .val (.int F), .val (.int Lx), .val (.int A), .unset, .unset, .unset, .unset, .unset, .unset, .unset, .unset, .unset, .unset, .unset, .unset] [(.int (p3 &&& (16383 : Int32)))]))
    obtain ⟨I, ni, eI, hI, hi⟩ := own_m14 p3
    rw [eI]
    show Go p e below s _ _ _ (s₁.setTop (mkF m 26 #[.val (.int p0), .val (.int p1), .val (.int p2), .val (.int p3), .val (.int F), .val (.int Lx), .val (.int A), .unset, .unset, .unset, .unset, .unset, .unset, .unset, .unset, .unset, .unset, .unset, .unset] [(.int I)]))
    refine Go.st (fun _ kq_ => XS.istore X0.here hx rfl (hb hby at_26) rfl (l' := #[.val (.int p0), .val (.int p1), .val (.int p2), .val (.int p3), .val (.int F), .val (.int Lx), .val (.int A), .val (.int I), .unset, .unset, .unset, .unset, .unset, .unset, .unset, .unset, .unset, .unset, .unset]) rfl kq_) ?_
    show Go p e below s _ _ _ (s₁.setTop (mkF m 28 #[.val (.int p0), .val (.int p1), .val (.int p2), .val (.int p3), .val (.int F), .val (.int Lx), .val (.int A), .val (.int I), .unset, .unset, .unset, .unset, .unset, .unset, .unset, .unset, .unset, .unset, .unset] []))
    refine Go.st (fun _ kq_ => XS.iload X0.here hx rfl (hb hby at_28) rfl kq_) ?_
    show Go p e below s _ _ _ (s₁.setTop (mkF m 30 #[.val (.int p0), .val (.int p1), .val (.int p2), .val (.int p3), .val (.int F), .val (.int Lx), .val (.int A), .val (.int I), .unset, .unset, .unset, .unset, .unset, .unset, .unset, .unset, .unset, .unset, .unset] [(.int F)]))
    refine Go.st (fun _ kq_ => XS.iload X0.here hx rfl (hb hby at_30) rfl kq_) ?_
    show Go p e below s _ _ _ (s₁.setTop (mkF m 32 #[.val (.int p0), .val (.int p1), .val (.int p2), .val (.int p3), .val (.int F), .val (.int Lx), .val (.int A), .val (.int I), .unset, .unset, .unset, .unset, .unset, .unset, .unset, .unset, .unset, .unset, .unset] [(.int Lx), (.int F)]))
    refine Go.st (fun _ kq_ => XS.iload X0.here hx rfl (hb hby at_32) rfl kq_) ?_
    show Go p e below s _ _ _ (s₁.setTop (mkF m 34 #[.val (.int p0), .val (.int p1), .val (.int p2), .val (.int p3), .val (.int F), .val (.int Lx), .val (.int A), .val (.int I), .unset, .unset, .unset, .unset, .unset, .unset, .unset, .unset, .unset, .unset, .unset] [(.int A), (.int Lx), (.int F)]))
    refine Go.st (fun _ kq_ => XS.i2dS X0.here hx rfl (hb hby at_34) rfl rfl kq_) ?_
    show Go p e below s _ _ _ (s₁.setTop (mkF m 35 #[.val (.int p0), .val (.int p1), .val (.int p2), .val (.int p3), .val (.int F), .val (.int Lx), .val (.int A), .val (.int I), .unset, .unset, .unset, .unset, .unset, .unset, .unset, .unset, .unset, .unset, .unset] [(.double (FP.i2d A)), (.int Lx), (.int F)]))
    refine Go.st (fun _ kq_ => X0.ldc2DoubleC hx hown (mvT hZ (own_w hw 1 rfl)) (g := (mkF m 35 #[.val (.int p0), .val (.int p1), .val (.int p2), .val (.int p3), .val (.int F), .val (.int Lx), .val (.int A), .val (.int I), .unset, .unset, .unset, .unset, .unset, .unset, .unset, .unset, .unset, .unset, .unset] [(.double (FP.i2d A)), (.int Lx), (.int F)])) rfl (hb hby at_35) _ kq_) ?_
    show Go p e below s _ _ _ (s₁.setTop (mkF m 38 #[.val (.int p0), .val (.int p1), .val (.int p2), .val (.int p3), .val (.int F), .val (.int Lx), .val (.int A), .val (.int I), .unset, .unset, .unset, .unset, .unset, .unset, .unset, .unset, .unset, .unset, .unset] [(.double (4620693217682128896 : UInt64)), (.double (FP.i2d A)), (.int Lx), (.int F)]))
    refine Go.st (fun _ kq_ => XS.ddivS X0.here hx rfl (hb hby at_38) rfl (own_nnA (FP.Core.own_avg hA ha1 ha2)) rfl kq_) ?_
    show Go p e below s _ _ _ (s₁.setTop (mkF m 39 #[.val (.int p0), .val (.int p1), .val (.int p2), .val (.int p3), .val (.int F), .val (.int Lx), .val (.int A), .val (.int I), .unset, .unset, .unset, .unset, .unset, .unset, .unset, .unset, .unset, .unset, .unset] [(.double (FP.ddiv (FP.i2d A) (4620693217682128896 : UInt64))), (.int Lx), (.int F)]))
    show Go p e below s _ _ _ (s₁.setTop (mkF m 39 #[.val (.int p0), .val (.int p1), .val (.int p2), .val (.int p3), .val (.int F), .val (.int Lx), .val (.int A), .val (.int I), .unset, .unset, .unset, .unset, .unset, .unset, .unset, .unset, .unset, .unset, .unset] [(.double (FP.Core.oAvg A)), (.int Lx), (.int F)]))
    refine Go.st (fun _ kq_ => XS.iload X0.here hx rfl (hb hby at_39) rfl kq_) ?_
    show Go p e below s _ _ _ (s₁.setTop (mkF m 41 #[.val (.int p0), .val (.int p1), .val (.int p2), .val (.int p3), .val (.int F), .val (.int Lx), .val (.int A), .val (.int I), .unset, .unset, .unset, .unset, .unset, .unset, .unset, .unset, .unset, .unset, .unset] [(.int I), (.double (FP.Core.oAvg A)), (.int Lx), (.int F)]))
    refine Go.st (fun _ kq_ => XS.i2dS X0.here hx rfl (hb hby at_41) rfl rfl kq_) ?_
    show Go p e below s _ _ _ (s₁.setTop (mkF m 42 #[.val (.int p0), .val (.int p1), .val (.int p2), .val (.int p3), .val (.int F), .val (.int Lx), .val (.int A), .val (.int I), .unset, .unset, .unset, .unset, .unset, .unset, .unset, .unset, .unset, .unset, .unset] [(.double (FP.i2d I)), (.double (FP.Core.oAvg A)), (.int Lx), (.int F)]))
    obtain ⟨_, _, ⟨T1, L1, k1, n1⟩, -, X1, ⟨Lc1, hQ1, l1, y1, z1⟩, st1⟩ := Jvm.LawKit.callS X0 hx (y := (⟨"com/example/element_ranker/elementranker/Bm25", "score", "(IIDD)D"⟩ : MethodName)) hown (mvT hZ (own_w hw 2 rfl)) (mvT hZ (own_w hw 3 rfl)) (mvT hZ (own_w hw 4 rfl)) (mvT hZ (own_w hw 5 rfl)) (by decide) (backOf (W := 0) (rmsc l Z a0 hw [] F Lx A I nf nl na ni h0 n0 O0 hF hf hL hl hA ha1 ha2 hI hi) hZ (own_w hw 5 rfl) (own_w hw 4 rfl) (by decide) (by decide)) (g := (mkF m 42 #[.val (.int p0), .val (.int p1), .val (.int p2), .val (.int p3), .val (.int F), .val (.int Lx), .val (.int A), .val (.int I), .unset, .unset, .unset, .unset, .unset, .unset, .unset, .unset, .unset, .unset, .unset] [(.double (FP.i2d I)), (.double (FP.Core.oAvg A)), (.int Lx), (.int F)])) rfl (by rw [hml]; rfl) (argsL := [(.int F), (.int Lx), (.double (FP.Core.oAvg A)), (.double (FP.i2d I))]) (rest := []) (lenOf pd0_0 rfl) rfl (by show 2 * 0 + _ ≤ _; exact Nat.le_of_eq rfl) (hb hby at_42) (fun _ _ => ⟨rfl, e0, (by decide : 0 + 0 ≤ _), (by decide : 0 + 0 ≤ _)⟩)
    dsimp only [Pt.U, Pt.locs, Pt.cells, Pt.slots] at X1 l1 y1 z1 st1 hQ1
    subst y1 z1
    obtain ⟨rfl, Nc1, e1⟩ := hQ1
    have N1 : Fr n0 L1 := by rw [l1]; exact Fr.app N0 Nc1
    obtain ⟨zs, zt, ps, pt, hst, hn2, hn1, hz, hlo⟩ := own_allSc hF hf hL hl hA ha1 ha2 hI hi
    refine Go.st st1 ?_
    show Go p e below s _ _ _ (T1.setTop (mkF m 45 #[.val (.int p0), .val (.int p1), .val (.int p2), .val (.int p3), .val (.int F), .val (.int Lx), .val (.int A), .val (.int I), .unset, .unset, .unset, .unset, .unset, .unset, .unset, .unset, .unset, .unset, .unset] [(.double (oSc F Lx A I))]))
    refine Go.st (fun _ kq_ => XS.dstore X1.here hx rfl (hb hby at_45) rfl (l' := #[.val (.int p0), .val (.int p1), .val (.int p2), .val (.int p3), .val (.int F), .val (.int Lx), .val (.int A), .val (.int I), .val (.double (oSc F Lx A I)), .second, .unset, .unset, .unset, .unset, .unset, .unset, .unset, .unset, .unset]) rfl kq_) ?_
    show Go p e below s _ _ _ (T1.setTop (mkF m 47 #[.val (.int p0), .val (.int p1), .val (.int p2), .val (.int p3), .val (.int F), .val (.int Lx), .val (.int A), .val (.int I), .val (.double (oSc F Lx A I)), .second, .unset, .unset, .unset, .unset, .unset, .unset, .unset, .unset, .unset] []))
    refine Go.st (fun _ kq_ => X1.ldc2J hx hown (mvT hZ (own_w hw 6 rfl)) rfl (hb hby at_47) kq_) ?_
    show Go p e below s _ _ _ (T1.setTop (mkF m 50 #[.val (.int p0), .val (.int p1), .val (.int p2), .val (.int p3), .val (.int F), .val (.int Lx), .val (.int A), .val (.int I), .val (.double (oSc F Lx A I)), .second, .unset, .unset, .unset, .unset, .unset, .unset, .unset, .unset, .unset] [(.long (6 : Int64))]))
    refine Go.st (fun _ kq_ => XS.iload X1.here hx rfl (hb hby at_50) rfl kq_) ?_
    show Go p e below s _ _ _ (T1.setTop (mkF m 52 #[.val (.int p0), .val (.int p1), .val (.int p2), .val (.int p3), .val (.int F), .val (.int Lx), .val (.int A), .val (.int I), .val (.double (oSc F Lx A I)), .second, .unset, .unset, .unset, .unset, .unset, .unset, .unset, .unset, .unset] [(.int A), (.long (6 : Int64))]))
    refine Go.st (fun _ kq_ => XT.i2l X1.here hx rfl (hb hby at_52) rfl kq_) ?_
    show Go p e below s _ _ _ (T1.setTop (mkF m 53 #[.val (.int p0), .val (.int p1), .val (.int p2), .val (.int p3), .val (.int F), .val (.int Lx), .val (.int A), .val (.int I), .val (.double (oSc F Lx A I)), .second, .unset, .unset, .unset, .unset, .unset, .unset, .unset, .unset, .unset] [(.long (A.toInt64)), (.long (6 : Int64))]))
    refine Go.st (fun _ kq_ => XT.lmul X1.here hx rfl (hb hby at_53) rfl kq_) ?_
    show Go p e below s _ _ _ (T1.setTop (mkF m 54 #[.val (.int p0), .val (.int p1), .val (.int p2), .val (.int p3), .val (.int F), .val (.int Lx), .val (.int A), .val (.int I), .val (.double (oSc F Lx A I)), .second, .unset, .unset, .unset, .unset, .unset, .unset, .unset, .unset, .unset] [(.long ((6 : Int64) * (A.toInt64)))]))
    refine Go.st (fun _ kq_ => XS.iload X1.here hx rfl (hb hby at_54) rfl kq_) ?_
    show Go p e below s _ _ _ (T1.setTop (mkF m 56 #[.val (.int p0), .val (.int p1), .val (.int p2), .val (.int p3), .val (.int F), .val (.int Lx), .val (.int A), .val (.int I), .val (.double (oSc F Lx A I)), .second, .unset, .unset, .unset, .unset, .unset, .unset, .unset, .unset, .unset] [(.int F), (.long ((6 : Int64) * (A.toInt64)))]))
    refine Go.st (fun _ kq_ => XT.i2l X1.here hx rfl (hb hby at_56) rfl kq_) ?_
    show Go p e below s _ _ _ (T1.setTop (mkF m 57 #[.val (.int p0), .val (.int p1), .val (.int p2), .val (.int p3), .val (.int F), .val (.int Lx), .val (.int A), .val (.int I), .val (.double (oSc F Lx A I)), .second, .unset, .unset, .unset, .unset, .unset, .unset, .unset, .unset, .unset] [(.long (F.toInt64)), (.long ((6 : Int64) * (A.toInt64)))]))
    refine Go.st (fun _ kq_ => XT.lmul X1.here hx rfl (hb hby at_57) rfl kq_) ?_
    show Go p e below s _ _ _ (T1.setTop (mkF m 58 #[.val (.int p0), .val (.int p1), .val (.int p2), .val (.int p3), .val (.int F), .val (.int Lx), .val (.int A), .val (.int I), .val (.double (oSc F Lx A I)), .second, .unset, .unset, .unset, .unset, .unset, .unset, .unset, .unset, .unset] [(.long (((6 : Int64) * (A.toInt64)) * (F.toInt64)))]))
    refine Go.st (fun _ kq_ => XS.iload X1.here hx rfl (hb hby at_58) rfl kq_) ?_
    show Go p e below s _ _ _ (T1.setTop (mkF m 60 #[.val (.int p0), .val (.int p1), .val (.int p2), .val (.int p3), .val (.int F), .val (.int Lx), .val (.int A), .val (.int I), .val (.double (oSc F Lx A I)), .second, .unset, .unset, .unset, .unset, .unset, .unset, .unset, .unset, .unset] [(.int I), (.long (((6 : Int64) * (A.toInt64)) * (F.toInt64)))]))
    refine Go.st (fun _ kq_ => XT.i2l X1.here hx rfl (hb hby at_60) rfl kq_) ?_
    show Go p e below s _ _ _ (T1.setTop (mkF m 61 #[.val (.int p0), .val (.int p1), .val (.int p2), .val (.int p3), .val (.int F), .val (.int Lx), .val (.int A), .val (.int I), .val (.double (oSc F Lx A I)), .second, .unset, .unset, .unset, .unset, .unset, .unset, .unset, .unset, .unset] [(.long (I.toInt64)), (.long (((6 : Int64) * (A.toInt64)) * (F.toInt64)))]))
    refine Go.st (fun _ kq_ => XT.lmul X1.here hx rfl (hb hby at_61) rfl kq_) ?_
    show Go p e below s _ _ _ (T1.setTop (mkF m 62 #[.val (.int p0), .val (.int p1), .val (.int p2), .val (.int p3), .val (.int F), .val (.int Lx), .val (.int A), .val (.int I), .val (.double (oSc F Lx A I)), .second, .unset, .unset, .unset, .unset, .unset, .unset, .unset, .unset, .unset] [(.long ((((6 : Int64) * (A.toInt64)) * (F.toInt64)) * (I.toInt64)))]))
    obtain ⟨num, enum, hnum⟩ := own_num hF hf hA ha2 hI hi
    rw [enum]
    show Go p e below s _ _ _ (T1.setTop (mkF m 62 #[.val (.int p0), .val (.int p1), .val (.int p2), .val (.int p3), .val (.int F), .val (.int Lx), .val (.int A), .val (.int I), .val (.double (oSc F Lx A I)), .second, .unset, .unset, .unset, .unset, .unset, .unset, .unset, .unset, .unset] [(.long num)]))
    refine Go.st (fun _ kq_ => XT.lstore X1.here hx rfl (hb hby at_62) rfl (l' := #[.val (.int p0), .val (.int p1), .val (.int p2), .val (.int p3), .val (.int F), .val (.int Lx), .val (.int A), .val (.int I), .val (.double (oSc F Lx A I)), .second, .val (.long num), .second, .unset, .unset, .unset, .unset, .unset, .unset, .unset]) rfl kq_) ?_
    show Go p e below s _ _ _ (T1.setTop (mkF m 64 #[.val (.int p0), .val (.int p1), .val (.int p2), .val (.int p3), .val (.int F), .val (.int Lx), .val (.int A), .val (.int I), .val (.double (oSc F Lx A I)), .second, .val (.long num), .second, .unset, .unset, .unset, .unset, .unset, .unset, .unset] []))
    refine Go.st (fun _ kq_ => XS.iload X1.here hx rfl (hb hby at_64) rfl kq_) ?_
    show Go p e below s _ _ _ (T1.setTop (mkF m 66 #[.val (.int p0), .val (.int p1), .val (.int p2), .val (.int p3), .val (.int F), .val (.int Lx), .val (.int A), .val (.int I), .val (.double (oSc F Lx A I)), .second, .val (.long num), .second, .unset, .unset, .unset, .unset, .unset, .unset, .unset] [(.int A)]))
    refine Go.st (fun _ kq_ => XT.i2l X1.here hx rfl (hb hby at_66) rfl kq_) ?_
    show Go p e below s _ _ _ (T1.setTop (mkF m 67 #[.val (.int p0), .val (.int p1), .val (.int p2), .val (.int p3), .val (.int F), .val (.int Lx), .val (.int A), .val (.int I), .val (.double (oSc F Lx A I)), .second, .val (.long num), .second, .unset, .unset, .unset, .unset, .unset, .unset, .unset] [(.long (A.toInt64))]))
    refine Go.st (fun _ kq_ => X1.ldc2J hx hown (mvT hZ (own_w hw 7 rfl)) rfl (hb hby at_67) kq_) ?_
    show Go p e below s _ _ _ (T1.setTop (mkF m 70 #[.val (.int p0), .val (.int p1), .val (.int p2), .val (.int p3), .val (.int F), .val (.int Lx), .val (.int A), .val (.int I), .val (.double (oSc F Lx A I)), .second, .val (.long num), .second, .unset, .unset, .unset, .unset, .unset, .unset, .unset] [(.long (24 : Int64)), (.long (A.toInt64))]))
    refine Go.st (fun _ kq_ => XS.iload X1.here hx rfl (hb hby at_70) rfl kq_) ?_
    show Go p e below s _ _ _ (T1.setTop (mkF m 72 #[.val (.int p0), .val (.int p1), .val (.int p2), .val (.int p3), .val (.int F), .val (.int Lx), .val (.int A), .val (.int I), .val (.double (oSc F Lx A I)), .second, .val (.long num), .second, .unset, .unset, .unset, .unset, .unset, .unset, .unset] [(.int Lx), (.long (24 : Int64)), (.long (A.toInt64))]))
    refine Go.st (fun _ kq_ => XT.i2l X1.here hx rfl (hb hby at_72) rfl kq_) ?_
    show Go p e below s _ _ _ (T1.setTop (mkF m 73 #[.val (.int p0), .val (.int p1), .val (.int p2), .val (.int p3), .val (.int F), .val (.int Lx), .val (.int A), .val (.int I), .val (.double (oSc F Lx A I)), .second, .val (.long num), .second, .unset, .unset, .unset, .unset, .unset, .unset, .unset] [(.long (Lx.toInt64)), (.long (24 : Int64)), (.long (A.toInt64))]))
    refine Go.st (fun _ kq_ => XT.lmul X1.here hx rfl (hb hby at_73) rfl kq_) ?_
    show Go p e below s _ _ _ (T1.setTop (mkF m 74 #[.val (.int p0), .val (.int p1), .val (.int p2), .val (.int p3), .val (.int F), .val (.int Lx), .val (.int A), .val (.int I), .val (.double (oSc F Lx A I)), .second, .val (.long num), .second, .unset, .unset, .unset, .unset, .unset, .unset, .unset] [(.long ((24 : Int64) * (Lx.toInt64))), (.long (A.toInt64))]))
    refine Go.st (fun _ kq_ => XT.ladd X1.here hx rfl (hb hby at_74) rfl kq_) ?_
    show Go p e below s _ _ _ (T1.setTop (mkF m 75 #[.val (.int p0), .val (.int p1), .val (.int p2), .val (.int p3), .val (.int F), .val (.int Lx), .val (.int A), .val (.int I), .val (.double (oSc F Lx A I)), .second, .val (.long num), .second, .unset, .unset, .unset, .unset, .unset, .unset, .unset] [(.long ((A.toInt64) + ((24 : Int64) * (Lx.toInt64))))]))
    refine Go.st (fun _ kq_ => X1.ldc2J hx hown (mvT hZ (own_w hw 8 rfl)) rfl (hb hby at_75) kq_) ?_
    show Go p e below s _ _ _ (T1.setTop (mkF m 78 #[.val (.int p0), .val (.int p1), .val (.int p2), .val (.int p3), .val (.int F), .val (.int Lx), .val (.int A), .val (.int I), .val (.double (oSc F Lx A I)), .second, .val (.long num), .second, .unset, .unset, .unset, .unset, .unset, .unset, .unset] [(.long (2 : Int64)), (.long ((A.toInt64) + ((24 : Int64) * (Lx.toInt64))))]))
    refine Go.st (fun _ kq_ => XS.iload X1.here hx rfl (hb hby at_78) rfl kq_) ?_
    show Go p e below s _ _ _ (T1.setTop (mkF m 80 #[.val (.int p0), .val (.int p1), .val (.int p2), .val (.int p3), .val (.int F), .val (.int Lx), .val (.int A), .val (.int I), .val (.double (oSc F Lx A I)), .second, .val (.long num), .second, .unset, .unset, .unset, .unset, .unset, .unset, .unset] [(.int A), (.long (2 : Int64)), (.long ((A.toInt64) + ((24 : Int64) * (Lx.toInt64))))]))
    refine Go.st (fun _ kq_ => XT.i2l X1.here hx rfl (hb hby at_80) rfl kq_) ?_
    show Go p e below s _ _ _ (T1.setTop (mkF m 81 #[.val (.int p0), .val (.int p1), .val (.int p2), .val (.int p3), .val (.int F), .val (.int Lx), .val (.int A), .val (.int I), .val (.double (oSc F Lx A I)), .second, .val (.long num), .second, .unset, .unset, .unset, .unset, .unset, .unset, .unset] [(.long (A.toInt64)), (.long (2 : Int64)), (.long ((A.toInt64) + ((24 : Int64) * (Lx.toInt64))))]))
    refine Go.st (fun _ kq_ => XT.lmul X1.here hx rfl (hb hby at_81) rfl kq_) ?_
    show Go p e below s _ _ _ (T1.setTop (mkF m 82 #[.val (.int p0), .val (.int p1), .val (.int p2), .val (.int p3), .val (.int F), .val (.int Lx), .val (.int A), .val (.int I), .val (.double (oSc F Lx A I)), .second, .val (.long num), .second, .unset, .unset, .unset, .unset, .unset, .unset, .unset] [(.long ((2 : Int64) * (A.toInt64))), (.long ((A.toInt64) + ((24 : Int64) * (Lx.toInt64))))]))
    refine Go.st (fun _ kq_ => XS.iload X1.here hx rfl (hb hby at_82) rfl kq_) ?_
    show Go p e below s _ _ _ (T1.setTop (mkF m 84 #[.val (.int p0), .val (.int p1), .val (.int p2), .val (.int p3), .val (.int F), .val (.int Lx), .val (.int A), .val (.int I), .val (.double (oSc F Lx A I)), .second, .val (.long num), .second, .unset, .unset, .unset, .unset, .unset, .unset, .unset] [(.int F), (.long ((2 : Int64) * (A.toInt64))), (.long ((A.toInt64) + ((24 : Int64) * (Lx.toInt64))))]))
    refine Go.st (fun _ kq_ => XT.i2l X1.here hx rfl (hb hby at_84) rfl kq_) ?_
    show Go p e below s _ _ _ (T1.setTop (mkF m 85 #[.val (.int p0), .val (.int p1), .val (.int p2), .val (.int p3), .val (.int F), .val (.int Lx), .val (.int A), .val (.int I), .val (.double (oSc F Lx A I)), .second, .val (.long num), .second, .unset, .unset, .unset, .unset, .unset, .unset, .unset] [(.long (F.toInt64)), (.long ((2 : Int64) * (A.toInt64))), (.long ((A.toInt64) + ((24 : Int64) * (Lx.toInt64))))]))
    refine Go.st (fun _ kq_ => XT.lmul X1.here hx rfl (hb hby at_85) rfl kq_) ?_
    show Go p e below s _ _ _ (T1.setTop (mkF m 86 #[.val (.int p0), .val (.int p1), .val (.int p2), .val (.int p3), .val (.int F), .val (.int Lx), .val (.int A), .val (.int I), .val (.double (oSc F Lx A I)), .second, .val (.long num), .second, .unset, .unset, .unset, .unset, .unset, .unset, .unset] [(.long (((2 : Int64) * (A.toInt64)) * (F.toInt64))), (.long ((A.toInt64) + ((24 : Int64) * (Lx.toInt64))))]))
    refine Go.st (fun _ kq_ => XT.ladd X1.here hx rfl (hb hby at_86) rfl kq_) ?_
    show Go p e below s _ _ _ (T1.setTop (mkF m 87 #[.val (.int p0), .val (.int p1), .val (.int p2), .val (.int p3), .val (.int F), .val (.int Lx), .val (.int A), .val (.int I), .val (.double (oSc F Lx A I)), .second, .val (.long num), .second, .unset, .unset, .unset, .unset, .unset, .unset, .unset] [(.long (((A.toInt64) + ((24 : Int64) * (Lx.toInt64))) + (((2 : Int64) * (A.toInt64)) * (F.toInt64))))]))
    obtain ⟨den, eden, hden⟩ := own_den hF hf hL hl hA ha2
    rw [eden]
    show Go p e below s _ _ _ (T1.setTop (mkF m 87 #[.val (.int p0), .val (.int p1), .val (.int p2), .val (.int p3), .val (.int F), .val (.int Lx), .val (.int A), .val (.int I), .val (.double (oSc F Lx A I)), .second, .val (.long num), .second, .unset, .unset, .unset, .unset, .unset, .unset, .unset] [(.long den)]))
    refine Go.st (fun _ kq_ => XT.lstore X1.here hx rfl (hb hby at_87) rfl (l' := #[.val (.int p0), .val (.int p1), .val (.int p2), .val (.int p3), .val (.int F), .val (.int Lx), .val (.int A), .val (.int I), .val (.double (oSc F Lx A I)), .second, .val (.long num), .second, .val (.long den), .second, .unset, .unset, .unset, .unset, .unset]) rfl kq_) ?_
    show Go p e below s _ _ _ (T1.setTop (mkF m 89 #[.val (.int p0), .val (.int p1), .val (.int p2), .val (.int p3), .val (.int F), .val (.int Lx), .val (.int A), .val (.int I), .val (.double (oSc F Lx A I)), .second, .val (.long num), .second, .val (.long den), .second, .unset, .unset, .unset, .unset, .unset] []))
    refine Go.st (fun _ kq_ => XT.lload X1.here hx rfl (hb hby at_89) rfl kq_) ?_
    show Go p e below s _ _ _ (T1.setTop (mkF m 91 #[.val (.int p0), .val (.int p1), .val (.int p2), .val (.int p3), .val (.int F), .val (.int Lx), .val (.int A), .val (.int I), .val (.double (oSc F Lx A I)), .second, .val (.long num), .second, .val (.long den), .second, .unset, .unset, .unset, .unset, .unset] [(.long num)]))
    refine Go.st (fun _ kq_ => XT.lload X1.here hx rfl (hb hby at_91) rfl kq_) ?_
    show Go p e below s _ _ _ (T1.setTop (mkF m 93 #[.val (.int p0), .val (.int p1), .val (.int p2), .val (.int p3), .val (.int F), .val (.int Lx), .val (.int A), .val (.int I), .val (.double (oSc F Lx A I)), .second, .val (.long num), .second, .val (.long den), .second, .unset, .unset, .unset, .unset, .unset] [(.long den), (.long num)]))
    refine Go.st (fun _ kq_ => XT.ldiv X1.here hx rfl (hb hby at_93) rfl (own_nzL hden (by omega)) kq_) ?_
    show Go p e below s _ _ _ (T1.setTop (mkF m 94 #[.val (.int p0), .val (.int p1), .val (.int p2), .val (.int p3), .val (.int F), .val (.int Lx), .val (.int A), .val (.int I), .val (.double (oSc F Lx A I)), .second, .val (.long num), .second, .val (.long den), .second, .unset, .unset, .unset, .unset, .unset] [(.long (num / den))]))
    obtain ⟨lo, elo, hlov⟩ := own_lo hnum hden (by omega)
    rw [elo]
    show Go p e below s _ _ _ (T1.setTop (mkF m 94 #[.val (.int p0), .val (.int p1), .val (.int p2), .val (.int p3), .val (.int F), .val (.int Lx), .val (.int A), .val (.int I), .val (.double (oSc F Lx A I)), .second, .val (.long num), .second, .val (.long den), .second, .unset, .unset, .unset, .unset, .unset] [(.long lo)]))
    refine Go.st (fun _ kq_ => XT.lstore X1.here hx rfl (hb hby at_94) rfl (l' := #[.val (.int p0), .val (.int p1), .val (.int p2), .val (.int p3), .val (.int F), .val (.int Lx), .val (.int A), .val (.int I), .val (.double (oSc F Lx A I)), .second, .val (.long num), .second, .val (.long den), .second, .val (.long lo), .second, .unset, .unset, .unset]) rfl kq_) ?_
    show Go p e below s _ _ _ (T1.setTop (mkF m 96 #[.val (.int p0), .val (.int p1), .val (.int p2), .val (.int p3), .val (.int F), .val (.int Lx), .val (.int A), .val (.int I), .val (.double (oSc F Lx A I)), .second, .val (.long num), .second, .val (.long den), .second, .val (.long lo), .second, .unset, .unset, .unset] []))
    have J122 : ∀ (T2 : State) (lc2 : List Loc) (X2 : Stand p l e room_1 s m #[(.int p0), (.int p1), (.int p2), (.int p3)] below meth cd T2 lc2 0 0) (e2 : T2.heap = h0) (N2 : Fr n0 lc2) (O2 : Old Z n0 h0), Go p e below s room_1.cells room_1.slots (Q0 Z p0 p1 p2 p3 h0 n0) (T2.setTop (mkF m 122 #[.val (.int p0), .val (.int p1), .val (.int p2), .val (.int p3), .val (.int F), .val (.int Lx), .val (.int A), .val (.int I), .val (.double (oSc F Lx A I)), .second, .val (.long num), .second, .val (.long den), .second, .val (.long lo), .second, .unset, .unset, .unset] [(.int (1 : Int32))])) := by
      intro T2 lc2 X2 e2 N2 O2
      refine Go.st (fun _ kq_ => XS.istore X2.here hx rfl (hb hby at_122) rfl (l' := #[.val (.int p0), .val (.int p1), .val (.int p2), .val (.int p3), .val (.int F), .val (.int Lx), .val (.int A), .val (.int I), .val (.double (oSc F Lx A I)), .second, .val (.long num), .second, .val (.long den), .second, .val (.long lo), .second, .val (.int (1 : Int32)), .unset, .unset]) rfl kq_) ?_
      show Go p e below s _ _ _ (T2.setTop (mkF m 124 #[.val (.int p0), .val (.int p1), .val (.int p2), .val (.int p3), .val (.int F), .val (.int Lx), .val (.int A), .val (.int I), .val (.double (oSc F Lx A I)), .second, .val (.long num), .second, .val (.long den), .second, .val (.long lo), .second, .val (.int (1 : Int32)), .unset, .unset] []))
      refine Go.st (fun _ kq_ => XS.dload X2.here hx rfl (hb hby at_124) rfl kq_) ?_
      show Go p e below s _ _ _ (T2.setTop (mkF m 126 #[.val (.int p0), .val (.int p1), .val (.int p2), .val (.int p3), .val (.int F), .val (.int Lx), .val (.int A), .val (.int I), .val (.double (oSc F Lx A I)), .second, .val (.long num), .second, .val (.long den), .second, .val (.long lo), .second, .val (.int (1 : Int32)), .unset, .unset] [(.double (oSc F Lx A I))]))
      refine Go.st (fun _ kq_ => XS.dconst0 X2.here hx rfl (hb hby at_126) rfl kq_) ?_
      show Go p e below s _ _ _ (T2.setTop (mkF m 127 #[.val (.int p0), .val (.int p1), .val (.int p2), .val (.int p3), .val (.int F), .val (.int Lx), .val (.int A), .val (.int I), .val (.double (oSc F Lx A I)), .second, .val (.long num), .second, .val (.long den), .second, .val (.long lo), .second, .val (.int (1 : Int32)), .unset, .unset] [(.double FP.dconst0), (.double (oSc F Lx A I))]))
      refine Go.st (fun _ kq_ => XS.dcmpS X2.here hx rfl (hb hby at_127) rfl rfl kq_) ?_
      show Go p e below s _ _ _ (T2.setTop (mkF m 128 #[.val (.int p0), .val (.int p1), .val (.int p2), .val (.int p3), .val (.int F), .val (.int Lx), .val (.int A), .val (.int I), .val (.double (oSc F Lx A I)), .second, .val (.long num), .second, .val (.long den), .second, .val (.long lo), .second, .val (.int (1 : Int32)), .unset, .unset] [(.int (cmpValue (FP.dcmp (oSc F Lx A I) FP.dconst0) .l))]))
      refine Go.st (fun _ kq_ => XS.ifNo X2.here hx rfl (hb hby at_128) rfl (XT.i0_lt_f (own_cge ps _)) kq_) ?_
      show Go p e below s _ _ _ (T2.setTop (mkF m 131 #[.val (.int p0), .val (.int p1), .val (.int p2), .val (.int p3), .val (.int F), .val (.int Lx), .val (.int A), .val (.int I), .val (.double (oSc F Lx A I)), .second, .val (.long num), .second, .val (.long den), .second, .val (.long lo), .second, .val (.int (1 : Int32)), .unset, .unset] []))
      refine Go.st (fun _ kq_ => XS.dload X2.here hx rfl (hb hby at_131) rfl kq_) ?_
      show Go p e below s _ _ _ (T2.setTop (mkF m 133 #[.val (.int p0), .val (.int p1), .val (.int p2), .val (.int p3), .val (.int F), .val (.int Lx), .val (.int A), .val (.int I), .val (.double (oSc F Lx A I)), .second, .val (.long num), .second, .val (.long den), .second, .val (.long lo), .second, .val (.int (1 : Int32)), .unset, .unset] [(.double (oSc F Lx A I))]))
      refine Go.st (fun _ kq_ => X2.ldc2DoubleC hx hown (mvT hZ (own_w hw 9 rfl)) (g := (mkF m 133 #[.val (.int p0), .val (.int p1), .val (.int p2), .val (.int p3), .val (.int F), .val (.int Lx), .val (.int A), .val (.int I), .val (.double (oSc F Lx A I)), .second, .val (.long num), .second, .val (.long den), .second, .val (.long lo), .second, .val (.int (1 : Int32)), .unset, .unset] [(.double (oSc F Lx A I))])) rfl (hb hby at_133) _ kq_) ?_
      show Go p e below s _ _ _ (T2.setTop (mkF m 136 #[.val (.int p0), .val (.int p1), .val (.int p2), .val (.int p3), .val (.int F), .val (.int Lx), .val (.int A), .val (.int I), .val (.double (oSc F Lx A I)), .second, .val (.long num), .second, .val (.long den), .second, .val (.long lo), .second, .val (.int (1 : Int32)), .unset, .unset] [(.double (4613937818241073152 : UInt64)), (.double (oSc F Lx A I))]))
      refine Go.st (fun _ kq_ => XS.iload X2.here hx rfl (hb hby at_136) rfl kq_) ?_
      show Go p e below s _ _ _ (T2.setTop (mkF m 138 #[.val (.int p0), .val (.int p1), .val (.int p2), .val (.int p3), .val (.int F), .val (.int Lx), .val (.int A), .val (.int I), .val (.double (oSc F Lx A I)), .second, .val (.long num), .second, .val (.long den), .second, .val (.long lo), .second, .val (.int (1 : Int32)), .unset, .unset] [(.int I), (.double (4613937818241073152 : UInt64)), (.double (oSc F Lx A I))]))
      refine Go.st (fun _ kq_ => XS.i2dS X2.here hx rfl (hb hby at_138) rfl rfl kq_) ?_
      show Go p e below s _ _ _ (T2.setTop (mkF m 139 #[.val (.int p0), .val (.int p1), .val (.int p2), .val (.int p3), .val (.int F), .val (.int Lx), .val (.int A), .val (.int I), .val (.double (oSc F Lx A I)), .second, .val (.long num), .second, .val (.long den), .second, .val (.long lo), .second, .val (.int (1 : Int32)), .unset, .unset] [(.double (FP.i2d I)), (.double (4613937818241073152 : UInt64)), (.double (oSc F Lx A I))]))
      refine Go.st (fun _ kq_ => XS.dmulS X2.here hx rfl (hb hby at_139) rfl (own_nnA (FP.Core.own_t hI hi)) rfl kq_) ?_
      show Go p e below s _ _ _ (T2.setTop (mkF m 140 #[.val (.int p0), .val (.int p1), .val (.int p2), .val (.int p3), .val (.int F), .val (.int Lx), .val (.int A), .val (.int I), .val (.double (oSc F Lx A I)), .second, .val (.long num), .second, .val (.long den), .second, .val (.long lo), .second, .val (.int (1 : Int32)), .unset, .unset] [(.double (FP.dmul (4613937818241073152 : UInt64) (FP.i2d I))), (.double (oSc F Lx A I))]))
      show Go p e below s _ _ _ (T2.setTop (mkF m 140 #[.val (.int p0), .val (.int p1), .val (.int p2), .val (.int p3), .val (.int F), .val (.int Lx), .val (.int A), .val (.int I), .val (.double (oSc F Lx A I)), .second, .val (.long num), .second, .val (.long den), .second, .val (.long lo), .second, .val (.int (1 : Int32)), .unset, .unset] [(.double (FP.Core.oT I)), (.double (oSc F Lx A I))]))
      refine Go.st (fun _ kq_ => XS.dcmpS X2.here hx rfl (hb hby at_140) rfl rfl kq_) ?_
      show Go p e below s _ _ _ (T2.setTop (mkF m 141 #[.val (.int p0), .val (.int p1), .val (.int p2), .val (.int p3), .val (.int F), .val (.int Lx), .val (.int A), .val (.int I), .val (.double (oSc F Lx A I)), .second, .val (.long num), .second, .val (.long den), .second, .val (.long lo), .second, .val (.int (1 : Int32)), .unset, .unset] [(.int (cmpValue (FP.dcmp (oSc F Lx A I) (FP.Core.oT I)) .g))]))
      refine Go.st (fun _ kq_ => XS.ifNo X2.here hx rfl (hb hby at_141) rfl (XT.i0_gt_f (own_cle ps pt hst _)) kq_) ?_
      show Go p e below s _ _ _ (T2.setTop (mkF m 144 #[.val (.int p0), .val (.int p1), .val (.int p2), .val (.int p3), .val (.int F), .val (.int Lx), .val (.int A), .val (.int I), .val (.double (oSc F Lx A I)), .second, .val (.long num), .second, .val (.long den), .second, .val (.long lo), .second, .val (.int (1 : Int32)), .unset, .unset] []))
      refine Go.st (fun _ kq_ => XS.iconst X2.here hx rfl (hb hby at_144) kq_) ?_
      show Go p e below s _ _ _ (T2.setTop (mkF m 145 #[.val (.int p0), .val (.int p1), .val (.int p2), .val (.int p3), .val (.int F), .val (.int Lx), .val (.int A), .val (.int I), .val (.double (oSc F Lx A I)), .second, .val (.long num), .second, .val (.long den), .second, .val (.long lo), .second, .val (.int (1 : Int32)), .unset, .unset] [(.int (1 : Int32))]))
      refine Go.st (fun _ kq_ => XS.goto X2.here hx rfl (pc0 := 145) (pc' := 149) rfl (hb hby at_145) (by decide) (by decide) kq_) ?_
      show Go p e below s _ _ _ (T2.setTop (mkF m 149 #[.val (.int p0), .val (.int p1), .val (.int p2), .val (.int p3), .val (.int F), .val (.int Lx), .val (.int A), .val (.int I), .val (.double (oSc F Lx A I)), .second, .val (.long num), .second, .val (.long den), .second, .val (.long lo), .second, .val (.int (1 : Int32)), .unset, .unset] [(.int (1 : Int32))]))
      refine Go.st (fun _ kq_ => XS.istore X2.here hx rfl (hb hby at_149) rfl (l' := #[.val (.int p0), .val (.int p1), .val (.int p2), .val (.int p3), .val (.int F), .val (.int Lx), .val (.int A), .val (.int I), .val (.double (oSc F Lx A I)), .second, .val (.long num), .second, .val (.long den), .second, .val (.long lo), .second, .val (.int (1 : Int32)), .val (.int (1 : Int32)), .unset]) rfl kq_) ?_
      show Go p e below s _ _ _ (T2.setTop (mkF m 151 #[.val (.int p0), .val (.int p1), .val (.int p2), .val (.int p3), .val (.int F), .val (.int Lx), .val (.int A), .val (.int I), .val (.double (oSc F Lx A I)), .second, .val (.long num), .second, .val (.long den), .second, .val (.long lo), .second, .val (.int (1 : Int32)), .val (.int (1 : Int32)), .unset] []))
      refine Go.st (fun _ kq_ => XS.dload X2.here hx rfl (hb hby at_151) rfl kq_) ?_
      show Go p e below s _ _ _ (T2.setTop (mkF m 153 #[.val (.int p0), .val (.int p1), .val (.int p2), .val (.int p3), .val (.int F), .val (.int Lx), .val (.int A), .val (.int I), .val (.double (oSc F Lx A I)), .second, .val (.long num), .second, .val (.long den), .second, .val (.long lo), .second, .val (.int (1 : Int32)), .val (.int (1 : Int32)), .unset] [(.double (oSc F Lx A I))]))
      refine Go.st (fun _ kq_ => XT.lload X2.here hx rfl (hb hby at_153) rfl kq_) ?_
      show Go p e below s _ _ _ (T2.setTop (mkF m 155 #[.val (.int p0), .val (.int p1), .val (.int p2), .val (.int p3), .val (.int F), .val (.int Lx), .val (.int A), .val (.int I), .val (.double (oSc F Lx A I)), .second, .val (.long num), .second, .val (.long den), .second, .val (.long lo), .second, .val (.int (1 : Int32)), .val (.int (1 : Int32)), .unset] [(.long lo), (.double (oSc F Lx A I))]))
      refine Go.st (fun _ kq_ => XT.lconst X2.here hx rfl (hb hby at_155) kq_) ?_
      show Go p e below s _ _ _ (T2.setTop (mkF m 156 #[.val (.int p0), .val (.int p1), .val (.int p2), .val (.int p3), .val (.int F), .val (.int Lx), .val (.int A), .val (.int I), .val (.double (oSc F Lx A I)), .second, .val (.long num), .second, .val (.long den), .second, .val (.long lo), .second, .val (.int (1 : Int32)), .val (.int (1 : Int32)), .unset] [(.long (1 : Int64)), (.long lo), (.double (oSc F Lx A I))]))
      refine Go.st (fun _ kq_ => XT.lsub X2.here hx rfl (hb hby at_156) rfl kq_) ?_
      show Go p e below s _ _ _ (T2.setTop (mkF m 157 #[.val (.int p0), .val (.int p1), .val (.int p2), .val (.int p3), .val (.int F), .val (.int Lx), .val (.int A), .val (.int I), .val (.double (oSc F Lx A I)), .second, .val (.long num), .second, .val (.long den), .second, .val (.long lo), .second, .val (.int (1 : Int32)), .val (.int (1 : Int32)), .unset] [(.long (lo - (1 : Int64))), (.double (oSc F Lx A I))]))
      refine Go.st (fun _ kq_ => XS.l2dS X2.here hx rfl (hb hby at_157) rfl rfl kq_) ?_
      show Go p e below s _ _ _ (T2.setTop (mkF m 158 #[.val (.int p0), .val (.int p1), .val (.int p2), .val (.int p3), .val (.int F), .val (.int Lx), .val (.int A), .val (.int I), .val (.double (oSc F Lx A I)), .second, .val (.long num), .second, .val (.long den), .second, .val (.long lo), .second, .val (.int (1 : Int32)), .val (.int (1 : Int32)), .unset] [(.double (FP.l2d (lo - (1 : Int64)))), (.double (oSc F Lx A I))]))
      refine Go.st (fun _ kq_ => XS.dcmpS X2.here hx rfl (hb hby at_158) rfl (own_cgt ps hlov hlo hn1 _) kq_) ?_
      show Go p e below s _ _ _ (T2.setTop (mkF m 159 #[.val (.int p0), .val (.int p1), .val (.int p2), .val (.int p3), .val (.int F), .val (.int Lx), .val (.int A), .val (.int I), .val (.double (oSc F Lx A I)), .second, .val (.long num), .second, .val (.long den), .second, .val (.long lo), .second, .val (.int (1 : Int32)), .val (.int (1 : Int32)), .unset] [(.int (1 : Int32))]))
      refine Go.st (fun _ kq_ => XS.ifNo X2.here hx rfl (hb hby at_159) rfl (by decide) kq_) ?_
      show Go p e below s _ _ _ (T2.setTop (mkF m 162 #[.val (.int p0), .val (.int p1), .val (.int p2), .val (.int p3), .val (.int F), .val (.int Lx), .val (.int A), .val (.int I), .val (.double (oSc F Lx A I)), .second, .val (.long num), .second, .val (.long den), .second, .val (.long lo), .second, .val (.int (1 : Int32)), .val (.int (1 : Int32)), .unset] []))
      refine Go.st (fun _ kq_ => XS.dload X2.here hx rfl (hb hby at_162) rfl kq_) ?_
      show Go p e below s _ _ _ (T2.setTop (mkF m 164 #[.val (.int p0), .val (.int p1), .val (.int p2), .val (.int p3), .val (.int F), .val (.int Lx), .val (.int A), .val (.int I), .val (.double (oSc F Lx A I)), .second, .val (.long num), .second, .val (.long den), .second, .val (.long lo), .second, .val (.int (1 : Int32)), .val (.int (1 : Int32)), .unset] [(.double (oSc F Lx A I))]))
      refine Go.st (fun _ kq_ => XT.lload X2.here hx rfl (hb hby at_164) rfl kq_) ?_
      show Go p e below s _ _ _ (T2.setTop (mkF m 166 #[.val (.int p0), .val (.int p1), .val (.int p2), .val (.int p3), .val (.int F), .val (.int Lx), .val (.int A), .val (.int I), .val (.double (oSc F Lx A I)), .second, .val (.long num), .second, .val (.long den), .second, .val (.long lo), .second, .val (.int (1 : Int32)), .val (.int (1 : Int32)), .unset] [(.long lo), (.double (oSc F Lx A I))]))
      refine Go.st (fun _ kq_ => X2.ldc2J hx hown (mvT hZ (own_w hw 8 rfl)) rfl (hb hby at_166) kq_) ?_
      show Go p e below s _ _ _ (T2.setTop (mkF m 169 #[.val (.int p0), .val (.int p1), .val (.int p2), .val (.int p3), .val (.int F), .val (.int Lx), .val (.int A), .val (.int I), .val (.double (oSc F Lx A I)), .second, .val (.long num), .second, .val (.long den), .second, .val (.long lo), .second, .val (.int (1 : Int32)), .val (.int (1 : Int32)), .unset] [(.long (2 : Int64)), (.long lo), (.double (oSc F Lx A I))]))
      refine Go.st (fun _ kq_ => XT.ladd X2.here hx rfl (hb hby at_169) rfl kq_) ?_
      show Go p e below s _ _ _ (T2.setTop (mkF m 170 #[.val (.int p0), .val (.int p1), .val (.int p2), .val (.int p3), .val (.int F), .val (.int Lx), .val (.int A), .val (.int I), .val (.double (oSc F Lx A I)), .second, .val (.long num), .second, .val (.long den), .second, .val (.long lo), .second, .val (.int (1 : Int32)), .val (.int (1 : Int32)), .unset] [(.long (lo + (2 : Int64))), (.double (oSc F Lx A I))]))
      refine Go.st (fun _ kq_ => XS.l2dS X2.here hx rfl (hb hby at_170) rfl rfl kq_) ?_
      show Go p e below s _ _ _ (T2.setTop (mkF m 171 #[.val (.int p0), .val (.int p1), .val (.int p2), .val (.int p3), .val (.int F), .val (.int Lx), .val (.int A), .val (.int I), .val (.double (oSc F Lx A I)), .second, .val (.long num), .second, .val (.long den), .second, .val (.long lo), .second, .val (.int (1 : Int32)), .val (.int (1 : Int32)), .unset] [(.double (FP.l2d (lo + (2 : Int64)))), (.double (oSc F Lx A I))]))
      refine Go.st (fun _ kq_ => XS.dcmpS X2.here hx rfl (hb hby at_171) rfl (own_clt ps hlov hlo hn2 _) kq_) ?_
      show Go p e below s _ _ _ (T2.setTop (mkF m 172 #[.val (.int p0), .val (.int p1), .val (.int p2), .val (.int p3), .val (.int F), .val (.int Lx), .val (.int A), .val (.int I), .val (.double (oSc F Lx A I)), .second, .val (.long num), .second, .val (.long den), .second, .val (.long lo), .second, .val (.int (1 : Int32)), .val (.int (1 : Int32)), .unset] [(.int (-1 : Int32))]))
      refine Go.st (fun _ kq_ => XS.ifNo X2.here hx rfl (hb hby at_172) rfl (by decide) kq_) ?_
      show Go p e below s _ _ _ (T2.setTop (mkF m 175 #[.val (.int p0), .val (.int p1), .val (.int p2), .val (.int p3), .val (.int F), .val (.int Lx), .val (.int A), .val (.int I), .val (.double (oSc F Lx A I)), .second, .val (.long num), .second, .val (.long den), .second, .val (.long lo), .second, .val (.int (1 : Int32)), .val (.int (1 : Int32)), .unset] []))
      refine Go.st (fun _ kq_ => XS.iconst X2.here hx rfl (hb hby at_175) kq_) ?_
      show Go p e below s _ _ _ (T2.setTop (mkF m 176 #[.val (.int p0), .val (.int p1), .val (.int p2), .val (.int p3), .val (.int F), .val (.int Lx), .val (.int A), .val (.int I), .val (.double (oSc F Lx A I)), .second, .val (.long num), .second, .val (.long den), .second, .val (.long lo), .second, .val (.int (1 : Int32)), .val (.int (1 : Int32)), .unset] [(.int (1 : Int32))]))
      refine Go.st (fun _ kq_ => XS.goto X2.here hx rfl (pc0 := 176) (pc' := 180) rfl (hb hby at_176) (by decide) (by decide) kq_) ?_
      show Go p e below s _ _ _ (T2.setTop (mkF m 180 #[.val (.int p0), .val (.int p1), .val (.int p2), .val (.int p3), .val (.int F), .val (.int Lx), .val (.int A), .val (.int I), .val (.double (oSc F Lx A I)), .second, .val (.long num), .second, .val (.long den), .second, .val (.long lo), .second, .val (.int (1 : Int32)), .val (.int (1 : Int32)), .unset] [(.int (1 : Int32))]))
      refine Go.st (fun _ kq_ => XS.istore X2.here hx rfl (hb hby at_180) rfl (l' := #[.val (.int p0), .val (.int p1), .val (.int p2), .val (.int p3), .val (.int F), .val (.int Lx), .val (.int A), .val (.int I), .val (.double (oSc F Lx A I)), .second, .val (.long num), .second, .val (.long den), .second, .val (.long lo), .second, .val (.int (1 : Int32)), .val (.int (1 : Int32)), .val (.int (1 : Int32))]) rfl kq_) ?_
      show Go p e below s _ _ _ (T2.setTop (mkF m 182 #[.val (.int p0), .val (.int p1), .val (.int p2), .val (.int p3), .val (.int F), .val (.int Lx), .val (.int A), .val (.int I), .val (.double (oSc F Lx A I)), .second, .val (.long num), .second, .val (.long den), .second, .val (.long lo), .second, .val (.int (1 : Int32)), .val (.int (1 : Int32)), .val (.int (1 : Int32))] []))
      refine Go.st (fun _ kq_ => XS.iload X2.here hx rfl (hb hby at_182) rfl kq_) ?_
      show Go p e below s _ _ _ (T2.setTop (mkF m 184 #[.val (.int p0), .val (.int p1), .val (.int p2), .val (.int p3), .val (.int F), .val (.int Lx), .val (.int A), .val (.int I), .val (.double (oSc F Lx A I)), .second, .val (.long num), .second, .val (.long den), .second, .val (.long lo), .second, .val (.int (1 : Int32)), .val (.int (1 : Int32)), .val (.int (1 : Int32))] [(.int (1 : Int32))]))
      refine Go.st (fun _ kq_ => XS.ifNo X2.here hx rfl (hb hby at_184) rfl (by decide) kq_) ?_
      show Go p e below s _ _ _ (T2.setTop (mkF m 187 #[.val (.int p0), .val (.int p1), .val (.int p2), .val (.int p3), .val (.int F), .val (.int Lx), .val (.int A), .val (.int I), .val (.double (oSc F Lx A I)), .second, .val (.long num), .second, .val (.long den), .second, .val (.long lo), .second, .val (.int (1 : Int32)), .val (.int (1 : Int32)), .val (.int (1 : Int32))] []))
      refine Go.st (fun _ kq_ => XS.iload X2.here hx rfl (hb hby at_187) rfl kq_) ?_
      show Go p e below s _ _ _ (T2.setTop (mkF m 189 #[.val (.int p0), .val (.int p1), .val (.int p2), .val (.int p3), .val (.int F), .val (.int Lx), .val (.int A), .val (.int I), .val (.double (oSc F Lx A I)), .second, .val (.long num), .second, .val (.long den), .second, .val (.long lo), .second, .val (.int (1 : Int32)), .val (.int (1 : Int32)), .val (.int (1 : Int32))] [(.int (1 : Int32))]))
      refine Go.st (fun _ kq_ => XS.ifNo X2.here hx rfl (hb hby at_189) rfl (by decide) kq_) ?_
      show Go p e below s _ _ _ (T2.setTop (mkF m 192 #[.val (.int p0), .val (.int p1), .val (.int p2), .val (.int p3), .val (.int F), .val (.int Lx), .val (.int A), .val (.int I), .val (.double (oSc F Lx A I)), .second, .val (.long num), .second, .val (.long den), .second, .val (.long lo), .second, .val (.int (1 : Int32)), .val (.int (1 : Int32)), .val (.int (1 : Int32))] []))
      refine Go.st (fun _ kq_ => XS.iload X2.here hx rfl (hb hby at_192) rfl kq_) ?_
      show Go p e below s _ _ _ (T2.setTop (mkF m 194 #[.val (.int p0), .val (.int p1), .val (.int p2), .val (.int p3), .val (.int F), .val (.int Lx), .val (.int A), .val (.int I), .val (.double (oSc F Lx A I)), .second, .val (.long num), .second, .val (.long den), .second, .val (.long lo), .second, .val (.int (1 : Int32)), .val (.int (1 : Int32)), .val (.int (1 : Int32))] [(.int (1 : Int32))]))
      refine Go.st (fun _ kq_ => XS.ifNo X2.here hx rfl (hb hby at_194) rfl (by decide) kq_) ?_
      show Go p e below s _ _ _ (T2.setTop (mkF m 197 #[.val (.int p0), .val (.int p1), .val (.int p2), .val (.int p3), .val (.int F), .val (.int Lx), .val (.int A), .val (.int I), .val (.double (oSc F Lx A I)), .second, .val (.long num), .second, .val (.long den), .second, .val (.long lo), .second, .val (.int (1 : Int32)), .val (.int (1 : Int32)), .val (.int (1 : Int32))] []))
      refine Go.st (fun _ kq_ => XS.iconst X2.here hx rfl (hb hby at_197) kq_) ?_
      show Go p e below s _ _ _ (T2.setTop (mkF m 198 #[.val (.int p0), .val (.int p1), .val (.int p2), .val (.int p3), .val (.int F), .val (.int Lx), .val (.int A), .val (.int I), .val (.double (oSc F Lx A I)), .second, .val (.long num), .second, .val (.long den), .second, .val (.long lo), .second, .val (.int (1 : Int32)), .val (.int (1 : Int32)), .val (.int (1 : Int32))] [(.int (1 : Int32))]))
      refine Go.st (fun _ kq_ => XS.goto X2.here hx rfl (pc0 := 198) (pc' := 202) rfl (hb hby at_198) (by decide) (by decide) kq_) ?_
      show Go p e below s _ _ _ (T2.setTop (mkF m 202 #[.val (.int p0), .val (.int p1), .val (.int p2), .val (.int p3), .val (.int F), .val (.int Lx), .val (.int A), .val (.int I), .val (.double (oSc F Lx A I)), .second, .val (.long num), .second, .val (.long den), .second, .val (.long lo), .second, .val (.int (1 : Int32)), .val (.int (1 : Int32)), .val (.int (1 : Int32))] [(.int (1 : Int32))]))
      exact Go.ret X2 hlk (some (.int (nar .boolean (1 : Int32)))) (fun h => by rw [Bd.returns] at h; cases h) (by rw [e2]; exact ⟨rfl, N2⟩) (by decide) (by decide) (fun fs hr => retN X2 hx (t := .boolean) Bd.returns (by simp) (hb hby at_202) hr)
    refine Go.st (fun _ kq_ => XS.iload X1.here hx rfl (hb hby at_96) rfl kq_) ?_
    show Go p e below s _ _ _ (T1.setTop (mkF m 98 #[.val (.int p0), .val (.int p1), .val (.int p2), .val (.int p3), .val (.int F), .val (.int Lx), .val (.int A), .val (.int I), .val (.double (oSc F Lx A I)), .second, .val (.long num), .second, .val (.long den), .second, .val (.long lo), .second, .unset, .unset, .unset] [(.int F)]))
    by_cases c98_3 : F = (0 : Int32)
    · refine Go.st (fun _ kq_ => XS.ifYes X1.here hx rfl (pc0 := 98) (pc' := 106) rfl (hb hby at_98) rfl (XT.i0_eq_t c98_3) (by decide) (by decide) kq_) ?_
      show Go p e below s _ _ _ (T1.setTop (mkF m 106 #[.val (.int p0), .val (.int p1), .val (.int p2), .val (.int p3), .val (.int F), .val (.int Lx), .val (.int A), .val (.int I), .val (.double (oSc F Lx A I)), .second, .val (.long num), .second, .val (.long den), .second, .val (.long lo), .second, .unset, .unset, .unset] []))
      refine Go.st (fun _ kq_ => XS.dload X1.here hx rfl (hb hby at_106) rfl kq_) ?_
      show Go p e below s _ _ _ (T1.setTop (mkF m 108 #[.val (.int p0), .val (.int p1), .val (.int p2), .val (.int p3), .val (.int F), .val (.int Lx), .val (.int A), .val (.int I), .val (.double (oSc F Lx A I)), .second, .val (.long num), .second, .val (.long den), .second, .val (.long lo), .second, .unset, .unset, .unset] [(.double (oSc F Lx A I))]))
      refine Go.st (fun _ kq_ => XS.dconst0 X1.here hx rfl (hb hby at_108) rfl kq_) ?_
      show Go p e below s _ _ _ (T1.setTop (mkF m 109 #[.val (.int p0), .val (.int p1), .val (.int p2), .val (.int p3), .val (.int F), .val (.int Lx), .val (.int A), .val (.int I), .val (.double (oSc F Lx A I)), .second, .val (.long num), .second, .val (.long den), .second, .val (.long lo), .second, .unset, .unset, .unset] [(.double FP.dconst0), (.double (oSc F Lx A I))]))
      refine Go.st (fun _ kq_ => XS.dcmpS X1.here hx rfl (hb hby at_109) rfl (own_c0 ps (hz (Or.inl (own_z0 hF c98_3))) _) kq_) ?_
      show Go p e below s _ _ _ (T1.setTop (mkF m 110 #[.val (.int p0), .val (.int p1), .val (.int p2), .val (.int p3), .val (.int F), .val (.int Lx), .val (.int A), .val (.int I), .val (.double (oSc F Lx A I)), .second, .val (.long num), .second, .val (.long den), .second, .val (.long lo), .second, .unset, .unset, .unset] [(.int (0 : Int32))]))
      refine Go.st (fun _ kq_ => XS.ifNo X1.here hx rfl (hb hby at_110) rfl (by decide) kq_) ?_
      show Go p e below s _ _ _ (T1.setTop (mkF m 113 #[.val (.int p0), .val (.int p1), .val (.int p2), .val (.int p3), .val (.int F), .val (.int Lx), .val (.int A), .val (.int I), .val (.double (oSc F Lx A I)), .second, .val (.long num), .second, .val (.long den), .second, .val (.long lo), .second, .unset, .unset, .unset] []))
      refine Go.st (fun _ kq_ => XS.iconst X1.here hx rfl (hb hby at_113) kq_) ?_
      show Go p e below s _ _ _ (T1.setTop (mkF m 114 #[.val (.int p0), .val (.int p1), .val (.int p2), .val (.int p3), .val (.int F), .val (.int Lx), .val (.int A), .val (.int I), .val (.double (oSc F Lx A I)), .second, .val (.long num), .second, .val (.long den), .second, .val (.long lo), .second, .unset, .unset, .unset] [(.int (1 : Int32))]))
      refine Go.st (fun _ kq_ => XS.goto X1.here hx rfl (pc0 := 114) (pc' := 122) rfl (hb hby at_114) (by decide) (by decide) kq_) ?_
      show Go p e below s _ _ _ (T1.setTop (mkF m 122 #[.val (.int p0), .val (.int p1), .val (.int p2), .val (.int p3), .val (.int F), .val (.int Lx), .val (.int A), .val (.int I), .val (.double (oSc F Lx A I)), .second, .val (.long num), .second, .val (.long den), .second, .val (.long lo), .second, .unset, .unset, .unset] [(.int (1 : Int32))]))
      exact J122  _ _ X1 e1 N1 O0  
    · refine Go.st (fun _ kq_ => XS.ifNo X1.here hx rfl (hb hby at_98) rfl (XT.i0_eq_f c98_3) kq_) ?_
      show Go p e below s _ _ _ (T1.setTop (mkF m 101 #[.val (.int p0), .val (.int p1), .val (.int p2), .val (.int p3), .val (.int F), .val (.int Lx), .val (.int A), .val (.int I), .val (.double (oSc F Lx A I)), .second, .val (.long num), .second, .val (.long den), .second, .val (.long lo), .second, .unset, .unset, .unset] []))
      refine Go.st (fun _ kq_ => XS.iload X1.here hx rfl (hb hby at_101) rfl kq_) ?_
      show Go p e below s _ _ _ (T1.setTop (mkF m 103 #[.val (.int p0), .val (.int p1), .val (.int p2), .val (.int p3), .val (.int F), .val (.int Lx), .val (.int A), .val (.int I), .val (.double (oSc F Lx A I)), .second, .val (.long num), .second, .val (.long den), .second, .val (.long lo), .second, .unset, .unset, .unset] [(.int I)]))
      by_cases c103_4 : I = (0 : Int32)
      · refine Go.st (fun _ kq_ => XS.ifNo X1.here hx rfl (hb hby at_103) rfl (XT.i0_ne_f c103_4) kq_) ?_
        show Go p e below s _ _ _ (T1.setTop (mkF m 106 #[.val (.int p0), .val (.int p1), .val (.int p2), .val (.int p3), .val (.int F), .val (.int Lx), .val (.int A), .val (.int I), .val (.double (oSc F Lx A I)), .second, .val (.long num), .second, .val (.long den), .second, .val (.long lo), .second, .unset, .unset, .unset] []))
        refine Go.st (fun _ kq_ => XS.dload X1.here hx rfl (hb hby at_106) rfl kq_) ?_
        show Go p e below s _ _ _ (T1.setTop (mkF m 108 #[.val (.int p0), .val (.int p1), .val (.int p2), .val (.int p3), .val (.int F), .val (.int Lx), .val (.int A), .val (.int I), .val (.double (oSc F Lx A I)), .second, .val (.long num), .second, .val (.long den), .second, .val (.long lo), .second, .unset, .unset, .unset] [(.double (oSc F Lx A I))]))
        refine Go.st (fun _ kq_ => XS.dconst0 X1.here hx rfl (hb hby at_108) rfl kq_) ?_
        show Go p e below s _ _ _ (T1.setTop (mkF m 109 #[.val (.int p0), .val (.int p1), .val (.int p2), .val (.int p3), .val (.int F), .val (.int Lx), .val (.int A), .val (.int I), .val (.double (oSc F Lx A I)), .second, .val (.long num), .second, .val (.long den), .second, .val (.long lo), .second, .unset, .unset, .unset] [(.double FP.dconst0), (.double (oSc F Lx A I))]))
        refine Go.st (fun _ kq_ => XS.dcmpS X1.here hx rfl (hb hby at_109) rfl (own_c0 ps (hz (Or.inr (own_z0 hI c103_4))) _) kq_) ?_
        show Go p e below s _ _ _ (T1.setTop (mkF m 110 #[.val (.int p0), .val (.int p1), .val (.int p2), .val (.int p3), .val (.int F), .val (.int Lx), .val (.int A), .val (.int I), .val (.double (oSc F Lx A I)), .second, .val (.long num), .second, .val (.long den), .second, .val (.long lo), .second, .unset, .unset, .unset] [(.int (0 : Int32))]))
        refine Go.st (fun _ kq_ => XS.ifNo X1.here hx rfl (hb hby at_110) rfl (by decide) kq_) ?_
        show Go p e below s _ _ _ (T1.setTop (mkF m 113 #[.val (.int p0), .val (.int p1), .val (.int p2), .val (.int p3), .val (.int F), .val (.int Lx), .val (.int A), .val (.int I), .val (.double (oSc F Lx A I)), .second, .val (.long num), .second, .val (.long den), .second, .val (.long lo), .second, .unset, .unset, .unset] []))
        refine Go.st (fun _ kq_ => XS.iconst X1.here hx rfl (hb hby at_113) kq_) ?_
        show Go p e below s _ _ _ (T1.setTop (mkF m 114 #[.val (.int p0), .val (.int p1), .val (.int p2), .val (.int p3), .val (.int F), .val (.int Lx), .val (.int A), .val (.int I), .val (.double (oSc F Lx A I)), .second, .val (.long num), .second, .val (.long den), .second, .val (.long lo), .second, .unset, .unset, .unset] [(.int (1 : Int32))]))
        refine Go.st (fun _ kq_ => XS.goto X1.here hx rfl (pc0 := 114) (pc' := 122) rfl (hb hby at_114) (by decide) (by decide) kq_) ?_
        show Go p e below s _ _ _ (T1.setTop (mkF m 122 #[.val (.int p0), .val (.int p1), .val (.int p2), .val (.int p3), .val (.int F), .val (.int Lx), .val (.int A), .val (.int I), .val (.double (oSc F Lx A I)), .second, .val (.long num), .second, .val (.long den), .second, .val (.long lo), .second, .unset, .unset, .unset] [(.int (1 : Int32))]))
        exact J122  _ _ X1 e1 N1 O0  
      · refine Go.st (fun _ kq_ => XS.ifYes X1.here hx rfl (pc0 := 103) (pc' := 121) rfl (hb hby at_103) rfl (XT.i0_ne_t c103_4) (by decide) (by decide) kq_) ?_
        show Go p e below s _ _ _ (T1.setTop (mkF m 121 #[.val (.int p0), .val (.int p1), .val (.int p2), .val (.int p3), .val (.int F), .val (.int Lx), .val (.int A), .val (.int I), .val (.double (oSc F Lx A I)), .second, .val (.long num), .second, .val (.long den), .second, .val (.long lo), .second, .unset, .unset, .unset] []))
        refine Go.st (fun _ kq_ => XS.iconst X1.here hx rfl (hb hby at_121) kq_) ?_
        show Go p e below s _ _ _ (T1.setTop (mkF m 122 #[.val (.int p0), .val (.int p1), .val (.int p2), .val (.int p3), .val (.int F), .val (.int Lx), .val (.int A), .val (.int I), .val (.double (oSc F Lx A I)), .second, .val (.long num), .second, .val (.long den), .second, .val (.long lo), .second, .unset, .unset, .unset] [(.int (1 : Int32))]))
        exact J122  _ _ X1 e1 N1 O0  
  obtain ⟨s2, o2, st2, r2⟩ := G
  exact ⟨s2, o2, castTop (ef0 m p0 p1 p2 p3) st2, r2⟩
set_option maxRecDepth 65536 in
set_option maxHeartbeats 40000000 in
theorem comes_1 {Post : Tables → Env → Array Value → State → Outcome → State → Prop} (hpost : ∀ tb e args s v u, (limb_1_1.after args s (.returned v) u = true ∧ limb_1_2.after args s (.returned v) u = true ∧ True) → FrameEnd s (.returned v) u (Jvm.fieldLocs frame_1_writes args s ++ Jvm.arrayLocs frame_1_arrays args s ++ Jvm.staticLocs frame_1_statics s) 0 0 → Post tb e args s (.returned v) u) :
    ArmFor flags0 classFile x code maxLocals ret World_1 tables_1 room_1 Calls_1 rest_1 Pre_1 Post := by
  intro l hfl _ _ p e ha hc hk s m args below hf hA hF happ hP
  obtain ⟨hcalls, hrest, hpre⟩ := hP
  obtain ⟨-, -, -, hnamed, -, -, -, hat⟩ := (Spec.applies_iff hf).mp happ
  obtain ⟨hg, hn⟩ := and_e (Cond.before_iff.mp (show (Jvm.Cond.and given_1 narrow_1).before args s = true from hpre))
  obtain ⟨h1, r1⟩ := and_e hg
  obtain ⟨a0, r2⟩ := and_e r1
  obtain ⟨a1, r3⟩ := and_e r2
  obtain ⟨a2, r4⟩ := and_e r3
  obtain ⟨w0, w1, w2, w3, rfl⟩ : ∃ w0 w1 w2 w3 : Value, args = #[w0, w1, w2, w3] := by
    have hs : args.size = 4 := by simpa [Cond.value, given_1] using h1
    obtain ⟨L⟩ := args
    match L, hs with
    | [w0, w1, w2, w3], _ => exact ⟨w0, w1, w2, w3, rfl⟩
  have hw := fun d (hd : d ∈ tables_1) => atoms_spec (ws := Jvm.Cond.code x code maxLocals ret :: tables_1) hat d (List.mem_cons_of_mem _ hd)
  have hfit : Fit s := fun {y c} hc i hi => by
    obtain ⟨ha, rfl⟩ := Array.getElem?_eq_some_iff.mp hc
    have q := List.all_eq_true.mp ((Array.all_eq_true_iff_forall_mem.mp hF) _ (Array.getElem_mem ha)) i (List.mem_range.mpr hi)
    simpa [Array.getElem?_eq_getElem hi] using q
  obtain ⟨i0, ei0⟩ := is_v a0
  obtain rfl : w0 = (.int i0) := Option.some.inj ei0
  obtain ⟨i1, ei1⟩ := is_v a1
  obtain rfl : w1 = (.int i1) := Option.some.inj ei1
  obtain ⟨i2, ei2⟩ := is_v a2
  obtain rfl : w2 = (.int i2) := Option.some.inj ei2
  obtain ⟨i3, ei3⟩ := is_v r4
  obtain rfl : w3 = (.int i3) := Option.some.inj ei3
  obtain ⟨n, o, h1, h2, h3, _, L, rfl, ⟨rfl, N⟩, hq⟩ := rm0 l s _ hw tables_1 i0 i1 i2 i3 s.heap s.heap.size (Old.start s) p e ha hc hk s m _ below hf ((Spec.applies_iff_loose hf).mp happ).1 ⟨rfl, State.Warmed39.refl s, rfl⟩ trivial
  refine ⟨n, _, h1, h2, h3, hpost _ _ _ _ _ _ ⟨Cond.after_iff.mpr rfl, Cond.after_iff.mpr (eq_i res_at (Term.int_eval (1)) rfl), trivial⟩ ⟨hq.1, hq.2.1, (hq.2.2.sift fun y hy => Or.inr (N y hy)).mono (by decide) (by decide)⟩⟩
theorem main_1_1 : Claimed_1_1 := comes_1 fun _ _ _ _ _ _ h hF => ⟨h.1, hF⟩
theorem main_1_2 : Claimed_1_2 := comes_1 fun _ _ _ _ _ _ h hF => ⟨h.2.1, hF⟩
end Jvm.Pilot.@@N@@
namespace Jvm.Pilot.@@N@@
open Jvm Jvm.ClassFile Sem Op Lib Jvm.Free Jvm.Stand Jvm.Pilot.@@N@@.Jvm.D
/-! MADE BY PROGRAM (witnessworld.py) out of the Statement's table words and the real class files: 9 classes; the members and pool entries that the words name. The judged class is class 1, her method 1. -/
namespace start1
open Jvm.ClassFile
def u (s : String) : CpInfo := .utf8 (stringToUtf16 s)
/-- a pool by its gaps: so many unusable entries, then the entry; so many at the end -/
def gap : Nat → List CpInfo → List CpInfo
  | 0, r => r
  | n + 1, r => .unusable :: gap n r
def poolList (es : List (Nat × CpInfo)) (last : Nat) : List CpInfo := es.foldr (fun e r => gap e.1 (e.2 :: r)) (gap last [])
def pool (es : List (Nat × CpInfo)) (last : Nat) : Array CpInfo := ⟨poolList es last⟩
def fileOf (pool : Array CpInfo) (this : Nat) (attrs : Array Attribute := #[]) (ms : Array MethodInfo := #[]) (fl : Nat := 33) (sup : Nat := 0) (ifs : Array Nat := #[]) (fds : Array FieldInfo := #[]) : ClassFile where
  minorVersion := 0
  majorVersion := 65
  constantPool := pool
  accessFlags := fl
  thisClass := this
  superClass := sup
  interfaces := ifs
  fields := fds
  methods := ms
  attributes := attrs
def plain (name : String) (sup : Option ClassId) : Class where
  name := name
  kind := .ordinary
  loader := none
  accessFlags := 33
  super := sup
  interfaces := #[]
  cf := none
  fields := #[]
  methods := #[]
  instanceTypes := #[]
  staticTypes := #[]
  resolved := #[]
  callSites := []
  init := .initialized
  statics := none
  mirror := none

def pool0 : Array CpInfo := pool [(5, u "<init>"), (0, u "()V"), (1, .class_ 10), (1, u "java/lang/Object")] 113

def k0m0 : Method := { name := "<init>", desc := "()V", sig := { parameters := [], returnType := none }, accessFlags := 1, code := none }
/-- java/lang/Object -/
def k0 : Class := { plain "java/lang/Object" none with
  accessFlags := 33
  interfaces := #[]
  cf := some (fileOf pool0 8 #[] #[{ accessFlags := 1, nameIndex := 5, descriptorIndex := 6, attributes := #[] }] 33 0 #[] #[])
  fields := #[]
  methods := #[k0m0]
  instanceTypes := #[]
  staticTypes := #[]
  resolved := Array.replicate 124 none
  statics := none }

def pool1 : Array CpInfo := pool [(2, .class_ 4), (1, u "java/lang/Object"), (0, u "<init>"), (0, u "()V"), (0, .integer 2147483647), (0, .double 4620693217682128896), (1, .methodref 11 12), (0, .class_ 13), (0, .nameAndType 14 15), (0, u "com/example/element_ranker/elementranker/Bm25"), (0, u "score"), (0, u "(IIDD)D"), (0, .long 6), (1, .long 24), (1, .long 2), (1, .double 4613937818241073152), (1, .class_ 25), (0, u "com/example/element_ranker/elementranker/Bm25ScorePinLaw"), (2, u "law"), (0, u "(IIII)Z")] 3

def k1m0 : Method := { name := "<init>", desc := "()V", sig := { parameters := [], returnType := none }, accessFlags := 2, code := none }
def k1c1 : Code := { maxStack := 6, maxLocals := 19, code := code, exceptionTable := #[], attributes := #[] }
def k1m1 : Method := { name := "law", desc := "(IIII)Z", sig := { parameters := [.int, .int, .int, .int], returnType := some .boolean }, accessFlags := 9, code := some k1c1 }
/-- com/example/element_ranker/elementranker/Bm25ScorePinLaw -/
def k1 : Class := { plain "com/example/element_ranker/elementranker/Bm25ScorePinLaw" (some 0) with
  accessFlags := 49
  interfaces := #[]
  cf := some (fileOf pool1 24 #[] #[{ accessFlags := 2, nameIndex := 5, descriptorIndex := 6, attributes := #[] }, { accessFlags := 9, nameIndex := 28, descriptorIndex := 29, attributes := #[] }] 49 2 #[] #[])
  fields := #[]
  methods := #[k1m0, k1m1]
  instanceTypes := #[]
  staticTypes := #[]
  resolved := Array.replicate 33 none
  statics := none }

def pool2 : Array CpInfo := pool [(2, .class_ 4), (1, u "java/lang/Object"), (0, u "<init>"), (0, u "()V"), (12, .class_ 20), (0, u "com/example/element_ranker/elementranker/Bm25"), (0, .double 4611686018427387904), (1, .double 4598175219545276416), (1, .double 4604930618986332160), (1, .double 4613937818241073152), (1, u "K1"), (0, u "D"), (1, u "B"), (4, u "score"), (0, u "(IIDD)D")] 3

def k2m0 : Method := { name := "<init>", desc := "()V", sig := { parameters := [], returnType := none }, accessFlags := 2, code := none }
def k2c1 : Code := { maxStack := 8, maxLocals := 8, code := prog_3_method_3_code, exceptionTable := #[], attributes := #[] }
def k2m1 : Method := { name := "score", desc := "(IIDD)D", sig := { parameters := [.int, .int, .double, .double], returnType := some .double }, accessFlags := 8, code := some k2c1 }
/-- com/example/element_ranker/elementranker/Bm25 -/
def k2 : Class := { plain "com/example/element_ranker/elementranker/Bm25" (some 0) with
  accessFlags := 48
  interfaces := #[]
  cf := some (fileOf pool2 19 #[] #[{ accessFlags := 2, nameIndex := 5, descriptorIndex := 6, attributes := #[] }, { accessFlags := 8, nameIndex := 37, descriptorIndex := 38, attributes := #[] }] 48 2 #[] #[{ accessFlags := 24, nameIndex := 29, descriptorIndex := 30, attributes := #[] }, { accessFlags := 24, nameIndex := 32, descriptorIndex := 30, attributes := #[] }])
  fields := #[{ name := "K1", type := .double, accessFlags := 24, slot := 0, constantValue := 0 }, { name := "B", type := .double, accessFlags := 24, slot := 1, constantValue := 0 }]
  methods := #[k2m0, k2m1]
  instanceTypes := #[]
  staticTypes := #[.double, .double]
  resolved := Array.replicate 42 none
  statics := none }

def pool3 : Array CpInfo := pool [(1, u "java/lang/Cloneable"), (0, .class_ 1), (0, u "java/lang/Object"), (0, .class_ 3)] 3

/-- java/lang/Cloneable -/
def k3 : Class := { plain "java/lang/Cloneable" (some 0) with
  accessFlags := 1537
  interfaces := #[]
  cf := some (fileOf pool3 2 #[] #[] 1537 4 #[] #[])
  fields := #[]
  methods := #[]
  instanceTypes := #[]
  staticTypes := #[]
  resolved := Array.replicate 8 none
  statics := none }

def pool4 : Array CpInfo := pool [(1, u "java/io/Serializable"), (0, .class_ 1), (0, u "java/lang/Object"), (0, .class_ 3)] 3

/-- java/io/Serializable -/
def k4 : Class := { plain "java/io/Serializable" (some 0) with
  accessFlags := 1537
  interfaces := #[]
  cf := some (fileOf pool4 2 #[] #[] 1537 4 #[] #[])
  fields := #[]
  methods := #[]
  instanceTypes := #[]
  staticTypes := #[]
  resolved := Array.replicate 8 none
  statics := none }

/-- the primitive byte -/
def k5 : Class := { plain "byte" none with kind := .primitive 'B', accessFlags := 0x411 }
/-- [B -/
def k6 : Class := { plain "[B" (some 0) with kind := .array 5 .byte, interfaces := #[3, 4], accessFlags := 1041 }

/-- the primitive int -/
def k7 : Class := { plain "int" none with kind := .primitive 'I', accessFlags := 0x411 }
/-- [I -/
def k8 : Class := { plain "[I" (some 0) with kind := .array 7 .int, interfaces := #[3, 4], accessFlags := 1041 }

def heap : Heap := #[]
def classes : Array Class := #[k0, k1, k2, k3, k4, k5, k6, k7, k8]
def interned : List (Array UInt16 × Addr) := []
def slotsUsed : Nat := 0
def theMethod : MethodId := ⟨1, 1⟩
def args0 : Array Value := #[.int 3, .int 10, .int 79, .int 5]
def aboutOver (below : List Frame) : State where
  vm := { classes := classes, interned := interned.toArray }
  heap := heap
  slotsUsed := slotsUsed
  threads := #[{ frames := .invoking theMethod args0 :: below }]
def below0 : List Frame := [.native { method := ⟨0, 0⟩, args := #[] }]
def about1 : State := aboutOver below0
def p0 : Program := .bare "" "" ""
def e0 : Env := launch0.env 0 0 0
theorem w_frames : about1.frames = Frame.invoking theMethod args0 :: below0 := rfl
set_option maxRecDepth 65536 in
theorem w_args : argsFit about1.vm theMethod args0 = true := by decide +kernel
set_option maxRecDepth 65536 in
theorem w_heap : heapFits about1 = true := by decide +kernel
set_option maxRecDepth 65536 in
theorem w_runnable : about1.curStatus? = some .runnable := by decide +kernel
set_option maxRecDepth 65536 in
theorem w_alone : about1.alone = true := by decide +kernel
set_option maxRecDepth 65536 in
theorem w_named : about1.methodNamed? x = some theMethod := by decide +kernel
set_option maxRecDepth 65536 in
theorem w_hears : about1.hears theMethod below0 = true := by decide +kernel
set_option maxRecDepth 65536 in
theorem w_ripe : about1.ripe theMethod args0 below0 = true := by decide +kernel
theorem w_running : about1.status = .running := rfl
set_option maxRecDepth 65536 in
theorem w_room : about1.hasRoom e0.platform room_1 = true :=
  launch0.hasRoom_least _ room_1 (by decide +kernel) (by decide +kernel) (by decide +kernel) (by decide +kernel) (by decide +kernel) (by decide +kernel)
theorem allAtoms_all (ts : List Jvm.Cond) (a : Array Jvm.Value) (st : Jvm.State) : (allAtoms ts).before a st = ts.all (fun c => c.before a st) := by
  induction ts with
  | nil => rfl
  | cons c t ih =>
    show (Jvm.Cond.and c (allAtoms t)).before a st = _
    rw [Jvm.Cond.before_and, ih, List.all_cons]
def words1 : List Jvm.Cond := Jvm.Cond.code x code maxLocals ret :: tables_1
/-- a 'code' word, met by the world's own term for the bytes: nothing is compared byte by byte -/
theorem code_word {y : MethodName} {bytes : ByteArray} {mx : Nat} {rt : Option FieldType} {a : Array Value} {s : State} {m : MethodId} {meth : Method} {c : Code} (h1 : s.methodNamed? y = some m) (h2 : s.vm.method? m = some meth) (h3 : meth.code = some c) (h4 : c.code = bytes)
    (h5 : (c.maxLocals == mx && c.exceptionTable.isEmpty && decide (c.maxStack ≤ mostOperands) && decide (meth.sig.returnType = rt) && !meth.locks && decide (parseMethodDescriptor y.desc = some meth.sig)) = true) : (Jvm.Cond.code y bytes mx rt).before a s = true := by
  simp only [Bool.and_eq_true, beq_iff_eq, Bool.not_eq_true', decide_eq_true_eq] at h5
  obtain ⟨⟨⟨⟨⟨g1, g2⟩, g3⟩, g4⟩, g5⟩, g6⟩ := h5
  simp [Cond.before, Cond.holds, Cond.value, h1, h2, h3, h4, g1, g2, g3, g4, g5, g6]
def isCode : Jvm.Cond → Bool
  | .code _ _ _ _ => true
  | _ => false
theorem all_split {L : List Jvm.Cond} {P : Jvm.Cond → Bool} (h1 : L.all (fun c => isCode c || P c) = true) (h2 : ∀ c ∈ L.filter isCode, P c = true) : L.all P = true := by
  refine List.all_eq_true.mpr fun c hc => ?_
  have h := List.all_eq_true.mp h1 c hc
  rcases Bool.eq_false_or_eq_true (isCode c) with hi | hi
  · exact h2 c (List.mem_filter.mpr ⟨hc, hi⟩)
  · simpa [hi] using h
set_option maxRecDepth 65536 in
theorem w_c0 : (Jvm.Cond.code x code maxLocals ret).before args0 about1 = true := code_word (m := ⟨1, 1⟩) (meth := k1m1) (c := k1c1) (by decide +kernel) rfl rfl rfl (by decide +kernel)
set_option maxRecDepth 65536 in
theorem w_c1 : (Jvm.Cond.code ({ cls := "com/example/element_ranker/elementranker/Bm25", name := "score", desc := "(IIDD)D" } : Jvm.MethodName) prog_3_method_3_code (8 : Nat) (Option.some Jvm.ClassFile.FieldType.double)).before args0 about1 = true := code_word (m := ⟨2, 1⟩) (meth := k2m1) (c := k2c1) (by decide +kernel) rfl rfl rfl (by decide +kernel)
def codes1 : List Jvm.Cond := [Jvm.Cond.code x code maxLocals ret, Jvm.Cond.code ({ cls := "com/example/element_ranker/elementranker/Bm25", name := "score", desc := "(IIDD)D" } : Jvm.MethodName) prog_3_method_3_code (8 : Nat) (Option.some Jvm.ClassFile.FieldType.double)]
set_option maxRecDepth 65536 in
theorem codes_eq : words1.filter isCode = codes1 := rfl
theorem w_codes : ∀ c ∈ words1.filter isCode, c.before args0 about1 = true := by
  rw [codes_eq]
  intro c hc
  simp only [codes1, List.mem_cons, List.not_mem_nil, or_false] at hc
  rcases hc with rfl | rfl
  · exact w_c0
  · exact w_c1
set_option maxRecDepth 65536 in
theorem w_t1 : words1.all (fun c => isCode c || c.before args0 about1) = true := by decide +kernel
theorem w_tables : (allAtoms (Jvm.Cond.code x code maxLocals ret :: tables_1)).before args0 about1 = true := by
  rw [allAtoms_all]
  show words1.all (fun c => c.before args0 about1) = true
  refine all_split ?_ w_codes
  rw [w_t1]
set_option maxRecDepth 65536 in
theorem w_case : (Jvm.Cond.and given_1 narrow_1).before args0 about1 = true := by decide +kernel
theorem w_applies : (headSpec (Jvm.Cond.code x code maxLocals ret :: tables_1) room_1).applies x e0.platform about1 = true :=
  (Spec.applies_iff w_frames).mpr ⟨w_running, w_runnable, w_alone, w_named, w_hears, w_ripe, w_room, w_tables⟩
theorem atStart : AtStart classFile x code maxLocals ret World_1 tables_1 room_1 Calls_1 rest_1 Pre_1 launch0 p0 e0 about1 theMethod args0 below0 :=
  ⟨lists_1, trivial, launch0.admits_env _ _ _, launch0.least_env, fairChoices_fair.cas, fairChoices_fair.clock, w_frames, w_args, w_heap, w_applies, trivial, trivial, w_case⟩
end start1
theorem witness_1 : WitnessClaimed_1 := ⟨start1.p0, start1.e0, start1.about1, start1.theMethod, start1.args0, start1.below0, start1.atStart⟩
end Jvm.Pilot.@@N@@
