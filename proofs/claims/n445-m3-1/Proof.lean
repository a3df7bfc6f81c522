import JvmDerived
import JvmDerived.Pilot.@@N@@Statement
import JvmDerived.Pilot.@@N@@Code
set_option linter.unusedVariables false
set_option linter.unusedSimpArgs false
namespace Jvm.RoadKit
open Sem ClassFile Op Lib Jvm.Stand Jvm.Free Jvm.LawKit
section New
variable {p : Program} {l : Launch} {e : Env} {R : Room} {s : State} {m : MethodId} {args : Array Value} {below : List Frame} {meth : Method} {c : Code} {T : State} {locs : List Loc} {cells slots : Nat}
theorem retI (X : Stand p l e R s m args below meth c T locs cells slots) (hx : p.tables.exec = Jvm.exec) {pc : Nat} {Ls : Array Slot} {z : Int32} {rest : List Value} (hret : meth.sig.returnType = some .int) (hd : decode c.code pc = .ok (.ireturn, 1)) {fs : List Frame}
    (hl : ∀ (f : JFrame) (acts : List Action), f.method = m → f.locked = none → f.entered = [] → (doReturn e (T.setTop f) acts (some (.int z))).1 = T.setFrames fs) : Steps p.tables e below (T.setTop (mkF m pc Ls (.int z :: rest))) (T.setFrames fs) := by
  have hm' : T.vm.method? m = some meth := X.method'
  have hn : narrow .int (.int z) = .int z := rfl
  show Steps p.tables e below (T.setTop { method := m, pc := pc, locals := Ls, stack := _ :: rest, locked := none }) _
  jvm_step X.here [X.here.top, hx, hd, hm', hret, hn]
  first | (intro acts; rw [hl _ acts rfl rfl rfl]) | rw [hl _ _ rfl rfl rfl]
  exact Steps.refl _
end New
end Jvm.RoadKit
/- laws to paste: Road.backV, Road.eqW, Road.codOf, Road.lenW, Road.chN (cut by pick.py; bodies as the Statement names them) -/
namespace Jvm.Pilot.@@N@@
namespace StrChars
open Jvm Sem ClassFile Op Lib Jvm.Stand Jvm.Free.XT Jvm.Free.ALB Jvm.Free.JM Jvm.Free
open Jvm.Lib.Cold (StaticIs)
/-- a char array whose places are chars -/
def Ch (a : Addr) (A : Cell) (U : State) : Prop := Arr .char a A U ∧ Typed .char A
theorem Ch.mv {a : Addr} {A : Cell} {U U' : State} (h : Ch a A U) (hal : U.vm.Alike U'.vm) (hh : U'.heap = U.heap) : Ch a A U' := ⟨h.1.mv hal hh, h.2⟩
theorem Ch.keep {a : Addr} {A : Cell} {U U' : State} (h : Ch a A U) (hal : U.vm.Alike U'.vm) (hk : U'.heap[a]? = some A) : Ch a A U' := ⟨h.1.keep hal hk, h.2⟩
/-- what place i of a char[]'s cell holds -/
def cv (A : Cell) (i : Nat) : Int32 := match A.slots[i]? with | some (.int x) => x | _ => 0
theorem Ch.get {a : Addr} {A : Cell} {U : State} (h : Ch a A U) {i : Nat} (hi : i < A.slots.size) : A.slots[i]? = some (.int (cv A i)) := by
  have e := Array.getElem?_eq_getElem hi
  have f := h.2 i _ e
  unfold cv; rw [e]
  generalize A.slots[i] = v at f
  cases v <;> simp [fits] at f ⊢
/-- the byte that i2b leaves of a char -/
def lo8 (x : Int32) : Int32 := x.toInt8.toInt32
theorem fits_lo8 (y : Int32) : fits .byte (.int (lo8 y)) = true := by
  have h1 := y.toInt8.le_toInt
  have h2 := y.toInt8.toInt_lt
  simp only [lo8, fits, Bool.and_eq_true, decide_eq_true_eq, Int32.le_iff_toInt_le, Int8.toInt_toInt32, show (-128 : Int32).toInt = -128 from by decide, show (127 : Int32).toInt = 127 from by decide]
  omega
/-- A' is A but that each place j of lo .. hi - 1 holds f j -/
def Laid (A A' : Cell) (lo hi : Nat) (f : Nat → Value) : Prop := A'.cls = A.cls ∧ A'.vm = A.vm ∧ A'.slots.size = A.slots.size ∧ ∀ i, A'.slots[i]? = if lo ≤ i ∧ i < hi then some (f i) else A.slots[i]?
theorem Laid.zero (A : Cell) (lo : Nat) (f : Nat → Value) : Laid A A lo (lo + 0) f := ⟨rfl, rfl, rfl, fun i => by rw [if_neg (by omega)]⟩
theorem Laid.step {A Ak : Cell} {lo k : Nat} {f : Nat → Value} {v : Value} (h : Laid A Ak lo k f) (hlo : lo ≤ k) (hk : k < Ak.slots.size) (hv : v = f k) : Laid A (Ak.setSlot k v) lo (k + 1) f := by
  refine ⟨h.1, h.2.1, by simpa [Cell.setSlot] using h.2.2.1, fun i => ?_⟩
  by_cases e : k = i
  · subst e; rw [Cell.slots_setSlot_self v hk, if_pos (by omega), hv]
  · rw [Cell.slots_setSlot_ne v e, h.2.2.2 i]
    by_cases q : lo ≤ i ∧ i < k
    · rw [if_pos q, if_pos (by omega)]
    · rw [if_neg q, if_neg (by omega)]
def U16 : String := "java/lang/StringUTF16"
namespace Cmp5
def yN : MethodName := ⟨"java/lang/StringUTF16", "compress", "([CI[BII)I"⟩
abbrev yB : ByteArray := jdk_52_method_21_code
theorem d0 : decode yB 0 = .ok (.iconst 0, 1) := by decide +kernel
theorem d1 : decode yB 1 = .ok (.istore 5, 2) := by decide +kernel
theorem d3 : decode yB 3 = .ok (.iload 5, 2) := by decide +kernel
theorem d5 : decode yB 5 = .ok (.iload 4, 2) := by decide +kernel
theorem d7 : decode yB 7 = .ok (.if_icmp (.ge) 37, 3) := by decide +kernel
theorem d10 : decode yB 10 = .ok (.aload_n 0, 1) := by decide +kernel
theorem d11 : decode yB 11 = .ok (.iload_n 1, 1) := by decide +kernel
theorem d12 : decode yB 12 = .ok (.caload, 1) := by decide +kernel
theorem d13 : decode yB 13 = .ok (.istore 6, 2) := by decide +kernel
theorem d15 : decode yB 15 = .ok (.iload 6, 2) := by decide +kernel
theorem d17 : decode yB 17 = .ok (.sipush 255, 3) := by decide +kernel
theorem d20 : decode yB 20 = .ok (.if_icmp (.le) 6, 3) := by decide +kernel
theorem d26 : decode yB 26 = .ok (.aload_n 2, 1) := by decide +kernel
theorem d27 : decode yB 27 = .ok (.iload_n 3, 1) := by decide +kernel
theorem d28 : decode yB 28 = .ok (.iload 6, 2) := by decide +kernel
theorem d30 : decode yB 30 = .ok (.i2b, 1) := by decide +kernel
theorem d31 : decode yB 31 = .ok (.bastore, 1) := by decide +kernel
theorem d32 : decode yB 32 = .ok (.iinc 1 1, 3) := by decide +kernel
theorem d35 : decode yB 35 = .ok (.iinc 3 1, 3) := by decide +kernel
theorem d38 : decode yB 38 = .ok (.iinc 5 1, 3) := by decide +kernel
theorem d41 : decode yB 41 = .ok (.goto (-38), 3) := by decide +kernel
theorem d44 : decode yB 44 = .ok (.iload 4, 2) := by decide +kernel
theorem d46 : decode yB 46 = .ok (.ireturn, 1) := by decide +kernel
def site : List Cond := []
def tab : Cond := tabOf yN yB 7 (some .int) site
def P (b : Addr) (A : Cell) (d : Addr) (B : Cell) (o q len : Nat) (args : Array Value) (s : State) : Prop := args = #[.ref b, .int (Int32.ofNat o), .ref d, .int (Int32.ofNat q), .int (Int32.ofNat len)] ∧ Ch b A s ∧ Arr .byte d B s ∧ b ≠ d ∧ o + len ≤ A.slots.size ∧ q + len ≤ B.slots.size ∧ ∀ i, i < len → ¬ 255 < cv A (o + i)
def E (b : Addr) (A : Cell) (d : Addr) (B : Cell) (o q len : Nat) (r : Option Value) (s u : State) : Prop := r = some (.int (Int32.ofNat len)) ∧ ∃ B', Put d B' s u ∧ Laid B B' q (q + len) (fun j => Value.int (lo8 (cv A (o + (j - q)))))
/-- no char of the range above 255: len; the places written hold each char's low byte -/
theorem law (l : Launch) (b : Addr) (A : Cell) (d : Addr) (B : Cell) (o q len : Nat) : Law l yN 5 5 0 0 yB 7 (some .int) site (P b A d B o q len) (E b A d B o q len) (copyLocs d q len) 0 0 := by
  refine Law.of_walk (plainFor_of_name (by decide +kernel)) (by decide +kernel) (by decide +kernel) (by decide) (fun _ _ h => by rw [h.1]; rfl) (fun _ U U' hal hh h => ⟨h.1, h.2.1.mv hal hh, h.2.2.1.mv hal hh, h.2.2.2⟩) (fun r U U' V V' h1 hal h2 h => ⟨h.1, h.2.elim fun B' q => ⟨B', q.1.mv h1 h2, q.2⟩⟩) ?_
  intro p e s m args below meth c s₁ X0 hexec hbytes hml hret hlk hnm hown hh0 W hP
  obtain ⟨rfl, hA, hB, hne, l1, l2, hp⟩ := hP
  have c1 : Steps p.tables e below (s₁.setTop (entryFrame m #[.ref b, .int (Int32.ofNat o), .ref d, .int (Int32.ofNat q), .int (Int32.ofNat len)] 7)) (s₁.setTop (mkF m 0 #[.val (.ref b), .val (.int (Int32.ofNat o)), .val (.ref d), .val (.int (Int32.ofNat q)), .val (.int (Int32.ofNat len)), .unset, .unset] [])) := entry rfl
  have hA0 := hA.1.mv X0.warmed.alike hh0
  have hB0 := hB.mv X0.warmed.alike hh0
  have a31 := hA.1.2.2.2
  have c2 : Steps p.tables e below (s₁.setTop (entryFrame m #[.ref b, .int (Int32.ofNat o), .ref d, .int (Int32.ofNat q), .int (Int32.ofNat len)] 7)) (s₁.setTop (mkF m 3 #[.val (.ref b), .val (.int (Int32.ofNat o)), .val (.ref d), .val (.int (Int32.ofNat q)), .val (.int (Int32.ofNat len)), .val (.int 0), .unset] [])) := c1.trans (by
    refine iconstV X0.here hexec rfl 0 (hb hbytes d0) (by decide) ?_
    refine XS.istore X0.here hexec rfl (hb hbytes d1) rfl rfl ?_
    exact Steps.refl _)
  have loop : ∀ (r i : Nat), i + r = len → ∀ (z : Slot), (z = .unset ∨ ∃ w, z = .val w ∧ w.category = 1) → ∀ (Tl : State) (Bk : Cell), Stand p l e { frames := 0, locals := 0, cells := 0, slots := 0 } s m #[.ref b, .int (Int32.ofNat o), .ref d, .int (Int32.ofNat q), .int (Int32.ofNat len)] below meth c Tl ([] ++ copyLocs d q i) 0 0 → Put d Bk s₁ Tl → Laid B Bk q (q + i) (fun j => Value.int (lo8 (cv A (o + (j - q))))) →
      Steps p.tables e below (s₁.setTop (entryFrame m #[.ref b, .int (Int32.ofNat o), .ref d, .int (Int32.ofNat q), .int (Int32.ofNat len)] 7)) (Tl.setTop (mkF m 3 #[.val (.ref b), .val (.int (Int32.ofNat (o + i))), .val (.ref d), .val (.int (Int32.ofNat (q + i))), .val (.int (Int32.ofNat len)), .val (.int (Int32.ofNat i)), z] [])) → ∃ (T' : State) (B' : Cell) (z' : Slot), Stand p l e { frames := 0, locals := 0, cells := 0, slots := 0 } s m #[.ref b, .int (Int32.ofNat o), .ref d, .int (Int32.ofNat q), .int (Int32.ofNat len)] below meth c T' ([] ++ copyLocs d q len) 0 0 ∧ Put d B' s₁ T' ∧ Laid B B' q (q + len) (fun j => Value.int (lo8 (cv A (o + (j - q))))) ∧
      Steps p.tables e below (s₁.setTop (entryFrame m #[.ref b, .int (Int32.ofNat o), .ref d, .int (Int32.ofNat q), .int (Int32.ofNat len)] 7)) (T'.setTop (mkF m 3 #[.val (.ref b), .val (.int (Int32.ofNat (o + len))), .val (.ref d), .val (.int (Int32.ofNat (q + len))), .val (.int (Int32.ofNat len)), .val (.int (Int32.ofNat len)), z'] [])) := by
    intro r
    induction r with
    | zero =>
      intro i hi z hz Tl Bk Xl pl fl cl
      have hil : i = len := by omega
      rw [hil] at Xl fl cl
      exact ⟨Tl, Bk, z, Xl, pl, fl, cl⟩
    | succ r ih =>
      intro i hi z hz Tl Bk Xl pl fl cl
      have all := X0.warmed.alike.symm.trans Xl.warmed.alike
      have hAl := hA0.keep all (pl.other hne hA0.1)
      have hBk := hB0.like all pl.1 fl.1 fl.2.1 fl.2.2.1
      have hlt : q + i < Bk.slots.size := by rw [fl.2.2.1]; omega
      have c3 : Steps p.tables e below (s₁.setTop (entryFrame m #[.ref b, .int (Int32.ofNat o), .ref d, .int (Int32.ofNat q), .int (Int32.ofNat len)] 7)) (Tl.setTop (mkF m 12 #[.val (.ref b), .val (.int (Int32.ofNat (o + i))), .val (.ref d), .val (.int (Int32.ofNat (q + i))), .val (.int (Int32.ofNat len)), .val (.int (Int32.ofNat i)), z] [.int (Int32.ofNat (o + i)), .ref b])) := cl.trans (by
        refine XS.iload Xl.here hexec rfl (hb hbytes d3) rfl ?_
        refine XS.iload Xl.here hexec rfl (hb hbytes d5) rfl ?_
        refine XS.icmpNo Xl.here hexec rfl (hb hbytes d7) rfl (ii_ge_f (lt32 (by omega) (by omega))) ?_
        refine XS.aloadN Xl.here hexec rfl (hb hbytes d10) rfl rfl ?_
        refine XS.iloadN Xl.here hexec rfl (hb hbytes d11) rfl ?_
        exact Steps.refl _)
      have c4 : Steps p.tables e below (s₁.setTop (entryFrame m #[.ref b, .int (Int32.ofNat o), .ref d, .int (Int32.ofNat q), .int (Int32.ofNat len)] 7)) (Tl.setTop (mkF m 13 #[.val (.ref b), .val (.int (Int32.ofNat (o + i))), .val (.ref d), .val (.int (Int32.ofNat (q + i))), .val (.int (Int32.ofNat len)), .val (.int (Int32.ofNat i)), z] [.int (cv A (o + i))])) := c3.trans (by
        refine Xl.aget hexec hAl rfl (hA.get (i := o + i) (by omega)) rfl rfl (hb hbytes d12) ?_
        exact Steps.refl _)
      have c5 : Steps p.tables e below (s₁.setTop (entryFrame m #[.ref b, .int (Int32.ofNat o), .ref d, .int (Int32.ofNat q), .int (Int32.ofNat len)] 7)) (Tl.setTop (mkF m 15 #[.val (.ref b), .val (.int (Int32.ofNat (o + i))), .val (.ref d), .val (.int (Int32.ofNat (q + i))), .val (.int (Int32.ofNat len)), .val (.int (Int32.ofNat i)), .val (.int (cv A (o + i)))] [])) := c4.trans (by
        refine XS.istoreS Xl.here hexec rfl (hb hbytes d13) rfl rfl hz ?_
        exact Steps.refl _)
      have c6 : Steps p.tables e below (s₁.setTop (entryFrame m #[.ref b, .int (Int32.ofNat o), .ref d, .int (Int32.ofNat q), .int (Int32.ofNat len)] 7)) (Tl.setTop (mkF m 31 #[.val (.ref b), .val (.int (Int32.ofNat (o + i))), .val (.ref d), .val (.int (Int32.ofNat (q + i))), .val (.int (Int32.ofNat len)), .val (.int (Int32.ofNat i)), .val (.int (cv A (o + i)))] [.int (lo8 (cv A (o + i))), .int (Int32.ofNat (q + i)), .ref d])) := c5.trans (by
        refine XS.iload Xl.here hexec rfl (hb hbytes d15) rfl ?_
        refine sipushV Xl.here hexec rfl 255 (hb hbytes d17) (by decide) ?_
        refine XS.icmpYes Xl.here hexec rfl (pc0 := 20) rfl (hb hbytes d20) rfl (ii_le_t (hp i (by omega))) (by decide) rfl ?_
        refine XS.aloadN Xl.here hexec rfl (hb hbytes d26) rfl rfl ?_
        refine XS.iloadN Xl.here hexec rfl (hb hbytes d27) rfl ?_
        refine XS.iload Xl.here hexec rfl (hb hbytes d28) rfl ?_
        refine i2b Xl.here hexec rfl (hb hbytes d30) rfl ?_
        exact Steps.refl _)
      obtain ⟨T7, X7, p7, st7⟩ := Xl.aput hexec hBk rfl hlt rfl (fits_lo8 (cv A (o + i))) (g := (mkF m 31 #[.val (.ref b), .val (.int (Int32.ofNat (o + i))), .val (.ref d), .val (.int (Int32.ofNat (q + i))), .val (.int (Int32.ofNat len)), .val (.int (Int32.ofNat i)), .val (.int (cv A (o + i)))] [.int (lo8 (cv A (o + i))), .int (Int32.ofNat (q + i)), .ref d])) rfl (rest := []) rfl (hb hbytes d31)
      have c8 : Steps p.tables e below (s₁.setTop (entryFrame m #[.ref b, .int (Int32.ofNat o), .ref d, .int (Int32.ofNat q), .int (Int32.ofNat len)] 7)) (T7.setTop (mkF m 32 #[.val (.ref b), .val (.int (Int32.ofNat (o + i))), .val (.ref d), .val (.int (Int32.ofNat (q + i))), .val (.int (Int32.ofNat len)), .val (.int (Int32.ofNat i)), .val (.int (cv A (o + i)))] [])) := c6.trans (st7 _ (Steps.refl _))
      have c9 : Steps p.tables e below (s₁.setTop (entryFrame m #[.ref b, .int (Int32.ofNat o), .ref d, .int (Int32.ofNat q), .int (Int32.ofNat len)] 7)) (T7.setTop (mkF m 3 #[.val (.ref b), .val (.int (Int32.ofNat (o + i) + 1)), .val (.ref d), .val (.int (Int32.ofNat (q + i) + 1)), .val (.int (Int32.ofNat len)), .val (.int (Int32.ofNat i + 1)), .val (.int (cv A (o + i)))] [])) := c8.trans (by
        refine iincV X7.here hexec rfl 1 (hb hbytes d32) (by decide) rfl rfl ?_
        refine iincV X7.here hexec rfl 1 (hb hbytes d35) (by decide) rfl rfl ?_
        refine iincV X7.here hexec rfl 1 (hb hbytes d38) (by decide) rfl rfl ?_
        refine XS.goto X7.here hexec rfl (pc0 := 41) rfl (hb hbytes d41) (by decide) rfl ?_
        exact Steps.refl _)
      have c10 : Steps p.tables e below (s₁.setTop (entryFrame m #[.ref b, .int (Int32.ofNat o), .ref d, .int (Int32.ofNat q), .int (Int32.ofNat len)] 7)) (T7.setTop (mkF m 3 #[.val (.ref b), .val (.int (Int32.ofNat (o + (i + 1)))), .val (.ref d), .val (.int (Int32.ofNat (q + (i + 1)))), .val (.int (Int32.ofNat len)), .val (.int (Int32.ofNat (i + 1))), .val (.int (cv A (o + i)))] [])) := by
        have := c9
        rw [succ32, succ32, succ32] at this
        exact this
      exact ih (i + 1) (by omega) _ (Or.inr ⟨_, rfl, rfl⟩) T7 _ (by rw [copyLocs_step, ← List.append_assoc]; exact X7) (pl.trans p7) (fl.step (by omega) hlt (by simp)) c10
  obtain ⟨T9, B9, z9, X9, p9, f9, g9⟩ := loop len 0 (by omega) .unset (Or.inl rfl) s₁ B (by simpa [copyLocs] using X0) ⟨hB0.1, fun _ _ => rfl, rfl⟩ (Laid.zero _ _ _) c2
  have c11 : Steps p.tables e below (s₁.setTop (entryFrame m #[.ref b, .int (Int32.ofNat o), .ref d, .int (Int32.ofNat q), .int (Int32.ofNat len)] 7)) (T9.setTop (mkF m 46 #[.val (.ref b), .val (.int (Int32.ofNat (o + len))), .val (.ref d), .val (.int (Int32.ofNat (q + len))), .val (.int (Int32.ofNat len)), .val (.int (Int32.ofNat len)), z9] [.int (Int32.ofNat len)])) := g9.trans (by
    refine XS.iload X9.here hexec rfl (hb hbytes d3) rfl ?_
    refine XS.iload X9.here hexec rfl (hb hbytes d5) rfl ?_
    refine XS.icmpYes X9.here hexec rfl (pc0 := 7) rfl (hb hbytes d7) rfl (ii_ge_t (nlt32 (by omega) (Nat.le_refl _))) (by decide) rfl ?_
    refine XS.iload X9.here hexec rfl (hb hbytes d44) rfl ?_
    exact Steps.refl _)
  exact ⟨T9, some (.int (Int32.ofNat len)), _, _, _, X9, by simp, rfl, rfl, (fun h => by cases h), ⟨rfl, B9, p9.from hh0, f9⟩, fun fs hl => c11.trans (X9.ireturnOut hexec hret rfl (Or.inl rfl) (hb hbytes d46) hl)⟩
end Cmp5
namespace Cmp3
def yN : MethodName := ⟨"java/lang/StringUTF16", "compress", "([CII)[B"⟩
abbrev yB : ByteArray := jdk_52_method_16_code
theorem d0 : decode yB 0 = .ok (.iload_n 2, 1) := by decide +kernel
theorem d1 : decode yB 1 = .ok (.newarray .byte, 2) := by decide +kernel
theorem d3 : decode yB 3 = .ok (.astore_n 3, 1) := by decide +kernel
theorem d4 : decode yB 4 = .ok (.aload_n 0, 1) := by decide +kernel
theorem d5 : decode yB 5 = .ok (.iload_n 1, 1) := by decide +kernel
theorem d6 : decode yB 6 = .ok (.aload_n 3, 1) := by decide +kernel
theorem d7 : decode yB 7 = .ok (.iconst 0, 1) := by decide +kernel
theorem d8 : decode yB 8 = .ok (.iload_n 2, 1) := by decide +kernel
theorem d9 : decode yB 9 = .ok (.invokestatic 115, 3) := by decide +kernel
theorem d12 : decode yB 12 = .ok (.istore 4, 2) := by decide +kernel
theorem d14 : decode yB 14 = .ok (.iload 4, 2) := by decide +kernel
theorem d16 : decode yB 16 = .ok (.iload_n 2, 1) := by decide +kernel
theorem d17 : decode yB 17 = .ok (.if_icmp (.eq) 40, 3) := by decide +kernel
theorem d57 : decode yB 57 = .ok (.aload_n 3, 1) := by decide +kernel
theorem d58 : decode yB 58 = .ok (.areturn, 1) := by decide +kernel
def site : List Cond := [.arrayClass .byte, Cmp5.tab] ++ staticW U16 115 Cmp5.yN
def tab : Cond := tabOf yN yB 6 (some (.array .byte)) site
def P (b : Addr) (A : Cell) (o len : Nat) (args : Array Value) (s : State) : Prop := args = #[.ref b, .int (Int32.ofNat o), .int (Int32.ofNat len)] ∧ Ch b A s ∧ o + len ≤ A.slots.size ∧ len ≤ 536870912 ∧ ∀ i, i < len → ¬ 255 < cv A (o + i)
def E (b : Addr) (A : Cell) (o len : Nat) (r : Option Value) (s u : State) : Prop := NewArr .byte "[B" len (fun j => .int (lo8 (cv A (o + j)))) r s u ∧ u.heap.size = s.heap.size + 1
/-- no char of the range above 255: a new byte[] of their low bytes -/
theorem law (l : Launch) (b : Addr) (A : Cell) (o len : Nat) : Law l yN 3 3 1 18 yB 6 (some (.array .byte)) site (P b A o len) (E b A o len) [] 1 len := by
  refine Law.of_walk (plainFor_of_name (by decide +kernel)) (by decide +kernel) (by decide +kernel) (by decide) (fun _ _ h => by rw [h.1]; rfl) (fun _ U U' hal hh h => ⟨h.1, h.2.1.mv hal hh, h.2.2⟩) (fun r U U' V V' h1 hal h2 h => ⟨NewArr.mv r U U' V V' h1 hal h2 h.1, by rw [h1, h2]; exact h.2⟩) ?_
  intro p e s m args below meth c s₁ X0 hexec hbytes hml hret hlk hnm hown hh0 W hP
  obtain ⟨rfl, hA, l1, l2, hp⟩ := hP
  have a31 := hA.1.2.2.2
  have c1 : Steps p.tables e below (s₁.setTop (entryFrame m #[.ref b, .int (Int32.ofNat o), .int (Int32.ofNat len)] 6)) (s₁.setTop (mkF m 0 #[.val (.ref b), .val (.int (Int32.ofNat o)), .val (.int (Int32.ofNat len)), .unset, .unset, .unset] [])) := entry rfl
  have c2 : Steps p.tables e below (s₁.setTop (entryFrame m #[.ref b, .int (Int32.ofNat o), .int (Int32.ofNat len)] 6)) (s₁.setTop (mkF m 1 #[.val (.ref b), .val (.int (Int32.ofNat o)), .val (.int (Int32.ofNat len)), .unset, .unset, .unset] [.int (Int32.ofNat len)])) := c1.trans (by
    refine XS.iloadN X0.here hexec rfl (hb hbytes d0) rfl ?_
    exact Steps.refl _)
  obtain ⟨T3, B3, X3, ba3, bs3, bv3, bh3, bf3, st3⟩ := X0.anew hexec (atype := .byte) (wk W (.arrayClass .byte)) rfl (by show len * 1 ≤ _; omega) (by omega) (g := (mkF m 1 #[.val (.ref b), .val (.int (Int32.ofNat o)), .val (.int (Int32.ofNat len)), .unset, .unset, .unset] [.int (Int32.ofNat len)])) rfl (hb hbytes d1) (rest := []) rfl (Nat.le_refl _) (by show 0 + len ≤ len; omega)
  rw [hh0] at ba3 st3
  have kp3 : XT.Kept s T3 := (XT.Kept.of_eq hh0).push bh3
  have hA3 := hA.keep X3.warmed.alike (kp3 _ _ hA.1.1)
  have hne : b ≠ s.heap.size := hA.1.ne
  have c4 : Steps p.tables e below (s₁.setTop (entryFrame m #[.ref b, .int (Int32.ofNat o), .int (Int32.ofNat len)] 6)) (T3.setTop (mkF m 3 #[.val (.ref b), .val (.int (Int32.ofNat o)), .val (.int (Int32.ofNat len)), .unset, .unset, .unset] [.ref s.heap.size])) := c2.trans (st3 _ (Steps.refl _))
  have c5 : Steps p.tables e below (s₁.setTop (entryFrame m #[.ref b, .int (Int32.ofNat o), .int (Int32.ofNat len)] 6)) (T3.setTop (mkF m 9 #[.val (.ref b), .val (.int (Int32.ofNat o)), .val (.int (Int32.ofNat len)), .val (.ref s.heap.size), .unset, .unset] [.int (Int32.ofNat len), .int 0, .ref s.heap.size, .int (Int32.ofNat o), .ref b])) := c4.trans (by
    refine XS.astoreN X3.here hexec rfl (hb hbytes d3) rfl rfl rfl ?_
    refine XS.aloadN X3.here hexec rfl (hb hbytes d4) rfl rfl ?_
    refine XS.iloadN X3.here hexec rfl (hb hbytes d5) rfl ?_
    refine XS.aloadN X3.here hexec rfl (hb hbytes d6) rfl rfl ?_
    refine iconstV X3.here hexec rfl 0 (hb hbytes d7) (by decide) ?_
    refine XS.iloadN X3.here hexec rfl (hb hbytes d8) rfl ?_
    exact Steps.refl _)
  obtain ⟨v6, T6, X6, E6, g6⟩ := X3.callS hexec (Cmp5.law l b A s.heap.size B3 o 0 len) hown (wks W (staticW U16 115 Cmp5.yN)) (wk W Cmp5.tab) (W := 0) (Nat.le_of_ble_eq_true rfl) (Nat.le_of_ble_eq_true rfl) (Nat.le_refl _) (by show 0 + len + 0 ≤ len; omega) (g := (mkF m 9 #[.val (.ref b), .val (.int (Int32.ofNat o)), .val (.int (Int32.ofNat len)), .val (.ref s.heap.size), .unset, .unset] [.int (Int32.ofNat len), .int (Int32.ofNat 0), .ref s.heap.size, .int (Int32.ofNat o), .ref b])) rfl (by rw [hml]; rfl) c5 (argsL := [.ref b, .int (Int32.ofNat o), .ref s.heap.size, .int (Int32.ofNat 0), .int (Int32.ofNat len)]) (rest := []) rfl rfl (by show 2 * 0 + 0 ≤ _; decide) (hb hbytes d9) (⟨rfl, hA3, ba3, hne, l1, by rw [bs3]; simp, hp⟩)
  obtain ⟨rfl, B6, p6, f6⟩ := E6
  have c7 : Steps p.tables e below (s₁.setTop (entryFrame m #[.ref b, .int (Int32.ofNat o), .int (Int32.ofNat len)] 6)) (T6.setTop (mkF m 12 #[.val (.ref b), .val (.int (Int32.ofNat o)), .val (.int (Int32.ofNat len)), .val (.ref s.heap.size), .unset, .unset] [.int (Int32.ofNat len)])) := g6
  have c8 : Steps p.tables e below (s₁.setTop (entryFrame m #[.ref b, .int (Int32.ofNat o), .int (Int32.ofNat len)] 6)) (T6.setTop (mkF m 58 #[.val (.ref b), .val (.int (Int32.ofNat o)), .val (.int (Int32.ofNat len)), .val (.ref s.heap.size), .val (.int (Int32.ofNat len)), .unset] [.ref s.heap.size])) := c7.trans (by
    refine XS.istore X6.here hexec rfl (hb hbytes d12) rfl rfl ?_
    refine XS.iload X6.here hexec rfl (hb hbytes d14) rfl ?_
    refine XS.iloadN X6.here hexec rfl (hb hbytes d16) rfl ?_
    refine XS.icmpYes X6.here hexec rfl (pc0 := 17) rfl (hb hbytes d17) rfl (ii_eq_t rfl) (by decide) rfl ?_
    refine XS.aloadN X6.here hexec rfl (hb hbytes d57) rfl rfl ?_
    exact Steps.refl _)
  have X8 := X6.wide (L' := []) (cells' := 1) (slots' := len) (fun x hx hlt => by
    simp only [List.nil_append, copyLocs, List.mem_map, List.mem_range] at hx
    obtain ⟨i, -, rfl⟩ := hx
    exact absurd hlt (Nat.lt_irrefl _)) (Nat.le_refl _) (by omega)
  exact ⟨T6, some (.ref s.heap.size), _, _, _, X8, rfl, rfl, rfl, (fun h => by cases h), ⟨⟨rfl, B6, ba3.like (X3.warmed.alike.symm.trans X6.warmed.alike) p6.1 f6.1 f6.2.1 f6.2.2.1, f6.2.1.trans bv3, by rw [X6.warmed.alike.findClass, f6.1]; exact bf3, by rw [f6.2.2.1, bs3]; simp, fun j hj => by rw [f6.2.2.2 j, if_pos (by omega)]; rfl, kp3.put p6 (Nat.le_refl _)⟩, by rw [p6.2.2, bh3, hh0]; simp⟩, fun fs hl => c8.trans (X8.areturnOut hexec rfl hret rfl (hb hbytes d58) hl)⟩
end Cmp3
namespace CodL
def yN : MethodName := ⟨"java/lang/StringUTF16", "coderFromArrayLen", "([BI)B"⟩
abbrev yB : ByteArray := jdk_52_method_15_code
theorem d0 : decode yB 0 = .ok (.iload_n 1, 1) := by decide +kernel
theorem d1 : decode yB 1 = .ok (.aload_n 0, 1) := by decide +kernel
theorem d2 : decode yB 2 = .ok (.arraylength, 1) := by decide +kernel
theorem d3 : decode yB 3 = .ok (.isub, 1) := by decide +kernel
theorem d4 : decode yB 4 = .ok (.bipush 31, 2) := by decide +kernel
theorem d6 : decode yB 6 = .ok (.iushr, 1) := by decide +kernel
theorem d7 : decode yB 7 = .ok (.i2b, 1) := by decide +kernel
theorem d8 : decode yB 8 = .ok (.ireturn, 1) := by decide +kernel
def site : List Cond := []
def tab : Cond := tabOf yN yB 2 (some .byte) site
def P (d : Addr) (B : Cell) (args : Array Value) (s : State) : Prop := args = #[.ref d, .int (Int32.ofNat B.slots.size)] ∧ Arr .byte d B s
def E (r : Option Value) (s u : State) : Prop := XT.PureE (some (.int 0)) r s u
/-- an array as long as the number of chars: LATIN1 -/
theorem law (l : Launch) (d : Addr) (B : Cell) : Law l yN 2 2 0 0 yB 2 (some .byte) site (P d B) E [] 0 0 := by
  refine Law.of_walk (plainFor_of_name (by decide +kernel)) (by decide +kernel) (by decide +kernel) (by decide) (fun _ _ h => by rw [h.1]; rfl) (fun _ U U' hal hh h => ⟨h.1, h.2.mv hal hh⟩) (fun r U U' V V' h1 hal h2 h => XT.PureE.mv r U U' V V' h1 hal h2 h) ?_
  intro p e s m args below meth c s₁ X0 hexec hbytes hml hret hlk hnm hown hh0 W hP
  obtain ⟨rfl, hB⟩ := hP
  have hB0 := hB.mv X0.warmed.alike hh0
  have c1 : Steps p.tables e below (s₁.setTop (entryFrame m #[.ref d, .int (Int32.ofNat B.slots.size)] 2)) (s₁.setTop (mkF m 0 #[.val (.ref d), .val (.int (Int32.ofNat B.slots.size))] [])) := entry rfl
  have c2 : Steps p.tables e below (s₁.setTop (entryFrame m #[.ref d, .int (Int32.ofNat B.slots.size)] 2)) (s₁.setTop (mkF m 2 #[.val (.ref d), .val (.int (Int32.ofNat B.slots.size))] [.ref d, .int (Int32.ofNat B.slots.size)])) := c1.trans (by
    refine XS.iloadN X0.here hexec rfl (hb hbytes d0) rfl ?_
    refine XS.aloadN X0.here hexec rfl (hb hbytes d1) rfl rfl ?_
    exact Steps.refl _)
  have c3 : Steps p.tables e below (s₁.setTop (entryFrame m #[.ref d, .int (Int32.ofNat B.slots.size)] 2)) (s₁.setTop (mkF m 8 #[.val (.ref d), .val (.int (Int32.ofNat B.slots.size))] [.int (lo8 (ushr (Int32.ofNat B.slots.size - Int32.ofNat B.slots.size) 31))])) := c2.trans (by
    refine X0.alen hexec hB0 rfl rfl (hb hbytes d2) ?_
    refine XS.isub X0.here hexec rfl (hb hbytes d3) rfl ?_
    refine bipushV X0.here hexec rfl 31 (hb hbytes d4) (by decide) ?_
    refine iushr X0.here hexec rfl (hb hbytes d6) rfl ?_
    refine i2b X0.here hexec rfl (hb hbytes d7) rfl ?_
    exact Steps.refl _)
  have e0 : lo8 (ushr (Int32.ofNat B.slots.size - Int32.ofNat B.slots.size) 31) = 0 := by rw [Int32.sub_self]; decide
  rw [e0] at c3
  exact ⟨s₁, some (.int 0), _, _, _, X0, rfl, rfl, rfl, (fun h => by cases h), ⟨rfl, hh0⟩, fun fs hl => c3.trans (X0.ireturnOut hexec hret rfl (Or.inr (Or.inr (Or.inl rfl))) (hb hbytes d8) hl)⟩
end CodL
/-- the String at a is Latin-1 over a new byte[] (the heap's one new cell): the low bytes of the len chars of A from o on; every cell but a is kept -/
def Got (a : Addr) (D : Cell) (fV fC : Field) (A : Cell) (o len : Nat) (r : Option Value) (s u : State) : Prop := r = none ∧ ∃ D' V : Cell, Blank "java/lang/String" a D' u ∧ Same D D' [fV.slot, fC.slot] ∧ D'.slots[fV.slot]? = some (.ref s.heap.size) ∧ D'.slots[fC.slot]? = some (.int 0) ∧ Arr .byte s.heap.size V u ∧ V.vm = .none ∧ u.vm.findClass "[B" = some V.cls ∧ V.slots.size = len ∧ (∀ j, j < len → V.slots[j]? = some (.int (lo8 (cv A (o + j))))) ∧ (∀ (y : Addr) (c : Cell), y ≠ a → s.heap[y]? = some c → u.heap[y]? = some c) ∧ u.heap.size = s.heap.size + 1
theorem Got.mv {a : Addr} {D A : Cell} {fV fC : Field} {o len : Nat} : ∀ r (U U' V V' : State), U'.heap = U.heap → V.vm.Alike V'.vm → V'.heap = V.heap → Got a D fV fC A o len r U V → Got a D fV fC A o len r U' V' :=
  fun r U U' V V' h1 hal h2 ⟨e0, D', X, a1, a2, a3, a4, a5, a6, a7, a8, a9, a10, a11⟩ => ⟨e0, D', X, a1.mv hal h2, a2, by rw [h1]; exact a3, a4, by rw [h1]; exact a5.mv hal h2, a6, by rw [hal.findClass]; exact a7, a8, a9, by rw [h1, h2]; exact a10, by rw [h1, h2]; exact a11⟩
namespace New4
def yN : MethodName := ⟨"java/lang/String", "<init>", "([CIILjava/lang/Void;)V"⟩
abbrev yB : ByteArray := jdk_42_method_149_code
theorem d0 : decode yB 0 = .ok (.aload_n 0, 1) := by decide +kernel
theorem d1 : decode yB 1 = .ok (.invokespecial 1, 3) := by decide +kernel
theorem d4 : decode yB 4 = .ok (.iload_n 3, 1) := by decide +kernel
theorem d5 : decode yB 5 = .ok (.ifCond (.ne) 22, 3) := by decide +kernel
theorem d27 : decode yB 27 = .ok (.getstatic 38, 3) := by decide +kernel
theorem d30 : decode yB 30 = .ok (.ifCond (.eq) 28, 3) := by decide +kernel
theorem d33 : decode yB 33 = .ok (.aload_n 1, 1) := by decide +kernel
theorem d34 : decode yB 34 = .ok (.iload_n 2, 1) := by decide +kernel
theorem d35 : decode yB 35 = .ok (.iload_n 3, 1) := by decide +kernel
theorem d36 : decode yB 36 = .ok (.invokestatic 177, 3) := by decide +kernel
theorem d39 : decode yB 39 = .ok (.astore 5, 2) := by decide +kernel
theorem d41 : decode yB 41 = .ok (.aload_n 0, 1) := by decide +kernel
theorem d42 : decode yB 42 = .ok (.aload 5, 2) := by decide +kernel
theorem d44 : decode yB 44 = .ok (.iload_n 3, 1) := by decide +kernel
theorem d45 : decode yB 45 = .ok (.invokestatic 47, 3) := by decide +kernel
theorem d48 : decode yB 48 = .ok (.putfield 15, 3) := by decide +kernel
theorem d51 : decode yB 51 = .ok (.aload_n 0, 1) := by decide +kernel
theorem d52 : decode yB 52 = .ok (.aload 5, 2) := by decide +kernel
theorem d54 : decode yB 54 = .ok (.putfield 9, 3) := by decide +kernel
theorem d57 : decode yB 57 = .ok (.return_, 1) := by decide +kernel
def site : List Cond := [.fieldLink "java/lang/String" 38 "java/lang/String" "COMPACT_STRINGS" "Z", Cmp3.tab, CodL.tab, .laysFinal "java/lang/String" "java/lang/String" "value" "[B", .fieldLink "java/lang/String" 9 "java/lang/String" "value" "[B", .laysFinal "java/lang/String" "java/lang/String" "coder" "B", .fieldLink "java/lang/String" 15 "java/lang/String" "coder" "B"] ++ objW "java/lang/String" 1 ++ staticW "java/lang/String" 177 Cmp3.yN ++ staticW "java/lang/String" 47 CodL.yN
def tab : Cond := tabOf yN yB 6 none site
def P (a : Addr) (D : Cell) (fV fC : Field) (b : Addr) (A : Cell) (z : Int32) (o len : Nat) (args : Array Value) (s : State) : Prop := args = #[.ref a, .ref b, .int (Int32.ofNat o), .int (Int32.ofNat len), .null] ∧ Blank "java/lang/String" a D s ∧ Found "java/lang/String" "value" "[B" fV s ∧ Found "java/lang/String" "coder" "B" fC s ∧ Ch b A s ∧ StaticIs s "java/lang/String" "COMPACT_STRINGS" "Z" (.int z) ∧ ¬ z = 0 ∧ 0 < len ∧ o + len ≤ A.slots.size ∧ len ≤ 536870912 ∧ ∀ i, i < len → ¬ 255 < cv A (o + i)
def E (a : Addr) (D : Cell) (fV fC : Field) (A : Cell) (o len : Nat) (r : Option Value) (s u : State) : Prop := Got a D fV fC A o len r s u
/-- len > 0, no char of the range above 255: a Latin-1 String of their low bytes -/
theorem law (l : Launch) (a : Addr) (D : Cell) (fV fC : Field) (b : Addr) (A : Cell) (z : Int32) (o len : Nat) : Law l yN 5 4 2 35 yB 6 none site (P a D fV fC b A z o len) (E a D fV fC A o len) [⟨a, fC.slot⟩, ⟨a, fV.slot⟩] 1 len := by
  refine Law.of_walk (plainFor_of_name (by decide +kernel)) (by decide +kernel) (by decide +kernel) (by decide) (fun _ _ h => by rw [h.1]; rfl) (fun _ U U' hal hh h => ⟨h.1, h.2.1.mv hal hh, h.2.2.1.al hal, h.2.2.2.1.al hal, h.2.2.2.2.1.mv hal hh, h.2.2.2.2.2.1.there hal hh, h.2.2.2.2.2.2⟩) (fun r U U' V V' h1 hal h2 h => Got.mv r U U' V V' h1 hal h2 h) ?_
  intro p e s m args below meth c s₁ X0 hexec hbytes hml hret hlk hnm hown hh0 W hP
  obtain ⟨rfl, hB, f1, f2, hA, s1, hz, l0, l1, l2, hp⟩ := hP
  have a31 := hA.1.2.2.2
  have c1 : Steps p.tables e below (s₁.setTop (entryFrame m #[.ref a, .ref b, .int (Int32.ofNat o), .int (Int32.ofNat len), .null] 6)) (s₁.setTop (mkF m 0 #[.val (.ref a), .val (.ref b), .val (.int (Int32.ofNat o)), .val (.int (Int32.ofNat len)), .val .null, .unset] [])) := entry rfl
  have c2 : Steps p.tables e below (s₁.setTop (entryFrame m #[.ref a, .ref b, .int (Int32.ofNat o), .int (Int32.ofNat len), .null] 6)) (s₁.setTop (mkF m 1 #[.val (.ref a), .val (.ref b), .val (.int (Int32.ofNat o)), .val (.int (Int32.ofNat len)), .val .null, .unset] [.ref a])) := c1.trans (by
    refine XS.aloadN X0.here hexec rfl (hb hbytes d0) rfl rfl ?_
    exact Steps.refl _)
  obtain ⟨T3, X3, q3, st3⟩ := X0.oinit hexec hown (wks W (objW "java/lang/String" 1)) (g := (mkF m 1 #[.val (.ref a), .val (.ref b), .val (.int (Int32.ofNat o)), .val (.int (Int32.ofNat len)), .val .null, .unset] [.ref a])) rfl (by rw [hml]; rfl) (rest := []) rfl (hb hbytes d1) (W := 0) (by show 2 * 0 + 0 ≤ _; decide) (Nat.le_of_ble_eq_true rfl) (Nat.le_of_ble_eq_true rfl)
  have hh3 := q3.trans hh0
  have c4 : Steps p.tables e below (s₁.setTop (entryFrame m #[.ref a, .ref b, .int (Int32.ofNat o), .int (Int32.ofNat len), .null] 6)) (T3.setTop (mkF m 27 #[.val (.ref a), .val (.ref b), .val (.int (Int32.ofNat o)), .val (.int (Int32.ofNat len)), .val .null, .unset] [])) := (c2.trans (st3 _ (Steps.refl _))).trans (by
    refine XS.iloadN X3.here hexec rfl (hb hbytes d4) rfl ?_
    refine XS.ifYes X3.here hexec rfl (pc0 := 5) rfl (hb hbytes d5) rfl (i0_ne_t (nz32 (by omega) l0)) (by decide) rfl ?_
    exact Steps.refl _)
  obtain ⟨T5, X5, q5, st5⟩ := X3.sget hexec hown (wk W (.fieldLink "java/lang/String" 38 "java/lang/String" "COMPACT_STRINGS" "Z")) s1 (fun _ _ h => by rw [hh3]; exact h) (g := (mkF m 27 #[.val (.ref a), .val (.ref b), .val (.int (Int32.ofNat o)), .val (.int (Int32.ofNat len)), .val .null, .unset] [])) rfl (hb hbytes d27)
  have hh5 := q5.trans hh3
  have c6 : Steps p.tables e below (s₁.setTop (entryFrame m #[.ref a, .ref b, .int (Int32.ofNat o), .int (Int32.ofNat len), .null] 6)) (T5.setTop (mkF m 30 #[.val (.ref a), .val (.ref b), .val (.int (Int32.ofNat o)), .val (.int (Int32.ofNat len)), .val .null, .unset] [.int z])) := c4.trans (st5 _ (Steps.refl _))
  have c7 : Steps p.tables e below (s₁.setTop (entryFrame m #[.ref a, .ref b, .int (Int32.ofNat o), .int (Int32.ofNat len), .null] 6)) (T5.setTop (mkF m 36 #[.val (.ref a), .val (.ref b), .val (.int (Int32.ofNat o)), .val (.int (Int32.ofNat len)), .val .null, .unset] [.int (Int32.ofNat len), .int (Int32.ofNat o), .ref b])) := c6.trans (by
    refine XS.ifNo X5.here hexec rfl (hb hbytes d30) rfl (i0_eq_f hz) ?_
    refine XS.aloadN X5.here hexec rfl (hb hbytes d33) rfl rfl ?_
    refine XS.iloadN X5.here hexec rfl (hb hbytes d34) rfl ?_
    refine XS.iloadN X5.here hexec rfl (hb hbytes d35) rfl ?_
    exact Steps.refl _)
  obtain ⟨v8, T8, X8, E8, g8⟩ := X5.callS hexec (Cmp3.law l b A o len) hown (wks W (staticW "java/lang/String" 177 Cmp3.yN)) (wk W Cmp3.tab) (W := 0) (Nat.le_of_ble_eq_true rfl) (Nat.le_of_ble_eq_true rfl) (Nat.le_refl _) (by show 0 + len ≤ len; omega) (g := (mkF m 36 #[.val (.ref a), .val (.ref b), .val (.int (Int32.ofNat o)), .val (.int (Int32.ofNat len)), .val .null, .unset] [.int (Int32.ofNat len), .int (Int32.ofNat o), .ref b])) rfl (by rw [hml]; rfl) c7 (argsL := [.ref b, .int (Int32.ofNat o), .int (Int32.ofNat len)]) (rest := []) rfl rfl (by show 2 * 0 + 0 ≤ _; decide) (hb hbytes d36) (⟨rfl, hA.mv X5.warmed.alike hh5, l1, l2, hp⟩)
  obtain ⟨e8, z8⟩ := E8
  obtain ⟨rfl, N, n1, n2, n3, n4, n5, n6⟩ := NewArr.mv _ T5 s _ _ hh5.symm (Vm.Alike.refl _) rfl e8
  rw [hh5] at z8
  have hB1 := hB.keep X8.warmed.alike (n6 _ _ hB.1)
  have hne : s.heap.size ≠ a := (Nat.ne_of_lt (Array.getElem?_eq_some_iff.mp hB.1).1).symm
  have c9 : Steps p.tables e below (s₁.setTop (entryFrame m #[.ref a, .ref b, .int (Int32.ofNat o), .int (Int32.ofNat len), .null] 6)) (T8.setTop (mkF m 39 #[.val (.ref a), .val (.ref b), .val (.int (Int32.ofNat o)), .val (.int (Int32.ofNat len)), .val .null, .unset] [.ref s.heap.size])) := g8
  have c10 : Steps p.tables e below (s₁.setTop (entryFrame m #[.ref a, .ref b, .int (Int32.ofNat o), .int (Int32.ofNat len), .null] 6)) (T8.setTop (mkF m 45 #[.val (.ref a), .val (.ref b), .val (.int (Int32.ofNat o)), .val (.int (Int32.ofNat len)), .val .null, .val (.ref s.heap.size)] [.int (Int32.ofNat N.slots.size), .ref s.heap.size, .ref a])) := by
    have hc : Steps p.tables e below (s₁.setTop (entryFrame m #[.ref a, .ref b, .int (Int32.ofNat o), .int (Int32.ofNat len), .null] 6)) (T8.setTop (mkF m 45 #[.val (.ref a), .val (.ref b), .val (.int (Int32.ofNat o)), .val (.int (Int32.ofNat len)), .val .null, .val (.ref s.heap.size)] [.int (Int32.ofNat len), .ref s.heap.size, .ref a])) := c9.trans (by
      refine XS.astore X8.here hexec rfl (hb hbytes d39) rfl rfl rfl ?_
      refine XS.aloadN X8.here hexec rfl (hb hbytes d41) rfl rfl ?_
      refine XS.aload X8.here hexec rfl (hb hbytes d42) rfl rfl ?_
      refine XS.iloadN X8.here hexec rfl (hb hbytes d44) rfl ?_
      exact Steps.refl _)
    rw [n4]; exact hc
  obtain ⟨v11, T11, X11, E11, g11⟩ := X8.callS hexec (CodL.law l s.heap.size N) hown (wks W (staticW "java/lang/String" 47 CodL.yN)) (wk W CodL.tab) (W := 1) (Nat.le_of_ble_eq_true rfl) (Nat.le_of_ble_eq_true rfl) (Nat.le_refl _) (by show 0 + len + 0 ≤ len; omega) (g := (mkF m 45 #[.val (.ref a), .val (.ref b), .val (.int (Int32.ofNat o)), .val (.int (Int32.ofNat len)), .val .null, .val (.ref s.heap.size)] [.int (Int32.ofNat N.slots.size), .ref s.heap.size, .ref a])) rfl (by rw [hml]; rfl) c10 (argsL := [.ref s.heap.size, .int (Int32.ofNat N.slots.size)]) (rest := [.ref a]) rfl rfl (by show 2 * 0 + (1 + 0) ≤ _; decide) (hb hbytes d45) (⟨rfl, n1⟩)
  obtain ⟨rfl, q11⟩ := E11
  have hB11 := hB1.mv (X8.warmed.alike.symm.trans X11.warmed.alike) q11
  have c12 : Steps p.tables e below (s₁.setTop (entryFrame m #[.ref a, .ref b, .int (Int32.ofNat o), .int (Int32.ofNat len), .null] 6)) (T11.setTop (mkF m 48 #[.val (.ref a), .val (.ref b), .val (.int (Int32.ofNat o)), .val (.int (Int32.ofNat len)), .val .null, .val (.ref s.heap.size)] [.int 0, .ref a])) := g11
  obtain ⟨T13, X13, p13, bl13, sl13, st13⟩ := X11.finit hexec hown (wk W (.fieldLink "java/lang/String" 15 "java/lang/String" "coder" "B")) (Or.inr ⟨_, (wk W (.laysFinal "java/lang/String" "java/lang/String" "coder" "B"))⟩) (Or.inl ⟨rfl, hnm⟩) f2 (Or.inl rfl) hB11 (t := .byte) (by decide +kernel) rfl (g := (mkF m 48 #[.val (.ref a), .val (.ref b), .val (.int (Int32.ofNat o)), .val (.int (Int32.ofNat len)), .val .null, .val (.ref s.heap.size)] [.int 0, .ref a])) rfl (rest := []) rfl (hb hbytes d48)
  have c14 : Steps p.tables e below (s₁.setTop (entryFrame m #[.ref a, .ref b, .int (Int32.ofNat o), .int (Int32.ofNat len), .null] 6)) (T13.setTop (mkF m 54 #[.val (.ref a), .val (.ref b), .val (.int (Int32.ofNat o)), .val (.int (Int32.ofNat len)), .val .null, .val (.ref s.heap.size)] [.ref s.heap.size, .ref a])) := (c12.trans (st13 _ (Steps.refl _))).trans (by
    refine XS.aloadN X13.here hexec rfl (hb hbytes d51) rfl rfl ?_
    refine XS.aload X13.here hexec rfl (hb hbytes d52) rfl rfl ?_
    exact Steps.refl _)
  obtain ⟨T15, X15, p15, bl15, sl15, st15⟩ := X13.finit hexec hown (wk W (.fieldLink "java/lang/String" 9 "java/lang/String" "value" "[B")) (Or.inr ⟨_, (wk W (.laysFinal "java/lang/String" "java/lang/String" "value" "[B"))⟩) (Or.inl ⟨rfl, hnm⟩) f1 (Or.inl rfl) bl13 (t := (.array .byte)) (by decide +kernel) rfl (g := (mkF m 54 #[.val (.ref a), .val (.ref b), .val (.int (Int32.ofNat o)), .val (.int (Int32.ofNat len)), .val .null, .val (.ref s.heap.size)] [.ref s.heap.size, .ref a])) rfl (rest := []) rfl (hb hbytes d54)
  have c16 : Steps p.tables e below (s₁.setTop (entryFrame m #[.ref a, .ref b, .int (Int32.ofNat o), .int (Int32.ofNat len), .null] 6)) (T15.setTop (mkF m 57 #[.val (.ref a), .val (.ref b), .val (.int (Int32.ofNat o)), .val (.int (Int32.ofNat len)), .val .null, .val (.ref s.heap.size)] [])) := c14.trans (st15 _ (Steps.refl _))
  have ap := apart (Or.inr ⟨_, (wk W (.laysFinal "java/lang/String" "java/lang/String" "value" "[B"))⟩) (Or.inr ⟨_, (wk W (.laysFinal "java/lang/String" "java/lang/String" "coder" "B"))⟩) f1 f2 (t₁ := .array .byte) (t₂ := .byte) (by decide +kernel) (by decide +kernel) (by decide)
  have al := X8.warmed.alike.symm.trans X15.warmed.alike
  have n7 : T11.heap[s.heap.size]? = some N := by rw [q11]; exact n1.1
  exact ⟨T15, none, _, _, _, X15, by simp, rfl, by omega, (fun _ => rfl), ⟨rfl, _, N, bl15, ((Same.refl D _).set _ (by simp)).set _ (by simp), sl15, (Cell.slots_setSlot_ne _ ap).trans sl13, n1.keep al (p15.other hne (p13.other hne n7)), n2, by rw [al.findClass]; exact n3, n4, n5, fun y c h1 h2 => p15.other h1 (p13.other h1 (by rw [q11]; exact n6 y c h2)), by rw [p15.2.2, p13.2.2, q11]; exact z8⟩, fun fs hl => c16.trans (X15.returnOut hexec hret (hb hbytes d57) hl)⟩
end New4
namespace New1
def yN : MethodName := ⟨"java/lang/String", "<init>", "([C)V"⟩
abbrev yB : ByteArray := jdk_42_method_3_code
theorem d0 : decode yB 0 = .ok (.aload_n 0, 1) := by decide +kernel
theorem d1 : decode yB 1 = .ok (.aload_n 1, 1) := by decide +kernel
theorem d2 : decode yB 2 = .ok (.iconst 0, 1) := by decide +kernel
theorem d3 : decode yB 3 = .ok (.aload_n 1, 1) := by decide +kernel
theorem d4 : decode yB 4 = .ok (.arraylength, 1) := by decide +kernel
theorem d5 : decode yB 5 = .ok (.aconst_null, 1) := by decide +kernel
theorem d6 : decode yB 6 = .ok (.invokespecial 27, 3) := by decide +kernel
theorem d9 : decode yB 9 = .ok (.return_, 1) := by decide +kernel
def site : List Cond := [New4.tab] ++ initW "java/lang/String" 27 New4.yN
def tab : Cond := tabOf yN yB 2 none site
def P (a : Addr) (D : Cell) (fV fC : Field) (b : Addr) (A : Cell) (z : Int32) (args : Array Value) (s : State) : Prop := args = #[.ref a, .ref b] ∧ Blank "java/lang/String" a D s ∧ Found "java/lang/String" "value" "[B" fV s ∧ Found "java/lang/String" "coder" "B" fC s ∧ Ch b A s ∧ StaticIs s "java/lang/String" "COMPACT_STRINGS" "Z" (.int z) ∧ ¬ z = 0 ∧ 0 < A.slots.size ∧ A.slots.size ≤ 536870912 ∧ ∀ i, i < A.slots.size → ¬ 255 < cv A i
def E (a : Addr) (D : Cell) (fV fC : Field) (A : Cell) (r : Option Value) (s u : State) : Prop := Got a D fV fC A 0 A.slots.size r s u
/-- new String(chars), not empty, no char above 255: a Latin-1 String of their low bytes -/
theorem law (l : Launch) (a : Addr) (D : Cell) (fV fC : Field) (b : Addr) (A : Cell) (z : Int32) : Law l yN 2 1 3 52 yB 2 none site (P a D fV fC b A z) (E a D fV fC A) [⟨a, fC.slot⟩, ⟨a, fV.slot⟩] 1 A.slots.size := by
  refine Law.of_walk (plainFor_of_name (by decide +kernel)) (by decide +kernel) (by decide +kernel) (by decide) (fun _ _ h => by rw [h.1]; rfl) (fun _ U U' hal hh h => ⟨h.1, h.2.1.mv hal hh, h.2.2.1.al hal, h.2.2.2.1.al hal, h.2.2.2.2.1.mv hal hh, h.2.2.2.2.2.1.there hal hh, h.2.2.2.2.2.2⟩) (fun r U U' V V' h1 hal h2 h => Got.mv r U U' V V' h1 hal h2 h) ?_
  intro p e s m args below meth c s₁ X0 hexec hbytes hml hret hlk hnm hown hh0 W hP
  obtain ⟨rfl, hB, f1, f2, hA, s1, hz, l0, l2, hp⟩ := hP
  have c1 : Steps p.tables e below (s₁.setTop (entryFrame m #[.ref a, .ref b] 2)) (s₁.setTop (mkF m 0 #[.val (.ref a), .val (.ref b)] [])) := entry rfl
  have c2 : Steps p.tables e below (s₁.setTop (entryFrame m #[.ref a, .ref b] 2)) (s₁.setTop (mkF m 6 #[.val (.ref a), .val (.ref b)] [.null, .int (Int32.ofNat A.slots.size), .int 0, .ref b, .ref a])) := c1.trans (by
    refine XS.aloadN X0.here hexec rfl (hb hbytes d0) rfl rfl ?_
    refine XS.aloadN X0.here hexec rfl (hb hbytes d1) rfl rfl ?_
    refine iconstV X0.here hexec rfl 0 (hb hbytes d2) (by decide) ?_
    refine XS.aloadN X0.here hexec rfl (hb hbytes d3) rfl rfl ?_
    refine X0.alen hexec (hA.1.mv X0.warmed.alike hh0) rfl rfl (hb hbytes d4) ?_
    refine XS.aconstNull X0.here hexec rfl (hb hbytes d5) ?_
    exact Steps.refl _)
  obtain ⟨v3, T3, X3, E3, g3⟩ := X0.callN hexec (New4.law l a D fV fC b A z 0 A.slots.size) rfl hown (wks W (initW "java/lang/String" 27 New4.yN)) (W New4.tab (by simp only [site, List.mem_cons, List.mem_append, true_or, or_true])) (W := 0) (Nat.le_of_ble_eq_true rfl) (Nat.le_of_ble_eq_true rfl) (Nat.le_refl _) (by show 0 + A.slots.size ≤ A.slots.size; omega) (g := (mkF m 6 #[.val (.ref a), .val (.ref b)] [.null, .int (Int32.ofNat A.slots.size), .int (Int32.ofNat 0), .ref b, .ref a])) rfl (by rw [hml]; rfl) c2 (argsL := [.ref b, .int (Int32.ofNat 0), .int (Int32.ofNat A.slots.size), .null]) (rest := []) rfl rfl (by show 2 * 0 + 0 ≤ _; decide) (hb hbytes d6) (⟨rfl, hB.mv X0.warmed.alike hh0, f1.al X0.warmed.alike, f2.al X0.warmed.alike, hA.mv X0.warmed.alike hh0, s1.there X0.warmed.alike hh0, hz, l0, by omega, l2, fun i hi => by rw [Nat.zero_add]; exact hp i hi⟩)
  have e0 := Got.mv _ s₁ s _ _ hh0.symm (Vm.Alike.refl _) rfl E3
  obtain rfl := e0.1
  have c4 : Steps p.tables e below (s₁.setTop (entryFrame m #[.ref a, .ref b] 2)) (T3.setTop (mkF m 9 #[.val (.ref a), .val (.ref b)] [])) := g3
  exact ⟨T3, none, _, _, _, X3, by simp, rfl, by omega, (fun _ => rfl), e0, fun fs hl => c4.trans (X3.returnOut hexec hret (hb hbytes d9) hl)⟩
theorem pays {l : Launch} {R : Room} {p : Program} {e : Env} {below : List Frame} {s : State} {sargs : Array Value} {len W : Nat} (a : Addr) (D : Cell) (fV fC : Field) (b : Addr) (A : Cell) (z : Int32) (htab : tab.before sargs s = true) (hfr : 4 ≤ R.frames) (hlo : W + 65 ≤ R.locals) :
    Back l R p e below s sargs yN len W (fun A₁ a₁ => A₁.cells + 1 ≤ R.cells ∧ A₁.slots + A.slots.size ≤ R.slots ∧ P a D fV fC b A z a₁ A₁.U) (fun A₁ _ v₁ B₁ => E a D fV fC A v₁ A₁.U B₁.U ∧ B₁.locs = A₁.locs ++ [⟨a, fC.slot⟩, ⟨a, fV.slot⟩] ∧ B₁.cells = A₁.cells + 1 ∧ B₁.slots = A₁.slots + A.slots.size) :=
  (law l a D fV fC b A z).pays htab hfr (by omega)
end New1
/-- the byte, read back as charAt reads it, is the char -/
theorem lo8_mask {x : Int32} (h0 : ¬ x < 0) (h1 : ¬ 255 < x) : lo8 x &&& 255 = x := by
  have t : ∀ k : Fin 256, lo8 (Int32.ofNat k.val) &&& 255 = Int32.ofNat k.val := by decide +kernel
  rw [Int32.lt_iff_toInt_lt] at h0 h1
  have e0 : (0 : Int32).toInt = 0 := rfl
  have e1 : (255 : Int32).toInt = 255 := rfl
  obtain ⟨k, hk⟩ : ∃ k : Nat, x.toInt = k := ⟨x.toInt.toNat, by omega⟩
  have hx : x = Int32.ofNat k := Int32.toInt_inj.mp (by rw [hk, Int32.toInt_ofNat_small (by omega)])
  rw [hx]
  exact t ⟨k, by omega⟩
end StrChars
namespace StrChars.Road
open Jvm Sem ClassFile Op Lib Jvm.Stand Jvm.Free Jvm.Free.XT
open Jvm.Lib.Cold (StaticIs)
abbrev ST : String := "java/lang/String"
/-- every table word that New1's law asks, flat -/
abbrev words : List Jvm.Cond := [.code New1.yN New1.yB 2 none, .initialized ST, .methodLink ST 27 New4.yN, .instanceMethod New4.yN,
  .code New4.yN New4.yB 6 none, .fieldLink ST 38 ST "COMPACT_STRINGS" "Z", .laysFinal ST ST "value" "[B", .fieldLink ST 9 ST "value" "[B", .laysFinal ST ST "coder" "B", .fieldLink ST 15 ST "coder" "B",
  .methodLink ST 1 Lib.objectInit, .instanceMethod Lib.objectInit, .code Lib.objectInit ⟨#[0xb1]⟩ 1 none, .methodLink ST 177 Cmp3.yN, .static Cmp3.yN, .methodLink ST 47 CodL.yN, .static CodL.yN,
  .code Cmp3.yN Cmp3.yB 6 (some (.array .byte)), .initialized U16, .arrayClass .byte, .methodLink U16 115 Cmp5.yN, .static Cmp5.yN, .code Cmp5.yN Cmp5.yB 7 (some .int), .code CodL.yN CodL.yB 2 (some .byte)]
theorem tab_of {a : Array Value} {s : State} (h : ∀ w ∈ words, w.before a s = true) : New1.tab.before a s = true := by
  have h5 : Cmp5.tab.before a s = true := unparts (wk h (.code Cmp5.yN Cmp5.yB 7 (some .int))) (wks h (.initialized Cmp5.yN.cls :: Cmp5.site))
  have hc : CodL.tab.before a s = true := unparts (wk h (.code CodL.yN CodL.yB 2 (some .byte))) (wks h (.initialized CodL.yN.cls :: CodL.site))
  have q5 : ∀ w ∈ Cmp5.tab :: words, w.before a s = true := fun w hw => (List.mem_cons.mp hw).elim (fun e => e ▸ h5) (h w)
  have h3 : Cmp3.tab.before a s = true := unparts (wk q5 (.code Cmp3.yN Cmp3.yB 6 (some (.array .byte)))) (wks q5 (.initialized Cmp3.yN.cls :: Cmp3.site))
  have q3 : ∀ w ∈ Cmp3.tab :: CodL.tab :: words, w.before a s = true := fun w hw => (List.mem_cons.mp hw).elim (fun e => e ▸ h3) fun hw => (List.mem_cons.mp hw).elim (fun e => e ▸ hc) (h w)
  have h4 : New4.tab.before a s = true := unparts (wk q3 (.code New4.yN New4.yB 6 none)) (wks q3 (.initialized New4.yN.cls :: New4.site))
  have q4 : ∀ w ∈ New4.tab :: words, w.before a s = true := fun w hw => (List.mem_cons.mp hw).elim (fun e => e ▸ h4) (h w)
  exact unparts (wk q4 (.code New1.yN New1.yB 2 none)) (wks q4 (.initialized New1.yN.cls :: New1.site))
/-- the words ride from the start Z to the walk's own state -/
theorem moved {Z s : State} {a0 args : Array Value} (hZ : Z.Warmed39 s.vm) (hw : ∀ d ∈ words, d.before a0 Z = true) : ∀ d ∈ words, d.before args s = true := fun d hd => by
  have q := hw d hd
  have t : ∀ d ∈ words, d = .arrayClass .byte ∨ (d.onTables && d.keepsFace) = true := by decide +kernel
  rcases t d hd with rfl | t
  · exact RoadKit.mvA hZ q
  · exact RoadKit.mv hZ q t
/-- WHAT COMES BACK, over the tables of the start Z: h the heap at the call, h' behind it -/
def Q (Z : State) (x : Addr) (A : Cell) (h : Heap) (v : Option Value) (h' : Heap) (L : List Loc) : Prop := v = none ∧ (∀ y ∈ L, y.base = x) ∧ RoadKit.Keep h h' [x] ∧ h'.size = h.size + 1 ∧ RoadKit.Exa Z h' x ST ∧ RoadKit.Fld Z h' x ST "value" "[B" (.ref h.size) ∧ RoadKit.Fld Z h' x ST "coder" "B" (.int 0) ∧
  (∃ V : Cell, RoadKit.Arr Z h' h.size V .byte ∧ V.vm = .none ∧ Z.vm.findClass "[B" = some V.cls ∧ V.slots.size = A.slots.size ∧ ∀ j, j < A.slots.size → V.slots[j]? = some (.int (lo8 (cv A j)))) ∧
  ∀ (O n d : String) (w : Value), RoadKit.Fld Z h x O n d w → RoadKit.slotOf Z O n d ≠ RoadKit.slotOf Z ST "value" "[B" → RoadKit.slotOf Z O n d ≠ RoadKit.slotOf Z ST "coder" "B" → RoadKit.Fld Z h' x O n d w
/-- **new String(chars) AT A CALL, IN THE ROAD'S FORM**: for specialBack behind newO: x the fresh String, b the char[] with the cell A -/
theorem back {p : Program} {l : Launch} {e : Env} {R : Room} {s : State} {args : Array Value} {below : List Frame} {len W : Nat} {Z : State} {a0 : Array Value} {h : Heap} (hZ : Z.Warmed39 s.vm) (hw : ∀ d ∈ words, d.before a0 Z = true) {kI : Nat} (wi : (Jvm.Cond.instantiable ST kI).before a0 Z = true)
    {x b : Addr} {A : Cell} {z : Int32} {v0 c0 : Value} (E : RoadKit.Exa Z h x ST) (V : RoadKit.Fld Z h x ST "value" "[B" v0) (C : RoadKit.Fld Z h x ST "coder" "B" c0) (K : RoadKit.Arr Z h b A .char) (hty : Typed .char A) (S : RoadKit.Sta Z h ST "COMPACT_STRINGS" "Z" (.int z)) (hz : ¬ z = 0)
    (l0 : 0 < A.slots.size) (l2 : A.slots.size ≤ 536870912) (hp : ∀ i, i < A.slots.size → ¬ 255 < cv A i) (hfr : 4 ≤ R.frames) (hlo : W + 65 ≤ R.locals) :
    Back l R p e below s args New1.yN len W (fun P a => a = #[.ref x, .ref b] ∧ P.U.heap = h ∧ P.cells + 1 ≤ R.cells ∧ P.slots + A.slots.size ≤ R.slots)
      (fun P _ v B => ∃ L, Q Z x A h v B.U.heap L ∧ B.locs = P.locs ++ L ∧ B.cells = P.cells + 1 ∧ B.slots = P.slots + A.slots.size) := by
  intro m meth c P g ig mk a X hg hsize hdg hW hn hp'
  obtain ⟨rfl, rfl, r1, r2⟩ := hp'
  have al : Z.vm.Alike P.U.vm := hZ.alike.trans X.warmed.alike
  obtain ⟨D, cfV, kV, iV, fV, hD, gV, stV, knV, obV, asV, slV⟩ := id V
  obtain ⟨D', cfC, kC, iC, fC, hD', gC, stC, -, -, asC, slC⟩ := id C
  cases hD.symm.trans hD'
  obtain ⟨D2, kD, e1, e2, e3, e4, e5⟩ := id E
  cases hD.symm.trans e1
  obtain ⟨c2, k2, i1, i2, i3, -⟩ := Cond.instantiable_spec wi
  cases e2.symm.trans i1
  cases e3.symm.trans i2
  obtain ⟨kU, u1, u2⟩ := al.2.2 _ _ e3
  have hB : Blank ST x D P.U := ⟨hD, ⟨knV, fun q hq => by rw [hq] at obV; cases obV⟩, by rw [al.findClass]; exact e2, kU, u1, by rw [u2]; exact i3, by rw [u2]; exact e5 i3⟩
  have F1 : Found ST "value" "[B" fV P.U := ⟨SBG.found_only al ⟨cfV, kV, iV, gV⟩, stV⟩
  have F2 : Found ST "coder" "B" fC P.U := ⟨SBG.found_only al ⟨cfC, kC, iC, gC⟩, stC⟩
  have hA : Ch b A P.U := ⟨⟨K.1, State.isArrayOf_alike al K.2.1, K.2.2, by omega⟩, hty⟩
  have hS : StaticIs P.U ST "COMPACT_STRINGS" "Z" (.int z) := by
    obtain ⟨cfS, iS, kS, fS, st, cS, t1, t2, t3, t4, t5, t6, t7⟩ := S
    exact StaticIs.there (s := { Z with heap := P.U.heap }) ⟨cfS, iS, kS, fS, st, cS, t1, t2, t3, t4, t5, (fun q => by rw [q] at t6; cases t6), t7⟩ al rfl
  obtain ⟨v, B, X', ⟨⟨hv, E', V', q1, q2, q3, q4, q5, q6, q7, q8, q9, q10, q11⟩, hl, hc, hs⟩, st⟩ := New1.pays x D fV fC b A z (tab_of (moved hZ hw)) hfr hlo m meth c P g ig mk _ X hg hsize hdg hW hn ⟨r1, r2, rfl, hB, F1, F2, hA, hS, hz, l0, l2, hp⟩
  have al' : Z.vm.Alike B.U.vm := hZ.alike.trans X'.warmed.alike
  have hsz : E'.slots.size = D.slots.size := by
    obtain ⟨-, -, -, kB, w1, w2, w3⟩ := q1
    obtain ⟨kB', y1, y2⟩ := al'.2.2 _ _ e3
    rw [q2.2.1] at w1
    cases w1.symm.trans y1
    rw [w3, e5 i3, y2]
  refine ⟨v, B, X', ⟨_, ⟨hv, ?_, ⟨by omega, fun y cy hy hn' => q10 y cy (by simpa using hn') hy, fun y cy hy => ?_⟩, q11, ⟨E', _, q1.1, by rw [q2.2.1]; exact e2, by rw [q2.2.1]; exact e3, by rw [q2.1]; exact obV, fun _ => by rw [hsz]; exact e5 i3⟩,
    ⟨E', cfV, kV, iV, fV, q1.1, gV, stV, by rw [q2.1]; exact knV, by rw [q2.1]; exact obV, by rw [q2.2.1]; exact asV, q3⟩, ⟨E', cfC, kC, iC, fC, q1.1, gC, stC, by rw [q2.1]; exact knV, by rw [q2.1]; exact obV, by rw [q2.2.1]; exact asC, q4⟩,
    ⟨V', ⟨q5.1, State.isArrayOf_alike al'.symm q5.2.1, q5.2.2.1⟩, q6, by rw [← al'.findClass]; exact q7, q8, fun j hj => by have := q9 j hj; rwa [Nat.zero_add] at this⟩, fun O n d w F n1 n2 => ?_⟩, hl, hc, hs⟩, st⟩
  · intro y hy
    simp only [List.mem_cons, List.not_mem_nil, or_false] at hy
    rcases hy with rfl | rfl <;> rfl
  · by_cases q : y = x
    · subst q
      cases hD.symm.trans hy
      exact ⟨E', q1.1, q2.2.1, q2.1, hsz⟩
    · exact ⟨cy, q10 y cy q hy, rfl, rfl, rfl⟩
  · obtain ⟨D3, cf, k, i, f, g1, g2, g3, g4, g5, g6, g7⟩ := F
    cases hD.symm.trans g1
    simp only [RoadKit.slotOf, g2, gV, gC, Option.map_some, Option.getD_some] at n1 n2
    exact ⟨E', cf, k, i, f, q1.1, g2, g3, by rw [q2.1]; exact g4, by rw [q2.1]; exact g5, by rw [q2.2.1]; exact g6, by rw [q2.2.2 f.slot (by simp [n1, n2])]; exact g7⟩
end StrChars.Road
namespace StrChars.Road
open Jvm Sem ClassFile Op Lib Jvm.Stand Jvm.Free Jvm.Free.XT
/-- WHAT COMES BACK, the byte[] as a list of values -/
def QA (Z : State) (x : Addr) (zn : Int32) (cs : List Int32) (h : Heap) (v : Option Value) (h' : Heap) (L : List Loc) : Prop := v = none ∧ (∀ y ∈ L, y.base = x) ∧ RoadKit.Keep h h' [x] ∧ h'.size = h.size + 1 ∧ RoadKit.Exa Z h' x ST ∧ RoadKit.Fld Z h' x ST "value" "[B" (.ref h.size) ∧ RoadKit.Fld Z h' x ST "coder" "B" (.int 0) ∧
  (∃ kb, Z.vm.findClass "[B" = some kb ∧ RoadKit.Arv Z h' h.size kb .byte zn (cs.map fun c => .int (lo8 c)) (.int 0)) ∧
  ∀ (O n d : String) (w : Value), RoadKit.Fld Z h x O n d w → RoadKit.slotOf Z O n d ≠ RoadKit.slotOf Z ST "value" "[B" → RoadKit.slotOf Z O n d ≠ RoadKit.slotOf Z ST "coder" "B" → RoadKit.Fld Z h' x O n d w
/-- **new String(chars) AT A CALL, THE ARRAYS AS LISTS**: the char[] at b holds cs, not empty, no char above 255 -/
theorem backArv {p : Program} {l : Launch} {e : Env} {R : Room} {s : State} {args : Array Value} {below : List Frame} {len W : Nat} {Z : State} {a0 : Array Value} {h : Heap} (hZ : Z.Warmed39 s.vm) (hw : ∀ d ∈ words, d.before a0 Z = true) {kI : Nat} (wi : (Jvm.Cond.instantiable ST kI).before a0 Z = true)
    {x b : Addr} {k : ClassId} {zn z : Int32} {cs : List Int32} {dv v0 c0 : Value} (E : RoadKit.Exa Z h x ST) (V : RoadKit.Fld Z h x ST "value" "[B" v0) (C : RoadKit.Fld Z h x ST "coder" "B" c0) (K : RoadKit.Arv Z h b k .char zn (cs.map Value.int) dv) (S : RoadKit.Sta Z h ST "COMPACT_STRINGS" "Z" (.int z)) (hz : ¬ z = 0)
    (hlen : zn.toNatClampNeg = cs.length) (h0 : 0 < cs.length) (hbig : cs.length ≤ 536870912) (hall : ∀ c ∈ cs, ¬ 255 < c) (hfr : 4 ≤ R.frames) (hlo : W + 65 ≤ R.locals) :
    Back l R p e below s args New1.yN len W (fun P a => a = #[.ref x, .ref b] ∧ P.U.heap = h ∧ P.cells + 1 ≤ R.cells ∧ P.slots + cs.length ≤ R.slots)
      (fun P _ v B => ∃ L, QA Z x zn cs h v B.U.heap L ∧ B.locs = P.locs ++ L ∧ B.cells = P.cells + 1 ∧ B.slots = P.slots + cs.length) := by
  obtain ⟨A, K1, K2, K3, K4, K5, K6⟩ := K
  have e : A.slots.size = cs.length := K3.trans hlen
  have hat : ∀ (i : Nat) (hi : i < cs.length), A.slots[i]? = some (.int cs[i]) := fun i hi => by rw [K5 i (by omega)]; simp [List.getD_eq_getElem?_getD, hi]
  have hcv : ∀ (i : Nat) (hi : i < cs.length), cv A i = cs[i] := fun i hi => by unfold cv; rw [hat i hi]
  have hty : Typed .char A := fun i v hv => by
    have hi : i < A.slots.size := (Array.getElem?_eq_some_iff.mp hv).1
    have q := K5 i hi
    rw [hv] at q
    rw [Option.some.inj q]
    exact K6 i hi
  refine Back.mono (back hZ hw wi E V C K1 hty S hz (by omega) (by omega) (fun i hi => by rw [hcv i (by omega)]; exact hall _ (List.getElem_mem _)) hfr hlo) (fun P a hp => ⟨hp.1, hp.2.1, hp.2.2.1, by rw [e]; exact hp.2.2.2⟩) (fun P a v B hp hq => ?_)
  obtain ⟨L, ⟨q1, q2, q3, q4, q5, q6, q7, ⟨V', v1, v2, v3, v4, v5⟩, q9⟩, hl, hc, hs⟩ := hq
  refine ⟨L, ⟨q1, q2, q3, q4, q5, q6, q7, ⟨V'.cls, v3, V', v1, rfl, by rw [v4, e, hlen], K4, fun i hi => ?_, fun i hi => ?_⟩, q9⟩, hl, hc, by rw [hs, e]⟩
  · have hi' : i < cs.length := by omega
    rw [v5 i (by omega), hcv i hi']; simp [List.getD_eq_getElem?_getD, hi']
  · have hi' : i < cs.length := by omega
    simp only [List.getD_eq_getElem?_getD, List.getElem?_map, List.getElem?_eq_getElem hi', Option.map_some, Option.getD_some]
    exact fits_lo8 _
end StrChars.Road
namespace StrChars.Road
open Jvm Sem ClassFile Op Lib Jvm.Stand Jvm.Free Jvm.Free.XT
/-- WHAT COMES BACK, in the writer's own shape -/
def QV (Z : State) (x : Addr) (N : Int32) (bs : List Int32) (h : Heap) (n0 : Nat) (v : Option Value) (h' : Heap) (L : List Loc) : Prop := v = none ∧ RoadKit.Fr n0 L ∧ RoadKit.Keep h h' [x] ∧ RoadKit.Exa Z h' x ST ∧ RoadKit.Fld Z h' x ST "coder" "B" (.int 0) ∧
  ∃ (t : Addr) (kb : ClassId), n0 ≤ t ∧ h.size ≤ t ∧ ¬ t = x ∧ RoadKit.Fld Z h' x ST "value" "[B" (.ref t) ∧ RoadKit.Arv Z h' t kb .byte N (bs.map Value.int) (.int 0)
/-- **new String(chars) AT A CALL, FOR THE WRITER**: a char[] of n known ints, each 0 to 255 -/
theorem backV {p : Program} {l : Launch} {e : Env} {R : Room} {s : State} {args : Array Value} {below : List Frame} {len W : Nat} {Z : State} {a0 : Array Value} {h : Heap} (hZ : Z.Warmed39 s.vm) (hw : ∀ d ∈ words, d.before a0 Z = true) {kI : Nat} (wi : (Jvm.Cond.instantiable ST kI).before a0 Z = true)
    {x b : Addr} {kC : ClassId} {cs bs : List Int32} {d v0 c0 : Value} {z N : Int32} {n n0 : Nat} (hx0 : n0 ≤ x) (hh0 : n0 ≤ h.size) (E : RoadKit.Exa Z h x ST) (V : RoadKit.Fld Z h x ST "value" "[B" v0) (C : RoadKit.Fld Z h x ST "coder" "B" c0) (K : RoadKit.Arv Z h b kC .char N (cs.map Value.int) d) (S : RoadKit.Sta Z h ST "COMPACT_STRINGS" "Z" (.int z)) (hz : ¬ z = 0)
    (hn : cs.length = n) (hN : N = Int32.ofNat n) (l0 : 0 < n) (l2 : n ≤ 4000) (hp : ∀ c ∈ cs, ¬ c < 0 ∧ ¬ (255 : Int32) < c) (hb : bs = cs.map (fun c => c.toInt8.toInt32)) (hfr : 4 ≤ R.frames) (hlo : W + 65 ≤ R.locals) :
    Back l R p e below s args (⟨"java/lang/String", "<init>", "([C)V"⟩ : MethodName) len W (fun P a => a = #[.ref x, .ref b] ∧ P.U.heap = h ∧ P.cells + 1 ≤ R.cells ∧ P.slots + n ≤ R.slots)
      (fun P _ v B => ∃ L, QV Z x N bs h n0 v B.U.heap L ∧ B.locs = P.locs ++ L ∧ B.cells = P.cells + 1 ∧ B.slots = P.slots + n) := by
  subst hn hN hb
  refine Back.mono (backArv hZ hw wi E V C K S hz (n32 (by omega)) l0 (by omega) (fun c hc => (hp c hc).2) hfr hlo) (fun P a hp => hp) (fun P a v B hp hq => ?_)
  obtain ⟨L, ⟨q1, q2, q3, q4, q5, q6, q7, ⟨kb, v1, v2⟩, q9⟩, hl, hc, hs⟩ := hq
  exact ⟨L, ⟨q1, fun y hy => by rw [q2 y hy]; exact hx0, q3, q5, q7, h.size, kb, hh0, Nat.le_refl _, Nat.ne_of_gt E.lt, q6, by rw [List.map_map]; exact v2⟩, hl, hc, hs⟩
end StrChars.Road
namespace StrChars
open Jvm Sem ClassFile Op Lib Jvm.Stand Jvm.Free.XT Jvm.Free.ALB Jvm.Free.JM Jvm.Free
open Jvm.Lib.Cold (StaticIs)
def hi8 (x : Int32) : Int32 := lo8 (x >>> ((8 : Int32) &&& 31))
/-- what StringUTF16.getChar makes of two bytes -/
def pairCh (u v : Int32) : Int32 := (((u &&& 255) <<< ((0 : Int32) &&& 31)) ||| ((v &&& 255) <<< ((8 : Int32) &&& 31))).toUInt32.toUInt16.toUInt32.toInt32
theorem shr0 (c : Int32) : c >>> ((0 : Int32) &&& 31) = c := by
  have e : ((0 : Int32) &&& 31) = 0 := by decide
  rw [e]
  apply Int32.toBitVec_inj.mp
  rw [Int32.toBitVec_shiftRight]
  have e1 : ((0 : Int32).toBitVec.smod 32) = 0#32 := by decide
  rw [e1, BitVec.sshiftRight_eq']
  exact BitVec.sshiftRight_zero
theorem lo8_and (x : Int32) : (lo8 x &&& 255).toBitVec.toNat = x.toBitVec.toNat % 256 := by
  have h : (lo8 x).toBitVec = (x.toBitVec.signExtend 8).signExtend 32 := by rw [lo8, Int8.toBitVec_toInt32, Int32.toBitVec_toInt8]
  rw [Int32.toBitVec_and, BitVec.toNat_and, h]
  have e : ((x.toBitVec.signExtend 8).signExtend 32).toNat % 256 = x.toBitVec.toNat % 256 := by
    rw [BitVec.toNat_signExtend]
    have hlt := x.toBitVec.isLt
    simp only [BitVec.toNat_setWidth, BitVec.toNat_signExtend]
    split <;> split <;> omega
  rw [← e]
  exact Nat.and_two_pow_sub_one_eq_mod _ 8
theorem pair_says {c : Int32} (h0 : ¬ c < 0) (h1 : ¬ 65535 < c) : pairCh (lo8 c) (hi8 c) = c := by
  rw [Int32.lt_iff_toInt_lt] at h0 h1
  have e0 : (0 : Int32).toInt = 0 := rfl
  have e1 : (65535 : Int32).toInt = 65535 := rfl
  have hc : c.toInt = c.toBitVec.toNat := by
    have := c.toBitVec.isLt
    have e : c.toInt = c.toBitVec.toInt := rfl
    rw [e] at h0 h1
    rw [e]
    rw [BitVec.toInt_eq_toNat_cond] at h0 h1 ⊢
    split at h0 <;> split <;> omega
  have hn : c.toBitVec.toNat < 65536 := by omega
  have a1 := lo8_and c
  have a2 : (hi8 c &&& 255).toBitVec.toNat = c.toBitVec.toNat / 256 := by
    rw [hi8, lo8_and]
    have e : ((8 : Int32) &&& 31) = 8 := by decide
    rw [e, Int32.toBitVec_shiftRight]
    have e2 : ((8 : Int32).toBitVec.smod 32) = 8#32 := by decide
    rw [e2, BitVec.sshiftRight_eq', BitVec.toNat_sshiftRight_of_msb_false (by rw [BitVec.msb_eq_false_iff_two_mul_lt]; omega)]
    show c.toBitVec.toNat >>> 8 % 256 = _
    rw [Nat.shiftRight_eq_div_pow]
    omega
  unfold pairCh
  apply Int32.toBitVec_inj.mp
  apply BitVec.eq_of_toNat_eq
  have f0 : ((0 : Int32) &&& 31) = 0 := by decide
  have f8 : ((8 : Int32) &&& 31) = 8 := by decide
  rw [f0, f8]
  have g : (((lo8 c &&& 255) <<< (0 : Int32)) ||| ((hi8 c &&& 255) <<< (8 : Int32))).toBitVec.toNat = c.toBitVec.toNat := by
    rw [Int32.toBitVec_or, Int32.toBitVec_shiftLeft, Int32.toBitVec_shiftLeft]
    have s0 : ((0 : Int32).toBitVec.smod 32) = 0#32 := by decide
    have s8 : ((8 : Int32).toBitVec.smod 32) = 8#32 := by decide
    rw [s0, s8, BitVec.toNat_or]
    simp only [BitVec.shiftLeft_eq', BitVec.toNat_shiftLeft, a1, a2]
    show (c.toBitVec.toNat % 256) <<< 0 % 2 ^ 32 ||| (c.toBitVec.toNat / 256) <<< 8 % 2 ^ 32 = _
    rw [Nat.shiftLeft_zero, Nat.mod_eq_of_lt (show c.toBitVec.toNat % 256 < 2 ^ 32 by omega), Nat.mod_eq_of_lt (show (c.toBitVec.toNat / 256) <<< 8 < 2 ^ 32 by rw [Nat.shiftLeft_eq]; omega), Nat.or_comm, ← Nat.shiftLeft_add_eq_or_of_lt (by omega), Nat.shiftLeft_eq]
    omega
  show BitVec.toNat (((((lo8 c &&& 255) <<< (0 : Int32)) ||| ((hi8 c &&& 255) <<< (8 : Int32))).toBitVec.setWidth 16).setWidth 32) = _
  rw [BitVec.toNat_setWidth, BitVec.toNat_setWidth, g]
  omega
end StrChars
namespace StrChars
open Jvm Sem ClassFile Op Lib Jvm.Stand Jvm.Free.XT Jvm.Free.ALB Jvm.Free.JM Jvm.Free
open Jvm.Lib.Cold (StaticIs)
theorem shr1 {n : Nat} (h : 2 * n < 2 ^ 31) : Int32.ofNat (2 * n) >>> ((1 : Int32) &&& 31) = Int32.ofNat n := by
  have e : ((1 : Int32) &&& 31) = 1 := by decide
  rw [e]
  apply Int32.toBitVec_inj.mp
  rw [Int32.toBitVec_shiftRight]
  have e1 : ((1 : Int32).toBitVec.smod 32) = 1#32 := by decide
  have hm : (BitVec.ofNat 32 (2 * n)).toNat = 2 * n := by rw [BitVec.toNat_ofNat, Nat.mod_eq_of_lt (by omega)]
  rw [e1, BitVec.sshiftRight_eq']
  apply BitVec.eq_of_toNat_eq
  show ((BitVec.ofNat 32 (2 * n)).sshiftRight 1).toNat = (BitVec.ofNat 32 n).toNat
  rw [BitVec.toNat_sshiftRight_of_msb_false (by rw [BitVec.msb_eq_false_iff_two_mul_lt, hm]; omega), hm, BitVec.toNat_ofNat, Nat.shiftRight_eq_div_pow]
  omega
/-- charAt's cast of a byte read back -/
def chr8 (u : Int32) : Int32 := (u &&& 255).toUInt32.toUInt16.toUInt32.toInt32
theorem chr8_lo8 {c : Int32} (h0 : ¬ c < 0) (h1 : ¬ 255 < c) : chr8 (lo8 c) = c := by
  have t : ∀ k : Fin 256, (Int32.ofNat k.val).toUInt32.toUInt16.toUInt32.toInt32 = Int32.ofNat k.val := by decide +kernel
  unfold chr8
  rw [lo8_mask h0 h1]
  rw [Int32.lt_iff_toInt_lt] at h0 h1
  have e0 : (0 : Int32).toInt = 0 := rfl
  have e1 : (255 : Int32).toInt = 255 := rfl
  obtain ⟨k, hk⟩ : ∃ k : Nat, c.toInt = k := ⟨c.toInt.toNat, by omega⟩
  have hx : c = Int32.ofNat k := Int32.toInt_inj.mp (by rw [hk, Int32.toInt_ofNat_small (by omega)])
  rw [hx]
  exact t ⟨k, by omega⟩
theorem narrow_ch {c : Int32} (h0 : ¬ c < 0) (h1 : ¬ 65535 < c) : narrow .char (.int c) = .int c := by
  have q : narrow .char (.int (pairCh (lo8 c) (hi8 c))) = .int (pairCh (lo8 c) (hi8 c)) := narrow_c _
  rwa [pair_says h0 h1] at q
/-- the array's cell V codes the n chars f 0 .. f (n - 1) by the coder cd, as the JDK does: coder 1 just where some char is above 255 -/
def Cod (cd : Int32) (n : Nat) (f : Nat → Int32) (V : Cell) : Prop := (cd = 0 ∧ V.slots.size = n ∧ ∀ j, j < n → V.slots[j]? = some (.int (lo8 (f j))) ∧ ¬ 255 < f j) ∨ (cd = 1 ∧ V.slots.size = 2 * n ∧ (∀ j, j < n → V.slots[2 * j]? = some (.int (lo8 (f j))) ∧ V.slots[2 * j + 1]? = some (.int (hi8 (f j)))) ∧ ∃ j, j < n ∧ 255 < f j)
theorem Cod.cd {cd : Int32} {n : Nat} {f : Nat → Int32} {V : Cell} (h : Cod cd n f V) : cd = 0 ∨ cd = 1 := h.imp (fun q => q.1) fun q => q.1
theorem Cod.len {cd : Int32} {n : Nat} {f : Nat → Int32} {V : Cell} (h : Cod cd n f V) (hs : V.slots.size < 2 ^ 31) : Int32.ofNat V.slots.size >>> (cd &&& 31) = Int32.ofNat n := by
  rcases h with ⟨rfl, h, -⟩ | ⟨rfl, h, -⟩
  · rw [shr0, h]
  · rw [h, shr1 (by omega)]
/-- **x is a String of the n chars f 0 .. f (n - 1)**, Latin-1 or UTF-16; its array at t has the cell V -/
def Txt (x t : Addr) (V : Cell) (cd : Int32) (n : Nat) (f : Nat → Int32) (U : State) : Prop := Exact "java/lang/String" x U ∧ Has x "java/lang/String" "value" "[B" (.ref t) U ∧ Has x "java/lang/String" "coder" "B" (.int cd) U ∧ XT.Arr .byte t V U ∧ Cod cd n f V ∧ ∀ j, j < n → ¬ f j < 0 ∧ ¬ 65535 < f j
theorem Txt.mv {x t : Addr} {V : Cell} {cd : Int32} {n : Nat} {f : Nat → Int32} {U U' : State} (h : Txt x t V cd n f U) (hal : U.vm.Alike U'.vm) (hh : U'.heap = U.heap) : Txt x t V cd n f U' := ⟨h.1.mv hal hh, h.2.1.mv hal hh, h.2.2.1.mv hal hh, h.2.2.2.1.mv hal hh, h.2.2.2.2⟩
namespace Cdr
def yN : MethodName := ⟨"java/lang/String", "coder", "()B"⟩
abbrev yB : ByteArray := jdk_42_method_152_code
theorem d0 : decode yB 0 = .ok (.getstatic 38, 3) := by decide +kernel
theorem d3 : decode yB 3 = .ok (.ifCond (.eq) 10, 3) := by decide +kernel
theorem d6 : decode yB 6 = .ok (.aload_n 0, 1) := by decide +kernel
theorem d7 : decode yB 7 = .ok (.getfield 15, 3) := by decide +kernel
theorem d10 : decode yB 10 = .ok (.goto 4, 3) := by decide +kernel
theorem d14 : decode yB 14 = .ok (.ireturn, 1) := by decide +kernel
def site : List Cond := [.fieldLink "java/lang/String" 38 "java/lang/String" "COMPACT_STRINGS" "Z", .fieldLink "java/lang/String" 15 "java/lang/String" "coder" "B"]
def tab : Cond := tabOf yN yB 1 (some .byte) site
def P (x : Addr) (cd z : Int32) (args : Array Value) (s : State) : Prop := args = #[.ref x] ∧ Has x "java/lang/String" "coder" "B" (.int cd) s ∧ (cd = 0 ∨ cd = 1) ∧ StaticIs s "java/lang/String" "COMPACT_STRINGS" "Z" (.int z) ∧ ¬ z = 0
def E (cd : Int32) (r : Option Value) (s u : State) : Prop := XT.PureE (some (.int cd)) r s u
theorem law (l : Launch) (x : Addr) (cd z : Int32) : Law l yN 1 0 0 0 yB 1 (some .byte) site (P x cd z) (E cd) [] 0 0 := by
  refine Law.of_walk (plainFor_of_name (by decide +kernel)) (by decide +kernel) (by decide +kernel) (by decide) (fun _ _ h => by rw [h.1]; rfl) (fun _ U U' hal hh h => ⟨h.1, h.2.1.mv hal hh, h.2.2.1, h.2.2.2.1.there hal hh, h.2.2.2.2⟩) (fun r U U' V V' h1 hal h2 h => XT.PureE.mv r U U' V V' h1 hal h2 h) ?_
  intro p e s m args below meth c s₁ X0 hexec hbytes hml hret hlk hnm hown hh0 W hP
  obtain ⟨rfl, hx, hc, s1, hz⟩ := hP
  have c1 : Steps p.tables e below (s₁.setTop (entryFrame m #[.ref x] 1)) (s₁.setTop (mkF m 0 #[.val (.ref x)] [])) := entry rfl
  obtain ⟨T2, X2, q2, st2⟩ := X0.sget hexec hown (wk W (.fieldLink "java/lang/String" 38 "java/lang/String" "COMPACT_STRINGS" "Z")) s1 (fun _ _ h => by rw [hh0]; exact h) (g := (mkF m 0 #[.val (.ref x)] [])) rfl (hb hbytes d0)
  have hh2 := q2.trans hh0
  have c3 : Steps p.tables e below (s₁.setTop (entryFrame m #[.ref x] 1)) (T2.setTop (mkF m 7 #[.val (.ref x)] [.ref x])) := (c1.trans (st2 _ (Steps.refl _))).trans (by
    refine XS.ifNo X2.here hexec rfl (hb hbytes d3) rfl (i0_eq_f hz) ?_
    refine XS.aloadN X2.here hexec rfl (hb hbytes d6) rfl rfl ?_
    exact Steps.refl _)
  obtain ⟨T4, X4, q4, st4⟩ := X2.hget hexec hown (wk W (.fieldLink "java/lang/String" 15 "java/lang/String" "coder" "B")) (hx.mv X2.warmed.alike hh2) (g := (mkF m 7 #[.val (.ref x)] [.ref x])) rfl (rest := []) rfl (hb hbytes d7)
  have c5 : Steps p.tables e below (s₁.setTop (entryFrame m #[.ref x] 1)) (T4.setTop (mkF m 14 #[.val (.ref x)] [.int cd])) := (c3.trans (st4 _ (Steps.refl _))).trans (by
    refine XS.goto X4.here hexec rfl (pc0 := 10) rfl (hb hbytes d10) (by decide) rfl ?_
    exact Steps.refl _)
  exact ⟨T4, some (.int cd), _, _, _, X4, rfl, rfl, rfl, (fun h => by cases h), ⟨rfl, q4.trans hh2⟩, fun fs hl => c5.trans (X4.ireturnOut hexec hret (by rcases hc with rfl | rfl <;> rfl) (Or.inr (Or.inr (Or.inl rfl))) (hb hbytes d14) hl)⟩
end Cdr
namespace Len
def yN : MethodName := ⟨"java/lang/String", "length", "()I"⟩
abbrev yB : ByteArray := jdk_42_method_54_code
theorem d0 : decode yB 0 = .ok (.aload_n 0, 1) := by decide +kernel
theorem d1 : decode yB 1 = .ok (.getfield 9, 3) := by decide +kernel
theorem d4 : decode yB 4 = .ok (.arraylength, 1) := by decide +kernel
theorem d5 : decode yB 5 = .ok (.aload_n 0, 1) := by decide +kernel
theorem d6 : decode yB 6 = .ok (.invokevirtual 335, 3) := by decide +kernel
theorem d9 : decode yB 9 = .ok (.ishr, 1) := by decide +kernel
theorem d10 : decode yB 10 = .ok (.ireturn, 1) := by decide +kernel
def site : List Cond := [.fieldLink "java/lang/String" 9 "java/lang/String" "value" "[B", Cdr.tab] ++ virtW "java/lang/String" 335 "java/lang/String" Cdr.yN Cdr.yN
def tab : Cond := tabOf yN yB 1 (some .int) site
def P (x t : Addr) (V : Cell) (cd : Int32) (n : Nat) (f : Nat → Int32) (z : Int32) (args : Array Value) (s : State) : Prop := args = #[.ref x] ∧ Txt x t V cd n f s ∧ StaticIs s "java/lang/String" "COMPACT_STRINGS" "Z" (.int z) ∧ ¬ z = 0
def E (n : Nat) (r : Option Value) (s u : State) : Prop := XT.PureE (some (.int (Int32.ofNat n))) r s u
/-- length() of a String of n chars, in either coding -/
theorem law (l : Launch) (x t : Addr) (V : Cell) (cd : Int32) (n : Nat) (f : Nat → Int32) (z : Int32) : Law l yN 1 0 1 13 yB 1 (some .int) site (P x t V cd n f z) (E n) [] 0 0 := by
  refine Law.of_walk (plainFor_of_name (by decide +kernel)) (by decide +kernel) (by decide +kernel) (by decide) (fun _ _ h => by rw [h.1]; rfl) (fun _ U U' hal hh h => ⟨h.1, h.2.1.mv hal hh, h.2.2.1.there hal hh, h.2.2.2⟩) (fun r U U' V V' h1 hal h2 h => XT.PureE.mv r U U' V V' h1 hal h2 h) ?_
  intro p e s m args below meth c s₁ X0 hexec hbytes hml hret hlk hnm hown hh0 W hP
  obtain ⟨rfl, hx, s1, hz⟩ := hP
  have v31 := hx.2.2.2.1.2.2.2
  have c1 : Steps p.tables e below (s₁.setTop (entryFrame m #[.ref x] 1)) (s₁.setTop (mkF m 1 #[.val (.ref x)] [.ref x])) := Steps.trans (entry rfl) (by
    show Steps p.tables e below (s₁.setTop (mkF m 0 #[.val (.ref x)] [])) _
    refine XS.aloadN X0.here hexec rfl (hb hbytes d0) rfl rfl ?_
    exact Steps.refl _)
  obtain ⟨T2, X2, q2, st2⟩ := X0.hget hexec hown (wk W (.fieldLink "java/lang/String" 9 "java/lang/String" "value" "[B")) (hx.mv X0.warmed.alike hh0).2.1 (g := (mkF m 1 #[.val (.ref x)] [.ref x])) rfl (rest := []) rfl (hb hbytes d1)
  have hh2 := q2.trans hh0
  have hx2 := hx.mv X2.warmed.alike hh2
  have c3 : Steps p.tables e below (s₁.setTop (entryFrame m #[.ref x] 1)) (T2.setTop (mkF m 6 #[.val (.ref x)] [.ref x, .int (Int32.ofNat V.slots.size)])) := (c1.trans (st2 _ (Steps.refl _))).trans (by
    refine X2.alen hexec hx2.2.2.2.1 rfl rfl (hb hbytes d4) ?_
    refine XS.aloadN X2.here hexec rfl (hb hbytes d5) rfl rfl ?_
    exact Steps.refl _)
  obtain ⟨v4, T4, X4, E4, g4⟩ := X2.callV hexec (Cdr.law l x cd z) hown (wks W (virtW "java/lang/String" 335 "java/lang/String" Cdr.yN Cdr.yN)) rfl (by decide) (wk W Cdr.tab) (W := 1) (Nat.le_of_ble_eq_true rfl) (Nat.le_of_ble_eq_true rfl) (Nat.le_refl _) (Nat.le_refl _) (hx2.1.fc X2.warmed.alike) hx2.1.is (g := (mkF m 6 #[.val (.ref x)] [.ref x, .int (Int32.ofNat V.slots.size)])) rfl (by rw [hml]; rfl) c3 (argsL := []) (rest := [.int (Int32.ofNat V.slots.size)]) rfl rfl (by show 2 * 0 + (1 + 0) ≤ _; decide) (hb hbytes d6) (⟨rfl, hx2.2.2.1, hx.2.2.2.2.1.cd, s1.there X2.warmed.alike hh2, hz⟩)
  obtain ⟨rfl, q4⟩ := E4
  have c5 : Steps p.tables e below (s₁.setTop (entryFrame m #[.ref x] 1)) (T4.setTop (mkF m 10 #[.val (.ref x)] [.int (Int32.ofNat V.slots.size >>> (cd &&& 31))])) := Steps.trans g4 (by
    refine ishr X4.here hexec rfl (hb hbytes d9) rfl ?_
    exact Steps.refl _)
  rw [hx.2.2.2.2.1.len v31] at c5
  exact ⟨T4, some (.int (Int32.ofNat n)), _, _, _, X4, rfl, rfl, rfl, (fun h => by cases h), ⟨rfl, q4.trans hh2⟩, fun fs hl => c5.trans (X4.ireturnOut hexec hret rfl (Or.inl rfl) (hb hbytes d10) hl)⟩
theorem pays {l : Launch} {R : Room} {p : Program} {e : Env} {below : List Frame} {s : State} {sargs : Array Value} {len W : Nat} (x t : Addr) (V : Cell) (cd : Int32) (n : Nat) (f : Nat → Int32) (z : Int32) (htab : tab.before sargs s = true) (hfr : 2 ≤ R.frames) (hlo : W + 25 ≤ R.locals) :
    Back l R p e below s sargs yN len W (fun A₁ a₁ => A₁.cells + 0 ≤ R.cells ∧ A₁.slots + 0 ≤ R.slots ∧ P x t V cd n f z a₁ A₁.U) (fun A₁ _ v₁ B₁ => E n v₁ A₁.U B₁.U ∧ B₁.locs = A₁.locs ++ [] ∧ B₁.cells = A₁.cells + 0 ∧ B₁.slots = A₁.slots + 0) :=
  (law l x t V cd n f z).pays htab hfr (by omega)
end Len
namespace IsL
def yN : MethodName := ⟨"java/lang/String", "isLatin1", "()Z"⟩
abbrev yB : ByteArray := jdk_42_method_154_code
theorem d0 : decode yB 0 = .ok (.getstatic 38, 3) := by decide +kernel
theorem d3 : decode yB 3 = .ok (.ifCond (.eq) 14, 3) := by decide +kernel
theorem d6 : decode yB 6 = .ok (.aload_n 0, 1) := by decide +kernel
theorem d7 : decode yB 7 = .ok (.getfield 15, 3) := by decide +kernel
theorem d10 : decode yB 10 = .ok (.ifCond (.ne) 7, 3) := by decide +kernel
theorem d13 : decode yB 13 = .ok (.iconst 1, 1) := by decide +kernel
theorem d14 : decode yB 14 = .ok (.goto 4, 3) := by decide +kernel
theorem d17 : decode yB 17 = .ok (.iconst 0, 1) := by decide +kernel
theorem d18 : decode yB 18 = .ok (.ireturn, 1) := by decide +kernel
def site : List Cond := [.fieldLink "java/lang/String" 38 "java/lang/String" "COMPACT_STRINGS" "Z", .fieldLink "java/lang/String" 15 "java/lang/String" "coder" "B"]
def tab : Cond := tabOf yN yB 1 (some .boolean) site
def P (x : Addr) (cd z : Int32) (args : Array Value) (s : State) : Prop := args = #[.ref x] ∧ Has x "java/lang/String" "coder" "B" (.int cd) s ∧ (cd = 0 ∨ cd = 1) ∧ StaticIs s "java/lang/String" "COMPACT_STRINGS" "Z" (.int z) ∧ ¬ z = 0
def E (cd : Int32) (r : Option Value) (s u : State) : Prop := XT.PureE (some (.int (1 - cd))) r s u
theorem law (l : Launch) (x : Addr) (cd z : Int32) : Law l yN 1 0 0 0 yB 1 (some .boolean) site (P x cd z) (E cd) [] 0 0 := by
  refine Law.of_walk (plainFor_of_name (by decide +kernel)) (by decide +kernel) (by decide +kernel) (by decide) (fun _ _ h => by rw [h.1]; rfl) (fun _ U U' hal hh h => ⟨h.1, h.2.1.mv hal hh, h.2.2.1, h.2.2.2.1.there hal hh, h.2.2.2.2⟩) (fun r U U' V V' h1 hal h2 h => XT.PureE.mv r U U' V V' h1 hal h2 h) ?_
  intro p e s m args below meth c s₁ X0 hexec hbytes hml hret hlk hnm hown hh0 W hP
  obtain ⟨rfl, hx, hc, s1, hz⟩ := hP
  have c1 : Steps p.tables e below (s₁.setTop (entryFrame m #[.ref x] 1)) (s₁.setTop (mkF m 0 #[.val (.ref x)] [])) := entry rfl
  obtain ⟨T2, X2, q2, st2⟩ := X0.sget hexec hown (wk W (.fieldLink "java/lang/String" 38 "java/lang/String" "COMPACT_STRINGS" "Z")) s1 (fun _ _ h => by rw [hh0]; exact h) (g := (mkF m 0 #[.val (.ref x)] [])) rfl (hb hbytes d0)
  have hh2 := q2.trans hh0
  have c3 : Steps p.tables e below (s₁.setTop (entryFrame m #[.ref x] 1)) (T2.setTop (mkF m 7 #[.val (.ref x)] [.ref x])) := (c1.trans (st2 _ (Steps.refl _))).trans (by
    refine XS.ifNo X2.here hexec rfl (hb hbytes d3) rfl (i0_eq_f hz) ?_
    refine XS.aloadN X2.here hexec rfl (hb hbytes d6) rfl rfl ?_
    exact Steps.refl _)
  obtain ⟨T4, X4, q4, st4⟩ := X2.hget hexec hown (wk W (.fieldLink "java/lang/String" 15 "java/lang/String" "coder" "B")) (hx.mv X2.warmed.alike hh2) (g := (mkF m 7 #[.val (.ref x)] [.ref x])) rfl (rest := []) rfl (hb hbytes d7)
  have c5 : Steps p.tables e below (s₁.setTop (entryFrame m #[.ref x] 1)) (T4.setTop (mkF m 10 #[.val (.ref x)] [.int cd])) := c3.trans (st4 _ (Steps.refl _))
  have c6 : Steps p.tables e below (s₁.setTop (entryFrame m #[.ref x] 1)) (T4.setTop (mkF m 18 #[.val (.ref x)] [.int (1 - cd)])) := by
    rcases hc with rfl | rfl
    · exact c5.trans (by
        refine XS.ifNo X4.here hexec rfl (hb hbytes d10) rfl (i0_ne_f rfl) ?_
        refine iconstV X4.here hexec rfl 1 (hb hbytes d13) (by decide) ?_
        refine XS.goto X4.here hexec rfl (pc0 := 14) rfl (hb hbytes d14) (by decide) rfl ?_
        exact Steps.refl _)
    · exact c5.trans (by
        refine XS.ifYes X4.here hexec rfl (pc0 := 10) rfl (hb hbytes d10) rfl (i0_ne_t (by decide)) (by decide) rfl ?_
        refine iconstV X4.here hexec rfl 0 (hb hbytes d17) (by decide) ?_
        exact Steps.refl _)
  exact ⟨T4, some (.int (1 - cd)), _, _, _, X4, rfl, rfl, rfl, (fun h => by cases h), ⟨rfl, q4.trans hh2⟩, fun fs hl => c6.trans (X4.ireturnOut hexec hret (by rcases hc with rfl | rfl <;> rfl) (Or.inr (Or.inl rfl)) (hb hbytes d18) hl)⟩
end IsL
namespace LChA
def yN : MethodName := ⟨"java/lang/StringLatin1", "charAt", "([BI)C"⟩
abbrev yB : ByteArray := jdk_43_method_2_code
theorem d0 : decode yB 0 = .ok (.iload_n 1, 1) := by decide +kernel
theorem d1 : decode yB 1 = .ok (.aload_n 0, 1) := by decide +kernel
theorem d2 : decode yB 2 = .ok (.arraylength, 1) := by decide +kernel
theorem d3 : decode yB 3 = .ok (.invokestatic 9, 3) := by decide +kernel
theorem d6 : decode yB 6 = .ok (.aload_n 0, 1) := by decide +kernel
theorem d7 : decode yB 7 = .ok (.iload_n 1, 1) := by decide +kernel
theorem d8 : decode yB 8 = .ok (.baload, 1) := by decide +kernel
theorem d9 : decode yB 9 = .ok (.sipush 255, 3) := by decide +kernel
theorem d12 : decode yB 12 = .ok (.iand, 1) := by decide +kernel
theorem d13 : decode yB 13 = .ok (.i2c, 1) := by decide +kernel
theorem d14 : decode yB 14 = .ok (.ireturn, 1) := by decide +kernel
def site : List Cond := [JO.Str_checkIndex.tab] ++ staticW "java/lang/StringLatin1" 9 JO.Str_checkIndex.yN
def tab : Cond := tabOf yN yB 2 (some .char) site
def P (t : Addr) (V : Cell) (i : Nat) (u : Int32) (fm : Value) (args : Array Value) (s : State) : Prop := args = #[.ref t, .int (Int32.ofNat i)] ∧ XT.Arr .byte t V s ∧ V.slots[i]? = some (.int u) ∧ (StaticIs s "jdk/internal/util/Preconditions" "SIOOBE_FORMATTER" "Ljava/util/function/BiFunction;" fm ∧ fm.isRef = true)
def E (u : Int32) (r : Option Value) (s w : State) : Prop := XT.PureE (some (.int (chr8 u))) r s w
theorem law (l : Launch) (t : Addr) (V : Cell) (i : Nat) (u : Int32) (fm : Value) : Law l yN 2 2 2 27 yB 2 (some .char) site (P t V i u fm) (E u) [] 0 0 := by
  refine Law.of_walk (plainFor_of_name (by decide +kernel)) (by decide +kernel) (by decide +kernel) (by decide) (fun _ _ h => by rw [h.1]; rfl) (fun _ U U' hal hh h => ⟨h.1, h.2.1.mv hal hh, h.2.2.1, h.2.2.2.1.there hal hh, h.2.2.2.2⟩) (fun r U U' V V' h1 hal h2 h => XT.PureE.mv r U U' V V' h1 hal h2 h) ?_
  intro p e s m args below meth c s₁ X0 hexec hbytes hml hret hlk hnm hown hh0 W hP
  obtain ⟨rfl, hV, hu, s1, rf⟩ := hP
  have v31 := hV.2.2.2
  have hi : i < V.slots.size := (Array.getElem?_eq_some_iff.mp hu).1
  have c1 : Steps p.tables e below (s₁.setTop (entryFrame m #[.ref t, .int (Int32.ofNat i)] 2)) (s₁.setTop (mkF m 0 #[.val (.ref t), .val (.int (Int32.ofNat i))] [])) := entry rfl
  have c2 : Steps p.tables e below (s₁.setTop (entryFrame m #[.ref t, .int (Int32.ofNat i)] 2)) (s₁.setTop (mkF m 3 #[.val (.ref t), .val (.int (Int32.ofNat i))] [.int (Int32.ofNat V.slots.size), .int (Int32.ofNat i)])) := c1.trans (by
    refine XS.iloadN X0.here hexec rfl (hb hbytes d0) rfl ?_
    refine XS.aloadN X0.here hexec rfl (hb hbytes d1) rfl rfl ?_
    refine X0.alen hexec (hV.mv X0.warmed.alike hh0) rfl rfl (hb hbytes d2) ?_
    exact Steps.refl _)
  obtain ⟨v3, T3, X3, E3, g3⟩ := X0.callS hexec (JO.Str_checkIndex.law l (Int32.ofNat i) (Int32.ofNat V.slots.size) fm) hown (wks W (staticW "java/lang/StringLatin1" 9 JO.Str_checkIndex.yN)) (wk W JO.Str_checkIndex.tab) (W := 0) (Nat.le_of_ble_eq_true rfl) (Nat.le_of_ble_eq_true rfl) (Nat.le_refl _) (Nat.le_refl _) (g := (mkF m 3 #[.val (.ref t), .val (.int (Int32.ofNat i))] [.int (Int32.ofNat V.slots.size), .int (Int32.ofNat i)])) rfl (by rw [hml]; rfl) c2 (argsL := [.int (Int32.ofNat i), .int (Int32.ofNat V.slots.size)]) (rest := []) rfl rfl (by show 2 * 0 + 0 ≤ _; decide) (hb hbytes d3) (⟨rfl, rf, s1.there X0.warmed.alike hh0, Int32.ofNat_not_neg (by omega), lt32 v31 hi⟩)
  obtain ⟨rfl, q3⟩ := E3
  have hh3 := q3.trans hh0
  have c4 : Steps p.tables e below (s₁.setTop (entryFrame m #[.ref t, .int (Int32.ofNat i)] 2)) (T3.setTop (mkF m 14 #[.val (.ref t), .val (.int (Int32.ofNat i))] [.int (chr8 u)])) := Steps.trans g3 (by
    refine XS.aloadN X3.here hexec rfl (hb hbytes d6) rfl rfl ?_
    refine XS.iloadN X3.here hexec rfl (hb hbytes d7) rfl ?_
    refine X3.aget hexec (hV.mv X3.warmed.alike hh3) rfl hu rfl rfl (hb hbytes d8) ?_
    refine sipushV X3.here hexec rfl 255 (hb hbytes d9) (by decide) ?_
    refine XS.iand X3.here hexec rfl (hb hbytes d12) rfl ?_
    refine i2c X3.here hexec rfl (hb hbytes d13) rfl ?_
    exact Steps.refl _)
  exact ⟨T3, some (.int (chr8 u)), _, _, _, X3, rfl, rfl, rfl, (fun h => by cases h), ⟨rfl, hh3⟩, fun fs hl => c4.trans (X3.ireturnOut hexec hret (narrow_c _) (Or.inr (Or.inr (Or.inr (Or.inl rfl)))) (hb hbytes d14) hl)⟩
end LChA
end StrChars
namespace StrChars.Road
open Jvm Sem ClassFile Op Lib Jvm.Stand Jvm.Free Jvm.Free.XT
open Jvm.Lib.Cold (StaticIs)
theorem consq {a : Array Value} {s : State} {c : Jvm.Cond} {L : List Jvm.Cond} (h0 : c.before a s = true) (h : ∀ w ∈ L, w.before a s = true) : ∀ w ∈ c :: L, w.before a s = true := fun w hw => (List.mem_cons.mp hw).elim (fun e => e ▸ h0) (h w)
/-- the words of String.length(), either coding -/
abbrev wordsLen : List Jvm.Cond := [.code Len.yN Len.yB 1 (some .int), .initialized ST, .fieldLink ST 9 ST "value" "[B", .fieldLink ST 38 ST "COMPACT_STRINGS" "Z", .fieldLink ST 15 ST "coder" "B", .code Cdr.yN Cdr.yB 1 (some .byte), .methodLink ST 335 Cdr.yN, .declares Cdr.yN, .selects ST Cdr.yN Cdr.yN, .instanceMethod Cdr.yN]
theorem tabLen_of {a : Array Value} {s : State} (h : ∀ w ∈ wordsLen, w.before a s = true) : Len.tab.before a s = true := by
  have hc : Cdr.tab.before a s = true := unparts (wk h (.code Cdr.yN Cdr.yB 1 (some .byte))) (wks h (.initialized Cdr.yN.cls :: Cdr.site))
  have q := consq hc h
  exact unparts (wk q (.code Len.yN Len.yB 1 (some .int))) (wks q (.initialized Len.yN.cls :: Len.site))
theorem movedLen {Z s : State} {a0 args : Array Value} (hZ : Z.Warmed39 s.vm) (hw : ∀ d ∈ wordsLen, d.before a0 Z = true) : ∀ d ∈ wordsLen, d.before args s = true := fun d hd => by
  have q := hw d hd
  have t : ∀ d ∈ wordsLen, d = .arrayClass .byte ∨ (d.onTables && d.keepsFace) = true := by decide +kernel
  rcases t d hd with rfl | t
  · exact RoadKit.mvA hZ q
  · exact RoadKit.mv hZ q t
/-- the bytes of the chars cs, low before high -/
def wideBytes : List Int32 → List Value
  | [] => []
  | c :: cs => .int (lo8 c) :: .int (hi8 c) :: wideBytes cs
theorem wide_lo (d : Value) : ∀ (cs : List Int32) (j : Nat), j < cs.length → (wideBytes cs).getD (2 * j) d = .int (lo8 (cs.getD j 0))
  | [], j, h => absurd h (Nat.not_lt_zero j)
  | c :: cs, 0, _ => rfl
  | c :: cs, j + 1, h => by
    have q := wide_lo d cs j (by simpa using h)
    rw [show 2 * (j + 1) = 2 * j + 1 + 1 from by omega]
    simpa [wideBytes] using q
theorem wide_hi (d : Value) : ∀ (cs : List Int32) (j : Nat), j < cs.length → (wideBytes cs).getD (2 * j + 1) d = .int (hi8 (cs.getD j 0))
  | [], j, h => absurd h (Nat.not_lt_zero j)
  | c :: cs, 0, _ => rfl
  | c :: cs, j + 1, h => by
    have q := wide_hi d cs j (by simpa using h)
    rw [show 2 * (j + 1) + 1 = 2 * j + 1 + 1 + 1 from by omega]
    simpa [wideBytes] using q
theorem low_at (d : Value) (cs : List Int32) (j : Nat) (h : j < cs.length) : (cs.map fun c => Value.int (lo8 c)).getD j d = .int (lo8 (cs.getD j 0)) := by
  simp [List.getD_eq_getElem?_getD, h]
/-- an array of N2 bytes vs codes the chars cs by the coder cd -/
def CodA (cs : List Int32) (cd N2 : Int32) (vs : List Value) : Prop := (cd = 0 ∧ N2 = Int32.ofNat cs.length ∧ vs = (cs.map fun c => Value.int (lo8 c)) ∧ ∀ c ∈ cs, ¬ 255 < c) ∨ (cd = 1 ∧ N2 = Int32.ofNat (2 * cs.length) ∧ vs = wideBytes cs ∧ ∃ c ∈ cs, 255 < c)
theorem CodA.cod {cs : List Int32} {cd N2 : Int32} {vs : List Value} {V : Cell} (h : CodA cs cd N2 vs) (hn : 2 * cs.length < 2 ^ 31) (hs : V.slots.size = N2.toNatClampNeg) (hv : RoadKit.Has V vs (.int 0)) : Cod cd cs.length (fun j => cs.getD j 0) V := by
  rcases h with ⟨rfl, rfl, rfl, h⟩ | ⟨rfl, rfl, rfl, c, hc, hw⟩
  · rw [n32 (by omega)] at hs
    exact Or.inl ⟨rfl, hs, fun j hj => ⟨by rw [hv j (by omega), low_at _ _ _ hj], by
      have e : cs.getD j 0 = cs[j] := by simp [List.getD_eq_getElem?_getD, hj]
      show ¬ 255 < cs.getD j 0
      rw [e]; exact h _ (List.getElem_mem _)⟩⟩
  · rw [n32 (by omega)] at hs
    obtain ⟨j, hj, rfl⟩ := List.getElem_of_mem hc
    exact Or.inr ⟨rfl, hs, fun j hj => ⟨by rw [hv _ (by omega), wide_lo _ _ _ hj], by rw [hv _ (by omega), wide_hi _ _ _ hj]⟩, j, hj, by
      have e : cs.getD j 0 = cs[j] := by simp [List.getD_eq_getElem?_getD, hj]
      show 255 < cs.getD j 0
      rw [e]; exact hw⟩
/-- an object of exactly java/lang/String, its two fields found: as the laws ask it -/
theorem strObj {Z U : State} {a0 : Array Value} {kI : Nat} (wi : (Jvm.Cond.instantiable ST kI).before a0 Z = true) (al : Z.vm.Alike U.vm) {x : Addr} {v0 c0 : Value} (E : RoadKit.Exa Z U.heap x ST) (V : RoadKit.Fld Z U.heap x ST "value" "[B" v0) (C : RoadKit.Fld Z U.heap x ST "coder" "B" c0) :
    ∃ (D : Cell) (fV fC : Field), Blank ST x D U ∧ Found ST "value" "[B" fV U ∧ Found ST "coder" "B" fC U ∧ D.slots[fV.slot]? = some v0 ∧ D.slots[fC.slot]? = some c0 ∧ RoadKit.slotOf Z ST "value" "[B" = fV.slot ∧ RoadKit.slotOf Z ST "coder" "B" = fC.slot := by
  obtain ⟨D, cfV, kV, iV, fV, hD, gV, stV, knV, obV, asV, slV⟩ := V
  obtain ⟨D', cfC, kC, iC, fC, hD', gC, stC, -, -, asC, slC⟩ := C
  cases hD.symm.trans hD'
  obtain ⟨D2, kD, e1, e2, e3, e4, e5⟩ := E
  cases hD.symm.trans e1
  obtain ⟨c2, k2, i1, i2, i3, -⟩ := Cond.instantiable_spec wi
  cases e2.symm.trans i1
  cases e3.symm.trans i2
  obtain ⟨kU, u1, u2⟩ := al.2.2 _ _ e3
  exact ⟨D, fV, fC, ⟨hD, ⟨knV, fun q hq => by rw [hq] at obV; cases obV⟩, by rw [al.findClass]; exact e2, kU, u1, by rw [u2]; exact i3, by rw [u2]; exact e5 i3⟩, ⟨SBG.found_only al ⟨cfV, kV, iV, gV⟩, stV⟩, ⟨SBG.found_only al ⟨cfC, kC, iC, gC⟩, stC⟩, slV, slC, by simp [RoadKit.slotOf, gV], by simp [RoadKit.slotOf, gC]⟩
theorem sta_is {Z U : State} (al : Z.vm.Alike U.vm) {C n d : String} {v : Value} (S : RoadKit.Sta Z U.heap C n d v) : StaticIs U C n d v := by
  obtain ⟨cfS, iS, kS, fS, st, cS, t1, t2, t3, t4, t5, t6, t7⟩ := S
  exact StaticIs.there (s := { Z with heap := U.heap }) ⟨cfS, iS, kS, fS, st, cS, t1, t2, t3, t4, t5, (fun q => by rw [q] at t6; cases t6), t7⟩ al rfl
/-- **length() OF SUCH A STRING** -/
theorem lenW {p : Program} {l : Launch} {e : Env} {R : Room} {s : State} {args : Array Value} {below : List Frame} {len W : Nat} {Z : State} {a0 : Array Value} {h : Heap} (hZ : Z.Warmed39 s.vm) (hw : ∀ d ∈ wordsLen, d.before a0 Z = true) {kI : Nat} (wi : (Jvm.Cond.instantiable ST kI).before a0 Z = true)
    {x t : Addr} {kb : ClassId} {cs : List Int32} {cd N2 z : Int32} {vs : List Value} (E : RoadKit.Exa Z h x ST) (V : RoadKit.Fld Z h x ST "value" "[B" (.ref t)) (C : RoadKit.Fld Z h x ST "coder" "B" (.int cd)) (K : RoadKit.Arv Z h t kb .byte N2 vs (.int 0)) (hc : CodA cs cd N2 vs) (hb : ∀ c ∈ cs, ¬ c < 0 ∧ ¬ (65535 : Int32) < c)
    (S : RoadKit.Sta Z h ST "COMPACT_STRINGS" "Z" (.int z)) (hz : ¬ z = 0) (l2 : cs.length ≤ 4000) (hfr : 2 ≤ R.frames) (hlo : W + 25 ≤ R.locals) :
    Back l R p e below s args (⟨"java/lang/String", "length", "()I"⟩ : MethodName) len W (fun P a => a = #[.ref x] ∧ P.U.heap = h ∧ P.cells + 0 ≤ R.cells ∧ P.slots + 0 ≤ R.slots)
      (fun P _ v B => ∃ L, (v = some (.int (Int32.ofNat cs.length)) ∧ L = [] ∧ B.U.heap = h) ∧ B.locs = P.locs ++ L ∧ B.cells = P.cells + 0 ∧ B.slots = P.slots + 0) := by
  obtain ⟨A, K1, K2, K3, K4, K5, K6⟩ := K
  have hcod := hc.cod (by omega) K3 K5
  intro m meth c P g ig mk a X hg hsize hdg hW hn hp'
  obtain ⟨rfl, rfl, r1, r2⟩ := hp'
  have al : Z.vm.Alike P.U.vm := hZ.alike.trans X.warmed.alike
  obtain ⟨D, fV, fC, hB, F1, F2, g1, g2, -, -⟩ := strObj wi al E V C
  have hx : Txt x t A cd cs.length (fun j => cs.getD j 0) P.U := ⟨⟨_, hB.2.2.1, D, hB.1, rfl, by cases q : D.vm <;> first | rfl | exact absurd q (hB.2.1.2 _)⟩, Has.of hB F1 g1, Has.of hB F2 g2, ⟨K1.1, State.isArrayOf_alike al K1.2.1, K1.2.2, by rcases hcod with ⟨-, q, -⟩ | ⟨-, q, -⟩ <;> omega⟩, hcod, fun j hj => by
    have e : cs.getD j 0 = cs[j] := by simp [List.getD_eq_getElem?_getD, hj]
    show ¬ cs.getD j 0 < 0 ∧ ¬ 65535 < cs.getD j 0
    rw [e]; exact hb _ (List.getElem_mem _)⟩
  obtain ⟨v, B, X', ⟨⟨hv, hh⟩, hl, hk, hs⟩, st⟩ := Len.pays x t A cd cs.length (fun j => cs.getD j 0) z (tabLen_of (movedLen hZ hw)) hfr hlo m meth c P g ig mk _ X hg hsize hdg hW hn ⟨r1, r2, rfl, hx, sta_is al S, hz⟩
  exact ⟨v, B, X', ⟨[], ⟨hv, rfl, hh⟩, hl, hk, hs⟩, st⟩
end StrChars.Road
namespace StrChars
open Jvm Sem ClassFile Op Lib Jvm.Stand Jvm.Free.XT Jvm.Free.ALB Jvm.Free.JM Jvm.Free
open Jvm.Lib.Cold (StaticIs)
/-- what place i of a byte[]'s cell holds -/
def yv (A : Cell) (i : Nat) : Int32 := match A.slots[i]? with | some (.int x) => x | _ => 0
theorem yv_get {a : Addr} {A : Cell} {U : State} (h : XT.Arr .byte a A U) (ht : Typed .byte A) {i : Nat} (hi : i < A.slots.size) : A.slots[i]? = some (.int (yv A i)) := by
  have e := Array.getElem?_eq_getElem hi
  have f := ht i _ e
  unfold yv; rw [e]
  generalize A.slots[i] = v at f
  cases v <;> simp [fits] at f ⊢
/-- the two arrays are equal, place for place -/
def EqC (A B : Cell) : Prop := A.slots.size = B.slots.size ∧ ∀ i, i < A.slots.size → yv A i = yv B i
/-- a boolean that says whether p -/
def Says01 (q : Prop) (r : Option Value) (s u : State) : Prop := ∃ v : Int32, r = some (.int v) ∧ u.heap = s.heap ∧ ((v = 1 ∧ q) ∨ (v = 0 ∧ ¬ q))
theorem Says01.mv {q : Prop} : ∀ r (U U' V V' : State), U'.heap = U.heap → V.vm.Alike V'.vm → V'.heap = V.heap → Says01 q r U V → Says01 q r U' V' :=
  fun r U U' V V' h1 _ h2 ⟨v, a, b, c⟩ => ⟨v, a, by rw [h1, h2]; exact b, c⟩
namespace LEq
def yN : MethodName := ⟨"java/lang/StringLatin1", "equals", "([B[B)Z"⟩
abbrev yB : ByteArray := jdk_43_method_13_code
theorem d0 : decode yB 0 = .ok (.aload_n 0, 1) := by decide +kernel
theorem d1 : decode yB 1 = .ok (.arraylength, 1) := by decide +kernel
theorem d2 : decode yB 2 = .ok (.aload_n 1, 1) := by decide +kernel
theorem d3 : decode yB 3 = .ok (.arraylength, 1) := by decide +kernel
theorem d4 : decode yB 4 = .ok (.if_icmp (.ne) 30, 3) := by decide +kernel
theorem d7 : decode yB 7 = .ok (.iconst 0, 1) := by decide +kernel
theorem d8 : decode yB 8 = .ok (.istore_n 2, 1) := by decide +kernel
theorem d9 : decode yB 9 = .ok (.iload_n 2, 1) := by decide +kernel
theorem d10 : decode yB 10 = .ok (.aload_n 0, 1) := by decide +kernel
theorem d11 : decode yB 11 = .ok (.arraylength, 1) := by decide +kernel
theorem d12 : decode yB 12 = .ok (.if_icmp (.ge) 20, 3) := by decide +kernel
theorem d15 : decode yB 15 = .ok (.aload_n 0, 1) := by decide +kernel
theorem d16 : decode yB 16 = .ok (.iload_n 2, 1) := by decide +kernel
theorem d17 : decode yB 17 = .ok (.baload, 1) := by decide +kernel
theorem d18 : decode yB 18 = .ok (.aload_n 1, 1) := by decide +kernel
theorem d19 : decode yB 19 = .ok (.iload_n 2, 1) := by decide +kernel
theorem d20 : decode yB 20 = .ok (.baload, 1) := by decide +kernel
theorem d21 : decode yB 21 = .ok (.if_icmp (.eq) 5, 3) := by decide +kernel
theorem d24 : decode yB 24 = .ok (.iconst 0, 1) := by decide +kernel
theorem d25 : decode yB 25 = .ok (.ireturn, 1) := by decide +kernel
theorem d26 : decode yB 26 = .ok (.iinc 2 1, 3) := by decide +kernel
theorem d29 : decode yB 29 = .ok (.goto (-20), 3) := by decide +kernel
theorem d32 : decode yB 32 = .ok (.iconst 1, 1) := by decide +kernel
theorem d33 : decode yB 33 = .ok (.ireturn, 1) := by decide +kernel
theorem d34 : decode yB 34 = .ok (.iconst 0, 1) := by decide +kernel
theorem d35 : decode yB 35 = .ok (.ireturn, 1) := by decide +kernel
def site : List Cond := []
def tab : Cond := tabOf yN yB 3 (some .boolean) site
def P (a : Addr) (A : Cell) (b : Addr) (B : Cell) (args : Array Value) (s : State) : Prop := args = #[.ref a, .ref b] ∧ XT.Arr .byte a A s ∧ Typed .byte A ∧ XT.Arr .byte b B s ∧ Typed .byte B
/-- whether two byte[] are equal, place for place -/
theorem law (l : Launch) (a : Addr) (A : Cell) (b : Addr) (B : Cell) : Law l yN 2 2 0 0 yB 3 (some .boolean) site (P a A b B) (Says01 (EqC A B)) [] 0 0 := by
  refine Law.of_walk (plainFor_of_name (by decide +kernel)) (by decide +kernel) (by decide +kernel) (by decide) (fun _ _ h => by rw [h.1]; rfl) (fun _ U U' hal hh h => ⟨h.1, h.2.1.mv hal hh, h.2.2.1, h.2.2.2.1.mv hal hh, h.2.2.2.2⟩) (fun r U U' V V' h1 hal h2 h => Says01.mv r U U' V V' h1 hal h2 h) ?_
  intro p e s m args below meth c s₁ X0 hexec hbytes hml hret hlk hnm hown hh0 W hP
  obtain ⟨rfl, hA, tA, hB, tB⟩ := hP
  have a31 := hA.2.2.2
  have b31 := hB.2.2.2
  have hA0 := hA.mv X0.warmed.alike hh0
  have hB0 := hB.mv X0.warmed.alike hh0
  have c1 : Steps p.tables e below (s₁.setTop (entryFrame m #[.ref a, .ref b] 3)) (s₁.setTop (mkF m 0 #[.val (.ref a), .val (.ref b), .unset] [])) := entry rfl
  have c2 : Steps p.tables e below (s₁.setTop (entryFrame m #[.ref a, .ref b] 3)) (s₁.setTop (mkF m 4 #[.val (.ref a), .val (.ref b), .unset] [.int (Int32.ofNat B.slots.size), .int (Int32.ofNat A.slots.size)])) := c1.trans (by
    refine XS.aloadN X0.here hexec rfl (hb hbytes d0) rfl rfl ?_
    refine X0.alen hexec hA0 rfl rfl (hb hbytes d1) ?_
    refine XS.aloadN X0.here hexec rfl (hb hbytes d2) rfl rfl ?_
    refine X0.alen hexec hB0 rfl rfl (hb hbytes d3) ?_
    exact Steps.refl _)
  by_cases hs : A.slots.size = B.slots.size
  · have c3 : Steps p.tables e below (s₁.setTop (entryFrame m #[.ref a, .ref b] 3)) (s₁.setTop (mkF m 9 #[.val (.ref a), .val (.ref b), .val (.int 0)] [])) := c2.trans (by
      refine XS.icmpNo X0.here hexec rfl (hb hbytes d4) rfl (ii_ne_f (by rw [hs])) ?_
      refine iconstV X0.here hexec rfl 0 (hb hbytes d7) (by decide) ?_
      refine XS.istoreN X0.here hexec rfl (hb hbytes d8) rfl rfl ?_
      exact Steps.refl _)
    have loop : ∀ (r i : Nat), i + r = A.slots.size → (∀ j, j < i → yv A j = yv B j) → Steps p.tables e below (s₁.setTop (entryFrame m #[.ref a, .ref b] 3)) (s₁.setTop (mkF m 9 #[.val (.ref a), .val (.ref b), .val (.int (Int32.ofNat i))] [])) → ∃ (pc : Nat) (Ls : Array Slot) (v : Int32), (pc = 25 ∨ pc = 33) ∧ ((v = 1 ∧ EqC A B) ∨ (v = 0 ∧ ¬ EqC A B)) ∧ Steps p.tables e below (s₁.setTop (entryFrame m #[.ref a, .ref b] 3)) (s₁.setTop (mkF m pc Ls [.int v])) := by
      intro r
      induction r with
      | zero =>
        intro i hi he cl
        exact ⟨33, _, 1, Or.inr rfl, Or.inl ⟨rfl, hs, fun j hj => he j (by omega)⟩, cl.trans (by
          refine XS.iloadN X0.here hexec rfl (hb hbytes d9) rfl ?_
          refine XS.aloadN X0.here hexec rfl (hb hbytes d10) rfl rfl ?_
          refine X0.alen hexec hA0 rfl rfl (hb hbytes d11) ?_
          refine XS.icmpYes X0.here hexec rfl (pc0 := 12) rfl (hb hbytes d12) rfl (ii_ge_t (nlt32 (by omega) (by omega))) (by decide) rfl ?_
          refine iconstV X0.here hexec rfl 1 (hb hbytes d32) (by decide) ?_
          exact Steps.refl _)⟩
      | succ r ih =>
        intro i hi he cl
        have c4 : Steps p.tables e below (s₁.setTop (entryFrame m #[.ref a, .ref b] 3)) (s₁.setTop (mkF m 21 #[.val (.ref a), .val (.ref b), .val (.int (Int32.ofNat i))] [.int (yv B i), .int (yv A i)])) := cl.trans (by
          refine XS.iloadN X0.here hexec rfl (hb hbytes d9) rfl ?_
          refine XS.aloadN X0.here hexec rfl (hb hbytes d10) rfl rfl ?_
          refine X0.alen hexec hA0 rfl rfl (hb hbytes d11) ?_
          refine XS.icmpNo X0.here hexec rfl (hb hbytes d12) rfl (ii_ge_f (lt32 (by omega) (by omega))) ?_
          refine XS.aloadN X0.here hexec rfl (hb hbytes d15) rfl rfl ?_
          refine XS.iloadN X0.here hexec rfl (hb hbytes d16) rfl ?_
          refine X0.aget hexec hA0 rfl (yv_get hA tA (i := i) (by omega)) rfl rfl (hb hbytes d17) ?_
          refine XS.aloadN X0.here hexec rfl (hb hbytes d18) rfl rfl ?_
          refine XS.iloadN X0.here hexec rfl (hb hbytes d19) rfl ?_
          refine X0.aget hexec hB0 rfl (yv_get hB tB (i := i) (by omega)) rfl rfl (hb hbytes d20) ?_
          exact Steps.refl _)
        by_cases hv : yv A i = yv B i
        · have c5 : Steps p.tables e below (s₁.setTop (entryFrame m #[.ref a, .ref b] 3)) (s₁.setTop (mkF m 9 #[.val (.ref a), .val (.ref b), .val (.int (Int32.ofNat i + 1))] [])) := c4.trans (by
            refine XS.icmpYes X0.here hexec rfl (pc0 := 21) rfl (hb hbytes d21) rfl (ii_eq_t hv) (by decide) rfl ?_
            refine iincV X0.here hexec rfl 1 (hb hbytes d26) (by decide) rfl rfl ?_
            refine XS.goto X0.here hexec rfl (pc0 := 29) rfl (hb hbytes d29) (by decide) rfl ?_
            exact Steps.refl _)
          rw [succ32] at c5
          exact ih (i + 1) (by omega) (fun j hj => by
            by_cases e : j = i
            · rw [e]; exact hv
            · exact he j (by omega)) c5
        · exact ⟨25, _, 0, Or.inl rfl, Or.inr ⟨rfl, fun q => hv (q.2 i (by omega))⟩, c4.trans (by
            refine XS.icmpNo X0.here hexec rfl (hb hbytes d21) rfl (ii_eq_f hv) ?_
            refine iconstV X0.here hexec rfl 0 (hb hbytes d24) (by decide) ?_
            exact Steps.refl _)⟩
    obtain ⟨pc, Ls, v, hpc, hv, cz⟩ := loop A.slots.size 0 (by omega) (fun j hj => absurd hj (Nat.not_lt_zero j)) c3
    have nv : narrow .boolean (.int v) = .int v := by rcases hv with ⟨rfl, -⟩ | ⟨rfl, -⟩ <;> rfl
    rcases hpc with rfl | rfl
    · exact ⟨s₁, some (.int v), _, _, _, X0, rfl, rfl, rfl, (fun h => by cases h), ⟨v, rfl, hh0, hv⟩, fun fs hl => cz.trans (X0.ireturnOut hexec hret nv (Or.inr (Or.inl rfl)) (hb hbytes d25) hl)⟩
    · exact ⟨s₁, some (.int v), _, _, _, X0, rfl, rfl, rfl, (fun h => by cases h), ⟨v, rfl, hh0, hv⟩, fun fs hl => cz.trans (X0.ireturnOut hexec hret nv (Or.inr (Or.inl rfl)) (hb hbytes d33) hl)⟩
  · have c3 : Steps p.tables e below (s₁.setTop (entryFrame m #[.ref a, .ref b] 3)) (s₁.setTop (mkF m 35 #[.val (.ref a), .val (.ref b), .unset] [.int 0])) := c2.trans (by
      refine XS.icmpYes X0.here hexec rfl (pc0 := 4) rfl (hb hbytes d4) rfl (ii_ne_t (ne32 a31 b31 hs)) (by decide) rfl ?_
      refine iconstV X0.here hexec rfl 0 (hb hbytes d34) (by decide) ?_
      exact Steps.refl _)
    exact ⟨s₁, some (.int 0), _, _, _, X0, rfl, rfl, rfl, (fun h => by cases h), ⟨0, rfl, hh0, Or.inr ⟨rfl, fun q => hs q.1⟩⟩, fun fs hl => c3.trans (X0.ireturnOut hexec hret rfl (Or.inr (Or.inl rfl)) (hb hbytes d35) hl)⟩
end LEq
theorem Cod.ty {cd : Int32} {n : Nat} {f : Nat → Int32} {V : Cell} (h : Cod cd n f V) : Typed .byte V := fun i v hv => by
  have hi : i < V.slots.size := (Array.getElem?_eq_some_iff.mp hv).1
  rcases h with ⟨-, k1, k2⟩ | ⟨-, k1, k2, -⟩
  · rw [(k2 i (by omega)).1] at hv; cases hv; exact fits_lo8 _
  · rcases Nat.mod_two_eq_zero_or_one i with e | e
    · obtain ⟨j, rfl⟩ : ∃ j, i = 2 * j := ⟨i / 2, by omega⟩
      rw [(k2 j (by omega)).1] at hv; cases hv; exact fits_lo8 _
    · obtain ⟨j, rfl⟩ : ∃ j, i = 2 * j + 1 := ⟨i / 2, by omega⟩
      rw [(k2 j (by omega)).2] at hv; cases hv; exact fits_lo8 _
/-- the same text -/
def SameT (n : Nat) (f : Nat → Int32) (k : Nat) (g : Nat → Int32) : Prop := n = k ∧ ∀ j, j < n → f j = g j
theorem lo8_inj {x y : Int32} (h0 : ¬ x < 0) (h1 : ¬ 255 < x) (k0 : ¬ y < 0) (k1 : ¬ 255 < y) (h : lo8 x = lo8 y) : x = y := by
  rw [← lo8_mask h0 h1, ← lo8_mask k0 k1, h]
/-- arrays coded by one coder are equal just where the texts are -/
theorem Cod.eqv {cd : Int32} {n k : Nat} {f g : Nat → Int32} {V V' : Cell} (h : Cod cd n f V) (h' : Cod cd k g V') (hf : ∀ j, j < n → ¬ f j < 0 ∧ ¬ 65535 < f j) (hg : ∀ j, j < k → ¬ g j < 0 ∧ ¬ 65535 < g j) : EqC V V' ↔ SameT n f k g := by
  have yvv : ∀ {W : Cell} {i : Nat} {x : Int32}, W.slots[i]? = some (.int x) → yv W i = x := fun q => by unfold yv; rw [q]
  rcases h with ⟨rfl, k1, k2⟩ | ⟨rfl, k1, k2, -⟩
  · rcases h' with ⟨-, m1, m2⟩ | ⟨e, -⟩
    · constructor
      · rintro ⟨e1, e2⟩
        refine ⟨by omega, fun j hj => ?_⟩
        have q := e2 j (by omega)
        rw [yvv (k2 j hj).1, yvv (m2 j (by omega)).1] at q
        exact lo8_inj (hf j hj).1 (k2 j hj).2 (hg j (by omega)).1 (m2 j (by omega)).2 q
      · rintro ⟨rfl, e2⟩
        refine ⟨by omega, fun j hj => ?_⟩
        rw [yvv (k2 j (by omega)).1, yvv (m2 j (by omega)).1, e2 j (by omega)]
    · exact absurd e (by decide)
  · rcases h' with ⟨e, -⟩ | ⟨-, m1, m2, -⟩
    · exact absurd e (by decide)
    · constructor
      · rintro ⟨e1, e2⟩
        refine ⟨by omega, fun j hj => ?_⟩
        have q1 := e2 (2 * j) (by omega)
        have q2 := e2 (2 * j + 1) (by omega)
        rw [yvv (k2 j hj).1, yvv (m2 j (by omega)).1] at q1
        rw [yvv (k2 j hj).2, yvv (m2 j (by omega)).2] at q2
        rw [← pair_says (hf j hj).1 (hf j hj).2, ← pair_says (hg j (by omega)).1 (hg j (by omega)).2, q1, q2]
      · rintro ⟨rfl, e2⟩
        refine ⟨by omega, fun i hi => ?_⟩
        rcases Nat.mod_two_eq_zero_or_one i with e | e
        · obtain ⟨j, rfl⟩ : ∃ j, i = 2 * j := ⟨i / 2, by omega⟩
          rw [yvv (k2 j (by omega)).1, yvv (m2 j (by omega)).1, e2 j (by omega)]
        · obtain ⟨j, rfl⟩ : ∃ j, i = 2 * j + 1 := ⟨i / 2, by omega⟩
          rw [yvv (k2 j (by omega)).2, yvv (m2 j (by omega)).2, e2 j (by omega)]
/-- two codings differ: so do the texts -/
theorem Cod.dif {cd cd' : Int32} {n k : Nat} {f g : Nat → Int32} {V V' : Cell} (h : Cod cd n f V) (h' : Cod cd' k g V') (hne : ¬ cd = cd') : ¬ SameT n f k g := by
  rintro ⟨rfl, e⟩
  rcases h with ⟨rfl, -, k2⟩ | ⟨rfl, -, -, j, hj, hw⟩
  · rcases h' with ⟨rfl, -⟩ | ⟨-, -, -, j, hj, hw⟩
    · exact hne rfl
    · exact (k2 j hj).2 (by rw [e j hj]; exact hw)
  · rcases h' with ⟨-, -, m2⟩ | ⟨rfl, -⟩
    · exact (m2 j hj).2 (by rw [← e j hj]; exact hw)
    · exact hne rfl
/-- an object of exactly C is an instance of C -/
theorem cinst {p : Program} {l : Launch} {e : Env} {R : Room} {s : State} {m : MethodId} {args : Array Value} {below : List Frame} {meth : Method} {c : Code} {T : State} {locs : List Loc} {cells slots : Nat} (X : Stand p l e R s m args below meth c T locs cells slots) (hexec : p.tables.exec = Jvm.exec) {own C : String} {index : Nat} (hown : s.vm.findClass own = some m.cls) (hlink : (Cond.classLink own index C).before args s = true) {a : Addr} (hE : Exact C a T)
    {g : JFrame} (hg : g.method = m) {rest : List Value} (hstack : g.stack = .ref a :: rest) (hdg : decode c.code g.pc = .ok (.instanceof index, 3)) :
    ∃ T', Stand p l e R s m args below meth c T' locs cells slots ∧ T'.heap = T.heap ∧ ∀ target, Steps p.tables e below (T'.setTop { g with pc := g.pc + 3, stack := .int 1 :: rest }) target → Steps p.tables e below (T.setTop g) target := by
  obtain ⟨cB, h1, D, h2, h3, h4⟩ := hE
  have h1' : s.vm.findClass C = some cB := by rw [← X.warmed.alike.findClass]; exact h1
  obtain ⟨vm', X', st⟩ := X.instanceofYes hexec hown hlink h2 h4 h1' (by rw [h3]; exact Jvm.Free.SB.assignable_self _ _) hg hstack hdg
  exact ⟨_, X', rfl, st⟩
theorem cself {p : Program} {l : Launch} {e : Env} {R : Room} {s : State} {m : MethodId} {args : Array Value} {below : List Frame} {meth : Method} {c : Code} {T : State} {locs : List Loc} {cells slots : Nat} (X : Stand p l e R s m args below meth c T locs cells slots) (hexec : p.tables.exec = Jvm.exec) {own C : String} {index : Nat} (hown : s.vm.findClass own = some m.cls) (hlink : (Cond.classLink own index C).before args s = true) {a : Addr} (hE : Exact C a T)
    {g : JFrame} (hg : g.method = m) {rest : List Value} (hstack : g.stack = .ref a :: rest) (hdg : decode c.code g.pc = .ok (.checkcast index, 3)) :
    ∃ T', Stand p l e R s m args below meth c T' locs cells slots ∧ T'.heap = T.heap ∧ ∀ target, Steps p.tables e below (T'.setTop { g with pc := g.pc + 3, stack := .ref a :: rest }) target → Steps p.tables e below (T.setTop g) target := by
  obtain ⟨cB, h1, D, h2, h3, h4⟩ := hE
  have h1' : s.vm.findClass C = some cB := by rw [← X.warmed.alike.findClass]; exact h1
  obtain ⟨vm', X', st⟩ := X.checkcastYes hexec hown hlink h2 h4 h1' (by rw [h3]; exact Jvm.Free.SB.assignable_self _ _) hg hstack hdg
  exact ⟨_, X', rfl, fun t h => st t (by rw [← hstack] at h; exact h)⟩
namespace SEq
def yN : MethodName := ⟨"java/lang/String", "equals", "(Ljava/lang/Object;)Z"⟩
abbrev yB : ByteArray := jdk_42_method_66_code
theorem d0 : decode yB 0 = .ok (.aload_n 0, 1) := by decide +kernel
theorem d1 : decode yB 1 = .ok (.aload_n 1, 1) := by decide +kernel
theorem d2 : decode yB 2 = .ok (.if_acmp (.ne) 5, 3) := by decide +kernel
theorem d5 : decode yB 5 = .ok (.iconst 1, 1) := by decide +kernel
theorem d6 : decode yB 6 = .ok (.ireturn, 1) := by decide +kernel
theorem d7 : decode yB 7 = .ok (.aload_n 1, 1) := by decide +kernel
theorem d8 : decode yB 8 = .ok (.instanceof 10, 3) := by decide +kernel
theorem d11 : decode yB 11 = .ok (.ifCond (.eq) 43, 3) := by decide +kernel
theorem d14 : decode yB 14 = .ok (.aload_n 1, 1) := by decide +kernel
theorem d15 : decode yB 15 = .ok (.checkcast 10, 3) := by decide +kernel
theorem d18 : decode yB 18 = .ok (.astore_n 2, 1) := by decide +kernel
theorem d19 : decode yB 19 = .ok (.getstatic 38, 3) := by decide +kernel
theorem d22 : decode yB 22 = .ok (.ifCond (.eq) 14, 3) := by decide +kernel
theorem d25 : decode yB 25 = .ok (.aload_n 0, 1) := by decide +kernel
theorem d26 : decode yB 26 = .ok (.getfield 15, 3) := by decide +kernel
theorem d29 : decode yB 29 = .ok (.aload_n 2, 1) := by decide +kernel
theorem d30 : decode yB 30 = .ok (.getfield 15, 3) := by decide +kernel
theorem d33 : decode yB 33 = .ok (.if_icmp (.ne) 21, 3) := by decide +kernel
theorem d36 : decode yB 36 = .ok (.aload_n 0, 1) := by decide +kernel
theorem d37 : decode yB 37 = .ok (.getfield 9, 3) := by decide +kernel
theorem d40 : decode yB 40 = .ok (.aload_n 2, 1) := by decide +kernel
theorem d41 : decode yB 41 = .ok (.getfield 9, 3) := by decide +kernel
theorem d44 : decode yB 44 = .ok (.invokestatic 541, 3) := by decide +kernel
theorem d47 : decode yB 47 = .ok (.ifCond (.eq) 7, 3) := by decide +kernel
theorem d50 : decode yB 50 = .ok (.iconst 1, 1) := by decide +kernel
theorem d51 : decode yB 51 = .ok (.goto 4, 3) := by decide +kernel
theorem d54 : decode yB 54 = .ok (.iconst 0, 1) := by decide +kernel
theorem d55 : decode yB 55 = .ok (.ireturn, 1) := by decide +kernel
def site : List Cond := [.classLink "java/lang/String" 10 "java/lang/String", .fieldLink "java/lang/String" 38 "java/lang/String" "COMPACT_STRINGS" "Z", .fieldLink "java/lang/String" 15 "java/lang/String" "coder" "B", .fieldLink "java/lang/String" 9 "java/lang/String" "value" "[B", LEq.tab] ++ staticW "java/lang/String" 541 LEq.yN
def tab : Cond := tabOf yN yB 3 (some .boolean) site
def P (x t : Addr) (V : Cell) (cd : Int32) (n : Nat) (f : Nat → Int32) (y t' : Addr) (V' : Cell) (cd' : Int32) (k : Nat) (g : Nat → Int32) (z : Int32) (args : Array Value) (s : State) : Prop := args = #[.ref x, .ref y] ∧ Txt x t V cd n f s ∧ Txt y t' V' cd' k g s ∧ StaticIs s "java/lang/String" "COMPACT_STRINGS" "Z" (.int z) ∧ ¬ z = 0
/-- equals(Object) of two Strings: whether the texts are the same -/
theorem law (l : Launch) (x t : Addr) (V : Cell) (cd : Int32) (n : Nat) (f : Nat → Int32) (y t' : Addr) (V' : Cell) (cd' : Int32) (k : Nat) (g : Nat → Int32) (z : Int32) : Law l yN 2 1 1 14 yB 3 (some .boolean) site (P x t V cd n f y t' V' cd' k g z) (Says01 (SameT n f k g)) [] 0 0 := by
  refine Law.of_walk (plainFor_of_name (by decide +kernel)) (by decide +kernel) (by decide +kernel) (by decide) (fun _ _ h => by rw [h.1]; rfl) (fun _ U U' hal hh h => ⟨h.1, h.2.1.mv hal hh, h.2.2.1.mv hal hh, h.2.2.2.1.there hal hh, h.2.2.2.2⟩) (fun r U U' V V' h1 hal h2 h => Says01.mv r U U' V V' h1 hal h2 h) ?_
  intro p e s m args below meth c s₁ X0 hexec hbytes hml hret hlk hnm hown hh0 W hP
  obtain ⟨rfl, hx, hy, s1, hz⟩ := hP
  have c1 : Steps p.tables e below (s₁.setTop (entryFrame m #[.ref x, .ref y] 3)) (s₁.setTop (mkF m 2 #[.val (.ref x), .val (.ref y), .unset] [.ref y, .ref x])) := Steps.trans (entry rfl) (by
    show Steps p.tables e below (s₁.setTop (mkF m 0 #[.val (.ref x), .val (.ref y), .unset] [])) _
    refine XS.aloadN X0.here hexec rfl (hb hbytes d0) rfl rfl ?_
    refine XS.aloadN X0.here hexec rfl (hb hbytes d1) rfl rfl ?_
    exact Steps.refl _)
  by_cases hxy : x = y
  · have c2 : Steps p.tables e below (s₁.setTop (entryFrame m #[.ref x, .ref y] 3)) (s₁.setTop (mkF m 6 #[.val (.ref x), .val (.ref y), .unset] [.int 1])) := c1.trans (by
      refine acmpNo X0.here hexec rfl (hb hbytes d2) rfl rfl rfl (by simp [acmp, hxy]) ?_
      refine iconstV X0.here hexec rfl 1 (hb hbytes d5) (by decide) ?_
      exact Steps.refl _)
    subst hxy
    have ec : cd = cd' := by
      obtain ⟨D, fd, a1, a2, a3⟩ := hx.2.2.1
      obtain ⟨D', fd', b1, b2, b3⟩ := hy.2.2.1
      cases a1.symm.trans b1
      obtain ⟨q1, q2, q3, q4⟩ := a2.1
      obtain ⟨r1, r2, r3, r4⟩ := b2.1
      cases q4.symm.trans r4
      cases a3.symm.trans b3; rfl
    have et : t = t' := by
      obtain ⟨D, fd, a1, a2, a3⟩ := hx.2.1
      obtain ⟨D', fd', b1, b2, b3⟩ := hy.2.1
      cases a1.symm.trans b1
      obtain ⟨q1, q2, q3, q4⟩ := a2.1
      obtain ⟨r1, r2, r3, r4⟩ := b2.1
      cases q4.symm.trans r4
      cases a3.symm.trans b3; rfl
    subst ec et
    have ev : V = V' := by cases hx.2.2.2.1.1.symm.trans hy.2.2.2.1.1; rfl
    subst ev
    have hs : SameT n f k g := (Cod.eqv hx.2.2.2.2.1 hy.2.2.2.2.1 hx.2.2.2.2.2 hy.2.2.2.2.2).mp ⟨rfl, fun _ _ => rfl⟩
    exact ⟨s₁, some (.int 1), _, _, _, X0, rfl, rfl, rfl, (fun h => by cases h), ⟨1, rfl, hh0, Or.inl ⟨rfl, hs⟩⟩, fun fs hl => c2.trans (X0.ireturnOut hexec hret rfl (Or.inr (Or.inl rfl)) (hb hbytes d6) hl)⟩
  · have c2 : Steps p.tables e below (s₁.setTop (entryFrame m #[.ref x, .ref y] 3)) (s₁.setTop (mkF m 8 #[.val (.ref x), .val (.ref y), .unset] [.ref y])) := c1.trans (by
      refine acmpYes X0.here hexec rfl (pc0 := 2) rfl (hb hbytes d2) rfl rfl rfl (by simp [acmp, hxy]) (by decide) rfl ?_
      refine XS.aloadN X0.here hexec rfl (hb hbytes d7) rfl rfl ?_
      exact Steps.refl _)
    obtain ⟨T3, X3, q3, st3⟩ := cinst X0 hexec hown (wk W (.classLink "java/lang/String" 10 "java/lang/String")) (hy.mv X0.warmed.alike hh0).1 (g := (mkF m 8 #[.val (.ref x), .val (.ref y), .unset] [.ref y])) rfl (rest := []) rfl (hb hbytes d8)
    have hh3 := q3.trans hh0
    have c4 : Steps p.tables e below (s₁.setTop (entryFrame m #[.ref x, .ref y] 3)) (T3.setTop (mkF m 15 #[.val (.ref x), .val (.ref y), .unset] [.ref y])) := (c2.trans (st3 _ (Steps.refl _))).trans (by
      refine XS.ifNo X3.here hexec rfl (hb hbytes d11) rfl (i0_eq_f (by decide)) ?_
      refine XS.aloadN X3.here hexec rfl (hb hbytes d14) rfl rfl ?_
      exact Steps.refl _)
    obtain ⟨T5, X5, q5, st5⟩ := cself X3 hexec hown (wk W (.classLink "java/lang/String" 10 "java/lang/String")) (hy.mv X3.warmed.alike hh3).1 (g := (mkF m 15 #[.val (.ref x), .val (.ref y), .unset] [.ref y])) rfl (rest := []) rfl (hb hbytes d15)
    have hh5 := q5.trans hh3
    have c6 : Steps p.tables e below (s₁.setTop (entryFrame m #[.ref x, .ref y] 3)) (T5.setTop (mkF m 19 #[.val (.ref x), .val (.ref y), .val (.ref y)] [])) := (c4.trans (st5 _ (Steps.refl _))).trans (by
      refine XS.astoreN X5.here hexec rfl (hb hbytes d18) rfl rfl rfl ?_
      exact Steps.refl _)
    obtain ⟨T7, X7, q7, st7⟩ := X5.sget hexec hown (wk W (.fieldLink "java/lang/String" 38 "java/lang/String" "COMPACT_STRINGS" "Z")) s1 (fun _ _ h => by rw [hh5]; exact h) (g := (mkF m 19 #[.val (.ref x), .val (.ref y), .val (.ref y)] [])) rfl (hb hbytes d19)
    have hh7 := q7.trans hh5
    have c8 : Steps p.tables e below (s₁.setTop (entryFrame m #[.ref x, .ref y] 3)) (T7.setTop (mkF m 26 #[.val (.ref x), .val (.ref y), .val (.ref y)] [.ref x])) := (c6.trans (st7 _ (Steps.refl _))).trans (by
      refine XS.ifNo X7.here hexec rfl (hb hbytes d22) rfl (i0_eq_f hz) ?_
      refine XS.aloadN X7.here hexec rfl (hb hbytes d25) rfl rfl ?_
      exact Steps.refl _)
    obtain ⟨T9, X9, q9, st9⟩ := X7.hget hexec hown (wk W (.fieldLink "java/lang/String" 15 "java/lang/String" "coder" "B")) (hx.mv X7.warmed.alike hh7).2.2.1 (g := (mkF m 26 #[.val (.ref x), .val (.ref y), .val (.ref y)] [.ref x])) rfl (rest := []) rfl (hb hbytes d26)
    have hh9 := q9.trans hh7
    have c10 : Steps p.tables e below (s₁.setTop (entryFrame m #[.ref x, .ref y] 3)) (T9.setTop (mkF m 30 #[.val (.ref x), .val (.ref y), .val (.ref y)] [.ref y, .int cd])) := (c8.trans (st9 _ (Steps.refl _))).trans (by
      refine XS.aloadN X9.here hexec rfl (hb hbytes d29) rfl rfl ?_
      exact Steps.refl _)
    obtain ⟨T11, X11, q11, st11⟩ := X9.hget hexec hown (wk W (.fieldLink "java/lang/String" 15 "java/lang/String" "coder" "B")) (hy.mv X9.warmed.alike hh9).2.2.1 (g := (mkF m 30 #[.val (.ref x), .val (.ref y), .val (.ref y)] [.ref y, .int cd])) rfl (rest := [.int cd]) rfl (hb hbytes d30)
    have hh11 := q11.trans hh9
    have c12 : Steps p.tables e below (s₁.setTop (entryFrame m #[.ref x, .ref y] 3)) (T11.setTop (mkF m 33 #[.val (.ref x), .val (.ref y), .val (.ref y)] [.int cd', .int cd])) := c10.trans (st11 _ (Steps.refl _))
    by_cases hcd : cd = cd'
    · subst hcd
      have c13 : Steps p.tables e below (s₁.setTop (entryFrame m #[.ref x, .ref y] 3)) (T11.setTop (mkF m 37 #[.val (.ref x), .val (.ref y), .val (.ref y)] [.ref x])) := c12.trans (by
        refine XS.icmpNo X11.here hexec rfl (hb hbytes d33) rfl (ii_ne_f rfl) ?_
        refine XS.aloadN X11.here hexec rfl (hb hbytes d36) rfl rfl ?_
        exact Steps.refl _)
      obtain ⟨T14, X14, q14, st14⟩ := X11.hget hexec hown (wk W (.fieldLink "java/lang/String" 9 "java/lang/String" "value" "[B")) (hx.mv X11.warmed.alike hh11).2.1 (g := (mkF m 37 #[.val (.ref x), .val (.ref y), .val (.ref y)] [.ref x])) rfl (rest := []) rfl (hb hbytes d37)
      have hh14 := q14.trans hh11
      have c15 : Steps p.tables e below (s₁.setTop (entryFrame m #[.ref x, .ref y] 3)) (T14.setTop (mkF m 41 #[.val (.ref x), .val (.ref y), .val (.ref y)] [.ref y, .ref t])) := (c13.trans (st14 _ (Steps.refl _))).trans (by
        refine XS.aloadN X14.here hexec rfl (hb hbytes d40) rfl rfl ?_
        exact Steps.refl _)
      obtain ⟨T16, X16, q16, st16⟩ := X14.hget hexec hown (wk W (.fieldLink "java/lang/String" 9 "java/lang/String" "value" "[B")) (hy.mv X14.warmed.alike hh14).2.1 (g := (mkF m 41 #[.val (.ref x), .val (.ref y), .val (.ref y)] [.ref y, .ref t])) rfl (rest := [.ref t]) rfl (hb hbytes d41)
      have hh16 := q16.trans hh14
      have c17 : Steps p.tables e below (s₁.setTop (entryFrame m #[.ref x, .ref y] 3)) (T16.setTop (mkF m 44 #[.val (.ref x), .val (.ref y), .val (.ref y)] [.ref t', .ref t])) := c15.trans (st16 _ (Steps.refl _))
      obtain ⟨v18, T18, X18, E18, g18⟩ := X16.callS hexec (LEq.law l t V t' V') hown (wks W (staticW "java/lang/String" 541 LEq.yN)) (wk W LEq.tab) (W := 0) (Nat.le_of_ble_eq_true rfl) (Nat.le_of_ble_eq_true rfl) (Nat.le_refl _) (Nat.le_refl _) (g := (mkF m 44 #[.val (.ref x), .val (.ref y), .val (.ref y)] [.ref t', .ref t])) rfl (by rw [hml]; rfl) c17 (argsL := [.ref t, .ref t']) (rest := []) rfl rfl (by show 2 * 0 + 0 ≤ _; decide) (hb hbytes d44) (⟨rfl, hx.2.2.2.1.mv X16.warmed.alike hh16, hx.2.2.2.2.1.ty, hy.2.2.2.1.mv X16.warmed.alike hh16, hy.2.2.2.2.1.ty⟩)
      obtain ⟨v, rfl, q18, hv⟩ := E18
      have iff := Cod.eqv hx.2.2.2.2.1 hy.2.2.2.2.1 hx.2.2.2.2.2 hy.2.2.2.2.2
      rcases hv with ⟨rfl, he⟩ | ⟨rfl, he⟩
      · have c19 : Steps p.tables e below (s₁.setTop (entryFrame m #[.ref x, .ref y] 3)) (T18.setTop (mkF m 55 #[.val (.ref x), .val (.ref y), .val (.ref y)] [.int 1])) := Steps.trans g18 (by
          refine XS.ifNo X18.here hexec rfl (hb hbytes d47) rfl (i0_eq_f (by decide)) ?_
          refine iconstV X18.here hexec rfl 1 (hb hbytes d50) (by decide) ?_
          refine XS.goto X18.here hexec rfl (pc0 := 51) rfl (hb hbytes d51) (by decide) rfl ?_
          exact Steps.refl _)
        exact ⟨T18, some (.int 1), _, _, _, X18, rfl, rfl, rfl, (fun h => by cases h), ⟨1, rfl, q18.trans hh16, Or.inl ⟨rfl, iff.mp he⟩⟩, fun fs hl => c19.trans (X18.ireturnOut hexec hret rfl (Or.inr (Or.inl rfl)) (hb hbytes d55) hl)⟩
      · have c19 : Steps p.tables e below (s₁.setTop (entryFrame m #[.ref x, .ref y] 3)) (T18.setTop (mkF m 55 #[.val (.ref x), .val (.ref y), .val (.ref y)] [.int 0])) := Steps.trans g18 (by
          refine XS.ifYes X18.here hexec rfl (pc0 := 47) rfl (hb hbytes d47) rfl (i0_eq_t rfl) (by decide) rfl ?_
          refine iconstV X18.here hexec rfl 0 (hb hbytes d54) (by decide) ?_
          exact Steps.refl _)
        exact ⟨T18, some (.int 0), _, _, _, X18, rfl, rfl, rfl, (fun h => by cases h), ⟨0, rfl, q18.trans hh16, Or.inr ⟨rfl, fun q => he (iff.mpr q)⟩⟩, fun fs hl => c19.trans (X18.ireturnOut hexec hret rfl (Or.inr (Or.inl rfl)) (hb hbytes d55) hl)⟩
    · have c13 : Steps p.tables e below (s₁.setTop (entryFrame m #[.ref x, .ref y] 3)) (T11.setTop (mkF m 55 #[.val (.ref x), .val (.ref y), .val (.ref y)] [.int 0])) := c12.trans (by
        refine XS.icmpYes X11.here hexec rfl (pc0 := 33) rfl (hb hbytes d33) rfl (ii_ne_t hcd) (by decide) rfl ?_
        refine iconstV X11.here hexec rfl 0 (hb hbytes d54) (by decide) ?_
        exact Steps.refl _)
      exact ⟨T11, some (.int 0), _, _, _, X11, rfl, rfl, rfl, (fun h => by cases h), ⟨0, rfl, hh11, Or.inr ⟨rfl, Cod.dif hx.2.2.2.2.1 hy.2.2.2.2.1 hcd⟩⟩, fun fs hl => c13.trans (X11.ireturnOut hexec hret rfl (Or.inr (Or.inl rfl)) (hb hbytes d55) hl)⟩
theorem pays {l : Launch} {R : Room} {p : Program} {e : Env} {below : List Frame} {s : State} {sargs : Array Value} {len W : Nat} (x t : Addr) (V : Cell) (cd : Int32) (n : Nat) (f : Nat → Int32) (y t' : Addr) (V' : Cell) (cd' : Int32) (k : Nat) (g : Nat → Int32) (z : Int32) (htab : tab.before sargs s = true) (hfr : 2 ≤ R.frames) (hlo : W + 28 ≤ R.locals) :
    Back l R p e below s sargs yN len W (fun A₁ a₁ => A₁.cells + 0 ≤ R.cells ∧ A₁.slots + 0 ≤ R.slots ∧ P x t V cd n f y t' V' cd' k g z a₁ A₁.U) (fun A₁ _ v₁ B₁ => Says01 (SameT n f k g) v₁ A₁.U B₁.U ∧ B₁.locs = A₁.locs ++ [] ∧ B₁.cells = A₁.cells + 0 ∧ B₁.slots = A₁.slots + 0) :=
  (law l x t V cd n f y t' V' cd' k g z).pays htab hfr (by omega)
end SEq
end StrChars
namespace StrChars.Road
open Jvm Sem ClassFile Op Lib Jvm.Stand Jvm.Free Jvm.Free.XT
open Jvm.Lib.Cold (StaticIs)
/-- the words of String.equals(Object) -/
abbrev wordsEq : List Jvm.Cond := [.code SEq.yN SEq.yB 3 (some .boolean), .initialized ST, .classLink ST 10 ST, .fieldLink ST 38 ST "COMPACT_STRINGS" "Z", .fieldLink ST 15 ST "coder" "B", .fieldLink ST 9 ST "value" "[B", .methodLink ST 541 LEq.yN, .static LEq.yN, .code LEq.yN LEq.yB 3 (some .boolean), .initialized "java/lang/StringLatin1"]
theorem tabEq_of {a : Array Value} {s : State} (h : ∀ w ∈ wordsEq, w.before a s = true) : SEq.tab.before a s = true := by
  have hl : LEq.tab.before a s = true := unparts (wk h (.code LEq.yN LEq.yB 3 (some .boolean))) (wks h (.initialized LEq.yN.cls :: LEq.site))
  have q := consq hl h
  exact unparts (wk q (.code SEq.yN SEq.yB 3 (some .boolean))) (wks q (.initialized SEq.yN.cls :: SEq.site))
theorem movedEq {Z s : State} {a0 args : Array Value} (hZ : Z.Warmed39 s.vm) (hw : ∀ d ∈ wordsEq, d.before a0 Z = true) : ∀ d ∈ wordsEq, d.before args s = true := fun d hd => by
  have t : ∀ d ∈ wordsEq, (d.onTables && d.keepsFace) = true := by decide +kernel
  exact RoadKit.mv hZ (hw d hd) (t d hd)
/-- the road's facts of a String, as the laws ask it -/
theorem txt_of {Z U : State} {a0 : Array Value} {kI : Nat} (wi : (Jvm.Cond.instantiable ST kI).before a0 Z = true) (al : Z.vm.Alike U.vm) {x t : Addr} {kb : ClassId} {cs : List Int32} {cd N2 : Int32} {vs : List Value} (E : RoadKit.Exa Z U.heap x ST) (V : RoadKit.Fld Z U.heap x ST "value" "[B" (.ref t)) (C : RoadKit.Fld Z U.heap x ST "coder" "B" (.int cd)) (K : RoadKit.Arv Z U.heap t kb .byte N2 vs (.int 0)) (hc : CodA cs cd N2 vs) (hb : ∀ c ∈ cs, ¬ c < 0 ∧ ¬ (65535 : Int32) < c) (l2 : cs.length ≤ 4000) :
    ∃ A, Txt x t A cd cs.length (fun j => cs.getD j 0) U := by
  obtain ⟨A, K1, K2, K3, K4, K5, K6⟩ := K
  have hcod := hc.cod (by omega) K3 K5
  obtain ⟨D, fV, fC, hB, F1, F2, g1, g2, -, -⟩ := strObj wi al E V C
  exact ⟨A, ⟨_, hB.2.2.1, D, hB.1, rfl, by cases q : D.vm <;> first | rfl | exact absurd q (hB.2.1.2 _)⟩, Has.of hB F1 g1, Has.of hB F2 g2, ⟨K1.1, State.isArrayOf_alike al K1.2.1, K1.2.2, by rcases hcod with ⟨-, q, -⟩ | ⟨-, q, -⟩ <;> omega⟩, hcod, fun j hj => by
    have e : cs.getD j 0 = cs[j] := by simp [List.getD_eq_getElem?_getD, hj]
    show ¬ cs.getD j 0 < 0 ∧ ¬ 65535 < cs.getD j 0
    rw [e]; exact hb _ (List.getElem_mem _)⟩
theorem same_list (cs ds : List Int32) : SameT cs.length (fun j => cs.getD j 0) ds.length (fun j => ds.getD j 0) ↔ cs = ds := by
  constructor
  · rintro ⟨e, q⟩
    refine List.ext_getElem e fun j h1 h2 => ?_
    have := q j h1
    simpa [List.getD_eq_getElem?_getD, h1, h2] using this
  · rintro rfl
    exact ⟨rfl, fun _ _ => rfl⟩
/-- **equals(Object) OF TWO SUCH STRINGS**: 1 just where the chars are the same -/
theorem eqW {p : Program} {l : Launch} {e : Env} {R : Room} {s : State} {args : Array Value} {below : List Frame} {len W : Nat} {Z : State} {a0 : Array Value} {h : Heap} (hZ : Z.Warmed39 s.vm) (hw : ∀ d ∈ wordsEq, d.before a0 Z = true) {kI : Nat} (wi : (Jvm.Cond.instantiable ST kI).before a0 Z = true)
    {x t : Addr} {kb : ClassId} {cs : List Int32} {cd N2 : Int32} {vs : List Value} (E : RoadKit.Exa Z h x ST) (V : RoadKit.Fld Z h x ST "value" "[B" (.ref t)) (C : RoadKit.Fld Z h x ST "coder" "B" (.int cd)) (K : RoadKit.Arv Z h t kb .byte N2 vs (.int 0)) (hc : CodA cs cd N2 vs) (hb : ∀ c ∈ cs, ¬ c < 0 ∧ ¬ (65535 : Int32) < c) (l2 : cs.length ≤ 4000)
    {y t' : Addr} {kb' : ClassId} {ds : List Int32} {cd' N2' : Int32} {vs' : List Value} (E' : RoadKit.Exa Z h y ST) (V' : RoadKit.Fld Z h y ST "value" "[B" (.ref t')) (C' : RoadKit.Fld Z h y ST "coder" "B" (.int cd')) (K' : RoadKit.Arv Z h t' kb' .byte N2' vs' (.int 0)) (hc' : CodA ds cd' N2' vs') (hb' : ∀ c ∈ ds, ¬ c < 0 ∧ ¬ (65535 : Int32) < c) (l2' : ds.length ≤ 4000)
    {z : Int32} (S : RoadKit.Sta Z h ST "COMPACT_STRINGS" "Z" (.int z)) (hz : ¬ z = 0) (hfr : 2 ≤ R.frames) (hlo : W + 28 ≤ R.locals) :
    Back l R p e below s args (⟨"java/lang/String", "equals", "(Ljava/lang/Object;)Z"⟩ : MethodName) len W (fun P a => a = #[.ref x, .ref y] ∧ P.U.heap = h ∧ P.cells + 0 ≤ R.cells ∧ P.slots + 0 ≤ R.slots)
      (fun P _ v B => ∃ L, (((v = some (.int 1) ∧ cs = ds) ∨ (v = some (.int 0) ∧ ¬ cs = ds)) ∧ L = [] ∧ B.U.heap = h) ∧ B.locs = P.locs ++ L ∧ B.cells = P.cells + 0 ∧ B.slots = P.slots + 0) := by
  intro m meth c P g ig mk a X hg hsize hdg hW hn hp'
  obtain ⟨rfl, rfl, r1, r2⟩ := hp'
  have al : Z.vm.Alike P.U.vm := hZ.alike.trans X.warmed.alike
  obtain ⟨A, hx⟩ := txt_of wi al E V C K hc hb l2
  obtain ⟨A', hy⟩ := txt_of wi al E' V' C' K' hc' hb' l2'
  obtain ⟨v, B, X', ⟨⟨w, hv, hh, hq⟩, hl, hk, hs⟩, st⟩ := SEq.pays x t A cd cs.length (fun j => cs.getD j 0) y t' A' cd' ds.length (fun j => ds.getD j 0) z (tabEq_of (movedEq hZ hw)) hfr hlo m meth c P g ig mk _ X hg hsize hdg hW hn ⟨r1, r2, rfl, hx, hy, sta_is al S, hz⟩
  refine ⟨v, B, X', ⟨[], ⟨?_, rfl, hh⟩, hl, hk, hs⟩, st⟩
  rcases hq with ⟨rfl, q⟩ | ⟨rfl, q⟩
  · exact Or.inl ⟨hv, (same_list cs ds).mp q⟩
  · exact Or.inr ⟨hv, fun e => q ((same_list cs ds).mpr e)⟩
end StrChars.Road
namespace StrChars
open Jvm Sem ClassFile Op Lib Jvm.Stand Jvm.Free.XT Jvm.Free.ALB Jvm.Free.JM Jvm.Free
open Jvm.Lib.Cold (StaticIs)
namespace ChN
def yN : MethodName := ⟨"java/lang/String", "charAt", "(I)C"⟩
abbrev yB : ByteArray := jdk_42_method_56_code
theorem d0 : decode yB 0 = .ok (.aload_n 0, 1) := by decide +kernel
theorem d1 : decode yB 1 = .ok (.invokevirtual 492, 3) := by decide +kernel
theorem d4 : decode yB 4 = .ok (.ifCond (.eq) 12, 3) := by decide +kernel
theorem d7 : decode yB 7 = .ok (.aload_n 0, 1) := by decide +kernel
theorem d8 : decode yB 8 = .ok (.getfield 9, 3) := by decide +kernel
theorem d11 : decode yB 11 = .ok (.iload_n 1, 1) := by decide +kernel
theorem d12 : decode yB 12 = .ok (.invokestatic 495, 3) := by decide +kernel
theorem d15 : decode yB 15 = .ok (.ireturn, 1) := by decide +kernel
def site : List Cond := [.fieldLink "java/lang/String" 9 "java/lang/String" "value" "[B", IsL.tab, LChA.tab] ++ virtW "java/lang/String" 492 "java/lang/String" IsL.yN IsL.yN ++ staticW "java/lang/String" 495 LChA.yN
def tab : Cond := tabOf yN yB 2 (some .char) site
def P (x t : Addr) (V : Cell) (n : Nat) (f : Nat → Int32) (z : Int32) (fm : Value) (i : Nat) (args : Array Value) (s : State) : Prop := args = #[.ref x, .int (Int32.ofNat i)] ∧ Txt x t V 0 n f s ∧ i < n ∧ StaticIs s "java/lang/String" "COMPACT_STRINGS" "Z" (.int z) ∧ ¬ z = 0 ∧ StaticIs s "jdk/internal/util/Preconditions" "SIOOBE_FORMATTER" "Ljava/util/function/BiFunction;" fm ∧ fm.isRef = true
def E (f : Nat → Int32) (i : Nat) (r : Option Value) (s u : State) : Prop := XT.PureE (some (.int (f i))) r s u
/-- charAt(i) of a Latin-1 String of n chars, i < n: f i -/
theorem law (l : Launch) (x t : Addr) (V : Cell) (n : Nat) (f : Nat → Int32) (z : Int32) (fm : Value) (i : Nat) : Law l yN 2 1 3 40 yB 2 (some .char) site (P x t V n f z fm i) (E f i) [] 0 0 := by
  refine Law.of_walk (plainFor_of_name (by decide +kernel)) (by decide +kernel) (by decide +kernel) (by decide) (fun _ _ h => by rw [h.1]; rfl) (fun _ U U' hal hh h => ⟨h.1, h.2.1.mv hal hh, h.2.2.1, h.2.2.2.1.there hal hh, h.2.2.2.2.1, h.2.2.2.2.2.1.there hal hh, h.2.2.2.2.2.2⟩) (fun r U U' V V' h1 hal h2 h => XT.PureE.mv r U U' V V' h1 hal h2 h) ?_
  intro p e s m args below meth c s₁ X0 hexec hbytes hml hret hlk hnm hown hh0 W hP
  obtain ⟨rfl, hx, hi, s1, hz, s3, rf⟩ := hP
  have v31 := hx.2.2.2.1.2.2.2
  have hr := hx.2.2.2.2.2 i hi
  have hx0 := hx.mv X0.warmed.alike hh0
  have c1 : Steps p.tables e below (s₁.setTop (entryFrame m #[.ref x, .int (Int32.ofNat i)] 2)) (s₁.setTop (mkF m 1 #[.val (.ref x), .val (.int (Int32.ofNat i))] [.ref x])) := Steps.trans (entry rfl) (by
    show Steps p.tables e below (s₁.setTop (mkF m 0 #[.val (.ref x), .val (.int (Int32.ofNat i))] [])) _
    refine XS.aloadN X0.here hexec rfl (hb hbytes d0) rfl rfl ?_
    exact Steps.refl _)
  obtain ⟨v2, T2, X2, E2, g2⟩ := X0.callV hexec (IsL.law l x 0 z) hown (wks W (virtW "java/lang/String" 492 "java/lang/String" IsL.yN IsL.yN)) rfl (by decide) (wk W IsL.tab) (W := 0) (Nat.le_of_ble_eq_true rfl) (Nat.le_of_ble_eq_true rfl) (Nat.le_refl _) (Nat.le_refl _) (hx0.1.fc X0.warmed.alike) hx0.1.is (g := (mkF m 1 #[.val (.ref x), .val (.int (Int32.ofNat i))] [.ref x])) rfl (by rw [hml]; rfl) c1 (argsL := []) (rest := []) rfl rfl (by show 2 * 0 + 0 ≤ _; decide) (hb hbytes d1) (⟨rfl, hx0.2.2.1, hx.2.2.2.2.1.cd, s1.there X0.warmed.alike hh0, hz⟩)
  obtain ⟨rfl, q2⟩ := E2
  have hh2 := q2.trans hh0
  have hx2 := hx.mv X2.warmed.alike hh2
  obtain ⟨-, k1, k2⟩ | ⟨k0, -⟩ := hx.2.2.2.2.1
  · have c3 : Steps p.tables e below (s₁.setTop (entryFrame m #[.ref x, .int (Int32.ofNat i)] 2)) (T2.setTop (mkF m 8 #[.val (.ref x), .val (.int (Int32.ofNat i))] [.ref x])) := Steps.trans g2 (by
      refine XS.ifNo X2.here hexec rfl (hb hbytes d4) rfl (i0_eq_f (by decide)) ?_
      refine XS.aloadN X2.here hexec rfl (hb hbytes d7) rfl rfl ?_
      exact Steps.refl _)
    obtain ⟨T4, X4, q4, st4⟩ := X2.hget hexec hown (wk W (.fieldLink "java/lang/String" 9 "java/lang/String" "value" "[B")) hx2.2.1 (g := (mkF m 8 #[.val (.ref x), .val (.int (Int32.ofNat i))] [.ref x])) rfl (rest := []) rfl (hb hbytes d8)
    have hh4 := q4.trans hh2
    have c5 : Steps p.tables e below (s₁.setTop (entryFrame m #[.ref x, .int (Int32.ofNat i)] 2)) (T4.setTop (mkF m 12 #[.val (.ref x), .val (.int (Int32.ofNat i))] [.int (Int32.ofNat i), .ref t])) := (c3.trans (st4 _ (Steps.refl _))).trans (by
      refine XS.iloadN X4.here hexec rfl (hb hbytes d11) rfl ?_
      exact Steps.refl _)
    obtain ⟨v6, T6, X6, E6, g6⟩ := X4.callS hexec (LChA.law l t V i (lo8 (f i)) fm) hown (wks W (staticW "java/lang/String" 495 LChA.yN)) (wk W LChA.tab) (W := 0) (Nat.le_of_ble_eq_true rfl) (Nat.le_of_ble_eq_true rfl) (Nat.le_refl _) (Nat.le_refl _) (g := (mkF m 12 #[.val (.ref x), .val (.int (Int32.ofNat i))] [.int (Int32.ofNat i), .ref t])) rfl (by rw [hml]; rfl) c5 (argsL := [.ref t, .int (Int32.ofNat i)]) (rest := []) rfl rfl (by show 2 * 0 + 0 ≤ _; decide) (hb hbytes d12) (⟨rfl, hx.2.2.2.1.mv X4.warmed.alike hh4, (k2 i hi).1, s3.there X4.warmed.alike hh4, rf⟩)
    obtain ⟨rfl, q6⟩ := E6
    rw [chr8_lo8 hr.1 (k2 i hi).2] at g6
    exact ⟨T6, some (.int (f i)), _, _, _, X6, rfl, rfl, rfl, (fun h => by cases h), ⟨rfl, q6.trans hh4⟩, fun fs hl => Steps.trans g6 (X6.ireturnOut hexec hret (narrow_ch hr.1 hr.2) (Or.inr (Or.inr (Or.inr (Or.inl rfl)))) (hb hbytes d15) hl)⟩
  · exact absurd k0 (by decide)
theorem pays {l : Launch} {R : Room} {p : Program} {e : Env} {below : List Frame} {s : State} {sargs : Array Value} {len W : Nat} (x t : Addr) (V : Cell) (n : Nat) (f : Nat → Int32) (z : Int32) (fm : Value) (i : Nat) (htab : tab.before sargs s = true) (hfr : 4 ≤ R.frames) (hlo : W + 53 ≤ R.locals) :
    Back l R p e below s sargs yN len W (fun A₁ a₁ => A₁.cells + 0 ≤ R.cells ∧ A₁.slots + 0 ≤ R.slots ∧ P x t V n f z fm i a₁ A₁.U) (fun A₁ _ v₁ B₁ => E f i v₁ A₁.U B₁.U ∧ B₁.locs = A₁.locs ++ [] ∧ B₁.cells = A₁.cells + 0 ∧ B₁.slots = A₁.slots + 0) :=
  (law l x t V n f z fm i).pays htab hfr (by omega)
end ChN
end StrChars
namespace StrChars.Road
open Jvm Sem ClassFile Op Lib Jvm.Stand Jvm.Free Jvm.Free.XT
open Jvm.Lib.Cold (StaticIs)
/-- the words of String.charAt(int), the Latin-1 road alone -/
abbrev wordsChN : List Jvm.Cond := [.code ChN.yN ChN.yB 2 (some .char), .initialized ST, .fieldLink ST 9 ST "value" "[B", .fieldLink ST 38 ST "COMPACT_STRINGS" "Z", .fieldLink ST 15 ST "coder" "B", .code IsL.yN IsL.yB 1 (some .boolean), .methodLink ST 492 IsL.yN, .declares IsL.yN, .selects ST IsL.yN IsL.yN, .instanceMethod IsL.yN,
  .methodLink ST 495 LChA.yN, .static LChA.yN, .code LChA.yN LChA.yB 2 (some .char), .initialized "java/lang/StringLatin1", .methodLink "java/lang/StringLatin1" 9 JO.Str_checkIndex.yN, .static JO.Str_checkIndex.yN, .code JO.Str_checkIndex.yN JO.Str_checkIndex.yB 2 none,
  .fieldLink ST 1053 "jdk/internal/util/Preconditions" "SIOOBE_FORMATTER" "Ljava/util/function/BiFunction;", .methodLink ST 1059 JC.PreCheck.yN, .static JC.PreCheck.yN, .code JC.PreCheck.yN JC.PreCheck.yB 3 (some .int), .initialized "jdk/internal/util/Preconditions"]
theorem tabChN_of {a : Array Value} {s : State} (h : ∀ w ∈ wordsChN, w.before a s = true) : ChN.tab.before a s = true := by
  have hp : JC.PreCheck.tab.before a s = true := unparts (wk h (.code JC.PreCheck.yN JC.PreCheck.yB 3 (some .int))) (wks h (.initialized JC.PreCheck.yN.cls :: JC.PreCheck.site))
  have qk := consq hp h
  have hk : JO.Str_checkIndex.tab.before a s = true := unparts (wk qk (.code JO.Str_checkIndex.yN JO.Str_checkIndex.yB 2 none)) (wks qk (.initialized JO.Str_checkIndex.yN.cls :: JO.Str_checkIndex.site))
  have ql := consq hk h
  have hl : LChA.tab.before a s = true := unparts (wk ql (.code LChA.yN LChA.yB 2 (some .char))) (wks ql (.initialized LChA.yN.cls :: LChA.site))
  have hi : IsL.tab.before a s = true := unparts (wk h (.code IsL.yN IsL.yB 1 (some .boolean))) (wks h (.initialized IsL.yN.cls :: IsL.site))
  have q := consq hi (consq hl h)
  exact unparts (wk q (.code ChN.yN ChN.yB 2 (some .char))) (wks q (.initialized ChN.yN.cls :: ChN.site))
theorem movedChN {Z s : State} {a0 args : Array Value} (hZ : Z.Warmed39 s.vm) (hw : ∀ d ∈ wordsChN, d.before a0 Z = true) : ∀ d ∈ wordsChN, d.before args s = true := fun d hd => by
  have t : ∀ d ∈ wordsChN, (d.onTables && d.keepsFace) = true := by decide +kernel
  exact RoadKit.mv hZ (hw d hd) (t d hd)
/-- **charAt(i) OF A LATIN-1 STRING**, i < n: the char -/
theorem chN {p : Program} {l : Launch} {e : Env} {R : Room} {s : State} {args : Array Value} {below : List Frame} {len W : Nat} {Z : State} {a0 : Array Value} {h : Heap} (hZ : Z.Warmed39 s.vm) (hw : ∀ d ∈ wordsChN, d.before a0 Z = true) {kI : Nat} (wi : (Jvm.Cond.instantiable ST kI).before a0 Z = true)
    {x t : Addr} {kb : ClassId} {cs : List Int32} {N2 z : Int32} {vs : List Value} {fm : Value} {i : Nat} {j : Int32} (E : RoadKit.Exa Z h x ST) (V : RoadKit.Fld Z h x ST "value" "[B" (.ref t)) (C : RoadKit.Fld Z h x ST "coder" "B" (.int 0)) (K : RoadKit.Arv Z h t kb .byte N2 vs (.int 0)) (hc : CodA cs 0 N2 vs) (hb : ∀ c ∈ cs, ¬ c < 0 ∧ ¬ (65535 : Int32) < c)
    (S : RoadKit.Sta Z h ST "COMPACT_STRINGS" "Z" (.int z)) (hz : ¬ z = 0) (F : RoadKit.Sta Z h "jdk/internal/util/Preconditions" "SIOOBE_FORMATTER" "Ljava/util/function/BiFunction;" fm) (rf : fm.isRef = true) (l2 : cs.length ≤ 4000) (hi : i < cs.length) (hj : j = Int32.ofNat i) (hfr : 4 ≤ R.frames) (hlo : W + 53 ≤ R.locals) :
    Back l R p e below s args (⟨"java/lang/String", "charAt", "(I)C"⟩ : MethodName) len W (fun P a => a = #[.ref x, .int j] ∧ P.U.heap = h ∧ P.cells + 0 ≤ R.cells ∧ P.slots + 0 ≤ R.slots)
      (fun P _ v B => ∃ L, (v = some (.int (cs.getD i 0)) ∧ L = [] ∧ B.U.heap = h) ∧ B.locs = P.locs ++ L ∧ B.cells = P.cells + 0 ∧ B.slots = P.slots + 0) := by
  subst hj
  intro m meth c P g ig mk a X hg hsize hdg hW hn hp'
  obtain ⟨rfl, rfl, r1, r2⟩ := hp'
  have al : Z.vm.Alike P.U.vm := hZ.alike.trans X.warmed.alike
  obtain ⟨A, hx⟩ := txt_of wi al E V C K hc hb l2
  obtain ⟨v, B, X', ⟨⟨hv, hh⟩, hl, hk, hs⟩, st⟩ := ChN.pays x t A cs.length (fun j => cs.getD j 0) z fm i (tabChN_of (movedChN hZ hw)) hfr hlo m meth c P g ig mk _ X hg hsize hdg hW hn ⟨r1, r2, rfl, hx, hi, sta_is al S, hz, sta_is al F, rf⟩
  exact ⟨v, B, X', ⟨[], ⟨hv, rfl, hh⟩, hl, hk, hs⟩, st⟩
/-- what backV says of its String, as the contracts of this text ask it: cs's low bytes, coder 0 -/
theorem codOf {cs : List Int32} {n : Nat} (hn : cs.length = n) (hb : ∀ c ∈ cs, ¬ 255 < c) : CodA cs 0 (Int32.ofNat n) ((cs.map lo8).map Value.int) := Or.inl ⟨rfl, by rw [hn], by simp [List.map_map, Function.comp_def], hb⟩
end StrChars.Road
end Jvm.Pilot.@@N@@
namespace Jvm.Pilot.@@N@@
open Jvm Jvm.ClassFile Sem Op Lib Jvm.Free Jvm.Stand Jvm.LawKit Jvm.RoadKit Bundle Jvm.Pilot.@@N@@.Jvm.D
/-! own small kit: a walk forward, state by state -/
section OwnKit
variable {p : Program} {l : Launch} {e : Env} {R : Room} {s : State} {m : MethodId} {args : Array Value} {below : List Frame} {meth : Method} {c : Code} {T : State} {locs : List Loc} {cells slots : Nat} {rc rs : Nat} {Q : Option Value → Heap → List Loc → Prop} {Z : State} {h h' : Heap} {a b : Addr} {S S' : State}
/-- from S the run comes to its return, and Q holds there -/
def Go (p : Program) (e : Env) (below : List Frame) (s : State) (rc rs : Nat) (Q : Option Value → Heap → List Loc → Prop) (S : State) : Prop :=
  ∃ s₂ o, Steps p.tables e below S s₂ ∧ s₂.status = .running ∧ Ended s₂ below o ∧ ∃ v L, o = .returned v ∧ Q v s₂.heap L ∧ FrameEnd s o s₂ L rc rs
theorem Go.st (k : ∀ t, Steps p.tables e below S' t → Steps p.tables e below S t) (g : Go p e below s rc rs Q S') : Go p e below s rc rs Q S := by
  obtain ⟨x, y, z, r⟩ := g
  exact ⟨x, y, k x z, r⟩
theorem Go.tr (k : Steps p.tables e below S S') (g : Go p e below s rc rs Q S') : Go p e below s rc rs Q S := by
  obtain ⟨x, y, z, r⟩ := g
  exact ⟨x, y, k.trans z, r⟩
theorem Go.ret (X : Stand p l e R s m args below meth c T locs cells slots) (hlk : meth.locks = false) (v : Option Value) (hv : meth.sig.returnType = none → v = none) {g : JFrame} (hQ : Q v T.heap locs) (hc : cells ≤ rc) (hs : slots ≤ rs)
    (k : ∀ fs, (∀ (f : JFrame) (acts : List Action), f.method = m → f.locked = none → f.entered = [] → (doReturn e (T.setTop f) acts v).1 = T.setFrames fs) → Steps p.tables e below (T.setTop g) (T.setFrames fs)) : Go p e below s rc rs Q (T.setTop g) := by
  obtain ⟨fs, hr, hrun, hended, hW, hsame⟩ := X.leave (v := v) hv hlk
  exact ⟨_, _, k fs hr, hrun, hended, _, _, rfl, hQ, ⟨_, rfl⟩, hW, hsame.mono hc hs⟩
theorem own_w {a0 : Array Value} (hw : ∀ d ∈ tables_1, d.before a0 Z = true) (k : Nat) {d : Jvm.Cond} (q : tables_1[k]? = some d) : d.before a0 Z = true := hw _ (List.mem_of_getElem? q)
theorem own_idx {n j : Int32} {cl : Cell} (S : cl.slots.size = n.toNatClampNeg) (q1 : ¬ j < 0) (q2 : j < n) : ¬ (j < 0 ∨ cl.slots.size ≤ j.toNatClampNeg) := inb_of S ⟨q1, q2⟩
theorem own_iaload (X : Stand p l e R s m args below meth c T locs cells slots) (hx : p.tables.exec = Jvm.exec) (hZ : Z.Warmed39 s.vm) (eT : T.heap = h) {k : ClassId} {n : Int32} {vs : List Value} {d : Value} (V : Arv Z h a k .int n vs d) {j : Int32} (q1 : ¬ j < 0) (q2 : j < n) {v : Value} (hv : vs.getD j.toNatClampNeg d = v) {g : JFrame} (hg : g.method = m) {rest : List Value} (hs : g.stack = .int j :: .ref a :: rest) (hd : decode c.code g.pc = .ok (.iaload, 1)) (t : State) (kk : Steps p.tables e below (T.setTop { g with pc := g.pc + 1, stack := v :: rest }) t) : Steps p.tables e below (T.setTop g) t := by
  obtain ⟨cl, A, -, S, -, H, -⟩ := V
  have hin := own_idx S q1 q2
  exact X.iaload hx (j := j) (v := v) (by rw [eT]; exact A.1) (State.isArrayOf_alike hZ.alike A.2.1) A.2.2 hin (H.at hin hv) (g := g) hg hs hd _ kk
theorem own_laload (X : Stand p l e R s m args below meth c T locs cells slots) (hx : p.tables.exec = Jvm.exec) (hZ : Z.Warmed39 s.vm) (eT : T.heap = h) {k : ClassId} {n : Int32} {vs : List Value} {d : Value} (V : Arv Z h a k .long n vs d) {j : Int32} (q1 : ¬ j < 0) (q2 : j < n) {v : Value} (hv : vs.getD j.toNatClampNeg d = v) {g : JFrame} (hg : g.method = m) {rest : List Value} (hs : g.stack = .int j :: .ref a :: rest) (hd : decode c.code g.pc = .ok (.laload, 1)) (t : State) (kk : Steps p.tables e below (T.setTop { g with pc := g.pc + 1, stack := v :: rest }) t) : Steps p.tables e below (T.setTop g) t := by
  obtain ⟨cl, A, -, S, -, H, -⟩ := V
  have hin := own_idx S q1 q2
  exact X.laload hx (j := j) (v := v) (by rw [eT]; exact A.1) (State.isArrayOf_alike hZ.alike A.2.1) A.2.2 hin (H.at hin hv) (g := g) hg hs hd _ kk
theorem own_caload (X : Stand p l e R s m args below meth c T locs cells slots) (hx : p.tables.exec = Jvm.exec) (hZ : Z.Warmed39 s.vm) (eT : T.heap = h) {k : ClassId} {n : Int32} {vs : List Value} {d : Value} (V : Arv Z h a k .char n vs d) {j : Int32} (q1 : ¬ j < 0) (q2 : j < n) {v : Value} (hv : vs.getD j.toNatClampNeg d = v) {g : JFrame} (hg : g.method = m) {rest : List Value} (hs : g.stack = .int j :: .ref a :: rest) (hd : decode c.code g.pc = .ok (.caload, 1)) (t : State) (kk : Steps p.tables e below (T.setTop { g with pc := g.pc + 1, stack := v :: rest }) t) : Steps p.tables e below (T.setTop g) t := by
  obtain ⟨cl, A, -, S, -, H, -⟩ := V
  have hin := own_idx S q1 q2
  exact X.caload hx (j := j) (v := v) (by rw [eT]; exact A.1) (State.isArrayOf_alike hZ.alike A.2.1) A.2.2 hin (H.at hin hv) (g := g) hg hs hd _ kk
theorem own_baloadB (X : Stand p l e R s m args below meth c T locs cells slots) (hx : p.tables.exec = Jvm.exec) (hZ : Z.Warmed39 s.vm) (eT : T.heap = h) {k : ClassId} {n : Int32} {vs : List Value} {d : Value} (V : Arv Z h a k .byte n vs d) {j : Int32} (q1 : ¬ j < 0) (q2 : j < n) {v : Value} (hv : vs.getD j.toNatClampNeg d = v) {g : JFrame} (hg : g.method = m) {rest : List Value} (hs : g.stack = .int j :: .ref a :: rest) (hd : decode c.code g.pc = .ok (.baload, 1)) (t : State) (kk : Steps p.tables e below (T.setTop { g with pc := g.pc + 1, stack := v :: rest }) t) : Steps p.tables e below (T.setTop g) t := by
  obtain ⟨cl, A, -, S, -, H, -⟩ := V
  have hin := own_idx S q1 q2
  exact X.baloadBytes hx (j := j) (v := v) (by rw [eT]; exact A.1) (State.isArrayOf_alike hZ.alike A.2.1) A.2.2 hin (H.at hin hv) (g := g) hg hs hd _ kk
theorem own_baloadZ (X : Stand p l e R s m args below meth c T locs cells slots) (hx : p.tables.exec = Jvm.exec) (hZ : Z.Warmed39 s.vm) (eT : T.heap = h) {k : ClassId} {n : Int32} {vs : List Value} {d : Value} (V : Arv Z h a k .boolean n vs d) {j : Int32} (q1 : ¬ j < 0) (q2 : j < n) {v : Value} (hv : vs.getD j.toNatClampNeg d = v) {g : JFrame} (hg : g.method = m) {rest : List Value} (hs : g.stack = .int j :: .ref a :: rest) (hd : decode c.code g.pc = .ok (.baload, 1)) (t : State) (kk : Steps p.tables e below (T.setTop { g with pc := g.pc + 1, stack := v :: rest }) t) : Steps p.tables e below (T.setTop g) t := by
  obtain ⟨cl, A, -, S, -, H, -⟩ := V
  have hin := own_idx S q1 q2
  exact X.baloadBooleans hx (j := j) (v := v) (by rw [eT]; exact A.1) (State.isArrayOf_alike hZ.alike A.2.1) A.2.2 hin (H.at hin hv) (g := g) hg hs hd _ kk
theorem own_aaload (X : Stand p l e R s m args below meth c T locs cells slots) (hx : p.tables.exec = Jvm.exec) (hZ : Z.Warmed39 s.vm) (eT : T.heap = h) {k : ClassId} {n : Int32} {vs : List Value} {d : Value} {ty : FieldType} (V : Arv Z h a k ty n vs d) (hty : ty.isReference = true) {j : Int32} (q1 : ¬ j < 0) (q2 : j < n) {v : Value} (hv : vs.getD j.toNatClampNeg d = v) {g : JFrame} (hg : g.method = m) {rest : List Value} (hs : g.stack = .int j :: .ref a :: rest) (hd : decode c.code g.pc = .ok (.aaload, 1)) (t : State) (kk : Steps p.tables e below (T.setTop { g with pc := g.pc + 1, stack := v :: rest }) t) : Steps p.tables e below (T.setTop g) t := by
  obtain ⟨cl, A, -, S, -, H, -⟩ := V
  have hin := own_idx S q1 q2
  exact X.aaload hx (j := j) (v := v) (by rw [eT]; exact A.1) (State.isArrayOf_alike hZ.alike A.2.1) hty A.2.2 hin (H.at hin hv) (g := g) hg hs hd _ kk
theorem own_len (X : Stand p l e R s m args below meth c T locs cells slots) (hx : p.tables.exec = Jvm.exec) (hZ : Z.Warmed39 s.vm) (eT : T.heap = h) {k : ClassId} {n : Int32} {vs : List Value} {d : Value} {ty : FieldType} (V : Arv Z h a k ty n vs d) {g : JFrame} (hg : g.method = m) {rest : List Value} (hs : g.stack = .ref a :: rest) (hd : decode c.code g.pc = .ok (.arraylength, 1)) (t : State) (kk : Steps p.tables e below (T.setTop { g with pc := g.pc + 1, stack := .int n :: rest }) t) : Steps p.tables e below (T.setTop g) t := by
  obtain ⟨cl, A, -, S, N, -, -⟩ := V
  refine X.arraylength hx (by rw [eT]; exact A.1) (State.isArrayOf_alike hZ.alike A.2.1) (g := g) hg hs hd _ ?_
  rw [len_of S N]
  exact kk
theorem own_stI (X : Stand p l e R s m args below meth c T locs cells slots) (hx : p.tables.exec = Jvm.exec) (hZ : Z.Warmed39 s.vm) (eT : T.heap = h) {k : ClassId} {n : Int32} {vs : List Value} {d : Value} (V : Arv Z h a k .int n vs d) {j x : Int32} (q1 : ¬ j < 0) (q2 : j < n) (i : Nat) (hi : j.toNatClampNeg = i) (hl : i < vs.length) {g : JFrame} (hg : g.method = m) {rest : List Value} (hs : g.stack = .int x :: .int j :: .ref a :: rest) (hd : decode c.code g.pc = .ok (.iastore, 1)) :
    ∃ T' h', Stand p l e R s m args below meth c T' (locs ++ [⟨a, j.toNatClampNeg⟩]) cells slots ∧ T'.heap = h' ∧ Wr h h' a j.toNatClampNeg (.int x) ∧ Arv Z h' a k .int n (vs.set i (.int x)) d ∧ ∀ t, Steps p.tables e below (T'.setTop { g with pc := g.pc + 1, stack := rest }) t → Steps p.tables e below (T.setTop g) t := by
  obtain ⟨cl, A, q, S, N, H, G⟩ := V
  obtain ⟨T', h', X', e', W', st⟩ := stI X hx hZ eT A (own_idx S q1 q2) (g := g) hg hs hd
  exact ⟨T', h', X', e', W', Arv.set A q S N H G rfl W' i hi hl, st⟩
theorem own_stJ (X : Stand p l e R s m args below meth c T locs cells slots) (hx : p.tables.exec = Jvm.exec) (hZ : Z.Warmed39 s.vm) (eT : T.heap = h) {k : ClassId} {n : Int32} {vs : List Value} {d : Value} (V : Arv Z h a k .long n vs d) {j : Int32} {x : Int64} (q1 : ¬ j < 0) (q2 : j < n) (i : Nat) (hi : j.toNatClampNeg = i) (hl : i < vs.length) {g : JFrame} (hg : g.method = m) {rest : List Value} (hs : g.stack = .long x :: .int j :: .ref a :: rest) (hd : decode c.code g.pc = .ok (.lastore, 1)) :
    ∃ T' h', Stand p l e R s m args below meth c T' (locs ++ [⟨a, j.toNatClampNeg⟩]) cells slots ∧ T'.heap = h' ∧ Wr h h' a j.toNatClampNeg (.long x) ∧ Arv Z h' a k .long n (vs.set i (.long x)) d ∧ ∀ t, Steps p.tables e below (T'.setTop { g with pc := g.pc + 1, stack := rest }) t → Steps p.tables e below (T.setTop g) t := by
  obtain ⟨cl, A, q, S, N, H, G⟩ := V
  obtain ⟨T', h', X', e', W', st⟩ := stJ X hx hZ eT A (own_idx S q1 q2) (g := g) hg hs hd
  exact ⟨T', h', X', e', W', Arv.set A q S N H G rfl W' i hi hl, st⟩
theorem own_stC (X : Stand p l e R s m args below meth c T locs cells slots) (hx : p.tables.exec = Jvm.exec) (hZ : Z.Warmed39 s.vm) (eT : T.heap = h) {k : ClassId} {n : Int32} {vs : List Value} {d : Value} (V : Arv Z h a k .char n vs d) {j x : Int32} (q1 : ¬ j < 0) (q2 : j < n) (i : Nat) (hi : j.toNatClampNeg = i) (hl : i < vs.length) {g : JFrame} (hg : g.method = m) {rest : List Value} (hs : g.stack = .int x :: .int j :: .ref a :: rest) (hd : decode c.code g.pc = .ok (.castore, 1)) :
    ∃ T' h', Stand p l e R s m args below meth c T' (locs ++ [⟨a, j.toNatClampNeg⟩]) cells slots ∧ T'.heap = h' ∧ Wr h h' a j.toNatClampNeg (.int (nar .char x)) ∧ Arv Z h' a k .char n (vs.set i (.int (nar .char x))) d ∧ ∀ t, Steps p.tables e below (T'.setTop { g with pc := g.pc + 1, stack := rest }) t → Steps p.tables e below (T.setTop g) t := by
  obtain ⟨cl, A, q, S, N, H, G⟩ := V
  obtain ⟨T', h', X', e', W', st⟩ := stC X hx hZ eT A (own_idx S q1 q2) (g := g) hg hs hd
  exact ⟨T', h', X', e', W', Arv.set A q S N H G (fits_nar_char _) W' i hi hl, st⟩
theorem own_stB (X : Stand p l e R s m args below meth c T locs cells slots) (hx : p.tables.exec = Jvm.exec) (hZ : Z.Warmed39 s.vm) (eT : T.heap = h) {k : ClassId} {n : Int32} {vs : List Value} {d : Value} (V : Arv Z h a k .byte n vs d) {j x : Int32} (q1 : ¬ j < 0) (q2 : j < n) (i : Nat) (hi : j.toNatClampNeg = i) (hl : i < vs.length) {g : JFrame} (hg : g.method = m) {rest : List Value} (hs : g.stack = .int x :: .int j :: .ref a :: rest) (hd : decode c.code g.pc = .ok (.bastore, 1)) :
    ∃ T' h', Stand p l e R s m args below meth c T' (locs ++ [⟨a, j.toNatClampNeg⟩]) cells slots ∧ T'.heap = h' ∧ Wr h h' a j.toNatClampNeg (.int (nar .byte x)) ∧ Arv Z h' a k .byte n (vs.set i (.int (nar .byte x))) d ∧ ∀ t, Steps p.tables e below (T'.setTop { g with pc := g.pc + 1, stack := rest }) t → Steps p.tables e below (T.setTop g) t := by
  obtain ⟨cl, A, q, S, N, H, G⟩ := V
  obtain ⟨T', h', X', e', W', st⟩ := stB X hx hZ eT A (own_idx S q1 q2) (g := g) hg hs hd
  exact ⟨T', h', X', e', W', Arv.set A q S N H G (fits_nar_byte _) W' i hi hl, st⟩
theorem own_stZ (X : Stand p l e R s m args below meth c T locs cells slots) (hx : p.tables.exec = Jvm.exec) (hZ : Z.Warmed39 s.vm) (eT : T.heap = h) {k : ClassId} {n : Int32} {vs : List Value} {d : Value} (V : Arv Z h a k .boolean n vs d) {j x : Int32} (q1 : ¬ j < 0) (q2 : j < n) (i : Nat) (hi : j.toNatClampNeg = i) (hl : i < vs.length) {g : JFrame} (hg : g.method = m) {rest : List Value} (hs : g.stack = .int x :: .int j :: .ref a :: rest) (hd : decode c.code g.pc = .ok (.bastore, 1)) :
    ∃ T' h', Stand p l e R s m args below meth c T' (locs ++ [⟨a, j.toNatClampNeg⟩]) cells slots ∧ T'.heap = h' ∧ Wr h h' a j.toNatClampNeg (.int (nar .boolean x)) ∧ Arv Z h' a k .boolean n (vs.set i (.int (nar .boolean x))) d ∧ ∀ t, Steps p.tables e below (T'.setTop { g with pc := g.pc + 1, stack := rest }) t → Steps p.tables e below (T.setTop g) t := by
  obtain ⟨cl, A, q, S, N, H, G⟩ := V
  obtain ⟨T', h', X', e', W', st⟩ := stZ X hx hZ eT A (own_idx S q1 q2) (g := g) hg hs hd
  exact ⟨T', h', X', e', W', Arv.set A q S N H G (fits_nar_bool _) W' i hi hl, st⟩
theorem own_old {n0 : Nat} (O : Old Z n0 h) : n0 ≤ h.size := O.1 ▸ O.2.1
theorem own_res {z z' y : Int32} (hq : y = z') (hz : z = z') : some (Value.int z) = some (Value.int y) := by rw [hq, hz]
theorem own_resJ {z z' y : Int64} (hq : y = z') (hz : z = z') : some (Value.long z) = some (Value.long y) := by rw [hq, hz]
theorem own_narR {v : Value} {t : FieldType} (q : v.isRef = true) (r : t.isReference = true := by rfl) : narrow t v = v := by
  rcases ref_cases q with rfl | ⟨_, rfl⟩ <;> cases t <;> first | rfl | (simp [FieldType.isReference] at r)
theorem own_fitR {v : Value} {t : FieldType} (q : v.isRef = true) (r : t.isReference = true := by rfl) : fits t v = true := by
  rcases ref_cases q with rfl | ⟨_, rfl⟩ <;> cases t <;> first | rfl | (simp [FieldType.isReference] at r)
theorem own_fld {ar : Array Value} {t : Term} {x : Addr} {C n d : String} {k : Int32} (ht : t.eval ar s none [] s = some (.ref x)) (q : (Jvm.Cond.eq (.field t C n d) (.int k)).value ar s none s [] = some true) : Fld s s.heap x C n d (.int k) := by
  obtain ⟨u, w, e1, e2, -, k2⟩ := cmp_v (Or.inl q)
  have e3 : (Term.int k).eval ar s none [] s = some (.int k) := Term.int_eval k
  rw [e3] at e2
  obtain rfl := Option.some.inj e2
  obtain ⟨z, rfl⟩ := k2
  have e4 : z = k := gotT (Cond.eq_ints e1 e3) q
  subst e4
  rw [fld_at ht] at e1
  exact Fld.start e1
theorem own_neI {u w : Int32} (q : u ≠ w) : Value.int u ≠ Value.int w := fun z => q (Value.int.inj z)
theorem own_stR (X : Stand p l e R s m args below meth c T locs cells slots) (hx : p.tables.exec = Jvm.exec) (hZ : Z.Warmed39 s.vm) (eT : T.heap = h) {k : ClassId} {n : Int32} {vs : List Value} {d : Value} {ty : FieldType} {C : String} (V : Arv Z h a k ty n vs d) (hty : ty.isReference = true) (O : Ovr Z k C) {y : Addr} (I : Ins Z h y C true) {j : Int32} (q1 : ¬ j < 0) (q2 : j < n) (i : Nat) (hi : j.toNatClampNeg = i) (hl : i < vs.length) {g : JFrame} (hg : g.method = m) {rest : List Value} (hs : g.stack = .ref y :: .int j :: .ref a :: rest) (hd : decode c.code g.pc = .ok (.aastore, 1)) :
    ∃ T' h', Stand p l e R s m args below meth c T' (locs ++ [⟨a, j.toNatClampNeg⟩]) cells slots ∧ T'.heap = h' ∧ Wr h h' a j.toNatClampNeg (.ref y) ∧ Arv Z h' a k ty n (vs.set i (.ref y)) d ∧ ∀ t, Steps p.tables e below (T'.setTop { g with pc := g.pc + 1, stack := rest }) t → Steps p.tables e below (T.setTop g) t := by
  obtain ⟨cl, A, q, S, N, H, G⟩ := V
  obtain ⟨T', h', X', e', W', st⟩ := stR X hx hZ eT A (own_idx S q1 q2) hty (Sto.ofV A q O I) (g := g) hg hs hd
  exact ⟨T', h', X', e', W', Arv.set A q S N H G (own_fitR rfl hty) W' i hi hl, st⟩
theorem own_dupx2 (X : Stand p l e R s m args below meth c T locs cells slots) (hx : p.tables.exec = Jvm.exec) {g : JFrame} (hg : g.method = m) {x y z : Value} {rest : List Value} (hd : decode c.code g.pc = .ok (.dup_x2, 1)) (hs : g.stack = x :: y :: z :: rest) (hc : x.category = 1) (hc' : y.category = 1) (hc'' : z.category = 1) (t : State) (kk : Steps p.tables e below (T.setTop { g with pc := g.pc + 1, stack := x :: y :: z :: x :: rest }) t) : Steps p.tables e below (T.setTop g) t := by
  subst hg
  jvm_step X.here [X.here.top, hx, hd, dup_x2.wp_sem, hs, hc, hc', hc'']
  exact kk
theorem own_gen {n0 : Nat} (X : Stand p l e R s m args below meth c T locs cells slots) (N : Fr n0 locs) : ∃ L, Stand p l e R s m args below meth c T L cells slots ∧ Fr n0 L := ⟨_, X, N⟩
end OwnKit
/-! the same with the wide end (String constants may have been interned) -/
section OwnW
variable {p : Program} {l : Launch} {e : Env} {R : Room} {s : State} {m : MethodId} {args : Array Value} {below : List Frame} {meth : Method} {c : Code} {T : State} {locs : List Loc} {cells slots : Nat} {rc rs : Nat} {Q : Option Value → Heap → List Loc → Prop} {S S' : State}
def GoW (p : Program) (e : Env) (below : List Frame) (s : State) (rc rs : Nat) (Q : Option Value → Heap → List Loc → Prop) (S : State) : Prop :=
  ∃ s₂ o, Steps p.tables e below S s₂ ∧ s₂.status = .running ∧ Ended s₂ below o ∧ ∃ v L, o = .returned v ∧ Q v s₂.heap L ∧ ReturnedEndW s o s₂ L rc rs
theorem GoW.st (k : ∀ t, Steps p.tables e below S' t → Steps p.tables e below S t) (g : GoW p e below s rc rs Q S') : GoW p e below s rc rs Q S := by
  obtain ⟨x, y, z, r⟩ := g
  exact ⟨x, y, k x z, r⟩
theorem GoW.tr (k : Steps p.tables e below S S') (g : GoW p e below s rc rs Q S') : GoW p e below s rc rs Q S := by
  obtain ⟨x, y, z, r⟩ := g
  exact ⟨x, y, k.trans z, r⟩
theorem GoW.ret {vm1 : Vm} {n1 : Nat} (X : Stand p l e R (s.setVm vm1) m args below meth c T locs cells slots) (hlk : meth.locks = false) (hS : s.Since vm1 n1) (hn : n1 ≤ T.heap.size) (v : Option Value) (hv : meth.sig.returnType = none → v = none) {g : JFrame} (hQ : Q v T.heap locs) (hc : cells ≤ rc) (hs : slots ≤ rs)
    (k : ∀ fs, (∀ (f : JFrame) (acts : List Action), f.method = m → f.locked = none → f.entered = [] → (doReturn e (T.setTop f) acts v).1 = T.setFrames fs) → Steps p.tables e below (T.setTop g) (T.setFrames fs)) : GoW p e below s rc rs Q (T.setTop g) := by
  obtain ⟨fs, hr, hrun, hended, hE⟩ := X.leaveW hS hn (v := v) hv hlk
  exact ⟨_, _, k fs hr, hrun, hended, _, _, rfl, hQ, hE.1, hE.2.1, hE.2.2.1, hE.2.2.2.mono hc hs⟩
end OwnW
/-! the wide end, with the machine's tables in the end's words: which texts may have been interned is carried through calls -/
section OwnV
variable {p : Program} {l : Launch} {e : Env} {R : Room} {s : State} {m : MethodId} {args : Array Value} {below : List Frame} {meth : Method} {c : Code} {T : State} {locs : List Loc} {cells slots : Nat} {rc rs : Nat} {Q : Option Value → Vm → Heap → List Loc → Prop} {S S' Z : State} {a0 : Array Value} {h : Heap} {Ts Ts' : List String}
def GoV (p : Program) (e : Env) (below : List Frame) (s : State) (rc rs : Nat) (Q : Option Value → Vm → Heap → List Loc → Prop) (S : State) : Prop :=
  ∃ s₂ o, Steps p.tables e below S s₂ ∧ s₂.status = .running ∧ Ended s₂ below o ∧ ∃ v L, o = .returned v ∧ Q v s₂.vm s₂.heap L ∧ ReturnedEndW s o s₂ L rc rs
theorem GoV.st (k : ∀ t, Steps p.tables e below S' t → Steps p.tables e below S t) (g : GoV p e below s rc rs Q S') : GoV p e below s rc rs Q S := by
  obtain ⟨x, y, z, r⟩ := g
  exact ⟨x, y, k x z, r⟩
theorem GoV.tr (k : Steps p.tables e below S S') (g : GoV p e below s rc rs Q S') : GoV p e below s rc rs Q S := by
  obtain ⟨x, y, z, r⟩ := g
  exact ⟨x, y, k.trans z, r⟩
theorem GoV.ret {vm1 : Vm} {n1 : Nat} (X : Stand p l e R (s.setVm vm1) m args below meth c T locs cells slots) (hlk : meth.locks = false) (hS : s.Since vm1 n1) (hn : n1 ≤ T.heap.size) (v : Option Value) (hv : meth.sig.returnType = none → v = none) {g : JFrame} (hQ : Q v T.vm T.heap locs) (hc : cells ≤ rc) (hs : slots ≤ rs)
    (k : ∀ fs, (∀ (f : JFrame) (acts : List Action), f.method = m → f.locked = none → f.entered = [] → (doReturn e (T.setTop f) acts v).1 = T.setFrames fs) → Steps p.tables e below (T.setTop g) (T.setFrames fs)) : GoV p e below s rc rs Q (T.setTop g) := by
  obtain ⟨fs, hr, hrun, hended, hE⟩ := X.leaveW hS hn (v := v) hv hlk
  exact ⟨_, _, k fs hr, hrun, hended, _, _, rfl, hQ, hE.1, hE.2.1, hE.2.2.1, hE.2.2.2.mono hc hs⟩
theorem own_ibW {vm0 : Vm} (I : IB Z vm0 Ts) (X : Stand p l e R (s.setVm vm0) m args below meth c T locs cells slots) : IB Z T.vm Ts := by
  obtain ⟨more, a, b⟩ := I
  exact ⟨more, X.warmed.interned_eq.trans a, b⟩
theorem own_ibH {vm' : Vm} (I : IB Z s.vm Ts) (w : s.WarmedH vm') : IB Z vm' Ts := by
  obtain ⟨more, a, b⟩ := I
  exact ⟨more, w.interned_eq.trans a, b⟩
theorem own_ibM {vm0 : Vm} (I : IB Z vm0 Ts) (q : ∀ t ∈ Ts, t ∈ Ts') : IB Z vm0 Ts' := by
  obtain ⟨more, a, b⟩ := I
  exact ⟨more, a, fun x hx => by obtain ⟨t, h1, h2⟩ := b x hx; exact ⟨t, q t h1, h2⟩⟩
theorem own_backIB {y : MethodName} {bytes : ByteArray} {maxL : Nat} {ret : Option FieldType} {rm : Room} {len W : Nat} {as' : Array Value}
    (hM : MetFree l y (head1 [Cond.code y bytes maxL ret] rm) (fun a U => a = as' ∧ Z.Warmed39 U.vm ∧ U.heap = h ∧ IB Z U.vm Ts) (fun _ _ _ _ _ => True) (fun _ U o U' => ∃ v L, o = .returned v ∧ Q v U'.vm U'.heap L ∧ ReturnedEndW U o U' L rm.cells rm.slots))
    (hZ : Z.Warmed39 s.vm) (I : IB Z s.vm Ts) (wc : (Cond.code y bytes maxL ret).before a0 Z = true) (wz : (Cond.initialized y.cls).before a0 Z = true) (hf : rm.frames + 1 ≤ R.frames) (hl : W + (maxL + 11) + rm.locals ≤ R.locals) :
    BackS l R p e below s args y len W (fun A a => a = as' ∧ A.U.heap = h ∧ A.cells + rm.cells ≤ R.cells ∧ A.slots + rm.slots ≤ R.slots)
      (fun A _ v B => ∃ L, Q v B.U.vm B.U.heap L ∧ B.locs = A.locs ++ L ∧ B.cells = A.cells + rm.cells ∧ B.slots = A.slots + rm.slots) :=
  BackS.of_freeW (bytes := bytes) (maxL := maxL) (ret := ret) (E := fun _ _ o t L k n => k = rm.cells ∧ n = rm.slots ∧ ∃ v, o = .returned v ∧ Q v t.vm t.heap L) hM hf hl
    (fun m meth c A a Y hp => have hU : Z.Warmed39 A.U.vm := wtrans hZ Y.warmed
      ⟨by show (Cond.and _ .tt).before a A.U = true; rw [Cond.before_and, mv hU wc]; rfl, mv hU wc, mv hU wz, hp.2.2.1, hp.2.2.2⟩)
    (fun m meth c A a g mk Y hp => ⟨hp.1, wtrans hZ Y.warmed, hp.2.1, own_ibH I Y.warmed⟩) (fun _ _ _ _ _ _ _ _ _ => trivial)
    (fun _ _ _ _ ⟨v, L, h1, h2, h3⟩ => ⟨L, _, _, h3, rfl, rfl, v, h1, h2⟩)
    (fun m meth c A a g mk v t L k n Y hp _ _ ⟨e1, e2, v', e3, e4⟩ => by cases e3; subst e1 e2; exact ⟨L, e4, rfl, rfl, rfl⟩)
theorem own_fldne {x u b : Addr} {C n d : String} (F : Fld Z h u C n d (.ref b)) (G : Fld Z h x C n d .null) : u ≠ x := fun q => by
  subst q
  obtain ⟨c1, cf1, k1, i1, f1, a1, a2, -, -, -, -, a7⟩ := F
  obtain ⟨c2, cf2, k2, i2, f2, b1, b2, -, -, -, -, b7⟩ := G
  cases a1.symm.trans b1
  cases a2.symm.trans b2
  cases a7.symm.trans b7
end OwnV
/-! String constants under a held word that is carried by its addresses: a text that this walk has interned may be loaded again, by any class -/
section OwnH
open Jvm.Free.SB Jvm.Free.SBG
variable {p : Program} {l : Launch} {e : Env} {R : Room} {s : State} {m : MethodId} {args : Array Value} {below : List Frame} {meth : Method} {c : Code} {T : State} {locs : List Loc} {cells slots : Nat} {Z U W : State} {a0 : Array Value} {h h' : Heap} {vm0 vm1 : Vm} {own text : String} {index : Nat} {a b x : Addr} {ca cb : Cell} {Ps : List (Array UInt16 × Addr)}
def Cel (h : Heap) (a : Addr) (c : Cell) : Prop := h[a]? = some c
theorem Cel.ext (F : Cel h a ca) (E : Ext h h') : Cel h' a ca := E.2 a ca F
theorem Cel.keep {ws : List Addr} (F : Cel h a ca) (K : Keep h h' ws) (q : a ∉ ws) : Cel h' a ca := K.2.1 a ca F q
theorem Cel.other {sl : Nat} {v : Value} (F : Cel h a ca) (W : Wr h h' x sl v) (q : a ≠ x) : Cel h' a ca := by
  obtain ⟨cell, -, -, -, rfl⟩ := W
  show (h.setIfInBounds x _)[a]? = some ca
  rw [Array.getElem?_setIfInBounds_ne (Ne.symm q)]
  exact F
theorem Cel.lt (F : Cel h a ca) : a < h.size := (Array.getElem?_eq_some_iff.mp F).1
/-- wherever these two cells lie, a is a Latin-1 String of the units u -/
def OwnSk (Z : State) (a b : Addr) (ca cb : Cell) (u : Array UInt16) : Prop := ∀ U : State, Z.vm.Alike U.vm → Cel U.heap a ca → Cel U.heap b cb → SlOf U a u
/-- what the intern table finds: what it found at the start, or one of Ps -/
def OwnI (Z : State) (vm : Vm) (Ps : List (Array UInt16 × Addr)) : Prop := ∀ (u : Array UInt16) (a : Addr), vm.interned.find? (fun p => p.1 == u) = some (u, a) → Z.vm.interned.find? (fun p => p.1 == u) = some (u, a) ∨ (u, a) ∈ Ps
theorem OwnI.start : OwnI Z Z.vm [] := fun _ _ q => Or.inl q
theorem own_iH (I : OwnI Z s.vm Ps) (w : s.WarmedH vm1) : OwnI Z vm1 Ps := fun u a q => I u a (by rw [← w.interned_eq]; exact q)
theorem own_ibH' {Ts : List String} (I : IB Z s.vm Ts) (w : s.WarmedH vm1) : IB Z vm1 Ts := by
  obtain ⟨more, a, b⟩ := I
  exact ⟨more, w.interned_eq.trans a, b⟩
theorem own_slFacts {u : Array UInt16} (hal : Z.vm.Alike W.vm) (hs : SlOf W a u) (htext : utf16ToString? u = some text) {vs : List Value} {z : Int32} (ht : (∀ c ∈ text.toList, c.toNat < 256) ∧ text.toList.map (fun c => Value.int (Jvm.Lit.byteI c.toNat.toUInt16)) = vs) (hz : ¬ z < 0) (hl : z.toNatClampNeg = vs.length) :
    ∃ (b : Addr) (k : ClassId) (ca cb : Cell), Exa Z W.heap a "java/lang/String" ∧ Fld Z W.heap a "java/lang/String" "coder" "B" (.int 0) ∧ Fld Z W.heap a "java/lang/String" "value" "[B" (.ref b) ∧ Arv Z W.heap b k .byte z vs (.int 0) ∧ Cel W.heap a ca ∧ Cel W.heap b cb ∧ OwnSk Z a b ca cb u := by
  obtain ⟨q, cS, rfl, hSl, ⟨kS, k1, k2, k3⟩, hB, hbyt⟩ := hs
  have hall := hSl
  obtain ⟨⟨s1, s2, s3, fv, fc, s6, s7, s8, s9, s10, ⟨hst, kA, hkA, comp, hkind⟩, s12, s13, s14, s15, s16⟩, hfS, hcS⟩ := hall
  have hla := hal.symm
  obtain ⟨kZ, hkZ, ekZ⟩ := hla.2.2 _ _ k1
  obtain ⟨kB, hkB, ekB⟩ := hla.2.2 _ _ hkA
  obtain ⟨cv, kv, iv, v1, v2⟩ := found_asg hla fv
  obtain ⟨cc, kc, ic, c1, c2⟩ := found_asg hla fc
  have hlat := Jvm.ClassFile.lat_of_text htext ht.1
  have eu : vs = u.toList.map fun x => Value.int (Jvm.Lit.byteI x) := by rw [← ht.2, Jvm.ClassFile.units_of_text htext ht.1, List.map_map]; rfl
  have el : vs.length = u.size := by rw [eu]; simp
  have hsl : q.SA.slots = u.map fun x => Value.int (Jvm.Lit.byteI x) := by rw [hbyt, SBG.stringBytes_lat hlat]; rfl
  have hsz : q.SA.slots.size = u.size := by rw [hsl, Array.size_map]
  have H : Has q.SA vs (.int 0) := fun j hj => by
    have hj' : j < u.size := by omega
    rw [hsl, eu]; simp [hj']
  refine ⟨q.sd, q.SA.cls, q.sC, q.SA, ⟨q.sC, kZ, s1, by rw [hcS, ← hal.findClass]; exact hfS, by rw [hcS]; exact hkZ, s3, fun _ => by rw [k3, ekZ]⟩, ⟨q.sC, cc, kc, ic, q.fSC, s1, c1, s7, s2, s3, c2, s9⟩, ⟨q.sC, cv, kv, iv, q.fSV, s1, v1, s6, s2, s3, v2, s8⟩, ⟨q.SA, ⟨s10, ⟨hst, kB, hkB, comp, by rw [ekB]; exact hkind⟩, s12⟩, rfl, by rw [hsz, hl, el], hz, H, fun j hj => ?_⟩, s1, s10, ?_⟩
  · have e1 := s16 j hj
    rw [SBG.getD_of (H j hj)] at e1
    exact e1
  · intro U hU hca hcb
    have hWU : W.vm.Alike U.vm := hla.trans hU
    obtain ⟨kU, hkU, ekU⟩ := hWU.2.2 _ _ k1
    exact ⟨q, cS, rfl, hSl.carry hWU hca hcb, ⟨kU, hkU, by rw [ekU]; exact k2, by rw [ekU]; exact k3⟩, by rw [hWU.findClass]; exact hB, hbyt⟩
/-- the held word at a later state: an address that the table or the pool has come to name since lies in Ps -/
theorem own_held (hW : Z.Warmed39 U.vm) (w : (Cond.stringLink own index text).before a0 Z = true) (I : OwnI Z U.vm Ps) (hkeep : ∀ (b : Addr) (cl : Cell), Z.heap[b]? = some cl → U.heap[b]? = some cl) (hH : ConstHeldL Z own index) (hSl : ∀ q ∈ Ps, utf16ToString? q.1 = some text → SlOf U q.2 q.1) : ConstHeldL U own index := by
  intro d k' cf i u y hd hk' hcf' hp hu hor
  have hal : Z.vm.Alike U.vm := hW.alike
  have hdZ : Z.vm.findClass own = some d := by rw [← hal.findClass]; exact hd
  obtain ⟨k, cf0, i0, u0, hk, hcf, hp0, hu0, hnm, htext, -⟩ := Cond.stringLink_spec hdZ w
  obtain ⟨k2, hk2, hke, -, ee, -⟩ := hW.2.2.2 d k hk
  cases hk'.symm.trans hk2
  have hcfk : k'.cf = k.cf := by rw [hke]
  cases (hcfk ▸ hcf').symm.trans hcf
  cases hp.symm.trans hp0
  cases hu.symm.trans hu0
  have key : ∀ y, k.resolved[index]? = some none → U.vm.interned.find? (fun p => p.1 == u) = some (u, y) → SlOf U y u := fun y hop hf => by
    rcases I u y hf with q | q
    · exact (hH d k cf i u y hdZ hk hcf hp hu (Or.inr ⟨hop, q⟩)).moved hal hkeep
    · exact hSl _ q htext
  rcases ee index with e0 | ⟨hop, r, e1, hr | ⟨y3, t3, i3, u3, rfl, -, q3, q4, q5⟩⟩
  · rcases hor with h0 | ⟨h0, hf⟩
    · exact (hH d k cf i u y hdZ hk hcf hp hu (Or.inl (e0 ▸ h0))).moved hal hkeep
    · exact key y (e0 ▸ h0) hf
  · exfalso
    cases r <;> simp [State.rightAt, hk, hcf, hnm] at hr
  · rw [hcf] at q3 q4
    obtain rfl : i3 = i := by simpa using q3.symm.trans hp
    obtain rfl : u3 = u := by simpa [ConstantPool.utf8?, hu] using q4.symm
    rcases hor with h0 | ⟨h0, -⟩
    · obtain rfl : y3 = y := by simpa using e1.symm.trans h0
      exact key y3 hop q5
    · simp [e1] at h0
theorem own_ldcH (X : Stand p l e R (s.setVm vm0) m args below meth c T locs cells slots) (hx : p.tables.exec = Jvm.exec) (hZ : Z.Warmed39 vm0) (hown : vm0.findClass own = some m.cls) (w : (Cond.stringLink own index text).before a0 Z = true) (wS : ∀ a ∈ Bundle.stringAtoms, a.before a0 Z = true)
    (eT : T.heap = h) {k0 : Nat} (hS : s.Since vm0 k0) (hk : k0 ≤ h.size) (N : Fr s.heap.size locs) (hH : ConstHeldL (s.setVm vm0) own index) (I : OwnI Z vm0 Ps)
    {vs : List Value} {z : Int32} (ht : (∀ c ∈ text.toList, c.toNat < 256) ∧ text.toList.map (fun c => Value.int (Jvm.Lit.byteI c.toNat.toUInt16)) = vs) (hz : ¬ z < 0) (hl : z.toNatClampNeg = vs.length)
    {g : JFrame} (hg : g.method = m) (hd : decode c.code g.pc = .ok (.ldc index, 2)) {n : Nat} (hn : 4 * text.toList.length ≤ n) (hbig : n ≤ 536870912) (hc : cells + 2 ≤ R.cells) (hl' : slots + (n + 4) ≤ R.slots) :
    ∃ (a : Addr) (T' : State) (h' : Heap) (k1 : Nat) (b : Addr) (k : ClassId) (ca cb : Cell) (u : Array UInt16), Stand p l e R (s.setVm T'.vm) m args below meth c T' locs (cells + 2) (slots + (n + 4)) ∧ T'.heap = h' ∧ Ext h h' ∧ s.Since T'.vm k1 ∧ k1 ≤ h'.size ∧ Z.Warmed39 (s.setVm T'.vm).vm ∧ (s.setVm T'.vm).vm.findClass own = some m.cls ∧
      Exa Z h' a "java/lang/String" ∧ Fld Z h' a "java/lang/String" "coder" "B" (.int 0) ∧ Fld Z h' a "java/lang/String" "value" "[B" (.ref b) ∧ Arv Z h' b k .byte z vs (.int 0) ∧ Cel h' a ca ∧ Cel h' b cb ∧ OwnSk Z a b ca cb u ∧ utf16ToString? u = some text ∧ OwnI Z T'.vm ((u, a) :: Ps) ∧ (∀ Ts, IB s vm0 Ts → IB s T'.vm (text :: Ts)) ∧ Lit (s.setVm T'.vm) own index a ∧
      ∀ target, Steps p.tables e below (T'.setTop { g with pc := g.pc + 2, stack := .ref a :: g.stack }) target → Steps p.tables e below (T.setTop g) target := by
  obtain ⟨k, cf, i, u, hkz, hcf, hp, hu, hnm, htext, -⟩ := Cond.stringLink_spec (s := s.setVm vm0) hown (mvS (s := s.setVm vm0) (args := #[]) hZ w)
  have hTi : T.vm.interned = vm0.interned := X.warmed.interned_eq
  have hkz' : vm0.classes[m.cls]? = some k := hkz
  by_cases hy : ∃ a, Lit (s.setVm vm0) own index a
  · obtain ⟨a, L⟩ := hy
    have hres : k.resolved[index]? = some (some (.string a)) := by
      have L' : (s.setVm vm0).resolvedAt? own index = some (.string a) := L
      have L2 : (k.resolved[index]?).bind id = some (.string a) := by simpa [State.resolvedAt?, hown, hkz', Option.join] using L'
      cases hq : k.resolved[index]? with
      | none => simp [hq] at L2
      | some o => simpa [hq] using L2
    have hs : SlOf T a u := (hH m.cls k cf i u a hown hkz hcf hp hu (Or.inl hres)).moved X.warmed.alike (oldF X N)
    have hal : Z.vm.Alike T.vm := hZ.alike.trans X.warmed.alike
    obtain ⟨b, kb, ca, cb, f1, f2, f3, f4, f5, f6, f7⟩ := own_slFacts hal hs htext ht hz hl
    subst eT
    exact ⟨a, T, _, _, b, kb, ca, cb, u, (X.mono (by omega) (by omega)).retabled X.warmed.wide, rfl, ⟨Nat.le_refl _, fun _ _ q => q⟩, hS.trans (X.warmed.since T.heap.size) hk, Nat.le_refl _, State.Warmed39.trans (t := s.setVm vm0) hZ X.warmed.wide,
      by rw [show (s.setVm T.vm).vm = T.vm from rfl, X.warmed.alike.findClass]; exact hown, f1, f2, f3, f4, f5, f6, f7, htext, fun u' y hf => (I u' y (by rw [← hTi]; exact hf)).imp id (List.mem_cons_of_mem _), fun Ts J => IB.step J (Or.inl hTi), Lit.stays L X.warmed.wide, ldcAgain X hx hZ hown w L hg hd⟩
  · obtain ⟨a, T', X', hS', ⟨kk, hkk, hrr⟩, hb, -, hint, ⟨u2, htext2, hin⟩, st⟩ := X.ldcColdF (oldF X N) hx (own := own) hown (mvS hZ w) (fun d hd => by
      have q := wS d hd
      simp only [Bundle.stringAtoms, List.mem_cons, List.not_mem_nil, or_false] at hd
      rcases hd with rfl | rfl | rfl | rfl | rfl | rfl | rfl
      iterate 2 exact mv (s := s.setVm vm0) hZ q
      exact mvA (s := s.setVm vm0) hZ q
      iterate 4 exact mv (s := s.setVm vm0) hZ q) hH (fun v hv => Jvm.ClassFile.lat_of_text hv ht.1) hg hd hn hbig hc hl'
    have same : ∀ v : Array UInt16, utf16ToString? v = some text → v = u := fun v hv => Array.ext' ((Jvm.ClassFile.units_of_text hv ht.1).trans (Jvm.ClassFile.units_of_text htext ht.1).symm)
    obtain rfl : u2 = u := same u2 htext2
    have hs : SlOf T' a u2 := by
      obtain ⟨q, cS, g1, g2, g3, g4, g5, -⟩ := hin
      exact ⟨q, cS, g1, g2, g3, g4, g5⟩
    have hW : Z.Warmed39 T'.vm := State.Warmed39.trans (t := s.setVm vm0) hZ hS'.1
    obtain ⟨b, kb, ca, cb, f1, f2, f3, f4, f5, f6, f7⟩ := own_slFacts hW.alike hs htext ht hz hl
    have hfa : T'.vm.interned.find? (fun p => p.1 == u2) = some (u2, a) := by
      obtain ⟨k2, hk2, hke, -, ee, -⟩ := hS'.1.2.2.2 m.cls k hkz
      cases hkk.symm.trans hk2
      rcases ee index with e0 | ⟨hop, r, e1, hr | ⟨y3, t3, i3, u3, rfl, -, q3, q4, q5⟩⟩
      · exfalso
        refine hy ⟨a, ?_⟩
        show (s.setVm vm0).resolvedAt? own index = some (.string a)
        have e2 : k.resolved[index]? = some (some (.string a)) := e0 ▸ hrr
        simp [State.resolvedAt?, hown, hkz', e2]
      · exfalso
        cases r <;> simp [State.rightAt, hkz', hcf, hnm] at hr
      · rw [hcf] at q3 q4
        obtain rfl : i3 = i := by simpa using q3.symm.trans hp
        obtain rfl : u3 = u2 := by simpa [ConstantPool.utf8?, hu] using q4.symm
        obtain rfl : y3 = a := by simpa using e1.symm.trans hrr
        exact q5
    subst eT
    have E := ext_of hb
    refine ⟨a, T', _, _, b, kb, ca, cb, u2, X', rfl, E, hS.trans hS' (Nat.le_trans hk E.1), Nat.le_refl _, hW, by rw [show (s.setVm T'.vm).vm = T'.vm from rfl, hS'.1.alike.findClass]; exact hown, f1, f2, f3, f4, f5, f6, f7, htext, fun u' y hf => ?_, fun Ts J => IB.step J (by rw [← hTi]; exact hint), ?_, st⟩
    · by_cases hq : u' = u2
      · subst hq
        have : y = a := by simpa using hf.symm.trans hfa
        subst this
        exact Or.inr (List.mem_cons_self ..)
      · refine (I u' y ?_).imp id (List.mem_cons_of_mem _)
        rw [← hTi]
        rcases hint with e1 | ⟨u3, y3, ht3, e1⟩
        · rw [← e1]; exact hf
        · obtain rfl := same u3 ht3
          rw [e1, Array.find?_push] at hf
          have hne : (u3 == u') = false := by simpa using fun z => hq z.symm
          simpa [hne] using hf
    · have hf : T'.vm.findClass own = some m.cls := by rw [hS'.1.alike.findClass]; exact hown
      simp [Lit, State.resolvedAt?, hf, hkk, hrr]
theorem own_backHC {y : MethodName} {bytes : ByteArray} {maxL : Nat} {ret : Option FieldType} {rm : Room} {len W : Nat} {as' : Array Value} {Q : Option Value → Vm → Heap → List Loc → Prop} {C : List (String × Nat)}
    (hM : MetFree l y (head1 [Cond.code y bytes maxL ret] rm) (fun a U => a = as' ∧ Z.Warmed39 U.vm ∧ U.heap = h ∧ OwnI Z U.vm Ps ∧ ∀ c ∈ C, ConstHeldL U c.1 c.2) (fun _ _ _ _ _ => True) (fun _ U o U' => ∃ v L, o = .returned v ∧ Q v U'.vm U'.heap L ∧ ReturnedEndW U o U' L rm.cells rm.slots))
    (hZ : Z.Warmed39 s.vm) (I : OwnI Z s.vm Ps) (hC : ∀ U : State, Z.Warmed39 U.vm → s.WarmedH U.vm → U.heap = h → ∀ c ∈ C, ConstHeldL U c.1 c.2) (wc : (Cond.code y bytes maxL ret).before a0 Z = true) (wz : (Cond.initialized y.cls).before a0 Z = true) (hf : rm.frames + 1 ≤ R.frames) (hl : W + (maxL + 11) + rm.locals ≤ R.locals) :
    BackS l R p e below s args y len W (fun A a => a = as' ∧ A.U.heap = h ∧ A.cells + rm.cells ≤ R.cells ∧ A.slots + rm.slots ≤ R.slots)
      (fun A _ v B => ∃ L, Q v B.U.vm B.U.heap L ∧ B.locs = A.locs ++ L ∧ B.cells = A.cells + rm.cells ∧ B.slots = A.slots + rm.slots) :=
  BackS.of_freeW (bytes := bytes) (maxL := maxL) (ret := ret) (E := fun _ _ o t L k n => k = rm.cells ∧ n = rm.slots ∧ ∃ v, o = .returned v ∧ Q v t.vm t.heap L) hM hf hl
    (fun m meth c A a Y hp => have hU : Z.Warmed39 A.U.vm := wtrans hZ Y.warmed
      ⟨by show (Cond.and _ .tt).before a A.U = true; rw [Cond.before_and, mv hU wc]; rfl, mv hU wc, mv hU wz, hp.2.2.1, hp.2.2.2⟩)
    (fun m meth c A a g mk Y hp => ⟨hp.1, wtrans hZ Y.warmed, hp.2.1, own_iH I Y.warmed, hC (A.U.calling g mk a) (wtrans hZ Y.warmed) Y.warmed hp.2.1⟩) (fun _ _ _ _ _ _ _ _ _ => trivial)
    (fun _ _ _ _ ⟨v, L, h1, h2, h3⟩ => ⟨L, _, _, h3, rfl, rfl, v, h1, h2⟩)
    (fun m meth c A a g mk v t L k n Y hp _ _ ⟨e1, e2, v', e3, e4⟩ => by cases e3; subst e1 e2; exact ⟨L, e4, rfl, rfl, rfl⟩)
theorem own_heldMv (hW : s.WarmedH U.vm) (w : (Cond.stringLink own index text).before a0 s = true) (hh : U.heap = s.heap) (hH : ConstHeldL s own index) : ConstHeldL U own index :=
  own_held (Ps := []) hW.wide w (own_iH OwnI.start hW) (fun b cl q => by rw [hh]; exact q) hH (fun q hq => by cases hq)
end OwnH
theorem own_lt (x y : Int32) : (x < y) = (x.toInt < y.toInt) := propext Int32.lt_iff_toInt_lt
theorem own_eq (x y : Int32) : (x = y) = (x.toInt = y.toInt) := propext Int32.toInt_inj.symm
theorem own_rem (x k : Int32) (hk : 0 < k.toInt) : ¬ ((x &&& 2147483647) % k < 0) ∧ (x &&& 2147483647) % k < k := by
  have h1 := c_mask x 2147483647 31 (by decide) (by decide)
  have h2 := c_iremV (x &&& 2147483647) k
  have h3 : 0 ≤ (x &&& 2147483647).toInt := by rw [h1]; exact Int.emod_nonneg _ (by decide)
  have h4 := h2.1 h3 hk
  rw [own_lt, own_lt]
  have h5 : (0 : Int32).toInt = 0 := rfl
  omega
section OwnT
variable {s : State} {ar : Array Value}
theorem own_fldR {t : Term} {x y : Addr} {C n d : String} (ht : t.eval ar s none [] s = some (.ref x)) (e : (Term.field t C n d).eval ar s none [] s = some (.ref y)) : Fld s s.heap x C n d (.ref y) := Fld.start ((fld_at ht).symm.trans e)
theorem own_int {t : Term} {k : Int32} (q : (Jvm.Cond.eq t (.int k)).value ar s none s [] = some true) : t.eval ar s none [] s = some (.int k) := by
  obtain ⟨u, w, e1, e2, -, k2⟩ := cmp_v (Or.inl q)
  have e3 : (Term.int k).eval ar s none [] s = some (.int k) := Term.int_eval k
  rw [e3] at e2
  obtain rfl := Option.some.inj e2
  obtain ⟨z, rfl⟩ := k2
  have e4 : z = k := gotT (Cond.eq_ints e1 e3) q
  subst e4
  exact e1
theorem own_lenv {t : Term} {x : Addr} {cl : Cell} {ty : FieldType} {n : Int32} (ev : t.eval ar s none [] s = some (.ref x)) (A : Arr s s.heap x cl ty) (q : (Jvm.Cond.eq (.length t) (.int n)).value ar s none s [] = some true) : cl.slots.size < 2 ^ 31 ∧ cl.slots.size.toInt32 = n := by
  have e1 := own_int q
  obtain ⟨a, cell, h1, h2, h3⟩ := Term.length_spec e1
  cases ev.symm.trans h1
  have h4 : s.arrayAt? x = some cl := A.fin (Vm.Alike.refl _)
  cases h2.symm.trans h4
  refine ⟨?_, (Value.int.inj h3).symm⟩
  by_cases hlt : cl.slots.size < 2147483648
  · exact hlt
  · exfalso
    simp [Term.eval, h1, h4, hlt] at e1
theorem own_elemv {t : Term} {x : Addr} {cl : Cell} {ty : FieldType} {i k : Int32} (ev : t.eval ar s none [] s = some (.ref x)) (A : Arr s s.heap x cl ty) (q : (Jvm.Cond.eq (.elem t (.int i)) (.int k)).value ar s none s [] = some true) : cl.slots[i.toNatClampNeg]? = some (.int k) :=
  (elem_in (own_int q) ev (Term.int_eval i) A.1).2
end OwnT
section OwnTR
variable {s : State} {ar : Array Value}
theorem own_elemR {t u : Term} {x y : Addr} {cl : Cell} {ty : FieldType} {i : Int32} (ev : t.eval ar s none [] s = some (.ref x)) (A : Arr s s.heap x cl ty) (eu : u.eval ar s none [] s = some (.ref y)) (q : (Jvm.Cond.eq (.elem t (.int i)) u).value ar s none s [] = some true) : cl.slots[i.toNatClampNeg]? = some (.ref y) := by
  have e1 : (Term.elem t (.int i)).eval ar s none [] s = some (.ref y) := Cond.eq_refs (Cond.before_iff.mpr q) eu rfl
  exact (elem_in e1 ev (Term.int_eval i) A.1).2
theorem own_fldN {t : Term} {x : Addr} {C n d : String} (ht : t.eval ar s none [] s = some (.ref x)) (q : (Jvm.Cond.eq (.field t C n d) .null).value ar s none s [] = some true) : Fld s s.heap x C n d .null := Fld.start ((fld_at ht).symm.trans (Cond.eq_refs (Cond.before_iff.mpr q) rfl rfl))
end OwnTR
theorem own_cod0 : StrChars.Road.CodA ([(115 : Int32), (116 : Int32), (114 : Int32), (105 : Int32), (110 : Int32), (103 : Int32)] : List Int32) 0 (6 : Int32) [(.int (115 : Int32)), (.int (116 : Int32)), (.int (114 : Int32)), (.int (105 : Int32)), (.int (110 : Int32)), (.int (103 : Int32))] := Or.inl ⟨rfl, by decide, by first | rfl | decide +kernel, by decide⟩
theorem own_b0 : ∀ c ∈ ([(115 : Int32), (116 : Int32), (114 : Int32), (105 : Int32), (110 : Int32), (103 : Int32)] : List Int32), ¬ c < 0 ∧ ¬ (65535 : Int32) < c := by decide
theorem own_e0 : ∀ c ∈ ([(115 : Int32), (116 : Int32), (114 : Int32), (105 : Int32), (110 : Int32), (103 : Int32)] : List Int32), ¬ c < 0 ∧ ¬ (255 : Int32) < c := by decide
theorem own_cod1 : StrChars.Road.CodA ([(105 : Int32), (110 : Int32), (116 : Int32), (101 : Int32), (103 : Int32), (101 : Int32), (114 : Int32)] : List Int32) 0 (7 : Int32) [(.int (105 : Int32)), (.int (110 : Int32)), (.int (116 : Int32)), (.int (101 : Int32)), (.int (103 : Int32)), (.int (101 : Int32)), (.int (114 : Int32))] := Or.inl ⟨rfl, by decide, by first | rfl | decide +kernel, by decide⟩
theorem own_b1 : ∀ c ∈ ([(105 : Int32), (110 : Int32), (116 : Int32), (101 : Int32), (103 : Int32), (101 : Int32), (114 : Int32)] : List Int32), ¬ c < 0 ∧ ¬ (65535 : Int32) < c := by decide
theorem own_e1 : ∀ c ∈ ([(105 : Int32), (110 : Int32), (116 : Int32), (101 : Int32), (103 : Int32), (101 : Int32), (114 : Int32)] : List Int32), ¬ c < 0 ∧ ¬ (255 : Int32) < c := by decide
theorem own_cod2 : StrChars.Road.CodA ([(102 : Int32), (108 : Int32), (111 : Int32), (97 : Int32), (116 : Int32)] : List Int32) 0 (5 : Int32) [(.int (102 : Int32)), (.int (108 : Int32)), (.int (111 : Int32)), (.int (97 : Int32)), (.int (116 : Int32))] := Or.inl ⟨rfl, by decide, by first | rfl | decide +kernel, by decide⟩
theorem own_b2 : ∀ c ∈ ([(102 : Int32), (108 : Int32), (111 : Int32), (97 : Int32), (116 : Int32)] : List Int32), ¬ c < 0 ∧ ¬ (65535 : Int32) < c := by decide
theorem own_e2 : ∀ c ∈ ([(102 : Int32), (108 : Int32), (111 : Int32), (97 : Int32), (116 : Int32)] : List Int32), ¬ c < 0 ∧ ¬ (255 : Int32) < c := by decide
theorem own_cod3 : StrChars.Road.CodA ([(100 : Int32), (111 : Int32), (117 : Int32), (98 : Int32), (108 : Int32), (101 : Int32)] : List Int32) 0 (6 : Int32) [(.int (100 : Int32)), (.int (111 : Int32)), (.int (117 : Int32)), (.int (98 : Int32)), (.int (108 : Int32)), (.int (101 : Int32))] := Or.inl ⟨rfl, by decide, by first | rfl | decide +kernel, by decide⟩
theorem own_b3 : ∀ c ∈ ([(100 : Int32), (111 : Int32), (117 : Int32), (98 : Int32), (108 : Int32), (101 : Int32)] : List Int32), ¬ c < 0 ∧ ¬ (65535 : Int32) < c := by decide
theorem own_e3 : ∀ c ∈ ([(100 : Int32), (111 : Int32), (117 : Int32), (98 : Int32), (108 : Int32), (101 : Int32)] : List Int32), ¬ c < 0 ∧ ¬ (255 : Int32) < c := by decide
theorem own_cod4 : StrChars.Road.CodA ([(98 : Int32), (111 : Int32), (111 : Int32), (108 : Int32), (101 : Int32), (97 : Int32), (110 : Int32)] : List Int32) 0 (7 : Int32) [(.int (98 : Int32)), (.int (111 : Int32)), (.int (111 : Int32)), (.int (108 : Int32)), (.int (101 : Int32)), (.int (97 : Int32)), (.int (110 : Int32))] := Or.inl ⟨rfl, by decide, by first | rfl | decide +kernel, by decide⟩
theorem own_b4 : ∀ c ∈ ([(98 : Int32), (111 : Int32), (111 : Int32), (108 : Int32), (101 : Int32), (97 : Int32), (110 : Int32)] : List Int32), ¬ c < 0 ∧ ¬ (65535 : Int32) < c := by decide
theorem own_e4 : ∀ c ∈ ([(98 : Int32), (111 : Int32), (111 : Int32), (108 : Int32), (101 : Int32), (97 : Int32), (110 : Int32)] : List Int32), ¬ c < 0 ∧ ¬ (255 : Int32) < c := by decide
theorem own_cod5 : StrChars.Road.CodA ([] : List Int32) 0 (0 : Int32) [] := Or.inl ⟨rfl, by decide, by first | rfl | decide +kernel, by decide⟩
theorem own_b5 : ∀ c ∈ ([] : List Int32), ¬ c < 0 ∧ ¬ (65535 : Int32) < c := by decide
theorem own_e5 : ∀ c ∈ ([] : List Int32), ¬ c < 0 ∧ ¬ (255 : Int32) < c := by decide
def oRes (c : Nat → Addr) (ds : List Int32) : Value := if ds = ([(115 : Int32), (116 : Int32), (114 : Int32), (105 : Int32), (110 : Int32), (103 : Int32)] : List Int32) then .ref (c 0) else if ds = ([(105 : Int32), (110 : Int32), (116 : Int32), (101 : Int32), (103 : Int32), (101 : Int32), (114 : Int32)] : List Int32) then .ref (c 1) else if ds = ([(102 : Int32), (108 : Int32), (111 : Int32), (97 : Int32), (116 : Int32)] : List Int32) then .ref (c 2) else if ds = ([(100 : Int32), (111 : Int32), (117 : Int32), (98 : Int32), (108 : Int32), (101 : Int32)] : List Int32) then .ref (c 3) else if ds = ([(98 : Int32), (111 : Int32), (111 : Int32), (108 : Int32), (101 : Int32), (97 : Int32), (110 : Int32)] : List Int32) then .ref (c 4) else .null
theorem oRes_ref (c : Nat → Addr) (ds : List Int32) : (oRes c ds).isRef = true := by
  unfold oRes
  repeat (split; rfl)
  rfl
theorem own_zz {P : Prop} {v : Option Value} (h : (v = some (.int 1) ∧ P) ∨ (v = some (.int 0) ∧ ¬ P)) : ∃ z : Int32, v = some (.int z) ∧ ((z = 1 ∧ P) ∨ (z = 0 ∧ ¬ P)) := by
  rcases h with ⟨h, q⟩ | ⟨h, q⟩
  · exact ⟨1, h, Or.inl ⟨rfl, q⟩⟩
  · exact ⟨0, h, Or.inr ⟨rfl, q⟩⟩
theorem own_zp {P : Prop} {z : Int32} (h : (z = 1 ∧ P) ∨ (z = 0 ∧ ¬ P)) (q : P) : ¬ z = 0 := by
  rcases h with ⟨rfl, -⟩ | ⟨-, n⟩
  · decide
  · exact absurd q n
theorem own_zn {P : Prop} {z : Int32} (h : (z = 1 ∧ P) ∨ (z = 0 ∧ ¬ P)) (q : ¬ P) : z = 0 := by
  rcases h with ⟨-, n⟩ | ⟨h, -⟩
  · exact absurd n q
  · exact h
theorem own_z0 {P : Prop} {z : Int32} (h : (z = 1 ∧ P) ∨ (z = 0 ∧ ¬ P)) (q : z = 0) : ¬ P := fun n => own_zp h n q
theorem own_z1 {P : Prop} {z : Int32} (h : (z = 1 ∧ P) ∨ (z = 0 ∧ ¬ P)) (q : ¬ z = 0) : P := by
  rcases h with ⟨-, n⟩ | ⟨h, -⟩
  · exact n
  · exact absurd h q
theorem own_ch (x : Int32) : ¬ nar .char ((x &&& 255).toUInt32.toUInt16.toUInt32.toInt32) < 0 ∧ ¬ (255 : Int32) < nar .char ((x &&& 255).toUInt32.toUInt16.toUInt32.toInt32) := by
  have h0 : nar .char ((x &&& 255).toUInt32.toUInt16.toUInt32.toInt32) = (x &&& 255).toUInt32.toUInt16.toUInt32.toInt32 := Value.int.inj (XT.narrow_c _)
  rw [h0]
  have h1 := c_i2c (x &&& 255)
  have h2 := c_mask x 255 8 (by decide) (by decide)
  simp only [own_lt, Int32.reduceToInt]
  omega
theorem own_nc {c : Int32} (h : ¬ c < 0 ∧ ¬ (255 : Int32) < c) : nar .char c = c := by
  simp only [own_lt, Int32.reduceToInt] at h
  have h1 := c_i2c c
  have h2 : c.toUInt32.toUInt16.toUInt32.toInt32 = c := by rw [own_eq]; omega
  have h3 : nar .char (c.toUInt32.toUInt16.toUInt32.toInt32) = c.toUInt32.toUInt16.toUInt32.toInt32 := Value.int.inj (XT.narrow_c _)
  rw [h2] at h3
  exact h3
theorem own_9 {k : Int32} (h : ¬ k < 0 ∧ k < 9) : k = 0 ∨ k = 1 ∨ k = 2 ∨ k = 3 ∨ k = 4 ∨ k = 5 ∨ k = 6 ∨ k = 7 ∨ k = 8 := by
  simp only [own_lt, own_eq, Int32.reduceToInt] at h ⊢
  omega
theorem own_up {cs : List Int32} (hp : ∀ z ∈ cs, ¬ z < 0 ∧ ¬ (255 : Int32) < z) : ∀ c ∈ cs, ¬ c < 0 ∧ ¬ (65535 : Int32) < c := fun c hc => by
  have h := hp c hc
  simp only [own_lt, Int32.reduceToInt] at h ⊢
  omega
theorem own_len9 {n : Nat} (h : n ≤ 8) : ¬ Int32.ofNat n < 0 ∧ Int32.ofNat n < 9 := by
  have e : (Int32.ofNat n).toInt = n := Int32.toInt_ofNat_of_lt (by omega)
  simp only [own_lt, Int32.reduceToInt, e]
  omega
theorem own_ix {i : Int32} {n : Nat} (h0 : ¬ i < 0) (h1 : i < Int32.ofNat n) (h : n ≤ 8) : i.toNatClampNeg < n ∧ i = Int32.ofNat i.toNatClampNeg := by
  have e : (Int32.ofNat n).toInt = n := Int32.toInt_ofNat_of_lt (by omega)
  simp only [own_lt, Int32.reduceToInt, e] at h0 h1
  have e1 : (i.toNatClampNeg : Int) = i.toInt := by
    show ((i.toInt.toNat : Nat) : Int) = i.toInt
    omega
  refine ⟨by omega, ?_⟩
  rw [own_eq, Int32.toInt_ofNat_of_lt (by omega), e1]
theorem own_chG {cs : List Int32} (hp : ∀ z ∈ cs, ¬ z < 0 ∧ ¬ (255 : Int32) < z) (j : Nat) : ¬ nar .char (cs.getD j 0) < 0 ∧ ¬ (255 : Int32) < nar .char (cs.getD j 0) := by
  have h : ¬ cs.getD j 0 < 0 ∧ ¬ (255 : Int32) < cs.getD j 0 := by
    rw [List.getD_eq_getElem?_getD]
    cases hj : cs[j]? with
    | none => decide
    | some z => exact hp z (List.mem_of_getElem? hj)
  rw [own_nc h]
  exact h
theorem dev_0 : decode jdk_42_method_149_code 0 = .ok (.aload_n 0, 1) := by decide +kernel
theorem dev_1 : decode jdk_42_method_149_code 1 = .ok (.invokespecial 1, 3) := by decide +kernel
theorem dev_4 : decode jdk_42_method_149_code 4 = .ok (.iload_n 3, 1) := by decide +kernel
theorem dev_5 : decode jdk_42_method_149_code 5 = .ok (.ifCond .ne 22, 3) := by decide +kernel
theorem dev_8 : decode jdk_42_method_149_code 8 = .ok (.aload_n 0, 1) := by decide +kernel
theorem dev_9 : decode jdk_42_method_149_code 9 = .ok (.ldc 7, 2) := by decide +kernel
theorem dev_11 : decode jdk_42_method_149_code 11 = .ok (.getfield 9, 3) := by decide +kernel
theorem dev_14 : decode jdk_42_method_149_code 14 = .ok (.putfield 9, 3) := by decide +kernel
theorem dev_17 : decode jdk_42_method_149_code 17 = .ok (.aload_n 0, 1) := by decide +kernel
theorem dev_18 : decode jdk_42_method_149_code 18 = .ok (.ldc 7, 2) := by decide +kernel
theorem dev_20 : decode jdk_42_method_149_code 20 = .ok (.getfield 15, 3) := by decide +kernel
theorem dev_23 : decode jdk_42_method_149_code 23 = .ok (.putfield 15, 3) := by decide +kernel
theorem dev_26 : decode jdk_42_method_149_code 26 = .ok (.return_, 1) := by decide +kernel
theorem pnev : plainName "java/lang/String" = true := by first | (simp [plainName, overriddenIn]; done) | decide +kernel
theorem efev (m : MethodId) (x0 : Addr) (x1 : Addr) (x2 : Int32) (x3 : Int32) : entryFrame m #[(.ref x0), (.ref x1), (.int x2), (.int x3), .null] 6 = mkF m 0 #[.val (.ref x0), .val (.ref x1), .val (.int x2), .val (.int x3), .val .null, .unset] [] := by first | (simp [entryFrame, mkF, argsToLocals, Value.category, maxLocals]; done) | rfl
def Qev (Z : State) (x : Addr) (b : Addr) (kb : ClassId) (Ps : List (Array UInt16 × Addr)) (h0 : Heap) (n0 : Nat) (v : Option Value) (vm : Vm) (h : Heap) (L : List Loc) : Prop := v = none ∧ Fr n0 L ∧ Keep h0 h [x] ∧ ∃ (ub : Addr) (kb : ClassId) (un : Array UInt16) (u : Addr), Exa Z h x "java/lang/String" ∧ Fld Z h x "java/lang/String" "coder" "B" (.int (0 : Int32)) ∧ Fld Z h x "java/lang/String" "value" "[B" (.ref ub) ∧ Arv Z h ub kb .byte (0 : Int32) [] (.int (0 : Int32)) ∧ utf16ToString? un = some "" ∧ OwnI Z vm ((un, u) :: Ps)
set_option maxRecDepth 65536 in
set_option maxHeartbeats 40000000 in
theorem rmev (l : Launch) (Z : State) (a0 : Array Value) (hw : ∀ d ∈ tables_1, d.before a0 Z = true) (ws : List Jvm.Cond) (x : Addr) (b : Addr) (kb : ClassId) (Ps : List (Array UInt16 × Addr)) (h0 : Heap) (n0 : Nat) (O0 : Old Z n0 h0) (E_x : Exa Z h0 x "java/lang/String") (F_x_coder : Fld Z h0 x "java/lang/String" "coder" "B" (.int (0 : Int32))) (F_x_value : Fld Z h0 x "java/lang/String" "value" "[B" .null) (V_b : Arv Z h0 b kb .char (0 : Int32) [] (.int (0 : Int32))) (gx : n0 ≤ x) (nbx : b ≠ x) :
    MetFree l (⟨"java/lang/String", "<init>", "([CIILjava/lang/Void;)V"⟩ : MethodName) (head1 (Jvm.Cond.code (⟨"java/lang/String", "<init>", "([CIILjava/lang/Void;)V"⟩ : MethodName) jdk_42_method_149_code 6 none :: ws) ({ frames := 1, cells := 2, slots := 4, locals := 12 } : Room)) (fun A_ U_ => A_ = #[(.ref x), (.ref b), (.int (0 : Int32)), (.int (0 : Int32)), .null] ∧ Z.Warmed39 U_.vm ∧ U_.heap = h0 ∧ OwnI Z U_.vm Ps ∧ ∀ c ∈ ([("java/lang/String", 7)] : List (String × Nat)), ConstHeldL U_ c.1 c.2) (fun _ _ _ _ _ => True) (fun _ U o U' => ∃ v L, o = .returned v ∧ Qev Z x b kb Ps h0 n0 v U'.vm U'.heap L ∧ ReturnedEndW U o U' L ({ frames := 1, cells := 2, slots := 4, locals := 12 } : Room).cells ({ frames := 1, cells := 2, slots := 4, locals := 12 } : Room).slots) := by
  refine MetFree.of_bodySF (plainFor_of_name pnev) hisR ?_
  intro p e s m args below meth cd s₁ Bd hml0 hP hK
  obtain ⟨rfl, hZ, hh, I0, hHC⟩ := hP
  have hZs := hZ
  have J0 : IB s s.vm [] := IB.start
  have M0 : Fr s.heap.size [] := Fr.nil _
  have hS0 : s.Since s.vm h0.size := State.WarmedH.since (State.WarmedH.refl s) _
  have hk0 : h0.size ≤ h0.size := Nat.le_refl _
  have hx := Bd.exec
  have hby := Bd.bytes
  have hlk : meth.locks = false := BodyLoose.notSynchronized Bd
  have hml : cd.maxLocals = 6 := hml0
  have hown : s.vm.findClass "java/lang/String" = some m.cls := findClass_of_methodNamed Bd.named
  have hnm := (name_of_methodNamed Bd.named Bd.method).1
  have X0 : Stand p l e ({ frames := 1, cells := 2, slots := 4, locals := 12 } : Room) s m #[(.ref x), (.ref b), (.int (0 : Int32)), (.int (0 : Int32)), .null] below meth cd s₁ [] 0 0 := Stand.of_body Bd
  have e0 : s₁.heap = h0 := by rw [← hh, Bd.state]; rfl
  have N0 := Fr.nil n0
  have K0 : Keep h0 h0 [x] := Keep.refl _ _
  have wS : ∀ a ∈ Bundle.stringAtoms, a.before a0 Z = true := fun d hd => hw d ((by decide +kernel : ∀ d ∈ Bundle.stringAtoms, d ∈ tables_1) d hd)
  have G : GoV p e below s 2 4 (Qev Z x b kb Ps h0 n0) (s₁.setTop (mkF m 0 #[.val (.ref x), .val (.ref b), .val (.int (0 : Int32)), .val (.int (0 : Int32)), .val .null, .unset] [])) := by
    show GoV p e below s _ _ _ (s₁.setTop (mkF m 0 #[.val (.ref x), .val (.ref b), .val (.int (0 : Int32)), .val (.int (0 : Int32)), .val .null, .unset] []))
    refine GoV.st (fun _ kq_ => XS.aloadN X0.here hx rfl (hb hby dev_0) rfl rfl kq_) ?_
    show GoV p e below s _ _ _ (s₁.setTop (mkF m 1 #[.val (.ref x), .val (.ref b), .val (.int (0 : Int32)), .val (.int (0 : Int32)), .val .null, .unset] [(.ref x)]))
    obtain ⟨T1, X1, e1, st1⟩ := initO X0 hx hZ hown (own_w hw 31 rfl) (own_w hw 32 rfl) (own_w hw 33 rfl) e0 (g := (mkF m 1 #[.val (.ref x), .val (.ref b), .val (.int (0 : Int32)), .val (.int (0 : Int32)), .val .null, .unset] [(.ref x)])) rfl (by rw [hml]; rfl) rfl (hb hby dev_1) (by decide) (W := 0) (by show 2 * 0 + _ ≤ _; exact Nat.le_of_eq rfl) (by decide)
    refine GoV.st st1 ?_
    show GoV p e below s _ _ _ (T1.setTop (mkF m 4 #[.val (.ref x), .val (.ref b), .val (.int (0 : Int32)), .val (.int (0 : Int32)), .val .null, .unset] []))
    refine GoV.st (fun _ kq_ => XS.iloadN X1.here hx rfl (hb hby dev_4) rfl kq_) ?_
    show GoV p e below s _ _ _ (T1.setTop (mkF m 5 #[.val (.ref x), .val (.ref b), .val (.int (0 : Int32)), .val (.int (0 : Int32)), .val .null, .unset] [(.int (0 : Int32))]))
    refine GoV.st (fun _ kq_ => XS.ifNo X1.here hx rfl (hb hby dev_5) rfl (by decide) kq_) ?_
    show GoV p e below s _ _ _ (T1.setTop (mkF m 8 #[.val (.ref x), .val (.ref b), .val (.int (0 : Int32)), .val (.int (0 : Int32)), .val .null, .unset] []))
    refine GoV.st (fun _ kq_ => XS.aloadN X1.here hx rfl (hb hby dev_8) rfl rfl kq_) ?_
    show GoV p e below s _ _ _ (T1.setTop (mkF m 9 #[.val (.ref x), .val (.ref b), .val (.int (0 : Int32)), .val (.int (0 : Int32)), .val .null, .unset] [(.ref x)]))
    obtain ⟨u2, T2, h2, kk2, ub2, kb2, ca2, cb2, un2, X2, e2, E2, hS2, hk2, hZ2, hown2, NE, NC, NV, NB, NCa, NCb, Sk2, tx2, I2, hJ2, LT2, st2⟩ := own_ldcH (vm0 := s.vm) X1 hx hZ hown (own_w hw 34 rfl) wS e1 hS0 hk0 M0 (hHC ("java/lang/String", 7) (by decide)) I0 (vs := []) (z := (0 : Int32)) (by decide) (by decide) rfl (g := (mkF m 9 #[.val (.ref x), .val (.ref b), .val (.int (0 : Int32)), .val (.int (0 : Int32)), .val .null, .unset] [(.ref x)])) rfl (hb hby dev_9) (n := 0) (by decide) (by decide) (by decide) (by decide)
    have J2 := hJ2 _ J0
    have E_x := E_x.ext E2
    have F_x_coder := F_x_coder.ext E2
    have F_x_value := F_x_value.ext E2
    have V_b := V_b.ext E2
    have O2 := O0.ext E2
    have K2 := K0.ext E2
    have E_u2 : Exa Z h2 u2 "java/lang/String" := NE
    have F_u2_coder : Fld Z h2 u2 "java/lang/String" "coder" "B" (.int (0 : Int32)) := NC
    have F_u2_value : Fld Z h2 u2 "java/lang/String" "value" "[B" (.ref ub2) := NV
    have V_ub2 : Arv Z h2 ub2 kb2 .byte (0 : Int32) [] (.int (0 : Int32)) := NB
    have C_u2 : Cel h2 u2 ca2 := NCa
    have C_ub2 : Cel h2 ub2 cb2 := NCb
    refine GoV.st st2 ?_
    show GoV p e below s _ _ _ (T2.setTop (mkF m 11 #[.val (.ref x), .val (.ref b), .val (.int (0 : Int32)), .val (.int (0 : Int32)), .val .null, .unset] [(.ref u2), (.ref x)]))
    have ne_u_x : u2 ≠ x := own_fldne F_u2_value F_x_value
    have ne_x_ub : x ≠ ub2 := Exa.neArv E_x V_ub2 (own_w hw 2 rfl)
    obtain ⟨T3, X3, e3, st3⟩ := getF X2 hx hZ2 hown2 (host := "") (Or.inl (own_w hw 13 rfl)) Via.refl e2 F_u2_value (g := (mkF m 11 #[.val (.ref x), .val (.ref b), .val (.int (0 : Int32)), .val (.int (0 : Int32)), .val .null, .unset] [(.ref u2), (.ref x)])) rfl rfl (hb hby dev_11)
    refine GoV.st st3 ?_
    show GoV p e below s _ _ _ (T3.setTop (mkF m 14 #[.val (.ref x), .val (.ref b), .val (.int (0 : Int32)), .val (.int (0 : Int32)), .val .null, .unset] [(.ref ub2), (.ref x)]))
    obtain ⟨T4, h4, X4, e4, W4, st4⟩ := putF X3 hx hZ2 hown2 (host := "") (Or.inl (own_w hw 13 rfl)) Via.refl e3 F_x_value E_x (Or.inr ⟨(own_w hw 4 rfl), rfl, hnm⟩) (own_w hw 2 rfl) (ty := (.array .byte)) (by decide) rfl rfl (g := (mkF m 14 #[.val (.ref x), .val (.ref b), .val (.int (0 : Int32)), .val (.int (0 : Int32)), .val .null, .unset] [(.ref ub2), (.ref x)])) rfl rfl (hb hby dev_14)
    obtain ⟨lc4, X4, N4⟩ := own_gen X4 (Fr.snoc X4 N0 gx)
    have O4 := O2.wr W4 gx
    have K4 := K2.wr W4 (Or.inl (List.mem_of_getElem? (i := 0) rfl))
    have E_x := E_x.wr W4
    have F_x_coder := F_x_coder.other W4 (Or.inr (slot_ne (Or.inr (own_w hw 5 rfl)) (Or.inr (own_w hw 4 rfl)) (by decide) (by decide : parseFieldDescriptor "B" = some .byte) (by decide : parseFieldDescriptor "[B" = some (.array .byte))))
    have V_b := V_b.other W4 nbx
    have E_u2 := E_u2.wr W4
    have F_u2_coder := F_u2_coder.other W4 (Or.inl ne_u_x)
    have F_u2_value := F_u2_value.other W4 (Or.inl ne_u_x)
    have V_ub2 := V_ub2.other W4 (Ne.symm ne_x_ub)
    have C_u2 := C_u2.other W4 ne_u_x
    have C_ub2 := C_ub2.other W4 (Ne.symm ne_x_ub)
    have hk4 := Nat.le_trans hk2 (Nat.le_of_eq W4.size.symm)
    have F_x_value := F_x_value.same W4
    refine GoV.st st4 ?_
    show GoV p e below s _ _ _ (T4.setTop (mkF m 17 #[.val (.ref x), .val (.ref b), .val (.int (0 : Int32)), .val (.int (0 : Int32)), .val .null, .unset] []))
    refine GoV.st (fun _ kq_ => XS.aloadN X4.here hx rfl (hb hby dev_17) rfl rfl kq_) ?_
    show GoV p e below s _ _ _ (T4.setTop (mkF m 18 #[.val (.ref x), .val (.ref b), .val (.int (0 : Int32)), .val (.int (0 : Int32)), .val .null, .unset] [(.ref x)]))
    refine GoV.st (fun _ kq_ => ldcAgain (vm0 := T2.vm) X4 hx hZ2 hown2 (own_w hw 34 rfl) LT2 (g := (mkF m 18 #[.val (.ref x), .val (.ref b), .val (.int (0 : Int32)), .val (.int (0 : Int32)), .val .null, .unset] [(.ref x)])) rfl (hb hby dev_18) _ kq_) ?_
    show GoV p e below s _ _ _ (T4.setTop (mkF m 20 #[.val (.ref x), .val (.ref b), .val (.int (0 : Int32)), .val (.int (0 : Int32)), .val .null, .unset] [(.ref u2), (.ref x)]))
    obtain ⟨T6, X6, e6, st6⟩ := getF X4 hx hZ2 hown2 (host := "") (Or.inl (own_w hw 20 rfl)) Via.refl e4 F_u2_coder (g := (mkF m 20 #[.val (.ref x), .val (.ref b), .val (.int (0 : Int32)), .val (.int (0 : Int32)), .val .null, .unset] [(.ref u2), (.ref x)])) rfl rfl (hb hby dev_20)
    refine GoV.st st6 ?_
    show GoV p e below s _ _ _ (T6.setTop (mkF m 23 #[.val (.ref x), .val (.ref b), .val (.int (0 : Int32)), .val (.int (0 : Int32)), .val .null, .unset] [(.int (0 : Int32)), (.ref x)]))
    obtain ⟨T7, h7, X7, e7, W7, st7⟩ := putF X6 hx hZ2 hown2 (host := "") (Or.inl (own_w hw 20 rfl)) Via.refl e6 F_x_coder E_x (Or.inr ⟨(own_w hw 5 rfl), rfl, hnm⟩) (own_w hw 2 rfl) (ty := .byte) (by decide) rfl rfl (g := (mkF m 23 #[.val (.ref x), .val (.ref b), .val (.int (0 : Int32)), .val (.int (0 : Int32)), .val .null, .unset] [(.int (0 : Int32)), (.ref x)])) rfl rfl (hb hby dev_23)
    obtain ⟨lc7, X7, N7⟩ := own_gen X7 (Fr.snoc X7 N4 gx)
    have O7 := O4.wr W7 gx
    have K7 := K4.wr W7 (Or.inl (List.mem_of_getElem? (i := 0) rfl))
    have E_x := E_x.wr W7
    have F_x_value := F_x_value.other W7 (Or.inr (slot_ne (Or.inr (own_w hw 4 rfl)) (Or.inr (own_w hw 5 rfl)) (by decide) (by decide : parseFieldDescriptor "[B" = some (.array .byte)) (by decide : parseFieldDescriptor "B" = some .byte)))
    have V_b := V_b.other W7 nbx
    have E_u2 := E_u2.wr W7
    have F_u2_coder := F_u2_coder.other W7 (Or.inl ne_u_x)
    have F_u2_value := F_u2_value.other W7 (Or.inl ne_u_x)
    have V_ub2 := V_ub2.other W7 (Ne.symm ne_x_ub)
    have C_u2 := C_u2.other W7 ne_u_x
    have C_ub2 := C_ub2.other W7 (Ne.symm ne_x_ub)
    have hk7 := Nat.le_trans hk4 (Nat.le_of_eq W7.size.symm)
    have F_x_coder := F_x_coder.same W7
    refine GoV.st st7 ?_
    show GoV p e below s _ _ _ (T7.setTop (mkF m 26 #[.val (.ref x), .val (.ref b), .val (.int (0 : Int32)), .val (.int (0 : Int32)), .val .null, .unset] []))
    exact GoV.ret (vm1 := T2.vm) X7 hlk hS2 (by rw [e7]; exact hk7) (none) (fun _ => rfl) (by rw [e7]; exact ⟨rfl, N7, K7, ub2, _, _, _, E_x, F_x_coder, F_x_value, V_ub2, tx2, own_iH (s := s.setVm T2.vm) I2 X7.warmed⟩) (by decide) (by decide) (fun fs hr => X7.returnOut hx Bd.returns (hb hby dev_26) hr)
  obtain ⟨s2, o2, st2, r2⟩ := G
  exact ⟨s2, o2, castTop (efev m x b (0 : Int32) (0 : Int32)) st2, r2⟩
theorem de_0 : decode jdk_42_method_3_code 0 = .ok (.aload_n 0, 1) := by decide +kernel
theorem de_1 : decode jdk_42_method_3_code 1 = .ok (.aload_n 1, 1) := by decide +kernel
theorem de_2 : decode jdk_42_method_3_code 2 = .ok (.iconst 0, 1) := by decide +kernel
theorem de_3 : decode jdk_42_method_3_code 3 = .ok (.aload_n 1, 1) := by decide +kernel
theorem de_4 : decode jdk_42_method_3_code 4 = .ok (.arraylength, 1) := by decide +kernel
theorem de_5 : decode jdk_42_method_3_code 5 = .ok (.aconst_null, 1) := by decide +kernel
theorem de_6 : decode jdk_42_method_3_code 6 = .ok (.invokespecial 27, 3) := by decide +kernel
theorem de_9 : decode jdk_42_method_3_code 9 = .ok (.return_, 1) := by decide +kernel
theorem pde_0 : parseMethodDescriptor "([CIILjava/lang/Void;)V" = some ⟨[(.array .char), .int, .int, (.object "java/lang/Void")], none⟩ := by decide +kernel
theorem pne : plainName "java/lang/String" = true := by first | (simp [plainName, overriddenIn]; done) | decide +kernel
theorem efe (m : MethodId) (x0 : Addr) (x1 : Addr) : entryFrame m #[(.ref x0), (.ref x1)] 2 = mkF m 0 #[.val (.ref x0), .val (.ref x1)] [] := by first | (simp [entryFrame, mkF, argsToLocals, Value.category, maxLocals]; done) | rfl
def Qe (Z : State) (x : Addr) (b : Addr) (kb : ClassId) (Ps : List (Array UInt16 × Addr)) (h0 : Heap) (n0 : Nat) (v : Option Value) (vm : Vm) (h : Heap) (L : List Loc) : Prop := v = none ∧ Fr n0 L ∧ Keep h0 h [x] ∧ ∃ (ub : Addr) (kb : ClassId) (un : Array UInt16) (u : Addr), Exa Z h x "java/lang/String" ∧ Fld Z h x "java/lang/String" "coder" "B" (.int (0 : Int32)) ∧ Fld Z h x "java/lang/String" "value" "[B" (.ref ub) ∧ Arv Z h ub kb .byte (0 : Int32) [] (.int (0 : Int32)) ∧ utf16ToString? un = some "" ∧ OwnI Z vm ((un, u) :: Ps)
set_option maxRecDepth 65536 in
set_option maxHeartbeats 40000000 in
theorem rme (l : Launch) (Z : State) (a0 : Array Value) (hw : ∀ d ∈ tables_1, d.before a0 Z = true) (ws : List Jvm.Cond) (x : Addr) (b : Addr) (kb : ClassId) (Ps : List (Array UInt16 × Addr)) (h0 : Heap) (n0 : Nat) (O0 : Old Z n0 h0) (E_x : Exa Z h0 x "java/lang/String") (F_x_coder : Fld Z h0 x "java/lang/String" "coder" "B" (.int (0 : Int32))) (F_x_value : Fld Z h0 x "java/lang/String" "value" "[B" .null) (V_b : Arv Z h0 b kb .char (0 : Int32) [] (.int (0 : Int32))) (gx : n0 ≤ x) (nbx : b ≠ x) :
    MetFree l (⟨"java/lang/String", "<init>", "([C)V"⟩ : MethodName) (head1 (Jvm.Cond.code (⟨"java/lang/String", "<init>", "([C)V"⟩ : MethodName) jdk_42_method_3_code 2 none :: ws) ({ frames := 2, cells := 2, slots := 4, locals := 29 } : Room)) (fun A_ U_ => A_ = #[(.ref x), (.ref b)] ∧ Z.Warmed39 U_.vm ∧ U_.heap = h0 ∧ OwnI Z U_.vm Ps ∧ ∀ c ∈ ([("java/lang/String", 7)] : List (String × Nat)), ConstHeldL U_ c.1 c.2) (fun _ _ _ _ _ => True) (fun _ U o U' => ∃ v L, o = .returned v ∧ Qe Z x b kb Ps h0 n0 v U'.vm U'.heap L ∧ ReturnedEndW U o U' L ({ frames := 2, cells := 2, slots := 4, locals := 29 } : Room).cells ({ frames := 2, cells := 2, slots := 4, locals := 29 } : Room).slots) := by
  refine MetFree.of_bodySF (plainFor_of_name pne) hisR ?_
  intro p e s m args below meth cd s₁ Bd hml0 hP hK
  obtain ⟨rfl, hZ, hh, I0, hHC⟩ := hP
  have hZs := hZ
  have J0 : IB s s.vm [] := IB.start
  have M0 : Fr s.heap.size [] := Fr.nil _
  have hS0 : s.Since s.vm h0.size := State.WarmedH.since (State.WarmedH.refl s) _
  have hk0 : h0.size ≤ h0.size := Nat.le_refl _
  have hx := Bd.exec
  have hby := Bd.bytes
  have hlk : meth.locks = false := BodyLoose.notSynchronized Bd
  have hml : cd.maxLocals = 2 := hml0
  have hown : s.vm.findClass "java/lang/String" = some m.cls := findClass_of_methodNamed Bd.named
  have hnm := (name_of_methodNamed Bd.named Bd.method).1
  have X0 : Stand p l e ({ frames := 2, cells := 2, slots := 4, locals := 29 } : Room) s m #[(.ref x), (.ref b)] below meth cd s₁ [] 0 0 := Stand.of_body Bd
  have e0 : s₁.heap = h0 := by rw [← hh, Bd.state]; rfl
  have N0 := Fr.nil n0
  have K0 : Keep h0 h0 [x] := Keep.refl _ _
  have G : GoV p e below s 2 4 (Qe Z x b kb Ps h0 n0) (s₁.setTop (mkF m 0 #[.val (.ref x), .val (.ref b)] [])) := by
    show GoV p e below s _ _ _ (s₁.setTop (mkF m 0 #[.val (.ref x), .val (.ref b)] []))
    refine GoV.st (fun _ kq_ => XS.aloadN X0.here hx rfl (hb hby de_0) rfl rfl kq_) ?_
    show GoV p e below s _ _ _ (s₁.setTop (mkF m 1 #[.val (.ref x), .val (.ref b)] [(.ref x)]))
    refine GoV.st (fun _ kq_ => XS.aloadN X0.here hx rfl (hb hby de_1) rfl rfl kq_) ?_
    show GoV p e below s _ _ _ (s₁.setTop (mkF m 2 #[.val (.ref x), .val (.ref b)] [(.ref b), (.ref x)]))
    refine GoV.st (fun _ kq_ => XS.iconst X0.here hx rfl (hb hby de_2) kq_) ?_
    show GoV p e below s _ _ _ (s₁.setTop (mkF m 3 #[.val (.ref x), .val (.ref b)] [(.int (0 : Int32)), (.ref b), (.ref x)]))
    refine GoV.st (fun _ kq_ => XS.aloadN X0.here hx rfl (hb hby de_3) rfl rfl kq_) ?_
    show GoV p e below s _ _ _ (s₁.setTop (mkF m 4 #[.val (.ref x), .val (.ref b)] [(.ref b), (.int (0 : Int32)), (.ref b), (.ref x)]))
    refine GoV.st (fun _ kq_ => own_len X0 hx hZ e0 V_b (g := (mkF m 4 #[.val (.ref x), .val (.ref b)] [(.ref b), (.int (0 : Int32)), (.ref b), (.ref x)])) rfl rfl (hb hby de_4) _ kq_) ?_
    show GoV p e below s _ _ _ (s₁.setTop (mkF m 5 #[.val (.ref x), .val (.ref b)] [(.int (0 : Int32)), (.int (0 : Int32)), (.ref b), (.ref x)]))
    refine GoV.st (fun _ kq_ => XS.aconstNull X0.here hx rfl (hb hby de_5) kq_) ?_
    show GoV p e below s _ _ _ (s₁.setTop (mkF m 6 #[.val (.ref x), .val (.ref b)] [.null, (.int (0 : Int32)), (.int (0 : Int32)), (.ref b), (.ref x)]))
    have hC1 : ∀ U : State, Z.Warmed39 U.vm → s.WarmedH U.vm → U.heap = h0 → ∀ c ∈ ([("java/lang/String", 7)] : List (String × Nat)), ConstHeldL U c.1 c.2 := by
      intro U hU1 hU2 hU3 c hc
      simp only [List.mem_cons, List.not_mem_nil, or_false] at hc
      rcases hc with rfl
      · exact own_heldMv hU2 (mvS (s := s) (vm0 := s.vm) (args := #[]) hZs (own_w hw 34 rfl)) (hU3.trans hh.symm) (hHC ("java/lang/String", 7) (by decide))
    obtain ⟨_, _, ⟨T2, L2, k2, n2⟩, -, X2, hSn2, gr2, ⟨Lc2, hQ2, l2, y2, z2⟩, st2⟩ := X0.specialBackS hx (y := (⟨"java/lang/String", "<init>", "([CIILjava/lang/Void;)V"⟩ : MethodName)) rfl hown (mvT hZ (own_w hw 27 rfl)) (mvT hZ (own_w hw 28 rfl)) (mvT hZ (own_w hw 30 rfl)) (by decide) (own_backHC (W := 0) (rmev l Z a0 hw [] x b kb Ps h0 n0 O0 E_x F_x_coder F_x_value V_b gx nbx) hZ I0 hC1 (own_w hw 30 rfl) (own_w hw 1 rfl) (by decide) (by decide)) (g := (mkF m 6 #[.val (.ref x), .val (.ref b)] [.null, (.int (0 : Int32)), (.int (0 : Int32)), (.ref b), (.ref x)])) rfl (by rw [hml]; rfl) (Steps.refl _) (a := x) (argsL := [(.ref b), (.int (0 : Int32)), (.int (0 : Int32)), .null]) (rest := []) (lenOf pde_0 rfl) rfl (by show 2 * 0 + _ ≤ _; exact Nat.le_of_eq rfl) (hb hby de_6) (fun _ _ => ⟨rfl, e0, (by decide : 0 + 2 ≤ _), (by decide : 0 + 4 ≤ _)⟩)
    dsimp only [Pt.U, Pt.locs, Pt.cells, Pt.slots] at X2 l2 y2 z2 st2 hQ2
    subst y2 z2
    dsimp only [Pt.U, Pt.locs, Pt.cells, Pt.slots] at hSn2 gr2
    obtain ⟨X2, hS2, hZ2, hown2⟩ := rebS (vm0 := s.vm) hS0 (by rw [e0]; exact hk0) X2 hSn2 gr2 hZ hown
    have hk2 : T2.heap.size ≤ T2.heap.size := Nat.le_refl _
    obtain ⟨rfl, Nc2, Kc2, ub2, kb2, un2, u2, NE, NC, NV, NB, tx2, I2⟩ := hQ2
    have N2 : Fr n0 L2 := by rw [l2]; exact Fr.app N0 Nc2
    have V_b := V_b.keep Kc2 (ninS nbx nin0)
    have O2 := O0.keep Kc2 (allS gx all0)
    have K2 := K0.trans Kc2 (allS (Or.inl (List.mem_of_getElem? (i := 0) rfl)) all0)
    have E_x : Exa Z T2.heap x "java/lang/String" := NE
    have F_x_coder : Fld Z T2.heap x "java/lang/String" "coder" "B" (.int (0 : Int32)) := NC
    have F_x_value : Fld Z T2.heap x "java/lang/String" "value" "[B" (.ref ub2) := NV
    have V_ub2 : Arv Z T2.heap ub2 kb2 .byte (0 : Int32) [] (.int (0 : Int32)) := NB
    refine GoV.tr st2 ?_
    show GoV p e below s _ _ _ (T2.setTop (mkF m 9 #[.val (.ref x), .val (.ref b)] []))
    exact GoV.ret (vm1 := T2.vm) X2 hlk hS2 (by exact hk2) (none) (fun _ => rfl) (by exact ⟨rfl, N2, K2, ub2, _, _, _, E_x, F_x_coder, F_x_value, V_ub2, tx2, own_iH (s := s.setVm T2.vm) I2 X2.warmed⟩) (by decide) (by decide) (fun fs hr => X2.returnOut hx Bd.returns (hb hby de_9) hr)
  obtain ⟨s2, o2, st2, r2⟩ := G
  exact ⟨s2, o2, castTop (efe m x b) st2, r2⟩
theorem db_0 : decode method_3_code 0 = .ok (.iload_n 0, 1) := by decide +kernel
theorem db_1 : decode method_3_code 1 = .ok (.ifCond .ne 6, 3) := by decide +kernel
theorem db_4 : decode method_3_code 4 = .ok (.ldc 38, 2) := by decide +kernel
theorem db_6 : decode method_3_code 6 = .ok (.areturn, 1) := by decide +kernel
theorem db_7 : decode method_3_code 7 = .ok (.iload_n 0, 1) := by decide +kernel
theorem db_8 : decode method_3_code 8 = .ok (.iconst 1, 1) := by decide +kernel
theorem db_9 : decode method_3_code 9 = .ok (.if_icmp .ne 6, 3) := by decide +kernel
theorem db_12 : decode method_3_code 12 = .ok (.ldc 40, 2) := by decide +kernel
theorem db_14 : decode method_3_code 14 = .ok (.areturn, 1) := by decide +kernel
theorem db_15 : decode method_3_code 15 = .ok (.iload_n 0, 1) := by decide +kernel
theorem db_16 : decode method_3_code 16 = .ok (.iconst 2, 1) := by decide +kernel
theorem db_17 : decode method_3_code 17 = .ok (.if_icmp .ne 6, 3) := by decide +kernel
theorem db_20 : decode method_3_code 20 = .ok (.ldc 42, 2) := by decide +kernel
theorem db_22 : decode method_3_code 22 = .ok (.areturn, 1) := by decide +kernel
theorem db_23 : decode method_3_code 23 = .ok (.iload_n 0, 1) := by decide +kernel
theorem db_24 : decode method_3_code 24 = .ok (.iconst 3, 1) := by decide +kernel
theorem db_25 : decode method_3_code 25 = .ok (.if_icmp .ne 6, 3) := by decide +kernel
theorem db_28 : decode method_3_code 28 = .ok (.ldc 44, 2) := by decide +kernel
theorem db_30 : decode method_3_code 30 = .ok (.areturn, 1) := by decide +kernel
theorem db_31 : decode method_3_code 31 = .ok (.iload_n 0, 1) := by decide +kernel
theorem db_32 : decode method_3_code 32 = .ok (.iconst 4, 1) := by decide +kernel
theorem db_33 : decode method_3_code 33 = .ok (.if_icmp .ne 6, 3) := by decide +kernel
theorem db_36 : decode method_3_code 36 = .ok (.ldc 46, 2) := by decide +kernel
theorem db_38 : decode method_3_code 38 = .ok (.areturn, 1) := by decide +kernel
theorem db_39 : decode method_3_code 39 = .ok (.ldc 7, 2) := by decide +kernel
theorem db_41 : decode method_3_code 41 = .ok (.areturn, 1) := by decide +kernel
theorem pnb : plainName "com/example/pemmican/pemmican/DataTypeNamedPinLaw" = true := by first | (simp [plainName, overriddenIn]; done) | decide +kernel
theorem efb (m : MethodId) (x0 : Int32) : entryFrame m #[(.int x0)] 1 = mkF m 0 #[.val (.int x0)] [] := by first | (simp [entryFrame, mkF, argsToLocals, Value.category, maxLocals]; done) | rfl
def Qb (Z : State) (i : Int32) (Ps : List (Array UInt16 × Addr)) (h0 : Heap) (n0 : Nat) (v : Option Value) (vm : Vm) (h : Heap) (L : List Loc) : Prop := ∃ (a : Addr) (b : Addr) (kb : ClassId) (ca cb : Cell) (un : Array UInt16) (N : Int32) (vs : List Value) (cs : List Int32), v = some (.ref a) ∧ Fr n0 L ∧ Keep h0 h [] ∧ Exa Z h a "java/lang/String" ∧ Fld Z h a "java/lang/String" "coder" "B" (.int (0 : Int32)) ∧ Fld Z h a "java/lang/String" "value" "[B" (.ref b) ∧ Arv Z h b kb .byte N vs (.int (0 : Int32)) ∧ Cel h a ca ∧ Cel h b cb ∧ OwnSk Z a b ca cb un ∧ OwnI Z vm ((un, a) :: Ps) ∧ StrChars.Road.CodA cs 0 N vs ∧ (∀ c ∈ cs, ¬ c < 0 ∧ ¬ (255 : Int32) < c) ∧ cs.length ≤ 8
set_option maxRecDepth 65536 in
set_option maxHeartbeats 40000000 in
theorem rmb (l : Launch) (Z : State) (a0 : Array Value) (hw : ∀ d ∈ tables_1, d.before a0 Z = true) (ws : List Jvm.Cond) (i : Int32) (Ps : List (Array UInt16 × Addr)) (h0 : Heap) (n0 : Nat) (O0 : Old Z n0 h0)  :
    MetFree l (⟨"com/example/pemmican/pemmican/DataTypeNamedPinLaw", "baseName", "(I)Ljava/lang/String;"⟩ : MethodName) (head1 (Jvm.Cond.code (⟨"com/example/pemmican/pemmican/DataTypeNamedPinLaw", "baseName", "(I)Ljava/lang/String;"⟩ : MethodName) method_3_code 1 (some (.object "java/lang/String")) :: ws) ({ frames := 0, cells := 2, slots := 32, locals := 0 } : Room)) (fun A_ U_ => A_ = #[(.int i)] ∧ Z.Warmed39 U_.vm ∧ U_.heap = h0 ∧ OwnI Z U_.vm Ps ∧ ∀ c ∈ ([("com/example/pemmican/pemmican/DataTypeNamedPinLaw", 38), ("com/example/pemmican/pemmican/DataTypeNamedPinLaw", 40), ("com/example/pemmican/pemmican/DataTypeNamedPinLaw", 42), ("com/example/pemmican/pemmican/DataTypeNamedPinLaw", 44), ("com/example/pemmican/pemmican/DataTypeNamedPinLaw", 46), ("com/example/pemmican/pemmican/DataTypeNamedPinLaw", 7)] : List (String × Nat)), ConstHeldL U_ c.1 c.2) (fun _ _ _ _ _ => True) (fun _ U o U' => ∃ v L, o = .returned v ∧ Qb Z i Ps h0 n0 v U'.vm U'.heap L ∧ ReturnedEndW U o U' L ({ frames := 0, cells := 2, slots := 32, locals := 0 } : Room).cells ({ frames := 0, cells := 2, slots := 32, locals := 0 } : Room).slots) := by
  refine MetFree.of_bodySF (plainFor_of_name pnb) hisR ?_
  intro p e s m args below meth cd s₁ Bd hml0 hP hK
  obtain ⟨rfl, hZ, hh, I0, hHC⟩ := hP
  have hZs := hZ
  have J0 : IB s s.vm [] := IB.start
  have M0 : Fr s.heap.size [] := Fr.nil _
  have hS0 : s.Since s.vm h0.size := State.WarmedH.since (State.WarmedH.refl s) _
  have hk0 : h0.size ≤ h0.size := Nat.le_refl _
  have hx := Bd.exec
  have hby := Bd.bytes
  have hlk : meth.locks = false := BodyLoose.notSynchronized Bd
  have hml : cd.maxLocals = 1 := hml0
  have hown : s.vm.findClass "com/example/pemmican/pemmican/DataTypeNamedPinLaw" = some m.cls := findClass_of_methodNamed Bd.named
  have hnm := (name_of_methodNamed Bd.named Bd.method).1
  have X0 : Stand p l e ({ frames := 0, cells := 2, slots := 32, locals := 0 } : Room) s m #[(.int i)] below meth cd s₁ [] 0 0 := Stand.of_body Bd
  have e0 : s₁.heap = h0 := by rw [← hh, Bd.state]; rfl
  have N0 := Fr.nil n0
  have K0 : Keep h0 h0 [] := Keep.refl _ _
  have wS : ∀ a ∈ Bundle.stringAtoms, a.before a0 Z = true := fun d hd => hw d ((by decide +kernel : ∀ d ∈ Bundle.stringAtoms, d ∈ tables_1) d hd)
  have G : GoV p e below s 2 32 (Qb Z i Ps h0 n0) (s₁.setTop (mkF m 0 #[.val (.int i)] [])) := by
    show GoV p e below s _ _ _ (s₁.setTop (mkF m 0 #[.val (.int i)] []))
    refine GoV.st (fun _ kq_ => XS.iloadN X0.here hx rfl (hb hby db_0) rfl kq_) ?_
    show GoV p e below s _ _ _ (s₁.setTop (mkF m 1 #[.val (.int i)] [(.int i)]))
    by_cases c1_1 : i = (0 : Int32)
    · refine GoV.st (fun _ kq_ => XS.ifNo X0.here hx rfl (hb hby db_1) rfl (XT.i0_ne_f c1_1) kq_) ?_
      show GoV p e below s _ _ _ (s₁.setTop (mkF m 4 #[.val (.int i)] []))
      obtain ⟨u2, T2, h2, kk2, ub2, kb2, ca2, cb2, un2, X2, e2, E2, hS2, hk2, hZ2, hown2, NE, NC, NV, NB, NCa, NCb, Sk2, tx2, I2, hJ2, LT2, st2⟩ := own_ldcH (vm0 := s.vm) X0 hx hZ hown (own_w hw 75 rfl) wS e0 hS0 hk0 M0 (hHC ("com/example/pemmican/pemmican/DataTypeNamedPinLaw", 38) (by decide)) I0 (vs := [(.int (115 : Int32)), (.int (116 : Int32)), (.int (114 : Int32)), (.int (105 : Int32)), (.int (110 : Int32)), (.int (103 : Int32))]) (z := (6 : Int32)) (by decide) (by decide) rfl (g := (mkF m 4 #[.val (.int i)] [])) rfl (hb hby db_4) (n := 24) (by decide) (by decide) (by decide) (by decide)
      have J2 := hJ2 _ J0
      have O2 := O0.ext E2
      have K2 := K0.ext E2
      have E_u2 : Exa Z h2 u2 "java/lang/String" := NE
      have F_u2_coder : Fld Z h2 u2 "java/lang/String" "coder" "B" (.int (0 : Int32)) := NC
      have F_u2_value : Fld Z h2 u2 "java/lang/String" "value" "[B" (.ref ub2) := NV
      have V_ub2 : Arv Z h2 ub2 kb2 .byte (6 : Int32) [(.int (115 : Int32)), (.int (116 : Int32)), (.int (114 : Int32)), (.int (105 : Int32)), (.int (110 : Int32)), (.int (103 : Int32))] (.int (0 : Int32)) := NB
      have C_u2 : Cel h2 u2 ca2 := NCa
      have C_ub2 : Cel h2 ub2 cb2 := NCb
      refine GoV.st st2 ?_
      show GoV p e below s _ _ _ (T2.setTop (mkF m 6 #[.val (.int i)] [(.ref u2)]))
      exact GoV.ret (vm1 := T2.vm) X2 hlk hS2 (by rw [e2]; exact hk2) (some (.ref u2)) (fun h => by rw [Bd.returns] at h; cases h) (by rw [e2]; exact ⟨u2, ub2, _, _, _, _, _, _, ([(115 : Int32), (116 : Int32), (114 : Int32), (105 : Int32), (110 : Int32), (103 : Int32)] : List Int32), rfl, N0, K2, E_u2, F_u2_coder, F_u2_value, V_ub2, C_u2, C_ub2, Sk2, own_iH (s := s.setVm T2.vm) I2 X2.warmed, own_cod0, own_e0, by decide⟩) (by decide) (by decide) (fun fs hr => retOut X2 hx Bd.returns rfl (Or.inr (Or.inr (Or.inr (Or.inr ⟨rfl, rfl, rfl⟩)))) (hb hby db_6) hr)
    · refine GoV.st (fun _ kq_ => XS.ifYes X0.here hx rfl (pc0 := 1) (pc' := 7) rfl (hb hby db_1) rfl (XT.i0_ne_t c1_1) (by decide) (by decide) kq_) ?_
      show GoV p e below s _ _ _ (s₁.setTop (mkF m 7 #[.val (.int i)] []))
      refine GoV.st (fun _ kq_ => XS.iloadN X0.here hx rfl (hb hby db_7) rfl kq_) ?_
      show GoV p e below s _ _ _ (s₁.setTop (mkF m 8 #[.val (.int i)] [(.int i)]))
      refine GoV.st (fun _ kq_ => XS.iconst X0.here hx rfl (hb hby db_8) kq_) ?_
      show GoV p e below s _ _ _ (s₁.setTop (mkF m 9 #[.val (.int i)] [(.int (1 : Int32)), (.int i)]))
      by_cases c9_3 : i = (1 : Int32)
      · refine GoV.st (fun _ kq_ => XS.icmpNo X0.here hx rfl (hb hby db_9) rfl (XT.ii_ne_f c9_3) kq_) ?_
        show GoV p e below s _ _ _ (s₁.setTop (mkF m 12 #[.val (.int i)] []))
        obtain ⟨u4, T4, h4, kk4, ub4, kb4, ca4, cb4, un4, X4, e4, E4, hS4, hk4, hZ4, hown4, NE, NC, NV, NB, NCa, NCb, Sk4, tx4, I4, hJ4, LT4, st4⟩ := own_ldcH (vm0 := s.vm) X0 hx hZ hown (own_w hw 77 rfl) wS e0 hS0 hk0 M0 (hHC ("com/example/pemmican/pemmican/DataTypeNamedPinLaw", 40) (by decide)) I0 (vs := [(.int (105 : Int32)), (.int (110 : Int32)), (.int (116 : Int32)), (.int (101 : Int32)), (.int (103 : Int32)), (.int (101 : Int32)), (.int (114 : Int32))]) (z := (7 : Int32)) (by decide) (by decide) rfl (g := (mkF m 12 #[.val (.int i)] [])) rfl (hb hby db_12) (n := 28) (by decide) (by decide) (by decide) (by decide)
        have J4 := hJ4 _ J0
        have O4 := O0.ext E4
        have K4 := K0.ext E4
        have E_u4 : Exa Z h4 u4 "java/lang/String" := NE
        have F_u4_coder : Fld Z h4 u4 "java/lang/String" "coder" "B" (.int (0 : Int32)) := NC
        have F_u4_value : Fld Z h4 u4 "java/lang/String" "value" "[B" (.ref ub4) := NV
        have V_ub4 : Arv Z h4 ub4 kb4 .byte (7 : Int32) [(.int (105 : Int32)), (.int (110 : Int32)), (.int (116 : Int32)), (.int (101 : Int32)), (.int (103 : Int32)), (.int (101 : Int32)), (.int (114 : Int32))] (.int (0 : Int32)) := NB
        have C_u4 : Cel h4 u4 ca4 := NCa
        have C_ub4 : Cel h4 ub4 cb4 := NCb
        refine GoV.st st4 ?_
        show GoV p e below s _ _ _ (T4.setTop (mkF m 14 #[.val (.int i)] [(.ref u4)]))
        exact GoV.ret (vm1 := T4.vm) X4 hlk hS4 (by rw [e4]; exact hk4) (some (.ref u4)) (fun h => by rw [Bd.returns] at h; cases h) (by rw [e4]; exact ⟨u4, ub4, _, _, _, _, _, _, ([(105 : Int32), (110 : Int32), (116 : Int32), (101 : Int32), (103 : Int32), (101 : Int32), (114 : Int32)] : List Int32), rfl, N0, K4, E_u4, F_u4_coder, F_u4_value, V_ub4, C_u4, C_ub4, Sk4, own_iH (s := s.setVm T4.vm) I4 X4.warmed, own_cod1, own_e1, by decide⟩) (by decide) (by decide) (fun fs hr => retOut X4 hx Bd.returns rfl (Or.inr (Or.inr (Or.inr (Or.inr ⟨rfl, rfl, rfl⟩)))) (hb hby db_14) hr)
      · refine GoV.st (fun _ kq_ => XS.icmpYes X0.here hx rfl (pc0 := 9) (pc' := 15) rfl (hb hby db_9) rfl (XT.ii_ne_t c9_3) (by decide) (by decide) kq_) ?_
        show GoV p e below s _ _ _ (s₁.setTop (mkF m 15 #[.val (.int i)] []))
        refine GoV.st (fun _ kq_ => XS.iloadN X0.here hx rfl (hb hby db_15) rfl kq_) ?_
        show GoV p e below s _ _ _ (s₁.setTop (mkF m 16 #[.val (.int i)] [(.int i)]))
        refine GoV.st (fun _ kq_ => XS.iconst X0.here hx rfl (hb hby db_16) kq_) ?_
        show GoV p e below s _ _ _ (s₁.setTop (mkF m 17 #[.val (.int i)] [(.int (2 : Int32)), (.int i)]))
        by_cases c17_5 : i = (2 : Int32)
        · refine GoV.st (fun _ kq_ => XS.icmpNo X0.here hx rfl (hb hby db_17) rfl (XT.ii_ne_f c17_5) kq_) ?_
          show GoV p e below s _ _ _ (s₁.setTop (mkF m 20 #[.val (.int i)] []))
          obtain ⟨u6, T6, h6, kk6, ub6, kb6, ca6, cb6, un6, X6, e6, E6, hS6, hk6, hZ6, hown6, NE, NC, NV, NB, NCa, NCb, Sk6, tx6, I6, hJ6, LT6, st6⟩ := own_ldcH (vm0 := s.vm) X0 hx hZ hown (own_w hw 78 rfl) wS e0 hS0 hk0 M0 (hHC ("com/example/pemmican/pemmican/DataTypeNamedPinLaw", 42) (by decide)) I0 (vs := [(.int (102 : Int32)), (.int (108 : Int32)), (.int (111 : Int32)), (.int (97 : Int32)), (.int (116 : Int32))]) (z := (5 : Int32)) (by decide) (by decide) rfl (g := (mkF m 20 #[.val (.int i)] [])) rfl (hb hby db_20) (n := 20) (by decide) (by decide) (by decide) (by decide)
          have J6 := hJ6 _ J0
          have O6 := O0.ext E6
          have K6 := K0.ext E6
          have E_u6 : Exa Z h6 u6 "java/lang/String" := NE
          have F_u6_coder : Fld Z h6 u6 "java/lang/String" "coder" "B" (.int (0 : Int32)) := NC
          have F_u6_value : Fld Z h6 u6 "java/lang/String" "value" "[B" (.ref ub6) := NV
          have V_ub6 : Arv Z h6 ub6 kb6 .byte (5 : Int32) [(.int (102 : Int32)), (.int (108 : Int32)), (.int (111 : Int32)), (.int (97 : Int32)), (.int (116 : Int32))] (.int (0 : Int32)) := NB
          have C_u6 : Cel h6 u6 ca6 := NCa
          have C_ub6 : Cel h6 ub6 cb6 := NCb
          refine GoV.st st6 ?_
          show GoV p e below s _ _ _ (T6.setTop (mkF m 22 #[.val (.int i)] [(.ref u6)]))
          exact GoV.ret (vm1 := T6.vm) X6 hlk hS6 (by rw [e6]; exact hk6) (some (.ref u6)) (fun h => by rw [Bd.returns] at h; cases h) (by rw [e6]; exact ⟨u6, ub6, _, _, _, _, _, _, ([(102 : Int32), (108 : Int32), (111 : Int32), (97 : Int32), (116 : Int32)] : List Int32), rfl, N0, K6, E_u6, F_u6_coder, F_u6_value, V_ub6, C_u6, C_ub6, Sk6, own_iH (s := s.setVm T6.vm) I6 X6.warmed, own_cod2, own_e2, by decide⟩) (by decide) (by decide) (fun fs hr => retOut X6 hx Bd.returns rfl (Or.inr (Or.inr (Or.inr (Or.inr ⟨rfl, rfl, rfl⟩)))) (hb hby db_22) hr)
        · refine GoV.st (fun _ kq_ => XS.icmpYes X0.here hx rfl (pc0 := 17) (pc' := 23) rfl (hb hby db_17) rfl (XT.ii_ne_t c17_5) (by decide) (by decide) kq_) ?_
          show GoV p e below s _ _ _ (s₁.setTop (mkF m 23 #[.val (.int i)] []))
          refine GoV.st (fun _ kq_ => XS.iloadN X0.here hx rfl (hb hby db_23) rfl kq_) ?_
          show GoV p e below s _ _ _ (s₁.setTop (mkF m 24 #[.val (.int i)] [(.int i)]))
          refine GoV.st (fun _ kq_ => XS.iconst X0.here hx rfl (hb hby db_24) kq_) ?_
          show GoV p e below s _ _ _ (s₁.setTop (mkF m 25 #[.val (.int i)] [(.int (3 : Int32)), (.int i)]))
          by_cases c25_7 : i = (3 : Int32)
          · refine GoV.st (fun _ kq_ => XS.icmpNo X0.here hx rfl (hb hby db_25) rfl (XT.ii_ne_f c25_7) kq_) ?_
            show GoV p e below s _ _ _ (s₁.setTop (mkF m 28 #[.val (.int i)] []))
            obtain ⟨u8, T8, h8, kk8, ub8, kb8, ca8, cb8, un8, X8, e8, E8, hS8, hk8, hZ8, hown8, NE, NC, NV, NB, NCa, NCb, Sk8, tx8, I8, hJ8, LT8, st8⟩ := own_ldcH (vm0 := s.vm) X0 hx hZ hown (own_w hw 79 rfl) wS e0 hS0 hk0 M0 (hHC ("com/example/pemmican/pemmican/DataTypeNamedPinLaw", 44) (by decide)) I0 (vs := [(.int (100 : Int32)), (.int (111 : Int32)), (.int (117 : Int32)), (.int (98 : Int32)), (.int (108 : Int32)), (.int (101 : Int32))]) (z := (6 : Int32)) (by decide) (by decide) rfl (g := (mkF m 28 #[.val (.int i)] [])) rfl (hb hby db_28) (n := 24) (by decide) (by decide) (by decide) (by decide)
            have J8 := hJ8 _ J0
            have O8 := O0.ext E8
            have K8 := K0.ext E8
            have E_u8 : Exa Z h8 u8 "java/lang/String" := NE
            have F_u8_coder : Fld Z h8 u8 "java/lang/String" "coder" "B" (.int (0 : Int32)) := NC
            have F_u8_value : Fld Z h8 u8 "java/lang/String" "value" "[B" (.ref ub8) := NV
            have V_ub8 : Arv Z h8 ub8 kb8 .byte (6 : Int32) [(.int (100 : Int32)), (.int (111 : Int32)), (.int (117 : Int32)), (.int (98 : Int32)), (.int (108 : Int32)), (.int (101 : Int32))] (.int (0 : Int32)) := NB
            have C_u8 : Cel h8 u8 ca8 := NCa
            have C_ub8 : Cel h8 ub8 cb8 := NCb
            refine GoV.st st8 ?_
            show GoV p e below s _ _ _ (T8.setTop (mkF m 30 #[.val (.int i)] [(.ref u8)]))
            exact GoV.ret (vm1 := T8.vm) X8 hlk hS8 (by rw [e8]; exact hk8) (some (.ref u8)) (fun h => by rw [Bd.returns] at h; cases h) (by rw [e8]; exact ⟨u8, ub8, _, _, _, _, _, _, ([(100 : Int32), (111 : Int32), (117 : Int32), (98 : Int32), (108 : Int32), (101 : Int32)] : List Int32), rfl, N0, K8, E_u8, F_u8_coder, F_u8_value, V_ub8, C_u8, C_ub8, Sk8, own_iH (s := s.setVm T8.vm) I8 X8.warmed, own_cod3, own_e3, by decide⟩) (by decide) (by decide) (fun fs hr => retOut X8 hx Bd.returns rfl (Or.inr (Or.inr (Or.inr (Or.inr ⟨rfl, rfl, rfl⟩)))) (hb hby db_30) hr)
          · refine GoV.st (fun _ kq_ => XS.icmpYes X0.here hx rfl (pc0 := 25) (pc' := 31) rfl (hb hby db_25) rfl (XT.ii_ne_t c25_7) (by decide) (by decide) kq_) ?_
            show GoV p e below s _ _ _ (s₁.setTop (mkF m 31 #[.val (.int i)] []))
            refine GoV.st (fun _ kq_ => XS.iloadN X0.here hx rfl (hb hby db_31) rfl kq_) ?_
            show GoV p e below s _ _ _ (s₁.setTop (mkF m 32 #[.val (.int i)] [(.int i)]))
            refine GoV.st (fun _ kq_ => XS.iconst X0.here hx rfl (hb hby db_32) kq_) ?_
            show GoV p e below s _ _ _ (s₁.setTop (mkF m 33 #[.val (.int i)] [(.int (4 : Int32)), (.int i)]))
            by_cases c33_9 : i = (4 : Int32)
            · refine GoV.st (fun _ kq_ => XS.icmpNo X0.here hx rfl (hb hby db_33) rfl (XT.ii_ne_f c33_9) kq_) ?_
              show GoV p e below s _ _ _ (s₁.setTop (mkF m 36 #[.val (.int i)] []))
              obtain ⟨u10, T10, h10, kk10, ub10, kb10, ca10, cb10, un10, X10, e10, E10, hS10, hk10, hZ10, hown10, NE, NC, NV, NB, NCa, NCb, Sk10, tx10, I10, hJ10, LT10, st10⟩ := own_ldcH (vm0 := s.vm) X0 hx hZ hown (own_w hw 80 rfl) wS e0 hS0 hk0 M0 (hHC ("com/example/pemmican/pemmican/DataTypeNamedPinLaw", 46) (by decide)) I0 (vs := [(.int (98 : Int32)), (.int (111 : Int32)), (.int (111 : Int32)), (.int (108 : Int32)), (.int (101 : Int32)), (.int (97 : Int32)), (.int (110 : Int32))]) (z := (7 : Int32)) (by decide) (by decide) rfl (g := (mkF m 36 #[.val (.int i)] [])) rfl (hb hby db_36) (n := 28) (by decide) (by decide) (by decide) (by decide)
              have J10 := hJ10 _ J0
              have O10 := O0.ext E10
              have K10 := K0.ext E10
              have E_u10 : Exa Z h10 u10 "java/lang/String" := NE
              have F_u10_coder : Fld Z h10 u10 "java/lang/String" "coder" "B" (.int (0 : Int32)) := NC
              have F_u10_value : Fld Z h10 u10 "java/lang/String" "value" "[B" (.ref ub10) := NV
              have V_ub10 : Arv Z h10 ub10 kb10 .byte (7 : Int32) [(.int (98 : Int32)), (.int (111 : Int32)), (.int (111 : Int32)), (.int (108 : Int32)), (.int (101 : Int32)), (.int (97 : Int32)), (.int (110 : Int32))] (.int (0 : Int32)) := NB
              have C_u10 : Cel h10 u10 ca10 := NCa
              have C_ub10 : Cel h10 ub10 cb10 := NCb
              refine GoV.st st10 ?_
              show GoV p e below s _ _ _ (T10.setTop (mkF m 38 #[.val (.int i)] [(.ref u10)]))
              exact GoV.ret (vm1 := T10.vm) X10 hlk hS10 (by rw [e10]; exact hk10) (some (.ref u10)) (fun h => by rw [Bd.returns] at h; cases h) (by rw [e10]; exact ⟨u10, ub10, _, _, _, _, _, _, ([(98 : Int32), (111 : Int32), (111 : Int32), (108 : Int32), (101 : Int32), (97 : Int32), (110 : Int32)] : List Int32), rfl, N0, K10, E_u10, F_u10_coder, F_u10_value, V_ub10, C_u10, C_ub10, Sk10, own_iH (s := s.setVm T10.vm) I10 X10.warmed, own_cod4, own_e4, by decide⟩) (by decide) (by decide) (fun fs hr => retOut X10 hx Bd.returns rfl (Or.inr (Or.inr (Or.inr (Or.inr ⟨rfl, rfl, rfl⟩)))) (hb hby db_38) hr)
            · refine GoV.st (fun _ kq_ => XS.icmpYes X0.here hx rfl (pc0 := 33) (pc' := 39) rfl (hb hby db_33) rfl (XT.ii_ne_t c33_9) (by decide) (by decide) kq_) ?_
              show GoV p e below s _ _ _ (s₁.setTop (mkF m 39 #[.val (.int i)] []))
              obtain ⟨u11, T11, h11, kk11, ub11, kb11, ca11, cb11, un11, X11, e11, E11, hS11, hk11, hZ11, hown11, NE, NC, NV, NB, NCa, NCb, Sk11, tx11, I11, hJ11, LT11, st11⟩ := own_ldcH (vm0 := s.vm) X0 hx hZ hown (own_w hw 0 rfl) wS e0 hS0 hk0 M0 (hHC ("com/example/pemmican/pemmican/DataTypeNamedPinLaw", 7) (by decide)) I0 (vs := []) (z := (0 : Int32)) (by decide) (by decide) rfl (g := (mkF m 39 #[.val (.int i)] [])) rfl (hb hby db_39) (n := 0) (by decide) (by decide) (by decide) (by decide)
              have J11 := hJ11 _ J0
              have O11 := O0.ext E11
              have K11 := K0.ext E11
              have E_u11 : Exa Z h11 u11 "java/lang/String" := NE
              have F_u11_coder : Fld Z h11 u11 "java/lang/String" "coder" "B" (.int (0 : Int32)) := NC
              have F_u11_value : Fld Z h11 u11 "java/lang/String" "value" "[B" (.ref ub11) := NV
              have V_ub11 : Arv Z h11 ub11 kb11 .byte (0 : Int32) [] (.int (0 : Int32)) := NB
              have C_u11 : Cel h11 u11 ca11 := NCa
              have C_ub11 : Cel h11 ub11 cb11 := NCb
              refine GoV.st st11 ?_
              show GoV p e below s _ _ _ (T11.setTop (mkF m 41 #[.val (.int i)] [(.ref u11)]))
              exact GoV.ret (vm1 := T11.vm) X11 hlk hS11 (by rw [e11]; exact hk11) (some (.ref u11)) (fun h => by rw [Bd.returns] at h; cases h) (by rw [e11]; exact ⟨u11, ub11, _, _, _, _, _, _, ([] : List Int32), rfl, N0, K11, E_u11, F_u11_coder, F_u11_value, V_ub11, C_u11, C_ub11, Sk11, own_iH (s := s.setVm T11.vm) I11 X11.warmed, own_cod5, own_e5, by decide⟩) (by decide) (by decide) (fun fs hr => retOut X11 hx Bd.returns rfl (Or.inr (Or.inr (Or.inr (Or.inr ⟨rfl, rfl, rfl⟩)))) (hb hby db_41) hr)
  obtain ⟨s2, o2, st2, r2⟩ := G
  exact ⟨s2, o2, castTop (efb m i) st2, r2⟩
theorem dc_0 : decode method_4_code 0 = .ok (.iload_n 1, 1) := by decide +kernel
theorem dc_1 : decode method_4_code 1 = .ok (.iload_n 2, 1) := by decide +kernel
theorem dc_2 : decode method_4_code 2 = .ok (.if_icmp .ne 10, 3) := by decide +kernel
theorem dc_5 : decode method_4_code 5 = .ok (.iload_n 3, 1) := by decide +kernel
theorem dc_6 : decode method_4_code 6 = .ok (.sipush 255, 3) := by decide +kernel
theorem dc_9 : decode method_4_code 9 = .ok (.iand, 1) := by decide +kernel
theorem dc_10 : decode method_4_code 10 = .ok (.i2c, 1) := by decide +kernel
theorem dc_11 : decode method_4_code 11 = .ok (.ireturn, 1) := by decide +kernel
theorem dc_12 : decode method_4_code 12 = .ok (.iload_n 1, 1) := by decide +kernel
theorem dc_13 : decode method_4_code 13 = .ok (.aload_n 0, 1) := by decide +kernel
theorem dc_14 : decode method_4_code 14 = .ok (.invokevirtual 16, 3) := by decide +kernel
theorem dc_17 : decode method_4_code 17 = .ok (.if_icmp .ge 9, 3) := by decide +kernel
theorem dc_20 : decode method_4_code 20 = .ok (.aload_n 0, 1) := by decide +kernel
theorem dc_21 : decode method_4_code 21 = .ok (.iload_n 1, 1) := by decide +kernel
theorem dc_22 : decode method_4_code 22 = .ok (.invokevirtual 48, 3) := by decide +kernel
theorem dc_25 : decode method_4_code 25 = .ok (.ireturn, 1) := by decide +kernel
theorem dc_26 : decode method_4_code 26 = .ok (.iload_n 1, 1) := by decide +kernel
theorem dc_27 : decode method_4_code 27 = .ok (.iconst 4, 1) := by decide +kernel
theorem dc_28 : decode method_4_code 28 = .ok (.if_icmp .ge 13, 3) := by decide +kernel
theorem dc_31 : decode method_4_code 31 = .ok (.iload 4, 2) := by decide +kernel
theorem dc_33 : decode method_4_code 33 = .ok (.bipush 8, 2) := by decide +kernel
theorem dc_35 : decode method_4_code 35 = .ok (.iload_n 1, 1) := by decide +kernel
theorem dc_36 : decode method_4_code 36 = .ok (.imul, 1) := by decide +kernel
theorem dc_37 : decode method_4_code 37 = .ok (.iushr, 1) := by decide +kernel
theorem dc_38 : decode method_4_code 38 = .ok (.goto 11, 3) := by decide +kernel
theorem dc_41 : decode method_4_code 41 = .ok (.iload_n 3, 1) := by decide +kernel
theorem dc_42 : decode method_4_code 42 = .ok (.bipush 8, 2) := by decide +kernel
theorem dc_44 : decode method_4_code 44 = .ok (.iload_n 1, 1) := by decide +kernel
theorem dc_45 : decode method_4_code 45 = .ok (.iconst 4, 1) := by decide +kernel
theorem dc_46 : decode method_4_code 46 = .ok (.isub, 1) := by decide +kernel
theorem dc_47 : decode method_4_code 47 = .ok (.imul, 1) := by decide +kernel
theorem dc_48 : decode method_4_code 48 = .ok (.iushr, 1) := by decide +kernel
theorem dc_49 : decode method_4_code 49 = .ok (.istore 5, 2) := by decide +kernel
theorem dc_51 : decode method_4_code 51 = .ok (.iload 5, 2) := by decide +kernel
theorem dc_53 : decode method_4_code 53 = .ok (.sipush 255, 3) := by decide +kernel
theorem dc_56 : decode method_4_code 56 = .ok (.iand, 1) := by decide +kernel
theorem dc_57 : decode method_4_code 57 = .ok (.i2c, 1) := by decide +kernel
theorem dc_58 : decode method_4_code 58 = .ok (.ireturn, 1) := by decide +kernel
theorem pdc_0 : parseMethodDescriptor "()I" = some ⟨[], some .int⟩ := by decide +kernel
theorem pdc_1 : parseMethodDescriptor "(I)C" = some ⟨[.int], some .char⟩ := by decide +kernel
theorem pnc : plainName "com/example/pemmican/pemmican/DataTypeNamedPinLaw" = true := by first | (simp [plainName, overriddenIn]; done) | decide +kernel
theorem efc (m : MethodId) (x0 : Addr) (x1 : Int32) (x2 : Int32) (x3 : Int32) (x4 : Int32) : entryFrame m #[(.ref x0), (.int x1), (.int x2), (.int x3), (.int x4)] 6 = mkF m 0 #[.val (.ref x0), .val (.int x1), .val (.int x2), .val (.int x3), .val (.int x4), .unset] [] := by first | (simp [entryFrame, mkF, argsToLocals, Value.category, maxLocals]; done) | rfl
def Qc (Z : State) (a : Addr) (b : Addr) (kb : ClassId) (N : Int32) (vs : List Value) (cs : List Int32) (i : Int32) (q : Int32) (p3 : Int32) (p5 : Int32) (zc : Int32) (fm : Value) (h0 : Heap) (n0 : Nat) (v : Option Value) (h : Heap) (L : List Loc) : Prop := ∃ r : Int32, v = some (.int r) ∧ (¬ r < 0 ∧ ¬ (255 : Int32) < r) ∧ Fr n0 L ∧ h = h0
set_option maxRecDepth 65536 in
set_option maxHeartbeats 40000000 in
theorem rmc (l : Launch) (Z : State) (a0 : Array Value) (hw : ∀ d ∈ tables_1, d.before a0 Z = true) (ws : List Jvm.Cond) (a : Addr) (b : Addr) (kb : ClassId) (N : Int32) (vs : List Value) (cs : List Int32) (i : Int32) (q : Int32) (p3 : Int32) (p5 : Int32) (zc : Int32) (fm : Value) (h0 : Heap) (n0 : Nat) (O0 : Old Z n0 h0) (E_a : Exa Z h0 a "java/lang/String") (F_a_coder : Fld Z h0 a "java/lang/String" "coder" "B" (.int (0 : Int32))) (F_a_value : Fld Z h0 a "java/lang/String" "value" "[B" (.ref b)) (V_b : Arv Z h0 b kb .byte N vs (.int (0 : Int32))) (hcB : StrChars.Road.CodA cs 0 N vs) (hbB : ∀ c ∈ cs, ¬ c < 0 ∧ ¬ (255 : Int32) < c) (hlB : cs.length ≤ 8) (hi : ¬ i < 0) (SC : Sta Z Z.heap "java/lang/String" "COMPACT_STRINGS" "Z" (.int zc)) (hcs : ¬ zc = 0) (SF : Sta Z Z.heap "jdk/internal/util/Preconditions" "SIOOBE_FORMATTER" "Ljava/util/function/BiFunction;" fm) (rf : fm.isRef = true) :
    MetFree l (⟨"com/example/pemmican/pemmican/DataTypeNamedPinLaw", "ch", "(Ljava/lang/String;IIII)C"⟩ : MethodName) (head1 (Jvm.Cond.code (⟨"com/example/pemmican/pemmican/DataTypeNamedPinLaw", "ch", "(Ljava/lang/String;IIII)C"⟩ : MethodName) method_4_code 6 (some .char) :: ws) ({ frames := 4, cells := 0, slots := 0, locals := 53 } : Room)) (fun A_ U_ => A_ = #[(.ref a), (.int i), (.int q), (.int p3), (.int p5)] ∧ Z.Warmed39 U_.vm ∧ U_.heap = h0) (fun _ _ _ _ _ => True) (fun _ U o U' => ∃ v L, o = .returned v ∧ Qc Z a b kb N vs cs i q p3 p5 zc fm h0 n0 v U'.heap L ∧ FrameEnd U o U' L ({ frames := 4, cells := 0, slots := 0, locals := 53 } : Room).cells ({ frames := 4, cells := 0, slots := 0, locals := 53 } : Room).slots) := by
  refine MetFree.of_bodySF (plainFor_of_name pnc) hisR ?_
  intro p e s m args below meth cd s₁ Bd hml0 hP hK
  obtain ⟨rfl, hZ, hh⟩ := hP
  have hx := Bd.exec
  have hby := Bd.bytes
  have hlk : meth.locks = false := BodyLoose.notSynchronized Bd
  have hml : cd.maxLocals = 6 := hml0
  have hown : s.vm.findClass "com/example/pemmican/pemmican/DataTypeNamedPinLaw" = some m.cls := findClass_of_methodNamed Bd.named
  have hnm := (name_of_methodNamed Bd.named Bd.method).1
  have X0 : Stand p l e ({ frames := 4, cells := 0, slots := 0, locals := 53 } : Room) s m #[(.ref a), (.int i), (.int q), (.int p3), (.int p5)] below meth cd s₁ [] 0 0 := Stand.of_body Bd
  have e0 : s₁.heap = h0 := by rw [← hh, Bd.state]; rfl
  have N0 := Fr.nil n0
  have hlen : ∀ d ∈ StrChars.Road.wordsLen, d.before a0 Z = true := fun d hd => hw d ((by decide +kernel : ∀ d ∈ StrChars.Road.wordsLen, d ∈ tables_1) d hd)
  have hchn : ∀ d ∈ StrChars.Road.wordsChN, d.before a0 Z = true := fun d hd => hw d ((by decide +kernel : ∀ d ∈ StrChars.Road.wordsChN, d ∈ tables_1) d hd)
  have G : Go p e below s 0 0 (Qc Z a b kb N vs cs i q p3 p5 zc fm h0 n0) (s₁.setTop (mkF m 0 #[.val (.ref a), .val (.int i), .val (.int q), .val (.int p3), .val (.int p5), .unset] [])) := by
    show Go p e below s _ _ _ (s₁.setTop (mkF m 0 #[.val (.ref a), .val (.int i), .val (.int q), .val (.int p3), .val (.int p5), .unset] []))
    refine Go.st (fun _ kq_ => XS.iloadN X0.here hx rfl (hb hby dc_0) rfl kq_) ?_
    show Go p e below s _ _ _ (s₁.setTop (mkF m 1 #[.val (.ref a), .val (.int i), .val (.int q), .val (.int p3), .val (.int p5), .unset] [(.int i)]))
    refine Go.st (fun _ kq_ => XS.iloadN X0.here hx rfl (hb hby dc_1) rfl kq_) ?_
    show Go p e below s _ _ _ (s₁.setTop (mkF m 2 #[.val (.ref a), .val (.int i), .val (.int q), .val (.int p3), .val (.int p5), .unset] [(.int q), (.int i)]))
    by_cases c2_1 : i = q
    · refine Go.st (fun _ kq_ => XS.icmpNo X0.here hx rfl (hb hby dc_2) rfl (XT.ii_ne_f c2_1) kq_) ?_
      show Go p e below s _ _ _ (s₁.setTop (mkF m 5 #[.val (.ref a), .val (.int i), .val (.int q), .val (.int p3), .val (.int p5), .unset] []))
      refine Go.st (fun _ kq_ => XS.iloadN X0.here hx rfl (hb hby dc_5) rfl kq_) ?_
      show Go p e below s _ _ _ (s₁.setTop (mkF m 6 #[.val (.ref a), .val (.int i), .val (.int q), .val (.int p3), .val (.int p5), .unset] [(.int p3)]))
      refine Go.st (fun _ kq_ => XS.sipush X0.here hx rfl (hb hby dc_6) kq_) ?_
      show Go p e below s _ _ _ (s₁.setTop (mkF m 9 #[.val (.ref a), .val (.int i), .val (.int q), .val (.int p3), .val (.int p5), .unset] [(.int (255 : Int32)), (.int p3)]))
      refine Go.st (fun _ kq_ => XS.iand X0.here hx rfl (hb hby dc_9) rfl kq_) ?_
      show Go p e below s _ _ _ (s₁.setTop (mkF m 10 #[.val (.ref a), .val (.int i), .val (.int q), .val (.int p3), .val (.int p5), .unset] [(.int (p3 &&& (255 : Int32)))]))
      refine Go.st (fun _ kq_ => XT.i2c X0.here hx rfl (hb hby dc_10) rfl kq_) ?_
      show Go p e below s _ _ _ (s₁.setTop (mkF m 11 #[.val (.ref a), .val (.int i), .val (.int q), .val (.int p3), .val (.int p5), .unset] [(.int ((p3 &&& (255 : Int32)).toUInt32.toUInt16.toUInt32.toInt32))]))
      exact Go.ret X0 hlk (some (.int (nar .char ((p3 &&& (255 : Int32)).toUInt32.toUInt16.toUInt32.toInt32)))) (fun h => by rw [Bd.returns] at h; cases h) (by rw [e0]; exact ⟨_, rfl, (own_ch _), N0, rfl⟩) (by decide) (by decide) (fun fs hr => retN X0 hx (t := .char) Bd.returns (by simp) (hb hby dc_11) hr)
    · refine Go.st (fun _ kq_ => XS.icmpYes X0.here hx rfl (pc0 := 2) (pc' := 12) rfl (hb hby dc_2) rfl (XT.ii_ne_t c2_1) (by decide) (by decide) kq_) ?_
      show Go p e below s _ _ _ (s₁.setTop (mkF m 12 #[.val (.ref a), .val (.int i), .val (.int q), .val (.int p3), .val (.int p5), .unset] []))
      refine Go.st (fun _ kq_ => XS.iloadN X0.here hx rfl (hb hby dc_12) rfl kq_) ?_
      show Go p e below s _ _ _ (s₁.setTop (mkF m 13 #[.val (.ref a), .val (.int i), .val (.int q), .val (.int p3), .val (.int p5), .unset] [(.int i)]))
      refine Go.st (fun _ kq_ => XS.aloadN X0.here hx rfl (hb hby dc_13) rfl rfl kq_) ?_
      show Go p e below s _ _ _ (s₁.setTop (mkF m 14 #[.val (.ref a), .val (.int i), .val (.int q), .val (.int p3), .val (.int p5), .unset] [(.ref a), (.int i)]))
      obtain ⟨cq2, kq2, qa2, qb2, qc2⟩ := isOf hZ e0 E_a
      obtain ⟨_, _, ⟨T2, L2, k2, n2⟩, -, X2, ⟨Lc2, hQ2, l2, y2, z2⟩, st2⟩ := X0.virtualBack hx (y := (⟨"java/lang/String", "length", "()I"⟩ : MethodName)) (z := (⟨"java/lang/String", "length", "()I"⟩ : MethodName)) hown (mvT hZ (own_w hw 8 rfl)) (mvT hZ (own_w hw 9 rfl)) (notFace_of_selects (args := #[]) (mvT hZ (own_w hw 11 rfl))) (mvT hZ (own_w hw 11 rfl)) (mvT hZ (own_w hw 10 rfl)) (by decide) (StrChars.Road.lenW (W := 1) hZ hlen (kI := 4) (own_w hw 2 rfl) (cs := cs) E_a F_a_value F_a_coder V_b hcB (own_up hbB) (SC.ext O0.2) hcs (Nat.le_trans hlB (by decide)) (by decide) (by decide)) qa2 qc2 (g := (mkF m 14 #[.val (.ref a), .val (.int i), .val (.int q), .val (.int p3), .val (.int p5), .unset] [(.ref a), (.int i)])) rfl (by rw [hml]; rfl) (Steps.refl _) (argsL := []) (rest := [(.int i)]) (lenOf pdc_0 rfl) rfl (by show 2 * 0 + _ ≤ _; exact Nat.le_of_eq rfl) (hb hby dc_14) (fun _ _ => ⟨rfl, e0, (by decide : 0 + 0 ≤ _), (by decide : 0 + 0 ≤ _)⟩)
      dsimp only [Pt.U, Pt.locs, Pt.cells, Pt.slots] at X2 l2 y2 z2 st2 hQ2
      subst y2 z2
      obtain ⟨rfl, el2, e2⟩ := hQ2
      have Nc2 : Fr n0 Lc2 := by rw [el2]; exact Fr.nil n0
      have N2 : Fr n0 L2 := by rw [l2]; exact Fr.app N0 Nc2
      refine Go.tr st2 ?_
      show Go p e below s _ _ _ (T2.setTop (mkF m 17 #[.val (.ref a), .val (.int i), .val (.int q), .val (.int p3), .val (.int p5), .unset] [(.int (Int32.ofNat cs.length)), (.int i)]))
      by_cases c17_3 : i < (Int32.ofNat cs.length)
      · refine Go.st (fun _ kq_ => XS.icmpNo X2.here hx rfl (hb hby dc_17) rfl (XT.ii_ge_f c17_3) kq_) ?_
        show Go p e below s _ _ _ (T2.setTop (mkF m 20 #[.val (.ref a), .val (.int i), .val (.int q), .val (.int p3), .val (.int p5), .unset] []))
        refine Go.st (fun _ kq_ => XS.aloadN X2.here hx rfl (hb hby dc_20) rfl rfl kq_) ?_
        show Go p e below s _ _ _ (T2.setTop (mkF m 21 #[.val (.ref a), .val (.int i), .val (.int q), .val (.int p3), .val (.int p5), .unset] [(.ref a)]))
        refine Go.st (fun _ kq_ => XS.iloadN X2.here hx rfl (hb hby dc_21) rfl kq_) ?_
        show Go p e below s _ _ _ (T2.setTop (mkF m 22 #[.val (.ref a), .val (.int i), .val (.int q), .val (.int p3), .val (.int p5), .unset] [(.int i), (.ref a)]))
        obtain ⟨cq4, kq4, qa4, qb4, qc4⟩ := isOf hZ e2 E_a
        obtain ⟨_, _, ⟨T4, L4, k4, n4⟩, -, X4, ⟨Lc4, hQ4, l4, y4, z4⟩, st4⟩ := X2.virtualBack hx (y := (⟨"java/lang/String", "charAt", "(I)C"⟩ : MethodName)) (z := (⟨"java/lang/String", "charAt", "(I)C"⟩ : MethodName)) hown (mvT hZ (own_w hw 87 rfl)) (mvT hZ (own_w hw 88 rfl)) (notFace_of_selects (args := #[]) (mvT hZ (own_w hw 90 rfl))) (mvT hZ (own_w hw 90 rfl)) (mvT hZ (own_w hw 89 rfl)) (by decide) (StrChars.Road.chN (W := 0) hZ hchn (kI := 4) (own_w hw 2 rfl) (cs := cs) (i := i.toNatClampNeg) (j := i) E_a F_a_value F_a_coder V_b hcB (own_up hbB) (SC.ext O0.2) hcs (SF.ext O0.2) rf (Nat.le_trans hlB (by decide)) (own_ix hi c17_3 hlB).1 (own_ix hi c17_3 hlB).2 (by decide) (by decide)) qa4 qc4 (g := (mkF m 22 #[.val (.ref a), .val (.int i), .val (.int q), .val (.int p3), .val (.int p5), .unset] [(.int i), (.ref a)])) rfl (by rw [hml]; rfl) (Steps.refl _) (argsL := [(.int i)]) (rest := []) (lenOf pdc_1 rfl) rfl (by show 2 * 0 + _ ≤ _; exact Nat.le_of_eq rfl) (hb hby dc_22) (fun _ _ => ⟨rfl, e2, (by decide : 0 + 0 ≤ _), (by decide : 0 + 0 ≤ _)⟩)
        dsimp only [Pt.U, Pt.locs, Pt.cells, Pt.slots] at X4 l4 y4 z4 st4 hQ4
        subst y4 z4
        obtain ⟨rfl, el4, e4⟩ := hQ4
        have Nc4 : Fr n0 Lc4 := by rw [el4]; exact Fr.nil n0
        have N4 : Fr n0 L4 := by rw [l4]; exact Fr.app N2 Nc4
        refine Go.tr st4 ?_
        show Go p e below s _ _ _ (T4.setTop (mkF m 25 #[.val (.ref a), .val (.int i), .val (.int q), .val (.int p3), .val (.int p5), .unset] [(.int (cs.getD i.toNatClampNeg 0))]))
        exact Go.ret X4 hlk (some (.int (nar .char (cs.getD i.toNatClampNeg 0)))) (fun h => by rw [Bd.returns] at h; cases h) (by rw [e4]; exact ⟨_, rfl, (own_chG hbB _), N4, rfl⟩) (by decide) (by decide) (fun fs hr => retN X4 hx (t := .char) Bd.returns (by simp) (hb hby dc_25) hr)
      · refine Go.st (fun _ kq_ => XS.icmpYes X2.here hx rfl (pc0 := 17) (pc' := 26) rfl (hb hby dc_17) rfl (XT.ii_ge_t c17_3) (by decide) (by decide) kq_) ?_
        show Go p e below s _ _ _ (T2.setTop (mkF m 26 #[.val (.ref a), .val (.int i), .val (.int q), .val (.int p3), .val (.int p5), .unset] []))
        refine Go.st (fun _ kq_ => XS.iloadN X2.here hx rfl (hb hby dc_26) rfl kq_) ?_
        show Go p e below s _ _ _ (T2.setTop (mkF m 27 #[.val (.ref a), .val (.int i), .val (.int q), .val (.int p3), .val (.int p5), .unset] [(.int i)]))
        refine Go.st (fun _ kq_ => XS.iconst X2.here hx rfl (hb hby dc_27) kq_) ?_
        show Go p e below s _ _ _ (T2.setTop (mkF m 28 #[.val (.ref a), .val (.int i), .val (.int q), .val (.int p3), .val (.int p5), .unset] [(.int (4 : Int32)), (.int i)]))
        by_cases c28_5 : i < (4 : Int32)
        · refine Go.st (fun _ kq_ => XS.icmpNo X2.here hx rfl (hb hby dc_28) rfl (XT.ii_ge_f c28_5) kq_) ?_
          show Go p e below s _ _ _ (T2.setTop (mkF m 31 #[.val (.ref a), .val (.int i), .val (.int q), .val (.int p3), .val (.int p5), .unset] []))
          refine Go.st (fun _ kq_ => XS.iload X2.here hx rfl (hb hby dc_31) rfl kq_) ?_
          show Go p e below s _ _ _ (T2.setTop (mkF m 33 #[.val (.ref a), .val (.int i), .val (.int q), .val (.int p3), .val (.int p5), .unset] [(.int p5)]))
          refine Go.st (fun _ kq_ => XS.bipush X2.here hx rfl (hb hby dc_33) kq_) ?_
          show Go p e below s _ _ _ (T2.setTop (mkF m 35 #[.val (.ref a), .val (.int i), .val (.int q), .val (.int p3), .val (.int p5), .unset] [(.int (8 : Int32)), (.int p5)]))
          refine Go.st (fun _ kq_ => XS.iloadN X2.here hx rfl (hb hby dc_35) rfl kq_) ?_
          show Go p e below s _ _ _ (T2.setTop (mkF m 36 #[.val (.ref a), .val (.int i), .val (.int q), .val (.int p3), .val (.int p5), .unset] [(.int i), (.int (8 : Int32)), (.int p5)]))
          refine Go.st (fun _ kq_ => XS.imul X2.here hx rfl (hb hby dc_36) rfl kq_) ?_
          show Go p e below s _ _ _ (T2.setTop (mkF m 37 #[.val (.ref a), .val (.int i), .val (.int q), .val (.int p3), .val (.int p5), .unset] [(.int ((8 : Int32) * i)), (.int p5)]))
          refine Go.st (fun _ kq_ => XT.iushr X2.here hx rfl (hb hby dc_37) rfl kq_) ?_
          show Go p e below s _ _ _ (T2.setTop (mkF m 38 #[.val (.ref a), .val (.int i), .val (.int q), .val (.int p3), .val (.int p5), .unset] [(.int (XT.ushr p5 ((8 : Int32) * i)))]))
          refine Go.st (fun _ kq_ => XS.goto X2.here hx rfl (pc0 := 38) (pc' := 49) rfl (hb hby dc_38) (by decide) (by decide) kq_) ?_
          show Go p e below s _ _ _ (T2.setTop (mkF m 49 #[.val (.ref a), .val (.int i), .val (.int q), .val (.int p3), .val (.int p5), .unset] [(.int (XT.ushr p5 ((8 : Int32) * i)))]))
          refine Go.st (fun _ kq_ => XS.istore X2.here hx rfl (hb hby dc_49) rfl (l' := #[.val (.ref a), .val (.int i), .val (.int q), .val (.int p3), .val (.int p5), .val (.int (XT.ushr p5 ((8 : Int32) * i)))]) rfl kq_) ?_
          show Go p e below s _ _ _ (T2.setTop (mkF m 51 #[.val (.ref a), .val (.int i), .val (.int q), .val (.int p3), .val (.int p5), .val (.int (XT.ushr p5 ((8 : Int32) * i)))] []))
          refine Go.st (fun _ kq_ => XS.iload X2.here hx rfl (hb hby dc_51) rfl kq_) ?_
          show Go p e below s _ _ _ (T2.setTop (mkF m 53 #[.val (.ref a), .val (.int i), .val (.int q), .val (.int p3), .val (.int p5), .val (.int (XT.ushr p5 ((8 : Int32) * i)))] [(.int (XT.ushr p5 ((8 : Int32) * i)))]))
          refine Go.st (fun _ kq_ => XS.sipush X2.here hx rfl (hb hby dc_53) kq_) ?_
          show Go p e below s _ _ _ (T2.setTop (mkF m 56 #[.val (.ref a), .val (.int i), .val (.int q), .val (.int p3), .val (.int p5), .val (.int (XT.ushr p5 ((8 : Int32) * i)))] [(.int (255 : Int32)), (.int (XT.ushr p5 ((8 : Int32) * i)))]))
          refine Go.st (fun _ kq_ => XS.iand X2.here hx rfl (hb hby dc_56) rfl kq_) ?_
          show Go p e below s _ _ _ (T2.setTop (mkF m 57 #[.val (.ref a), .val (.int i), .val (.int q), .val (.int p3), .val (.int p5), .val (.int (XT.ushr p5 ((8 : Int32) * i)))] [(.int ((XT.ushr p5 ((8 : Int32) * i)) &&& (255 : Int32)))]))
          refine Go.st (fun _ kq_ => XT.i2c X2.here hx rfl (hb hby dc_57) rfl kq_) ?_
          show Go p e below s _ _ _ (T2.setTop (mkF m 58 #[.val (.ref a), .val (.int i), .val (.int q), .val (.int p3), .val (.int p5), .val (.int (XT.ushr p5 ((8 : Int32) * i)))] [(.int (((XT.ushr p5 ((8 : Int32) * i)) &&& (255 : Int32)).toUInt32.toUInt16.toUInt32.toInt32))]))
          exact Go.ret X2 hlk (some (.int (nar .char (((XT.ushr p5 ((8 : Int32) * i)) &&& (255 : Int32)).toUInt32.toUInt16.toUInt32.toInt32)))) (fun h => by rw [Bd.returns] at h; cases h) (by rw [e2]; exact ⟨_, rfl, (own_ch _), N2, rfl⟩) (by decide) (by decide) (fun fs hr => retN X2 hx (t := .char) Bd.returns (by simp) (hb hby dc_58) hr)
        · refine Go.st (fun _ kq_ => XS.icmpYes X2.here hx rfl (pc0 := 28) (pc' := 41) rfl (hb hby dc_28) rfl (XT.ii_ge_t c28_5) (by decide) (by decide) kq_) ?_
          show Go p e below s _ _ _ (T2.setTop (mkF m 41 #[.val (.ref a), .val (.int i), .val (.int q), .val (.int p3), .val (.int p5), .unset] []))
          refine Go.st (fun _ kq_ => XS.iloadN X2.here hx rfl (hb hby dc_41) rfl kq_) ?_
          show Go p e below s _ _ _ (T2.setTop (mkF m 42 #[.val (.ref a), .val (.int i), .val (.int q), .val (.int p3), .val (.int p5), .unset] [(.int p3)]))
          refine Go.st (fun _ kq_ => XS.bipush X2.here hx rfl (hb hby dc_42) kq_) ?_
          show Go p e below s _ _ _ (T2.setTop (mkF m 44 #[.val (.ref a), .val (.int i), .val (.int q), .val (.int p3), .val (.int p5), .unset] [(.int (8 : Int32)), (.int p3)]))
          refine Go.st (fun _ kq_ => XS.iloadN X2.here hx rfl (hb hby dc_44) rfl kq_) ?_
          show Go p e below s _ _ _ (T2.setTop (mkF m 45 #[.val (.ref a), .val (.int i), .val (.int q), .val (.int p3), .val (.int p5), .unset] [(.int i), (.int (8 : Int32)), (.int p3)]))
          refine Go.st (fun _ kq_ => XS.iconst X2.here hx rfl (hb hby dc_45) kq_) ?_
          show Go p e below s _ _ _ (T2.setTop (mkF m 46 #[.val (.ref a), .val (.int i), .val (.int q), .val (.int p3), .val (.int p5), .unset] [(.int (4 : Int32)), (.int i), (.int (8 : Int32)), (.int p3)]))
          refine Go.st (fun _ kq_ => XS.isub X2.here hx rfl (hb hby dc_46) rfl kq_) ?_
          show Go p e below s _ _ _ (T2.setTop (mkF m 47 #[.val (.ref a), .val (.int i), .val (.int q), .val (.int p3), .val (.int p5), .unset] [(.int (i - (4 : Int32))), (.int (8 : Int32)), (.int p3)]))
          refine Go.st (fun _ kq_ => XS.imul X2.here hx rfl (hb hby dc_47) rfl kq_) ?_
          show Go p e below s _ _ _ (T2.setTop (mkF m 48 #[.val (.ref a), .val (.int i), .val (.int q), .val (.int p3), .val (.int p5), .unset] [(.int ((8 : Int32) * (i - (4 : Int32)))), (.int p3)]))
          refine Go.st (fun _ kq_ => XT.iushr X2.here hx rfl (hb hby dc_48) rfl kq_) ?_
          show Go p e below s _ _ _ (T2.setTop (mkF m 49 #[.val (.ref a), .val (.int i), .val (.int q), .val (.int p3), .val (.int p5), .unset] [(.int (XT.ushr p3 ((8 : Int32) * (i - (4 : Int32)))))]))
          refine Go.st (fun _ kq_ => XS.istore X2.here hx rfl (hb hby dc_49) rfl (l' := #[.val (.ref a), .val (.int i), .val (.int q), .val (.int p3), .val (.int p5), .val (.int (XT.ushr p3 ((8 : Int32) * (i - (4 : Int32)))))]) rfl kq_) ?_
          show Go p e below s _ _ _ (T2.setTop (mkF m 51 #[.val (.ref a), .val (.int i), .val (.int q), .val (.int p3), .val (.int p5), .val (.int (XT.ushr p3 ((8 : Int32) * (i - (4 : Int32)))))] []))
          refine Go.st (fun _ kq_ => XS.iload X2.here hx rfl (hb hby dc_51) rfl kq_) ?_
          show Go p e below s _ _ _ (T2.setTop (mkF m 53 #[.val (.ref a), .val (.int i), .val (.int q), .val (.int p3), .val (.int p5), .val (.int (XT.ushr p3 ((8 : Int32) * (i - (4 : Int32)))))] [(.int (XT.ushr p3 ((8 : Int32) * (i - (4 : Int32)))))]))
          refine Go.st (fun _ kq_ => XS.sipush X2.here hx rfl (hb hby dc_53) kq_) ?_
          show Go p e below s _ _ _ (T2.setTop (mkF m 56 #[.val (.ref a), .val (.int i), .val (.int q), .val (.int p3), .val (.int p5), .val (.int (XT.ushr p3 ((8 : Int32) * (i - (4 : Int32)))))] [(.int (255 : Int32)), (.int (XT.ushr p3 ((8 : Int32) * (i - (4 : Int32)))))]))
          refine Go.st (fun _ kq_ => XS.iand X2.here hx rfl (hb hby dc_56) rfl kq_) ?_
          show Go p e below s _ _ _ (T2.setTop (mkF m 57 #[.val (.ref a), .val (.int i), .val (.int q), .val (.int p3), .val (.int p5), .val (.int (XT.ushr p3 ((8 : Int32) * (i - (4 : Int32)))))] [(.int ((XT.ushr p3 ((8 : Int32) * (i - (4 : Int32)))) &&& (255 : Int32)))]))
          refine Go.st (fun _ kq_ => XT.i2c X2.here hx rfl (hb hby dc_57) rfl kq_) ?_
          show Go p e below s _ _ _ (T2.setTop (mkF m 58 #[.val (.ref a), .val (.int i), .val (.int q), .val (.int p3), .val (.int p5), .val (.int (XT.ushr p3 ((8 : Int32) * (i - (4 : Int32)))))] [(.int (((XT.ushr p3 ((8 : Int32) * (i - (4 : Int32)))) &&& (255 : Int32)).toUInt32.toUInt16.toUInt32.toInt32))]))
          exact Go.ret X2 hlk (some (.int (nar .char (((XT.ushr p3 ((8 : Int32) * (i - (4 : Int32)))) &&& (255 : Int32)).toUInt32.toUInt16.toUInt32.toInt32)))) (fun h => by rw [Bd.returns] at h; cases h) (by rw [e2]; exact ⟨_, rfl, (own_ch _), N2, rfl⟩) (by decide) (by decide) (fun fs hr => retN X2 hx (t := .char) Bd.returns (by simp) (hb hby dc_58) hr)
  obtain ⟨s2, o2, st2, r2⟩ := G
  exact ⟨s2, o2, castTop (efc m a i q p3 p5) st2, r2⟩
theorem dv_0 : decode prog_16_method_1_code 0 = .ok (.getstatic 19, 3) := by decide +kernel
theorem dv_3 : decode prog_16_method_1_code 3 = .ok (.invokevirtual 23, 3) := by decide +kernel
theorem dv_6 : decode prog_16_method_1_code 6 = .ok (.checkcast 24, 3) := by decide +kernel
theorem dv_9 : decode prog_16_method_1_code 9 = .ok (.areturn, 1) := by decide +kernel
theorem pnv : plainName "com/example/pemmican/pemmican/DataType" = true := by first | (simp [plainName, overriddenIn]; done) | decide +kernel
theorem efv (m : MethodId)  : entryFrame m #[] 0 = mkF m 0 #[] [] := by first | (simp [entryFrame, mkF, argsToLocals, Value.category, maxLocals]; done) | rfl
def Qv (Z : State) (c : Nat → Addr) (va : Addr) (kq : ClassId) (h0 : Heap) (n0 : Nat) (v : Option Value) (h : Heap) (L : List Loc) : Prop := ∃ (q : Addr) (kk : ClassId), v = some (.ref q) ∧ Fr n0 L ∧ Keep h0 h [] ∧ n0 ≤ q ∧ h0.size ≤ q ∧ Arv Z h q kk (.object "com/example/pemmican/pemmican/DataType") (5 : Int32) [(.ref (c 0)), (.ref (c 1)), (.ref (c 2)), (.ref (c 3)), (.ref (c 4))] .null
set_option maxRecDepth 65536 in
set_option maxHeartbeats 40000000 in
theorem rmv (l : Launch) (Z : State) (a0 : Array Value) (hw : ∀ d ∈ tables_1, d.before a0 Z = true) (ws : List Jvm.Cond) (c : Nat → Addr) (va : Addr) (kq : ClassId) (h0 : Heap) (n0 : Nat) (O0 : Old Z n0 h0) (EV : Exa Z Z.heap va "[Lcom/example/pemmican/pemmican/DataType;") (VV : Arv Z Z.heap va kq (.object "com/example/pemmican/pemmican/DataType") (5 : Int32) [(.ref (c 0)), (.ref (c 1)), (.ref (c 2)), (.ref (c 3)), (.ref (c 4))] .null) (SV : Sta Z Z.heap "com/example/pemmican/pemmican/DataType" "$VALUES" "[Lcom/example/pemmican/pemmican/DataType;" (.ref va)) :
    MetFree l (⟨"com/example/pemmican/pemmican/DataType", "values", "()[Lcom/example/pemmican/pemmican/DataType;"⟩ : MethodName) (head1 (Jvm.Cond.code (⟨"com/example/pemmican/pemmican/DataType", "values", "()[Lcom/example/pemmican/pemmican/DataType;"⟩ : MethodName) prog_16_method_1_code 0 (some (.array (.object "com/example/pemmican/pemmican/DataType"))) :: ws) ({ frames := 1, cells := 1, slots := 5, locals := 14 } : Room)) (fun A_ U_ => A_ = #[] ∧ Z.Warmed39 U_.vm ∧ U_.heap = h0) (fun _ _ _ _ _ => True) (fun _ U o U' => ∃ v L, o = .returned v ∧ Qv Z c va kq h0 n0 v U'.heap L ∧ FrameEnd U o U' L ({ frames := 1, cells := 1, slots := 5, locals := 14 } : Room).cells ({ frames := 1, cells := 1, slots := 5, locals := 14 } : Room).slots) := by
  refine MetFree.of_bodySF (plainFor_of_name pnv) hisR ?_
  intro p e s m args below meth cd s₁ Bd hml0 hP hK
  obtain ⟨rfl, hZ, hh⟩ := hP
  have hx := Bd.exec
  have hby := Bd.bytes
  have hlk : meth.locks = false := BodyLoose.notSynchronized Bd
  have hml : cd.maxLocals = 0 := hml0
  have hown : s.vm.findClass "com/example/pemmican/pemmican/DataType" = some m.cls := findClass_of_methodNamed Bd.named
  have hnm := (name_of_methodNamed Bd.named Bd.method).1
  have X0 : Stand p l e ({ frames := 1, cells := 1, slots := 5, locals := 14 } : Room) s m #[] below meth cd s₁ [] 0 0 := Stand.of_body Bd
  have e0 : s₁.heap = h0 := by rw [← hh, Bd.state]; rfl
  have N0 := Fr.nil n0
  have K0 : Keep h0 h0 [] := Keep.refl _ _
  have G : Go p e below s 1 5 (Qv Z c va kq h0 n0) (s₁.setTop (mkF m 0 #[] [])) := by
    show Go p e below s _ _ _ (s₁.setTop (mkF m 0 #[] []))
    obtain ⟨T1, X1, e1, st1⟩ := getS X0 hx hZ hown (host := "") (own_w hw 42 rfl) Via.refl e0 (SV.ext O0.2) (g := (mkF m 0 #[] [])) rfl (hb hby dv_0)
    refine Go.st st1 ?_
    show Go p e below s _ _ _ (T1.setTop (mkF m 3 #[] [(.ref va)]))
    obtain ⟨T2, h2, X2, e2, E2, A2, Ex2, st2⟩ := cloneH X1 hx hZ hown (own_w hw 44 rfl) (own_w hw 45 rfl) (own_w hw 49 rfl) (own_w hw 47 rfl) (own_w hw 48 rfl) (own_w hw 50 rfl) e1 (Arv.arh (VV.ext O0.2)) (EV.ext O0.2) (g := (mkF m 3 #[] [(.ref va)])) rfl (by rw [hml]; rfl) rfl (hb hby dv_3) (by decide) (W := 0) (cap := 5) (by show 2 * 0 + _ ≤ _; exact Nat.le_of_eq rfl) (by decide) (by decide) (by decide) (by decide)
    obtain ⟨q2, g2⟩ : ∃ z, z = h0.size := ⟨_, rfl⟩
    rw [← g2] at A2 Ex2 st2
    have g_q2 : n0 ≤ q2 := Nat.le_trans (own_old O0) (Nat.le_of_eq g2.symm)
    have sz_q2 : h0.size ≤ q2 := Nat.le_trans K0.1 (Nat.le_of_eq g2.symm)
    have O2 := O0.ext E2
    have K2 := K0.ext E2
    have E_q2 : Exa Z h2 q2 "[Lcom/example/pemmican/pemmican/DataType;" := Ex2
    have V_q2 : Arv Z h2 q2 kq (.object "com/example/pemmican/pemmican/DataType") (5 : Int32) [(.ref (c 0)), (.ref (c 1)), (.ref (c 2)), (.ref (c 3)), (.ref (c 4))] .null := A2
    refine Go.st st2 ?_
    show Go p e below s _ _ _ (T2.setTop (mkF m 6 #[] [(.ref q2)]))
    obtain ⟨T3, X3, e3, st3⟩ := castY X2 hx hZ hown (own_w hw 57 rfl) e2 (Ins.self E_q2) (g := (mkF m 6 #[] [(.ref q2)])) rfl rfl (hb hby dv_6)
    refine Go.st st3 ?_
    show Go p e below s _ _ _ (T3.setTop (mkF m 9 #[] [(.ref q2)]))
    exact Go.ret X3 hlk (some (.ref q2)) (fun h => by rw [Bd.returns] at h; cases h) (by rw [e3]; exact ⟨q2, _, rfl, N0, K2, g_q2, sz_q2, V_q2⟩) (by decide) (by decide) (fun fs hr => retOut X3 hx Bd.returns rfl (Or.inr (Or.inr (Or.inr (Or.inr ⟨rfl, rfl, rfl⟩)))) (hb hby dv_9) hr)
  obtain ⟨s2, o2, st2, r2⟩ := G
  exact ⟨s2, o2, castTop (efv m ) st2, r2⟩
theorem dn_0 : decode prog_16_method_4_code 0 = .ok (.invokestatic 42, 3) := by decide +kernel
theorem dn_3 : decode prog_16_method_4_code 3 = .ok (.astore_n 1, 1) := by decide +kernel
theorem dn_4 : decode prog_16_method_4_code 4 = .ok (.aload_n 1, 1) := by decide +kernel
theorem dn_5 : decode prog_16_method_4_code 5 = .ok (.arraylength, 1) := by decide +kernel
theorem dn_6 : decode prog_16_method_4_code 6 = .ok (.istore_n 2, 1) := by decide +kernel
theorem dn_7 : decode prog_16_method_4_code 7 = .ok (.iconst 0, 1) := by decide +kernel
theorem dn_8 : decode prog_16_method_4_code 8 = .ok (.istore_n 3, 1) := by decide +kernel
theorem dn_9 : decode prog_16_method_4_code 9 = .ok (.iload_n 3, 1) := by decide +kernel
theorem dn_10 : decode prog_16_method_4_code 10 = .ok (.iload_n 2, 1) := by decide +kernel
theorem dn_11 : decode prog_16_method_4_code 11 = .ok (.if_icmp .ge 29, 3) := by decide +kernel
theorem dn_14 : decode prog_16_method_4_code 14 = .ok (.aload_n 1, 1) := by decide +kernel
theorem dn_15 : decode prog_16_method_4_code 15 = .ok (.iload_n 3, 1) := by decide +kernel
theorem dn_16 : decode prog_16_method_4_code 16 = .ok (.aaload, 1) := by decide +kernel
theorem dn_17 : decode prog_16_method_4_code 17 = .ok (.astore 4, 2) := by decide +kernel
theorem dn_19 : decode prog_16_method_4_code 19 = .ok (.aload 4, 2) := by decide +kernel
theorem dn_21 : decode prog_16_method_4_code 21 = .ok (.getfield 38, 3) := by decide +kernel
theorem dn_24 : decode prog_16_method_4_code 24 = .ok (.aload_n 0, 1) := by decide +kernel
theorem dn_25 : decode prog_16_method_4_code 25 = .ok (.invokevirtual 46, 3) := by decide +kernel
theorem dn_28 : decode prog_16_method_4_code 28 = .ok (.ifCond .eq 6, 3) := by decide +kernel
theorem dn_31 : decode prog_16_method_4_code 31 = .ok (.aload 4, 2) := by decide +kernel
theorem dn_33 : decode prog_16_method_4_code 33 = .ok (.areturn, 1) := by decide +kernel
theorem dn_34 : decode prog_16_method_4_code 34 = .ok (.iinc 3 1, 3) := by decide +kernel
theorem dn_37 : decode prog_16_method_4_code 37 = .ok (.goto (-28), 3) := by decide +kernel
theorem dn_40 : decode prog_16_method_4_code 40 = .ok (.aconst_null, 1) := by decide +kernel
theorem dn_41 : decode prog_16_method_4_code 41 = .ok (.areturn, 1) := by decide +kernel
theorem pdn_0 : parseMethodDescriptor "()[Lcom/example/pemmican/pemmican/DataType;" = some ⟨[], some (.array (.object "com/example/pemmican/pemmican/DataType"))⟩ := by decide +kernel
theorem pdn_1 : parseMethodDescriptor "(Ljava/lang/Object;)Z" = some ⟨[(.object "java/lang/Object")], some .boolean⟩ := by decide +kernel
theorem pnn : plainName "com/example/pemmican/pemmican/DataType" = true := by first | (simp [plainName, overriddenIn]; done) | decide +kernel
theorem efn (m : MethodId) (x0 : Addr) : entryFrame m #[(.ref x0)] 5 = mkF m 0 #[.val (.ref x0), .unset, .unset, .unset, .unset] [] := by first | (simp [entryFrame, mkF, argsToLocals, Value.category, maxLocals]; done) | rfl
def Qn (Z : State) (x : Addr) (t : Addr) (kt : ClassId) (M : Int32) (wz : List Value) (ds : List Int32) (c : Nat → Addr) (sa : Nat → Addr) (ya : Nat → Addr) (kv : Nat → ClassId) (va : Addr) (kq : ClassId) (zc : Int32) (h0 : Heap) (n0 : Nat) (v : Option Value) (h : Heap) (L : List Loc) : Prop := v = some (oRes c ds) ∧ Fr n0 L ∧ Keep h0 h []
set_option maxRecDepth 65536 in
set_option maxHeartbeats 40000000 in
theorem rmn (l : Launch) (Z : State) (a0 : Array Value) (hw : ∀ d ∈ tables_1, d.before a0 Z = true) (ws : List Jvm.Cond) (x : Addr) (t : Addr) (kt : ClassId) (M : Int32) (wz : List Value) (ds : List Int32) (c : Nat → Addr) (sa : Nat → Addr) (ya : Nat → Addr) (kv : Nat → ClassId) (va : Addr) (kq : ClassId) (zc : Int32) (h0 : Heap) (n0 : Nat) (O0 : Old Z n0 h0) (E_x : Exa Z h0 x "java/lang/String") (F_x_coder : Fld Z h0 x "java/lang/String" "coder" "B" (.int (0 : Int32))) (F_x_value : Fld Z h0 x "java/lang/String" "value" "[B" (.ref t)) (V_t : Arv Z h0 t kt .byte M wz (.int (0 : Int32))) (hcX : StrChars.Road.CodA ds 0 M wz) (hbX : ∀ c ∈ ds, ¬ c < 0 ∧ ¬ (65535 : Int32) < c) (hlX : ds.length ≤ 4000) (EV : Exa Z Z.heap va "[Lcom/example/pemmican/pemmican/DataType;") (VV : Arv Z Z.heap va kq (.object "com/example/pemmican/pemmican/DataType") (5 : Int32) [(.ref (c 0)), (.ref (c 1)), (.ref (c 2)), (.ref (c 3)), (.ref (c 4))] .null) (D_0 : Exa Z Z.heap (c 0) "com/example/pemmican/pemmican/DataType") (J_0 : Fld Z Z.heap (c 0) "com/example/pemmican/pemmican/DataType" "pmmlName" "Ljava/lang/String;" (.ref (sa 0))) (E_s0 : Exa Z Z.heap (sa 0) "java/lang/String") (F_s0_coder : Fld Z Z.heap (sa 0) "java/lang/String" "coder" "B" (.int (0 : Int32))) (F_s0_value : Fld Z Z.heap (sa 0) "java/lang/String" "value" "[B" (.ref (ya 0))) (V_s0 : Arv Z Z.heap (ya 0) (kv 0) .byte (6 : Int32) [(.int (115 : Int32)), (.int (116 : Int32)), (.int (114 : Int32)), (.int (105 : Int32)), (.int (110 : Int32)), (.int (103 : Int32))] (.int (0 : Int32))) (D_1 : Exa Z Z.heap (c 1) "com/example/pemmican/pemmican/DataType") (J_1 : Fld Z Z.heap (c 1) "com/example/pemmican/pemmican/DataType" "pmmlName" "Ljava/lang/String;" (.ref (sa 1))) (E_s1 : Exa Z Z.heap (sa 1) "java/lang/String") (F_s1_coder : Fld Z Z.heap (sa 1) "java/lang/String" "coder" "B" (.int (0 : Int32))) (F_s1_value : Fld Z Z.heap (sa 1) "java/lang/String" "value" "[B" (.ref (ya 1))) (V_s1 : Arv Z Z.heap (ya 1) (kv 1) .byte (7 : Int32) [(.int (105 : Int32)), (.int (110 : Int32)), (.int (116 : Int32)), (.int (101 : Int32)), (.int (103 : Int32)), (.int (101 : Int32)), (.int (114 : Int32))] (.int (0 : Int32))) (D_2 : Exa Z Z.heap (c 2) "com/example/pemmican/pemmican/DataType") (J_2 : Fld Z Z.heap (c 2) "com/example/pemmican/pemmican/DataType" "pmmlName" "Ljava/lang/String;" (.ref (sa 2))) (E_s2 : Exa Z Z.heap (sa 2) "java/lang/String") (F_s2_coder : Fld Z Z.heap (sa 2) "java/lang/String" "coder" "B" (.int (0 : Int32))) (F_s2_value : Fld Z Z.heap (sa 2) "java/lang/String" "value" "[B" (.ref (ya 2))) (V_s2 : Arv Z Z.heap (ya 2) (kv 2) .byte (5 : Int32) [(.int (102 : Int32)), (.int (108 : Int32)), (.int (111 : Int32)), (.int (97 : Int32)), (.int (116 : Int32))] (.int (0 : Int32))) (D_3 : Exa Z Z.heap (c 3) "com/example/pemmican/pemmican/DataType") (J_3 : Fld Z Z.heap (c 3) "com/example/pemmican/pemmican/DataType" "pmmlName" "Ljava/lang/String;" (.ref (sa 3))) (E_s3 : Exa Z Z.heap (sa 3) "java/lang/String") (F_s3_coder : Fld Z Z.heap (sa 3) "java/lang/String" "coder" "B" (.int (0 : Int32))) (F_s3_value : Fld Z Z.heap (sa 3) "java/lang/String" "value" "[B" (.ref (ya 3))) (V_s3 : Arv Z Z.heap (ya 3) (kv 3) .byte (6 : Int32) [(.int (100 : Int32)), (.int (111 : Int32)), (.int (117 : Int32)), (.int (98 : Int32)), (.int (108 : Int32)), (.int (101 : Int32))] (.int (0 : Int32))) (D_4 : Exa Z Z.heap (c 4) "com/example/pemmican/pemmican/DataType") (J_4 : Fld Z Z.heap (c 4) "com/example/pemmican/pemmican/DataType" "pmmlName" "Ljava/lang/String;" (.ref (sa 4))) (E_s4 : Exa Z Z.heap (sa 4) "java/lang/String") (F_s4_coder : Fld Z Z.heap (sa 4) "java/lang/String" "coder" "B" (.int (0 : Int32))) (F_s4_value : Fld Z Z.heap (sa 4) "java/lang/String" "value" "[B" (.ref (ya 4))) (V_s4 : Arv Z Z.heap (ya 4) (kv 4) .byte (7 : Int32) [(.int (98 : Int32)), (.int (111 : Int32)), (.int (111 : Int32)), (.int (108 : Int32)), (.int (101 : Int32)), (.int (97 : Int32)), (.int (110 : Int32))] (.int (0 : Int32))) (SV : Sta Z Z.heap "com/example/pemmican/pemmican/DataType" "$VALUES" "[Lcom/example/pemmican/pemmican/DataType;" (.ref va)) (SC : Sta Z Z.heap "java/lang/String" "COMPACT_STRINGS" "Z" (.int zc)) (hcs : ¬ zc = 0) :
    MetFree l (⟨"com/example/pemmican/pemmican/DataType", "named", "(Ljava/lang/String;)Lcom/example/pemmican/pemmican/DataType;"⟩ : MethodName) (head1 (Jvm.Cond.code (⟨"com/example/pemmican/pemmican/DataType", "named", "(Ljava/lang/String;)Lcom/example/pemmican/pemmican/DataType;"⟩ : MethodName) prog_16_method_4_code 5 (some (.object "com/example/pemmican/pemmican/DataType")) :: ws) ({ frames := 2, cells := 1, slots := 5, locals := 28 } : Room)) (fun A_ U_ => A_ = #[(.ref x)] ∧ Z.Warmed39 U_.vm ∧ U_.heap = h0) (fun _ _ _ _ _ => True) (fun _ U o U' => ∃ v L, o = .returned v ∧ Qn Z x t kt M wz ds c sa ya kv va kq zc h0 n0 v U'.heap L ∧ FrameEnd U o U' L ({ frames := 2, cells := 1, slots := 5, locals := 28 } : Room).cells ({ frames := 2, cells := 1, slots := 5, locals := 28 } : Room).slots) := by
  refine MetFree.of_bodySF (plainFor_of_name pnn) hisR ?_
  intro p e s m args below meth cd s₁ Bd hml0 hP hK
  obtain ⟨rfl, hZ, hh⟩ := hP
  have hx := Bd.exec
  have hby := Bd.bytes
  have hlk : meth.locks = false := BodyLoose.notSynchronized Bd
  have hml : cd.maxLocals = 5 := hml0
  have hown : s.vm.findClass "com/example/pemmican/pemmican/DataType" = some m.cls := findClass_of_methodNamed Bd.named
  have hnm := (name_of_methodNamed Bd.named Bd.method).1
  have X0 : Stand p l e ({ frames := 2, cells := 1, slots := 5, locals := 28 } : Room) s m #[(.ref x)] below meth cd s₁ [] 0 0 := Stand.of_body Bd
  have e0 : s₁.heap = h0 := by rw [← hh, Bd.state]; rfl
  have N0 := Fr.nil n0
  have K0 : Keep h0 h0 [] := Keep.refl _ _
  have heq : ∀ d ∈ StrChars.Road.wordsEq, d.before a0 Z = true := fun d hd => hw d ((by decide +kernel : ∀ d ∈ StrChars.Road.wordsEq, d ∈ tables_1) d hd)
  have G : Go p e below s 1 5 (Qn Z x t kt M wz ds c sa ya kv va kq zc h0 n0) (s₁.setTop (mkF m 0 #[.val (.ref x), .unset, .unset, .unset, .unset] [])) := by
    show Go p e below s _ _ _ (s₁.setTop (mkF m 0 #[.val (.ref x), .unset, .unset, .unset, .unset] []))
    obtain ⟨_, _, ⟨T1, L1, k1, n1⟩, -, X1, ⟨Lc1, hQ1, l1, y1, z1⟩, st1⟩ := Jvm.LawKit.callS X0 hx (y := (⟨"com/example/pemmican/pemmican/DataType", "values", "()[Lcom/example/pemmican/pemmican/DataType;"⟩ : MethodName)) hown (mvT hZ (own_w hw 39 rfl)) (mvT hZ (own_w hw 40 rfl)) (mvT hZ (own_w hw 37 rfl)) (mvT hZ (own_w hw 41 rfl)) (by decide) (backOf (W := 0) (rmv l Z a0 hw [] c va kq h0 n0 O0 EV VV SV) hZ (own_w hw 41 rfl) (own_w hw 37 rfl) (by decide) (by decide)) (g := (mkF m 0 #[.val (.ref x), .unset, .unset, .unset, .unset] [])) rfl (by rw [hml]; rfl) (argsL := []) (rest := []) (lenOf pdn_0 rfl) rfl (by show 2 * 0 + _ ≤ _; exact Nat.le_of_eq rfl) (hb hby dn_0) (fun _ _ => ⟨rfl, e0, (by decide : 0 + 1 ≤ _), (by decide : 0 + 5 ≤ _)⟩)
    dsimp only [Pt.U, Pt.locs, Pt.cells, Pt.slots] at X1 l1 y1 z1 st1 hQ1
    subst y1 z1
    obtain ⟨q1, kk1, rfl, Nc1, Kc1, gq1, szq1, NV⟩ := hQ1
    have N1 : Fr n0 L1 := by rw [l1]; exact Fr.app N0 Nc1
    have g_q1 : n0 ≤ q1 := gq1
    have sz_q1 : h0.size ≤ q1 := Nat.le_trans K0.1 szq1
    have ne_x_q1 : x ≠ q1 := Nat.ne_of_lt (Nat.lt_of_lt_of_le E_x.lt szq1)
    have ne_t_q1 : t ≠ q1 := Nat.ne_of_lt (Nat.lt_of_lt_of_le V_t.lt szq1)
    have E_x := E_x.keep Kc1
    have F_x_coder := F_x_coder.keep Kc1 nin0
    have F_x_value := F_x_value.keep Kc1 nin0
    have V_t := V_t.keep Kc1 nin0
    have O1 := O0.keep Kc1 all0
    have K1 := K0.trans Kc1 all0
    have V_q1 := NV
    refine Go.st st1 ?_
    show Go p e below s _ _ _ (T1.setTop (mkF m 3 #[.val (.ref x), .unset, .unset, .unset, .unset] [(.ref q1)]))
    refine Go.st (fun _ kq_ => XS.astoreN X1.here hx rfl (hb hby dn_3) rfl rfl (l' := #[.val (.ref x), .val (.ref q1), .unset, .unset, .unset]) rfl kq_) ?_
    show Go p e below s _ _ _ (T1.setTop (mkF m 4 #[.val (.ref x), .val (.ref q1), .unset, .unset, .unset] []))
    refine Go.st (fun _ kq_ => XS.aloadN X1.here hx rfl (hb hby dn_4) rfl rfl kq_) ?_
    show Go p e below s _ _ _ (T1.setTop (mkF m 5 #[.val (.ref x), .val (.ref q1), .unset, .unset, .unset] [(.ref q1)]))
    refine Go.st (fun _ kq_ => own_len X1 hx hZ rfl V_q1 (g := (mkF m 5 #[.val (.ref x), .val (.ref q1), .unset, .unset, .unset] [(.ref q1)])) rfl rfl (hb hby dn_5) _ kq_) ?_
    show Go p e below s _ _ _ (T1.setTop (mkF m 6 #[.val (.ref x), .val (.ref q1), .unset, .unset, .unset] [(.int (5 : Int32))]))
    refine Go.st (fun _ kq_ => XS.istoreN X1.here hx rfl (hb hby dn_6) rfl (l' := #[.val (.ref x), .val (.ref q1), .val (.int (5 : Int32)), .unset, .unset]) rfl kq_) ?_
    show Go p e below s _ _ _ (T1.setTop (mkF m 7 #[.val (.ref x), .val (.ref q1), .val (.int (5 : Int32)), .unset, .unset] []))
    refine Go.st (fun _ kq_ => XS.iconst X1.here hx rfl (hb hby dn_7) kq_) ?_
    show Go p e below s _ _ _ (T1.setTop (mkF m 8 #[.val (.ref x), .val (.ref q1), .val (.int (5 : Int32)), .unset, .unset] [(.int (0 : Int32))]))
    refine Go.st (fun _ kq_ => XS.istoreN X1.here hx rfl (hb hby dn_8) rfl (l' := #[.val (.ref x), .val (.ref q1), .val (.int (5 : Int32)), .val (.int (0 : Int32)), .unset]) rfl kq_) ?_
    show Go p e below s _ _ _ (T1.setTop (mkF m 9 #[.val (.ref x), .val (.ref q1), .val (.int (5 : Int32)), .val (.int (0 : Int32)), .unset] []))
    refine Go.st (fun _ kq_ => XS.iloadN X1.here hx rfl (hb hby dn_9) rfl kq_) ?_
    show Go p e below s _ _ _ (T1.setTop (mkF m 10 #[.val (.ref x), .val (.ref q1), .val (.int (5 : Int32)), .val (.int (0 : Int32)), .unset] [(.int (0 : Int32))]))
    refine Go.st (fun _ kq_ => XS.iloadN X1.here hx rfl (hb hby dn_10) rfl kq_) ?_
    show Go p e below s _ _ _ (T1.setTop (mkF m 11 #[.val (.ref x), .val (.ref q1), .val (.int (5 : Int32)), .val (.int (0 : Int32)), .unset] [(.int (5 : Int32)), (.int (0 : Int32))]))
    refine Go.st (fun _ kq_ => XS.icmpNo X1.here hx rfl (hb hby dn_11) rfl (by decide) kq_) ?_
    show Go p e below s _ _ _ (T1.setTop (mkF m 14 #[.val (.ref x), .val (.ref q1), .val (.int (5 : Int32)), .val (.int (0 : Int32)), .unset] []))
    refine Go.st (fun _ kq_ => XS.aloadN X1.here hx rfl (hb hby dn_14) rfl rfl kq_) ?_
    show Go p e below s _ _ _ (T1.setTop (mkF m 15 #[.val (.ref x), .val (.ref q1), .val (.int (5 : Int32)), .val (.int (0 : Int32)), .unset] [(.ref q1)]))
    refine Go.st (fun _ kq_ => XS.iloadN X1.here hx rfl (hb hby dn_15) rfl kq_) ?_
    show Go p e below s _ _ _ (T1.setTop (mkF m 16 #[.val (.ref x), .val (.ref q1), .val (.int (5 : Int32)), .val (.int (0 : Int32)), .unset] [(.int (0 : Int32)), (.ref q1)]))
    refine Go.st (fun _ kq_ => own_aaload X1 hx hZ rfl V_q1 rfl (by decide) (by decide) (v := (.ref (c 0))) rfl (g := (mkF m 16 #[.val (.ref x), .val (.ref q1), .val (.int (5 : Int32)), .val (.int (0 : Int32)), .unset] [(.int (0 : Int32)), (.ref q1)])) rfl rfl (hb hby dn_16) _ kq_) ?_
    show Go p e below s _ _ _ (T1.setTop (mkF m 17 #[.val (.ref x), .val (.ref q1), .val (.int (5 : Int32)), .val (.int (0 : Int32)), .unset] [(.ref (c 0))]))
    refine Go.st (fun _ kq_ => XS.astore X1.here hx rfl (hb hby dn_17) rfl rfl (l' := #[.val (.ref x), .val (.ref q1), .val (.int (5 : Int32)), .val (.int (0 : Int32)), .val (.ref (c 0))]) rfl kq_) ?_
    show Go p e below s _ _ _ (T1.setTop (mkF m 19 #[.val (.ref x), .val (.ref q1), .val (.int (5 : Int32)), .val (.int (0 : Int32)), .val (.ref (c 0))] []))
    refine Go.st (fun _ kq_ => XS.aload X1.here hx rfl (hb hby dn_19) rfl rfl kq_) ?_
    show Go p e below s _ _ _ (T1.setTop (mkF m 21 #[.val (.ref x), .val (.ref q1), .val (.int (5 : Int32)), .val (.int (0 : Int32)), .val (.ref (c 0))] [(.ref (c 0))]))
    obtain ⟨T2, X2, e2, st2⟩ := getF X1 hx hZ hown (host := "") (Or.inl (own_w hw 59 rfl)) Via.refl rfl (J_0.ext O1.2) (g := (mkF m 21 #[.val (.ref x), .val (.ref q1), .val (.int (5 : Int32)), .val (.int (0 : Int32)), .val (.ref (c 0))] [(.ref (c 0))])) rfl rfl (hb hby dn_21)
    refine Go.st st2 ?_
    show Go p e below s _ _ _ (T2.setTop (mkF m 24 #[.val (.ref x), .val (.ref q1), .val (.int (5 : Int32)), .val (.int (0 : Int32)), .val (.ref (c 0))] [(.ref (sa 0))]))
    refine Go.st (fun _ kq_ => XS.aloadN X2.here hx rfl (hb hby dn_24) rfl rfl kq_) ?_
    show Go p e below s _ _ _ (T2.setTop (mkF m 25 #[.val (.ref x), .val (.ref q1), .val (.int (5 : Int32)), .val (.int (0 : Int32)), .val (.ref (c 0))] [(.ref x), (.ref (sa 0))]))
    obtain ⟨cq3, kq3, qa3, qb3, qc3⟩ := isOf hZ e2 (E_s0.ext O1.2)
    obtain ⟨_, _, ⟨T3, L3, k3, n3⟩, -, X3, ⟨Lc3, hQ3, l3, y3, z3⟩, st3⟩ := X2.virtualBack hx (y := (⟨"java/lang/String", "equals", "(Ljava/lang/Object;)Z"⟩ : MethodName)) (z := (⟨"java/lang/String", "equals", "(Ljava/lang/Object;)Z"⟩ : MethodName)) hown (mvT hZ (own_w hw 61 rfl)) (mvT hZ (own_w hw 62 rfl)) (notFace_of_selects (args := #[]) (mvT hZ (own_w hw 64 rfl))) (mvT hZ (own_w hw 64 rfl)) (mvT hZ (own_w hw 63 rfl)) (by decide) (StrChars.Road.eqW (W := 0) hZ heq (kI := 4) (own_w hw 2 rfl) (cs := ([(115 : Int32), (116 : Int32), (114 : Int32), (105 : Int32), (110 : Int32), (103 : Int32)] : List Int32)) (ds := ds) (E_s0.ext O1.2) (F_s0_value.ext O1.2) (F_s0_coder.ext O1.2) (V_s0.ext O1.2) own_cod0 own_b0 (by decide) E_x F_x_value F_x_coder V_t hcX hbX hlX (SC.ext O1.2) hcs (by decide) (by decide)) qa3 qc3 (g := (mkF m 25 #[.val (.ref x), .val (.ref q1), .val (.int (5 : Int32)), .val (.int (0 : Int32)), .val (.ref (c 0))] [(.ref x), (.ref (sa 0))])) rfl (by rw [hml]; rfl) (Steps.refl _) (argsL := [(.ref x)]) (rest := []) (lenOf pdn_1 rfl) rfl (by show 2 * 0 + _ ≤ _; exact Nat.le_of_eq rfl) (hb hby dn_25) (fun _ _ => ⟨rfl, e2, (by decide : 1 + 0 ≤ _), (by decide : 5 + 0 ≤ _)⟩)
    dsimp only [Pt.U, Pt.locs, Pt.cells, Pt.slots] at X3 l3 y3 z3 st3 hQ3
    subst y3 z3
    obtain ⟨hz3, el3, e3⟩ := hQ3
    obtain ⟨zq3, rfl, hzq3⟩ := own_zz hz3
    have Nc3 : Fr n0 Lc3 := by rw [el3]; exact Fr.nil n0
    have N3 : Fr n0 L3 := by rw [l3]; exact Fr.app N1 Nc3
    refine Go.tr st3 ?_
    show Go p e below s _ _ _ (T3.setTop (mkF m 28 #[.val (.ref x), .val (.ref q1), .val (.int (5 : Int32)), .val (.int (0 : Int32)), .val (.ref (c 0))] [(.int zq3)]))
    by_cases c28_4 : zq3 = (0 : Int32)
    · refine Go.st (fun _ kq_ => XS.ifYes X3.here hx rfl (pc0 := 28) (pc' := 34) rfl (hb hby dn_28) rfl (XT.i0_eq_t c28_4) (by decide) (by decide) kq_) ?_
      show Go p e below s _ _ _ (T3.setTop (mkF m 34 #[.val (.ref x), .val (.ref q1), .val (.int (5 : Int32)), .val (.int (0 : Int32)), .val (.ref (c 0))] []))
      refine Go.st (fun _ kq_ => XT.iincV X3.here hx rfl (1 : Int32) (hb hby dn_34) rfl rfl (l' := #[.val (.ref x), .val (.ref q1), .val (.int (5 : Int32)), .val (.int (1 : Int32)), .val (.ref (c 0))]) rfl kq_) ?_
      show Go p e below s _ _ _ (T3.setTop (mkF m 37 #[.val (.ref x), .val (.ref q1), .val (.int (5 : Int32)), .val (.int (1 : Int32)), .val (.ref (c 0))] []))
      refine Go.st (fun _ kq_ => XS.goto X3.here hx rfl (pc0 := 37) (pc' := 9) rfl (hb hby dn_37) (by decide) (by decide) kq_) ?_
      show Go p e below s _ _ _ (T3.setTop (mkF m 9 #[.val (.ref x), .val (.ref q1), .val (.int (5 : Int32)), .val (.int (1 : Int32)), .val (.ref (c 0))] []))
      refine Go.st (fun _ kq_ => XS.iloadN X3.here hx rfl (hb hby dn_9) rfl kq_) ?_
      show Go p e below s _ _ _ (T3.setTop (mkF m 10 #[.val (.ref x), .val (.ref q1), .val (.int (5 : Int32)), .val (.int (1 : Int32)), .val (.ref (c 0))] [(.int (1 : Int32))]))
      refine Go.st (fun _ kq_ => XS.iloadN X3.here hx rfl (hb hby dn_10) rfl kq_) ?_
      show Go p e below s _ _ _ (T3.setTop (mkF m 11 #[.val (.ref x), .val (.ref q1), .val (.int (5 : Int32)), .val (.int (1 : Int32)), .val (.ref (c 0))] [(.int (5 : Int32)), (.int (1 : Int32))]))
      refine Go.st (fun _ kq_ => XS.icmpNo X3.here hx rfl (hb hby dn_11) rfl (by decide) kq_) ?_
      show Go p e below s _ _ _ (T3.setTop (mkF m 14 #[.val (.ref x), .val (.ref q1), .val (.int (5 : Int32)), .val (.int (1 : Int32)), .val (.ref (c 0))] []))
      refine Go.st (fun _ kq_ => XS.aloadN X3.here hx rfl (hb hby dn_14) rfl rfl kq_) ?_
      show Go p e below s _ _ _ (T3.setTop (mkF m 15 #[.val (.ref x), .val (.ref q1), .val (.int (5 : Int32)), .val (.int (1 : Int32)), .val (.ref (c 0))] [(.ref q1)]))
      refine Go.st (fun _ kq_ => XS.iloadN X3.here hx rfl (hb hby dn_15) rfl kq_) ?_
      show Go p e below s _ _ _ (T3.setTop (mkF m 16 #[.val (.ref x), .val (.ref q1), .val (.int (5 : Int32)), .val (.int (1 : Int32)), .val (.ref (c 0))] [(.int (1 : Int32)), (.ref q1)]))
      refine Go.st (fun _ kq_ => own_aaload X3 hx hZ e3 V_q1 rfl (by decide) (by decide) (v := (.ref (c 1))) rfl (g := (mkF m 16 #[.val (.ref x), .val (.ref q1), .val (.int (5 : Int32)), .val (.int (1 : Int32)), .val (.ref (c 0))] [(.int (1 : Int32)), (.ref q1)])) rfl rfl (hb hby dn_16) _ kq_) ?_
      show Go p e below s _ _ _ (T3.setTop (mkF m 17 #[.val (.ref x), .val (.ref q1), .val (.int (5 : Int32)), .val (.int (1 : Int32)), .val (.ref (c 0))] [(.ref (c 1))]))
      refine Go.st (fun _ kq_ => XS.astore X3.here hx rfl (hb hby dn_17) rfl rfl (l' := #[.val (.ref x), .val (.ref q1), .val (.int (5 : Int32)), .val (.int (1 : Int32)), .val (.ref (c 1))]) rfl kq_) ?_
      show Go p e below s _ _ _ (T3.setTop (mkF m 19 #[.val (.ref x), .val (.ref q1), .val (.int (5 : Int32)), .val (.int (1 : Int32)), .val (.ref (c 1))] []))
      refine Go.st (fun _ kq_ => XS.aload X3.here hx rfl (hb hby dn_19) rfl rfl kq_) ?_
      show Go p e below s _ _ _ (T3.setTop (mkF m 21 #[.val (.ref x), .val (.ref q1), .val (.int (5 : Int32)), .val (.int (1 : Int32)), .val (.ref (c 1))] [(.ref (c 1))]))
      obtain ⟨T5, X5, e5, st5⟩ := getF X3 hx hZ hown (host := "") (Or.inl (own_w hw 59 rfl)) Via.refl e3 (J_1.ext O1.2) (g := (mkF m 21 #[.val (.ref x), .val (.ref q1), .val (.int (5 : Int32)), .val (.int (1 : Int32)), .val (.ref (c 1))] [(.ref (c 1))])) rfl rfl (hb hby dn_21)
      refine Go.st st5 ?_
      show Go p e below s _ _ _ (T5.setTop (mkF m 24 #[.val (.ref x), .val (.ref q1), .val (.int (5 : Int32)), .val (.int (1 : Int32)), .val (.ref (c 1))] [(.ref (sa 1))]))
      refine Go.st (fun _ kq_ => XS.aloadN X5.here hx rfl (hb hby dn_24) rfl rfl kq_) ?_
      show Go p e below s _ _ _ (T5.setTop (mkF m 25 #[.val (.ref x), .val (.ref q1), .val (.int (5 : Int32)), .val (.int (1 : Int32)), .val (.ref (c 1))] [(.ref x), (.ref (sa 1))]))
      obtain ⟨cq6, kq6, qa6, qb6, qc6⟩ := isOf hZ e5 (E_s1.ext O1.2)
      obtain ⟨_, _, ⟨T6, L6, k6, n6⟩, -, X6, ⟨Lc6, hQ6, l6, y6, z6⟩, st6⟩ := X5.virtualBack hx (y := (⟨"java/lang/String", "equals", "(Ljava/lang/Object;)Z"⟩ : MethodName)) (z := (⟨"java/lang/String", "equals", "(Ljava/lang/Object;)Z"⟩ : MethodName)) hown (mvT hZ (own_w hw 61 rfl)) (mvT hZ (own_w hw 62 rfl)) (notFace_of_selects (args := #[]) (mvT hZ (own_w hw 64 rfl))) (mvT hZ (own_w hw 64 rfl)) (mvT hZ (own_w hw 63 rfl)) (by decide) (StrChars.Road.eqW (W := 0) hZ heq (kI := 4) (own_w hw 2 rfl) (cs := ([(105 : Int32), (110 : Int32), (116 : Int32), (101 : Int32), (103 : Int32), (101 : Int32), (114 : Int32)] : List Int32)) (ds := ds) (E_s1.ext O1.2) (F_s1_value.ext O1.2) (F_s1_coder.ext O1.2) (V_s1.ext O1.2) own_cod1 own_b1 (by decide) E_x F_x_value F_x_coder V_t hcX hbX hlX (SC.ext O1.2) hcs (by decide) (by decide)) qa6 qc6 (g := (mkF m 25 #[.val (.ref x), .val (.ref q1), .val (.int (5 : Int32)), .val (.int (1 : Int32)), .val (.ref (c 1))] [(.ref x), (.ref (sa 1))])) rfl (by rw [hml]; rfl) (Steps.refl _) (argsL := [(.ref x)]) (rest := []) (lenOf pdn_1 rfl) rfl (by show 2 * 0 + _ ≤ _; exact Nat.le_of_eq rfl) (hb hby dn_25) (fun _ _ => ⟨rfl, e5, (by decide : 1 + 0 ≤ _), (by decide : 5 + 0 ≤ _)⟩)
      dsimp only [Pt.U, Pt.locs, Pt.cells, Pt.slots] at X6 l6 y6 z6 st6 hQ6
      subst y6 z6
      obtain ⟨hz6, el6, e6⟩ := hQ6
      obtain ⟨zq6, rfl, hzq6⟩ := own_zz hz6
      have Nc6 : Fr n0 Lc6 := by rw [el6]; exact Fr.nil n0
      have N6 : Fr n0 L6 := by rw [l6]; exact Fr.app N3 Nc6
      refine Go.tr st6 ?_
      show Go p e below s _ _ _ (T6.setTop (mkF m 28 #[.val (.ref x), .val (.ref q1), .val (.int (5 : Int32)), .val (.int (1 : Int32)), .val (.ref (c 1))] [(.int zq6)]))
      by_cases c28_7 : zq6 = (0 : Int32)
      · refine Go.st (fun _ kq_ => XS.ifYes X6.here hx rfl (pc0 := 28) (pc' := 34) rfl (hb hby dn_28) rfl (XT.i0_eq_t c28_7) (by decide) (by decide) kq_) ?_
        show Go p e below s _ _ _ (T6.setTop (mkF m 34 #[.val (.ref x), .val (.ref q1), .val (.int (5 : Int32)), .val (.int (1 : Int32)), .val (.ref (c 1))] []))
        refine Go.st (fun _ kq_ => XT.iincV X6.here hx rfl (1 : Int32) (hb hby dn_34) rfl rfl (l' := #[.val (.ref x), .val (.ref q1), .val (.int (5 : Int32)), .val (.int (2 : Int32)), .val (.ref (c 1))]) rfl kq_) ?_
        show Go p e below s _ _ _ (T6.setTop (mkF m 37 #[.val (.ref x), .val (.ref q1), .val (.int (5 : Int32)), .val (.int (2 : Int32)), .val (.ref (c 1))] []))
        refine Go.st (fun _ kq_ => XS.goto X6.here hx rfl (pc0 := 37) (pc' := 9) rfl (hb hby dn_37) (by decide) (by decide) kq_) ?_
        show Go p e below s _ _ _ (T6.setTop (mkF m 9 #[.val (.ref x), .val (.ref q1), .val (.int (5 : Int32)), .val (.int (2 : Int32)), .val (.ref (c 1))] []))
        refine Go.st (fun _ kq_ => XS.iloadN X6.here hx rfl (hb hby dn_9) rfl kq_) ?_
        show Go p e below s _ _ _ (T6.setTop (mkF m 10 #[.val (.ref x), .val (.ref q1), .val (.int (5 : Int32)), .val (.int (2 : Int32)), .val (.ref (c 1))] [(.int (2 : Int32))]))
        refine Go.st (fun _ kq_ => XS.iloadN X6.here hx rfl (hb hby dn_10) rfl kq_) ?_
        show Go p e below s _ _ _ (T6.setTop (mkF m 11 #[.val (.ref x), .val (.ref q1), .val (.int (5 : Int32)), .val (.int (2 : Int32)), .val (.ref (c 1))] [(.int (5 : Int32)), (.int (2 : Int32))]))
        refine Go.st (fun _ kq_ => XS.icmpNo X6.here hx rfl (hb hby dn_11) rfl (by decide) kq_) ?_
        show Go p e below s _ _ _ (T6.setTop (mkF m 14 #[.val (.ref x), .val (.ref q1), .val (.int (5 : Int32)), .val (.int (2 : Int32)), .val (.ref (c 1))] []))
        refine Go.st (fun _ kq_ => XS.aloadN X6.here hx rfl (hb hby dn_14) rfl rfl kq_) ?_
        show Go p e below s _ _ _ (T6.setTop (mkF m 15 #[.val (.ref x), .val (.ref q1), .val (.int (5 : Int32)), .val (.int (2 : Int32)), .val (.ref (c 1))] [(.ref q1)]))
        refine Go.st (fun _ kq_ => XS.iloadN X6.here hx rfl (hb hby dn_15) rfl kq_) ?_
        show Go p e below s _ _ _ (T6.setTop (mkF m 16 #[.val (.ref x), .val (.ref q1), .val (.int (5 : Int32)), .val (.int (2 : Int32)), .val (.ref (c 1))] [(.int (2 : Int32)), (.ref q1)]))
        refine Go.st (fun _ kq_ => own_aaload X6 hx hZ e6 V_q1 rfl (by decide) (by decide) (v := (.ref (c 2))) rfl (g := (mkF m 16 #[.val (.ref x), .val (.ref q1), .val (.int (5 : Int32)), .val (.int (2 : Int32)), .val (.ref (c 1))] [(.int (2 : Int32)), (.ref q1)])) rfl rfl (hb hby dn_16) _ kq_) ?_
        show Go p e below s _ _ _ (T6.setTop (mkF m 17 #[.val (.ref x), .val (.ref q1), .val (.int (5 : Int32)), .val (.int (2 : Int32)), .val (.ref (c 1))] [(.ref (c 2))]))
        refine Go.st (fun _ kq_ => XS.astore X6.here hx rfl (hb hby dn_17) rfl rfl (l' := #[.val (.ref x), .val (.ref q1), .val (.int (5 : Int32)), .val (.int (2 : Int32)), .val (.ref (c 2))]) rfl kq_) ?_
        show Go p e below s _ _ _ (T6.setTop (mkF m 19 #[.val (.ref x), .val (.ref q1), .val (.int (5 : Int32)), .val (.int (2 : Int32)), .val (.ref (c 2))] []))
        refine Go.st (fun _ kq_ => XS.aload X6.here hx rfl (hb hby dn_19) rfl rfl kq_) ?_
        show Go p e below s _ _ _ (T6.setTop (mkF m 21 #[.val (.ref x), .val (.ref q1), .val (.int (5 : Int32)), .val (.int (2 : Int32)), .val (.ref (c 2))] [(.ref (c 2))]))
        obtain ⟨T8, X8, e8, st8⟩ := getF X6 hx hZ hown (host := "") (Or.inl (own_w hw 59 rfl)) Via.refl e6 (J_2.ext O1.2) (g := (mkF m 21 #[.val (.ref x), .val (.ref q1), .val (.int (5 : Int32)), .val (.int (2 : Int32)), .val (.ref (c 2))] [(.ref (c 2))])) rfl rfl (hb hby dn_21)
        refine Go.st st8 ?_
        show Go p e below s _ _ _ (T8.setTop (mkF m 24 #[.val (.ref x), .val (.ref q1), .val (.int (5 : Int32)), .val (.int (2 : Int32)), .val (.ref (c 2))] [(.ref (sa 2))]))
        refine Go.st (fun _ kq_ => XS.aloadN X8.here hx rfl (hb hby dn_24) rfl rfl kq_) ?_
        show Go p e below s _ _ _ (T8.setTop (mkF m 25 #[.val (.ref x), .val (.ref q1), .val (.int (5 : Int32)), .val (.int (2 : Int32)), .val (.ref (c 2))] [(.ref x), (.ref (sa 2))]))
        obtain ⟨cq9, kq9, qa9, qb9, qc9⟩ := isOf hZ e8 (E_s2.ext O1.2)
        obtain ⟨_, _, ⟨T9, L9, k9, n9⟩, -, X9, ⟨Lc9, hQ9, l9, y9, z9⟩, st9⟩ := X8.virtualBack hx (y := (⟨"java/lang/String", "equals", "(Ljava/lang/Object;)Z"⟩ : MethodName)) (z := (⟨"java/lang/String", "equals", "(Ljava/lang/Object;)Z"⟩ : MethodName)) hown (mvT hZ (own_w hw 61 rfl)) (mvT hZ (own_w hw 62 rfl)) (notFace_of_selects (args := #[]) (mvT hZ (own_w hw 64 rfl))) (mvT hZ (own_w hw 64 rfl)) (mvT hZ (own_w hw 63 rfl)) (by decide) (StrChars.Road.eqW (W := 0) hZ heq (kI := 4) (own_w hw 2 rfl) (cs := ([(102 : Int32), (108 : Int32), (111 : Int32), (97 : Int32), (116 : Int32)] : List Int32)) (ds := ds) (E_s2.ext O1.2) (F_s2_value.ext O1.2) (F_s2_coder.ext O1.2) (V_s2.ext O1.2) own_cod2 own_b2 (by decide) E_x F_x_value F_x_coder V_t hcX hbX hlX (SC.ext O1.2) hcs (by decide) (by decide)) qa9 qc9 (g := (mkF m 25 #[.val (.ref x), .val (.ref q1), .val (.int (5 : Int32)), .val (.int (2 : Int32)), .val (.ref (c 2))] [(.ref x), (.ref (sa 2))])) rfl (by rw [hml]; rfl) (Steps.refl _) (argsL := [(.ref x)]) (rest := []) (lenOf pdn_1 rfl) rfl (by show 2 * 0 + _ ≤ _; exact Nat.le_of_eq rfl) (hb hby dn_25) (fun _ _ => ⟨rfl, e8, (by decide : 1 + 0 ≤ _), (by decide : 5 + 0 ≤ _)⟩)
        dsimp only [Pt.U, Pt.locs, Pt.cells, Pt.slots] at X9 l9 y9 z9 st9 hQ9
        subst y9 z9
        obtain ⟨hz9, el9, e9⟩ := hQ9
        obtain ⟨zq9, rfl, hzq9⟩ := own_zz hz9
        have Nc9 : Fr n0 Lc9 := by rw [el9]; exact Fr.nil n0
        have N9 : Fr n0 L9 := by rw [l9]; exact Fr.app N6 Nc9
        refine Go.tr st9 ?_
        show Go p e below s _ _ _ (T9.setTop (mkF m 28 #[.val (.ref x), .val (.ref q1), .val (.int (5 : Int32)), .val (.int (2 : Int32)), .val (.ref (c 2))] [(.int zq9)]))
        by_cases c28_10 : zq9 = (0 : Int32)
        · refine Go.st (fun _ kq_ => XS.ifYes X9.here hx rfl (pc0 := 28) (pc' := 34) rfl (hb hby dn_28) rfl (XT.i0_eq_t c28_10) (by decide) (by decide) kq_) ?_
          show Go p e below s _ _ _ (T9.setTop (mkF m 34 #[.val (.ref x), .val (.ref q1), .val (.int (5 : Int32)), .val (.int (2 : Int32)), .val (.ref (c 2))] []))
          refine Go.st (fun _ kq_ => XT.iincV X9.here hx rfl (1 : Int32) (hb hby dn_34) rfl rfl (l' := #[.val (.ref x), .val (.ref q1), .val (.int (5 : Int32)), .val (.int (3 : Int32)), .val (.ref (c 2))]) rfl kq_) ?_
          show Go p e below s _ _ _ (T9.setTop (mkF m 37 #[.val (.ref x), .val (.ref q1), .val (.int (5 : Int32)), .val (.int (3 : Int32)), .val (.ref (c 2))] []))
          refine Go.st (fun _ kq_ => XS.goto X9.here hx rfl (pc0 := 37) (pc' := 9) rfl (hb hby dn_37) (by decide) (by decide) kq_) ?_
          show Go p e below s _ _ _ (T9.setTop (mkF m 9 #[.val (.ref x), .val (.ref q1), .val (.int (5 : Int32)), .val (.int (3 : Int32)), .val (.ref (c 2))] []))
          refine Go.st (fun _ kq_ => XS.iloadN X9.here hx rfl (hb hby dn_9) rfl kq_) ?_
          show Go p e below s _ _ _ (T9.setTop (mkF m 10 #[.val (.ref x), .val (.ref q1), .val (.int (5 : Int32)), .val (.int (3 : Int32)), .val (.ref (c 2))] [(.int (3 : Int32))]))
          refine Go.st (fun _ kq_ => XS.iloadN X9.here hx rfl (hb hby dn_10) rfl kq_) ?_
          show Go p e below s _ _ _ (T9.setTop (mkF m 11 #[.val (.ref x), .val (.ref q1), .val (.int (5 : Int32)), .val (.int (3 : Int32)), .val (.ref (c 2))] [(.int (5 : Int32)), (.int (3 : Int32))]))
          refine Go.st (fun _ kq_ => XS.icmpNo X9.here hx rfl (hb hby dn_11) rfl (by decide) kq_) ?_
          show Go p e below s _ _ _ (T9.setTop (mkF m 14 #[.val (.ref x), .val (.ref q1), .val (.int (5 : Int32)), .val (.int (3 : Int32)), .val (.ref (c 2))] []))
          refine Go.st (fun _ kq_ => XS.aloadN X9.here hx rfl (hb hby dn_14) rfl rfl kq_) ?_
          show Go p e below s _ _ _ (T9.setTop (mkF m 15 #[.val (.ref x), .val (.ref q1), .val (.int (5 : Int32)), .val (.int (3 : Int32)), .val (.ref (c 2))] [(.ref q1)]))
          refine Go.st (fun _ kq_ => XS.iloadN X9.here hx rfl (hb hby dn_15) rfl kq_) ?_
          show Go p e below s _ _ _ (T9.setTop (mkF m 16 #[.val (.ref x), .val (.ref q1), .val (.int (5 : Int32)), .val (.int (3 : Int32)), .val (.ref (c 2))] [(.int (3 : Int32)), (.ref q1)]))
          refine Go.st (fun _ kq_ => own_aaload X9 hx hZ e9 V_q1 rfl (by decide) (by decide) (v := (.ref (c 3))) rfl (g := (mkF m 16 #[.val (.ref x), .val (.ref q1), .val (.int (5 : Int32)), .val (.int (3 : Int32)), .val (.ref (c 2))] [(.int (3 : Int32)), (.ref q1)])) rfl rfl (hb hby dn_16) _ kq_) ?_
          show Go p e below s _ _ _ (T9.setTop (mkF m 17 #[.val (.ref x), .val (.ref q1), .val (.int (5 : Int32)), .val (.int (3 : Int32)), .val (.ref (c 2))] [(.ref (c 3))]))
          refine Go.st (fun _ kq_ => XS.astore X9.here hx rfl (hb hby dn_17) rfl rfl (l' := #[.val (.ref x), .val (.ref q1), .val (.int (5 : Int32)), .val (.int (3 : Int32)), .val (.ref (c 3))]) rfl kq_) ?_
          show Go p e below s _ _ _ (T9.setTop (mkF m 19 #[.val (.ref x), .val (.ref q1), .val (.int (5 : Int32)), .val (.int (3 : Int32)), .val (.ref (c 3))] []))
          refine Go.st (fun _ kq_ => XS.aload X9.here hx rfl (hb hby dn_19) rfl rfl kq_) ?_
          show Go p e below s _ _ _ (T9.setTop (mkF m 21 #[.val (.ref x), .val (.ref q1), .val (.int (5 : Int32)), .val (.int (3 : Int32)), .val (.ref (c 3))] [(.ref (c 3))]))
          obtain ⟨T11, X11, e11, st11⟩ := getF X9 hx hZ hown (host := "") (Or.inl (own_w hw 59 rfl)) Via.refl e9 (J_3.ext O1.2) (g := (mkF m 21 #[.val (.ref x), .val (.ref q1), .val (.int (5 : Int32)), .val (.int (3 : Int32)), .val (.ref (c 3))] [(.ref (c 3))])) rfl rfl (hb hby dn_21)
          refine Go.st st11 ?_
          show Go p e below s _ _ _ (T11.setTop (mkF m 24 #[.val (.ref x), .val (.ref q1), .val (.int (5 : Int32)), .val (.int (3 : Int32)), .val (.ref (c 3))] [(.ref (sa 3))]))
          refine Go.st (fun _ kq_ => XS.aloadN X11.here hx rfl (hb hby dn_24) rfl rfl kq_) ?_
          show Go p e below s _ _ _ (T11.setTop (mkF m 25 #[.val (.ref x), .val (.ref q1), .val (.int (5 : Int32)), .val (.int (3 : Int32)), .val (.ref (c 3))] [(.ref x), (.ref (sa 3))]))
          obtain ⟨cq12, kq12, qa12, qb12, qc12⟩ := isOf hZ e11 (E_s3.ext O1.2)
          obtain ⟨_, _, ⟨T12, L12, k12, n12⟩, -, X12, ⟨Lc12, hQ12, l12, y12, z12⟩, st12⟩ := X11.virtualBack hx (y := (⟨"java/lang/String", "equals", "(Ljava/lang/Object;)Z"⟩ : MethodName)) (z := (⟨"java/lang/String", "equals", "(Ljava/lang/Object;)Z"⟩ : MethodName)) hown (mvT hZ (own_w hw 61 rfl)) (mvT hZ (own_w hw 62 rfl)) (notFace_of_selects (args := #[]) (mvT hZ (own_w hw 64 rfl))) (mvT hZ (own_w hw 64 rfl)) (mvT hZ (own_w hw 63 rfl)) (by decide) (StrChars.Road.eqW (W := 0) hZ heq (kI := 4) (own_w hw 2 rfl) (cs := ([(100 : Int32), (111 : Int32), (117 : Int32), (98 : Int32), (108 : Int32), (101 : Int32)] : List Int32)) (ds := ds) (E_s3.ext O1.2) (F_s3_value.ext O1.2) (F_s3_coder.ext O1.2) (V_s3.ext O1.2) own_cod3 own_b3 (by decide) E_x F_x_value F_x_coder V_t hcX hbX hlX (SC.ext O1.2) hcs (by decide) (by decide)) qa12 qc12 (g := (mkF m 25 #[.val (.ref x), .val (.ref q1), .val (.int (5 : Int32)), .val (.int (3 : Int32)), .val (.ref (c 3))] [(.ref x), (.ref (sa 3))])) rfl (by rw [hml]; rfl) (Steps.refl _) (argsL := [(.ref x)]) (rest := []) (lenOf pdn_1 rfl) rfl (by show 2 * 0 + _ ≤ _; exact Nat.le_of_eq rfl) (hb hby dn_25) (fun _ _ => ⟨rfl, e11, (by decide : 1 + 0 ≤ _), (by decide : 5 + 0 ≤ _)⟩)
          dsimp only [Pt.U, Pt.locs, Pt.cells, Pt.slots] at X12 l12 y12 z12 st12 hQ12
          subst y12 z12
          obtain ⟨hz12, el12, e12⟩ := hQ12
          obtain ⟨zq12, rfl, hzq12⟩ := own_zz hz12
          have Nc12 : Fr n0 Lc12 := by rw [el12]; exact Fr.nil n0
          have N12 : Fr n0 L12 := by rw [l12]; exact Fr.app N9 Nc12
          refine Go.tr st12 ?_
          show Go p e below s _ _ _ (T12.setTop (mkF m 28 #[.val (.ref x), .val (.ref q1), .val (.int (5 : Int32)), .val (.int (3 : Int32)), .val (.ref (c 3))] [(.int zq12)]))
          by_cases c28_13 : zq12 = (0 : Int32)
          · refine Go.st (fun _ kq_ => XS.ifYes X12.here hx rfl (pc0 := 28) (pc' := 34) rfl (hb hby dn_28) rfl (XT.i0_eq_t c28_13) (by decide) (by decide) kq_) ?_
            show Go p e below s _ _ _ (T12.setTop (mkF m 34 #[.val (.ref x), .val (.ref q1), .val (.int (5 : Int32)), .val (.int (3 : Int32)), .val (.ref (c 3))] []))
            refine Go.st (fun _ kq_ => XT.iincV X12.here hx rfl (1 : Int32) (hb hby dn_34) rfl rfl (l' := #[.val (.ref x), .val (.ref q1), .val (.int (5 : Int32)), .val (.int (4 : Int32)), .val (.ref (c 3))]) rfl kq_) ?_
            show Go p e below s _ _ _ (T12.setTop (mkF m 37 #[.val (.ref x), .val (.ref q1), .val (.int (5 : Int32)), .val (.int (4 : Int32)), .val (.ref (c 3))] []))
            refine Go.st (fun _ kq_ => XS.goto X12.here hx rfl (pc0 := 37) (pc' := 9) rfl (hb hby dn_37) (by decide) (by decide) kq_) ?_
            show Go p e below s _ _ _ (T12.setTop (mkF m 9 #[.val (.ref x), .val (.ref q1), .val (.int (5 : Int32)), .val (.int (4 : Int32)), .val (.ref (c 3))] []))
            refine Go.st (fun _ kq_ => XS.iloadN X12.here hx rfl (hb hby dn_9) rfl kq_) ?_
            show Go p e below s _ _ _ (T12.setTop (mkF m 10 #[.val (.ref x), .val (.ref q1), .val (.int (5 : Int32)), .val (.int (4 : Int32)), .val (.ref (c 3))] [(.int (4 : Int32))]))
            refine Go.st (fun _ kq_ => XS.iloadN X12.here hx rfl (hb hby dn_10) rfl kq_) ?_
            show Go p e below s _ _ _ (T12.setTop (mkF m 11 #[.val (.ref x), .val (.ref q1), .val (.int (5 : Int32)), .val (.int (4 : Int32)), .val (.ref (c 3))] [(.int (5 : Int32)), (.int (4 : Int32))]))
            refine Go.st (fun _ kq_ => XS.icmpNo X12.here hx rfl (hb hby dn_11) rfl (by decide) kq_) ?_
            show Go p e below s _ _ _ (T12.setTop (mkF m 14 #[.val (.ref x), .val (.ref q1), .val (.int (5 : Int32)), .val (.int (4 : Int32)), .val (.ref (c 3))] []))
            refine Go.st (fun _ kq_ => XS.aloadN X12.here hx rfl (hb hby dn_14) rfl rfl kq_) ?_
            show Go p e below s _ _ _ (T12.setTop (mkF m 15 #[.val (.ref x), .val (.ref q1), .val (.int (5 : Int32)), .val (.int (4 : Int32)), .val (.ref (c 3))] [(.ref q1)]))
            refine Go.st (fun _ kq_ => XS.iloadN X12.here hx rfl (hb hby dn_15) rfl kq_) ?_
            show Go p e below s _ _ _ (T12.setTop (mkF m 16 #[.val (.ref x), .val (.ref q1), .val (.int (5 : Int32)), .val (.int (4 : Int32)), .val (.ref (c 3))] [(.int (4 : Int32)), (.ref q1)]))
            refine Go.st (fun _ kq_ => own_aaload X12 hx hZ e12 V_q1 rfl (by decide) (by decide) (v := (.ref (c 4))) rfl (g := (mkF m 16 #[.val (.ref x), .val (.ref q1), .val (.int (5 : Int32)), .val (.int (4 : Int32)), .val (.ref (c 3))] [(.int (4 : Int32)), (.ref q1)])) rfl rfl (hb hby dn_16) _ kq_) ?_
            show Go p e below s _ _ _ (T12.setTop (mkF m 17 #[.val (.ref x), .val (.ref q1), .val (.int (5 : Int32)), .val (.int (4 : Int32)), .val (.ref (c 3))] [(.ref (c 4))]))
            refine Go.st (fun _ kq_ => XS.astore X12.here hx rfl (hb hby dn_17) rfl rfl (l' := #[.val (.ref x), .val (.ref q1), .val (.int (5 : Int32)), .val (.int (4 : Int32)), .val (.ref (c 4))]) rfl kq_) ?_
            show Go p e below s _ _ _ (T12.setTop (mkF m 19 #[.val (.ref x), .val (.ref q1), .val (.int (5 : Int32)), .val (.int (4 : Int32)), .val (.ref (c 4))] []))
            refine Go.st (fun _ kq_ => XS.aload X12.here hx rfl (hb hby dn_19) rfl rfl kq_) ?_
            show Go p e below s _ _ _ (T12.setTop (mkF m 21 #[.val (.ref x), .val (.ref q1), .val (.int (5 : Int32)), .val (.int (4 : Int32)), .val (.ref (c 4))] [(.ref (c 4))]))
            obtain ⟨T14, X14, e14, st14⟩ := getF X12 hx hZ hown (host := "") (Or.inl (own_w hw 59 rfl)) Via.refl e12 (J_4.ext O1.2) (g := (mkF m 21 #[.val (.ref x), .val (.ref q1), .val (.int (5 : Int32)), .val (.int (4 : Int32)), .val (.ref (c 4))] [(.ref (c 4))])) rfl rfl (hb hby dn_21)
            refine Go.st st14 ?_
            show Go p e below s _ _ _ (T14.setTop (mkF m 24 #[.val (.ref x), .val (.ref q1), .val (.int (5 : Int32)), .val (.int (4 : Int32)), .val (.ref (c 4))] [(.ref (sa 4))]))
            refine Go.st (fun _ kq_ => XS.aloadN X14.here hx rfl (hb hby dn_24) rfl rfl kq_) ?_
            show Go p e below s _ _ _ (T14.setTop (mkF m 25 #[.val (.ref x), .val (.ref q1), .val (.int (5 : Int32)), .val (.int (4 : Int32)), .val (.ref (c 4))] [(.ref x), (.ref (sa 4))]))
            obtain ⟨cq15, kq15, qa15, qb15, qc15⟩ := isOf hZ e14 (E_s4.ext O1.2)
            obtain ⟨_, _, ⟨T15, L15, k15, n15⟩, -, X15, ⟨Lc15, hQ15, l15, y15, z15⟩, st15⟩ := X14.virtualBack hx (y := (⟨"java/lang/String", "equals", "(Ljava/lang/Object;)Z"⟩ : MethodName)) (z := (⟨"java/lang/String", "equals", "(Ljava/lang/Object;)Z"⟩ : MethodName)) hown (mvT hZ (own_w hw 61 rfl)) (mvT hZ (own_w hw 62 rfl)) (notFace_of_selects (args := #[]) (mvT hZ (own_w hw 64 rfl))) (mvT hZ (own_w hw 64 rfl)) (mvT hZ (own_w hw 63 rfl)) (by decide) (StrChars.Road.eqW (W := 0) hZ heq (kI := 4) (own_w hw 2 rfl) (cs := ([(98 : Int32), (111 : Int32), (111 : Int32), (108 : Int32), (101 : Int32), (97 : Int32), (110 : Int32)] : List Int32)) (ds := ds) (E_s4.ext O1.2) (F_s4_value.ext O1.2) (F_s4_coder.ext O1.2) (V_s4.ext O1.2) own_cod4 own_b4 (by decide) E_x F_x_value F_x_coder V_t hcX hbX hlX (SC.ext O1.2) hcs (by decide) (by decide)) qa15 qc15 (g := (mkF m 25 #[.val (.ref x), .val (.ref q1), .val (.int (5 : Int32)), .val (.int (4 : Int32)), .val (.ref (c 4))] [(.ref x), (.ref (sa 4))])) rfl (by rw [hml]; rfl) (Steps.refl _) (argsL := [(.ref x)]) (rest := []) (lenOf pdn_1 rfl) rfl (by show 2 * 0 + _ ≤ _; exact Nat.le_of_eq rfl) (hb hby dn_25) (fun _ _ => ⟨rfl, e14, (by decide : 1 + 0 ≤ _), (by decide : 5 + 0 ≤ _)⟩)
            dsimp only [Pt.U, Pt.locs, Pt.cells, Pt.slots] at X15 l15 y15 z15 st15 hQ15
            subst y15 z15
            obtain ⟨hz15, el15, e15⟩ := hQ15
            obtain ⟨zq15, rfl, hzq15⟩ := own_zz hz15
            have Nc15 : Fr n0 Lc15 := by rw [el15]; exact Fr.nil n0
            have N15 : Fr n0 L15 := by rw [l15]; exact Fr.app N12 Nc15
            refine Go.tr st15 ?_
            show Go p e below s _ _ _ (T15.setTop (mkF m 28 #[.val (.ref x), .val (.ref q1), .val (.int (5 : Int32)), .val (.int (4 : Int32)), .val (.ref (c 4))] [(.int zq15)]))
            by_cases c28_16 : zq15 = (0 : Int32)
            · refine Go.st (fun _ kq_ => XS.ifYes X15.here hx rfl (pc0 := 28) (pc' := 34) rfl (hb hby dn_28) rfl (XT.i0_eq_t c28_16) (by decide) (by decide) kq_) ?_
              show Go p e below s _ _ _ (T15.setTop (mkF m 34 #[.val (.ref x), .val (.ref q1), .val (.int (5 : Int32)), .val (.int (4 : Int32)), .val (.ref (c 4))] []))
              refine Go.st (fun _ kq_ => XT.iincV X15.here hx rfl (1 : Int32) (hb hby dn_34) rfl rfl (l' := #[.val (.ref x), .val (.ref q1), .val (.int (5 : Int32)), .val (.int (5 : Int32)), .val (.ref (c 4))]) rfl kq_) ?_
              show Go p e below s _ _ _ (T15.setTop (mkF m 37 #[.val (.ref x), .val (.ref q1), .val (.int (5 : Int32)), .val (.int (5 : Int32)), .val (.ref (c 4))] []))
              refine Go.st (fun _ kq_ => XS.goto X15.here hx rfl (pc0 := 37) (pc' := 9) rfl (hb hby dn_37) (by decide) (by decide) kq_) ?_
              show Go p e below s _ _ _ (T15.setTop (mkF m 9 #[.val (.ref x), .val (.ref q1), .val (.int (5 : Int32)), .val (.int (5 : Int32)), .val (.ref (c 4))] []))
              refine Go.st (fun _ kq_ => XS.iloadN X15.here hx rfl (hb hby dn_9) rfl kq_) ?_
              show Go p e below s _ _ _ (T15.setTop (mkF m 10 #[.val (.ref x), .val (.ref q1), .val (.int (5 : Int32)), .val (.int (5 : Int32)), .val (.ref (c 4))] [(.int (5 : Int32))]))
              refine Go.st (fun _ kq_ => XS.iloadN X15.here hx rfl (hb hby dn_10) rfl kq_) ?_
              show Go p e below s _ _ _ (T15.setTop (mkF m 11 #[.val (.ref x), .val (.ref q1), .val (.int (5 : Int32)), .val (.int (5 : Int32)), .val (.ref (c 4))] [(.int (5 : Int32)), (.int (5 : Int32))]))
              refine Go.st (fun _ kq_ => XS.icmpYes X15.here hx rfl (pc0 := 11) (pc' := 40) rfl (hb hby dn_11) rfl (by decide) (by decide) (by decide) kq_) ?_
              show Go p e below s _ _ _ (T15.setTop (mkF m 40 #[.val (.ref x), .val (.ref q1), .val (.int (5 : Int32)), .val (.int (5 : Int32)), .val (.ref (c 4))] []))
              refine Go.st (fun _ kq_ => XS.aconstNull X15.here hx rfl (hb hby dn_40) kq_) ?_
              show Go p e below s _ _ _ (T15.setTop (mkF m 41 #[.val (.ref x), .val (.ref q1), .val (.int (5 : Int32)), .val (.int (5 : Int32)), .val (.ref (c 4))] [.null]))
              exact Go.ret X15 hlk (some .null) (fun h => by rw [Bd.returns] at h; cases h) (by rw [e15]; exact ⟨(show some .null = some (oRes c ds) by unfold oRes; rw [if_neg (fun q => own_z0 hzq3 c28_4 q.symm), if_neg (fun q => own_z0 hzq6 c28_7 q.symm), if_neg (fun q => own_z0 hzq9 c28_10 q.symm), if_neg (fun q => own_z0 hzq12 c28_13 q.symm), if_neg (fun q => own_z0 hzq15 c28_16 q.symm)]), N15, K1⟩) (by decide) (by decide) (fun fs hr => retOut X15 hx Bd.returns rfl (Or.inr (Or.inr (Or.inr (Or.inr ⟨rfl, rfl, rfl⟩)))) (hb hby dn_41) hr)
            · refine Go.st (fun _ kq_ => XS.ifNo X15.here hx rfl (hb hby dn_28) rfl (XT.i0_eq_f c28_16) kq_) ?_
              show Go p e below s _ _ _ (T15.setTop (mkF m 31 #[.val (.ref x), .val (.ref q1), .val (.int (5 : Int32)), .val (.int (4 : Int32)), .val (.ref (c 4))] []))
              refine Go.st (fun _ kq_ => XS.aload X15.here hx rfl (hb hby dn_31) rfl rfl kq_) ?_
              show Go p e below s _ _ _ (T15.setTop (mkF m 33 #[.val (.ref x), .val (.ref q1), .val (.int (5 : Int32)), .val (.int (4 : Int32)), .val (.ref (c 4))] [(.ref (c 4))]))
              exact Go.ret X15 hlk (some (.ref (c 4))) (fun h => by rw [Bd.returns] at h; cases h) (by rw [e15]; exact ⟨(show some (.ref (c 4)) = some (oRes c ds) by unfold oRes; rw [if_neg (fun q => own_z0 hzq3 c28_4 q.symm), if_neg (fun q => own_z0 hzq6 c28_7 q.symm), if_neg (fun q => own_z0 hzq9 c28_10 q.symm), if_neg (fun q => own_z0 hzq12 c28_13 q.symm), if_pos (own_z1 hzq15 c28_16).symm]), N15, K1⟩) (by decide) (by decide) (fun fs hr => retOut X15 hx Bd.returns rfl (Or.inr (Or.inr (Or.inr (Or.inr ⟨rfl, rfl, rfl⟩)))) (hb hby dn_33) hr)
          · refine Go.st (fun _ kq_ => XS.ifNo X12.here hx rfl (hb hby dn_28) rfl (XT.i0_eq_f c28_13) kq_) ?_
            show Go p e below s _ _ _ (T12.setTop (mkF m 31 #[.val (.ref x), .val (.ref q1), .val (.int (5 : Int32)), .val (.int (3 : Int32)), .val (.ref (c 3))] []))
            refine Go.st (fun _ kq_ => XS.aload X12.here hx rfl (hb hby dn_31) rfl rfl kq_) ?_
            show Go p e below s _ _ _ (T12.setTop (mkF m 33 #[.val (.ref x), .val (.ref q1), .val (.int (5 : Int32)), .val (.int (3 : Int32)), .val (.ref (c 3))] [(.ref (c 3))]))
            exact Go.ret X12 hlk (some (.ref (c 3))) (fun h => by rw [Bd.returns] at h; cases h) (by rw [e12]; exact ⟨(show some (.ref (c 3)) = some (oRes c ds) by unfold oRes; rw [if_neg (fun q => own_z0 hzq3 c28_4 q.symm), if_neg (fun q => own_z0 hzq6 c28_7 q.symm), if_neg (fun q => own_z0 hzq9 c28_10 q.symm), if_pos (own_z1 hzq12 c28_13).symm]), N12, K1⟩) (by decide) (by decide) (fun fs hr => retOut X12 hx Bd.returns rfl (Or.inr (Or.inr (Or.inr (Or.inr ⟨rfl, rfl, rfl⟩)))) (hb hby dn_33) hr)
        · refine Go.st (fun _ kq_ => XS.ifNo X9.here hx rfl (hb hby dn_28) rfl (XT.i0_eq_f c28_10) kq_) ?_
          show Go p e below s _ _ _ (T9.setTop (mkF m 31 #[.val (.ref x), .val (.ref q1), .val (.int (5 : Int32)), .val (.int (2 : Int32)), .val (.ref (c 2))] []))
          refine Go.st (fun _ kq_ => XS.aload X9.here hx rfl (hb hby dn_31) rfl rfl kq_) ?_
          show Go p e below s _ _ _ (T9.setTop (mkF m 33 #[.val (.ref x), .val (.ref q1), .val (.int (5 : Int32)), .val (.int (2 : Int32)), .val (.ref (c 2))] [(.ref (c 2))]))
          exact Go.ret X9 hlk (some (.ref (c 2))) (fun h => by rw [Bd.returns] at h; cases h) (by rw [e9]; exact ⟨(show some (.ref (c 2)) = some (oRes c ds) by unfold oRes; rw [if_neg (fun q => own_z0 hzq3 c28_4 q.symm), if_neg (fun q => own_z0 hzq6 c28_7 q.symm), if_pos (own_z1 hzq9 c28_10).symm]), N9, K1⟩) (by decide) (by decide) (fun fs hr => retOut X9 hx Bd.returns rfl (Or.inr (Or.inr (Or.inr (Or.inr ⟨rfl, rfl, rfl⟩)))) (hb hby dn_33) hr)
      · refine Go.st (fun _ kq_ => XS.ifNo X6.here hx rfl (hb hby dn_28) rfl (XT.i0_eq_f c28_7) kq_) ?_
        show Go p e below s _ _ _ (T6.setTop (mkF m 31 #[.val (.ref x), .val (.ref q1), .val (.int (5 : Int32)), .val (.int (1 : Int32)), .val (.ref (c 1))] []))
        refine Go.st (fun _ kq_ => XS.aload X6.here hx rfl (hb hby dn_31) rfl rfl kq_) ?_
        show Go p e below s _ _ _ (T6.setTop (mkF m 33 #[.val (.ref x), .val (.ref q1), .val (.int (5 : Int32)), .val (.int (1 : Int32)), .val (.ref (c 1))] [(.ref (c 1))]))
        exact Go.ret X6 hlk (some (.ref (c 1))) (fun h => by rw [Bd.returns] at h; cases h) (by rw [e6]; exact ⟨(show some (.ref (c 1)) = some (oRes c ds) by unfold oRes; rw [if_neg (fun q => own_z0 hzq3 c28_4 q.symm), if_pos (own_z1 hzq6 c28_7).symm]), N6, K1⟩) (by decide) (by decide) (fun fs hr => retOut X6 hx Bd.returns rfl (Or.inr (Or.inr (Or.inr (Or.inr ⟨rfl, rfl, rfl⟩)))) (hb hby dn_33) hr)
    · refine Go.st (fun _ kq_ => XS.ifNo X3.here hx rfl (hb hby dn_28) rfl (XT.i0_eq_f c28_4) kq_) ?_
      show Go p e below s _ _ _ (T3.setTop (mkF m 31 #[.val (.ref x), .val (.ref q1), .val (.int (5 : Int32)), .val (.int (0 : Int32)), .val (.ref (c 0))] []))
      refine Go.st (fun _ kq_ => XS.aload X3.here hx rfl (hb hby dn_31) rfl rfl kq_) ?_
      show Go p e below s _ _ _ (T3.setTop (mkF m 33 #[.val (.ref x), .val (.ref q1), .val (.int (5 : Int32)), .val (.int (0 : Int32)), .val (.ref (c 0))] [(.ref (c 0))]))
      exact Go.ret X3 hlk (some (.ref (c 0))) (fun h => by rw [Bd.returns] at h; cases h) (by rw [e3]; exact ⟨(show some (.ref (c 0)) = some (oRes c ds) by unfold oRes; rw [if_pos (own_z1 hzq3 c28_4).symm]), N3, K1⟩) (by decide) (by decide) (fun fs hr => retOut X3 hx Bd.returns rfl (Or.inr (Or.inr (Or.inr (Or.inr ⟨rfl, rfl, rfl⟩)))) (hb hby dn_33) hr)
  obtain ⟨s2, o2, st2, r2⟩ := G
  exact ⟨s2, o2, castTop (efn m x) st2, r2⟩
theorem dx_0 : decode method_5_code 0 = .ok (.aload_n 0, 1) := by decide +kernel
theorem dx_1 : decode method_5_code 1 = .ok (.ldc 38, 2) := by decide +kernel
theorem dx_3 : decode method_5_code 3 = .ok (.invokevirtual 52, 3) := by decide +kernel
theorem dx_6 : decode method_5_code 6 = .ok (.ifCond .eq 7, 3) := by decide +kernel
theorem dx_9 : decode method_5_code 9 = .ok (.getstatic 56, 3) := by decide +kernel
theorem dx_12 : decode method_5_code 12 = .ok (.areturn, 1) := by decide +kernel
theorem dx_13 : decode method_5_code 13 = .ok (.aload_n 0, 1) := by decide +kernel
theorem dx_14 : decode method_5_code 14 = .ok (.ldc 40, 2) := by decide +kernel
theorem dx_16 : decode method_5_code 16 = .ok (.invokevirtual 52, 3) := by decide +kernel
theorem dx_19 : decode method_5_code 19 = .ok (.ifCond .eq 7, 3) := by decide +kernel
theorem dx_22 : decode method_5_code 22 = .ok (.getstatic 60, 3) := by decide +kernel
theorem dx_25 : decode method_5_code 25 = .ok (.areturn, 1) := by decide +kernel
theorem dx_26 : decode method_5_code 26 = .ok (.aload_n 0, 1) := by decide +kernel
theorem dx_27 : decode method_5_code 27 = .ok (.ldc 42, 2) := by decide +kernel
theorem dx_29 : decode method_5_code 29 = .ok (.invokevirtual 52, 3) := by decide +kernel
theorem dx_32 : decode method_5_code 32 = .ok (.ifCond .eq 7, 3) := by decide +kernel
theorem dx_35 : decode method_5_code 35 = .ok (.getstatic 63, 3) := by decide +kernel
theorem dx_38 : decode method_5_code 38 = .ok (.areturn, 1) := by decide +kernel
theorem dx_39 : decode method_5_code 39 = .ok (.aload_n 0, 1) := by decide +kernel
theorem dx_40 : decode method_5_code 40 = .ok (.ldc 44, 2) := by decide +kernel
theorem dx_42 : decode method_5_code 42 = .ok (.invokevirtual 52, 3) := by decide +kernel
theorem dx_45 : decode method_5_code 45 = .ok (.ifCond .eq 7, 3) := by decide +kernel
theorem dx_48 : decode method_5_code 48 = .ok (.getstatic 66, 3) := by decide +kernel
theorem dx_51 : decode method_5_code 51 = .ok (.areturn, 1) := by decide +kernel
theorem dx_52 : decode method_5_code 52 = .ok (.aload_n 0, 1) := by decide +kernel
theorem dx_53 : decode method_5_code 53 = .ok (.ldc 46, 2) := by decide +kernel
theorem dx_55 : decode method_5_code 55 = .ok (.invokevirtual 52, 3) := by decide +kernel
theorem dx_58 : decode method_5_code 58 = .ok (.ifCond .eq 7, 3) := by decide +kernel
theorem dx_61 : decode method_5_code 61 = .ok (.getstatic 69, 3) := by decide +kernel
theorem dx_64 : decode method_5_code 64 = .ok (.areturn, 1) := by decide +kernel
theorem dx_65 : decode method_5_code 65 = .ok (.aconst_null, 1) := by decide +kernel
theorem dx_66 : decode method_5_code 66 = .ok (.areturn, 1) := by decide +kernel
theorem pdx_0 : parseMethodDescriptor "(Ljava/lang/Object;)Z" = some ⟨[(.object "java/lang/Object")], some .boolean⟩ := by decide +kernel
theorem pnx : plainName "com/example/pemmican/pemmican/DataTypeNamedPinLaw" = true := by first | (simp [plainName, overriddenIn]; done) | decide +kernel
theorem efx (m : MethodId) (x0 : Addr) : entryFrame m #[(.ref x0)] 1 = mkF m 0 #[.val (.ref x0)] [] := by first | (simp [entryFrame, mkF, argsToLocals, Value.category, maxLocals]; done) | rfl
def Qx (Z : State) (x : Addr) (t : Addr) (kt : ClassId) (M : Int32) (wz : List Value) (ds : List Int32) (c : Nat → Addr) (zc : Int32) (Ps : List (Array UInt16 × Addr)) (h0 : Heap) (n0 : Nat) (v : Option Value) (vm : Vm) (h : Heap) (L : List Loc) : Prop := v = some (oRes c ds) ∧ Fr n0 L ∧ Keep h0 h []
set_option maxRecDepth 65536 in
set_option maxHeartbeats 40000000 in
theorem rmx (l : Launch) (Z : State) (a0 : Array Value) (hw : ∀ d ∈ tables_1, d.before a0 Z = true) (ws : List Jvm.Cond) (x : Addr) (t : Addr) (kt : ClassId) (M : Int32) (wz : List Value) (ds : List Int32) (c : Nat → Addr) (zc : Int32) (Ps : List (Array UInt16 × Addr)) (h0 : Heap) (n0 : Nat) (O0 : Old Z n0 h0) (E_x : Exa Z h0 x "java/lang/String") (F_x_coder : Fld Z h0 x "java/lang/String" "coder" "B" (.int (0 : Int32))) (F_x_value : Fld Z h0 x "java/lang/String" "value" "[B" (.ref t)) (V_t : Arv Z h0 t kt .byte M wz (.int (0 : Int32))) (hcX : StrChars.Road.CodA ds 0 M wz) (hbX : ∀ c ∈ ds, ¬ c < 0 ∧ ¬ (65535 : Int32) < c) (hlX : ds.length ≤ 4000) (SD0 : Sta Z Z.heap "com/example/pemmican/pemmican/DataType" "STRING" "Lcom/example/pemmican/pemmican/DataType;" (.ref (c 0))) (SD1 : Sta Z Z.heap "com/example/pemmican/pemmican/DataType" "INTEGER" "Lcom/example/pemmican/pemmican/DataType;" (.ref (c 1))) (SD2 : Sta Z Z.heap "com/example/pemmican/pemmican/DataType" "FLOAT" "Lcom/example/pemmican/pemmican/DataType;" (.ref (c 2))) (SD3 : Sta Z Z.heap "com/example/pemmican/pemmican/DataType" "DOUBLE" "Lcom/example/pemmican/pemmican/DataType;" (.ref (c 3))) (SD4 : Sta Z Z.heap "com/example/pemmican/pemmican/DataType" "BOOLEAN" "Lcom/example/pemmican/pemmican/DataType;" (.ref (c 4))) (SC : Sta Z Z.heap "java/lang/String" "COMPACT_STRINGS" "Z" (.int zc)) (hcs : ¬ zc = 0) :
    MetFree l (⟨"com/example/pemmican/pemmican/DataTypeNamedPinLaw", "expected", "(Ljava/lang/String;)Lcom/example/pemmican/pemmican/DataType;"⟩ : MethodName) (head1 (Jvm.Cond.code (⟨"com/example/pemmican/pemmican/DataTypeNamedPinLaw", "expected", "(Ljava/lang/String;)Lcom/example/pemmican/pemmican/DataType;"⟩ : MethodName) method_5_code 1 (some (.object "com/example/pemmican/pemmican/DataType")) :: ws) ({ frames := 2, cells := 10, slots := 144, locals := 28 } : Room)) (fun A_ U_ => A_ = #[(.ref x)] ∧ Z.Warmed39 U_.vm ∧ U_.heap = h0 ∧ OwnI Z U_.vm Ps ∧ ∀ c ∈ ([("com/example/pemmican/pemmican/DataTypeNamedPinLaw", 38), ("com/example/pemmican/pemmican/DataTypeNamedPinLaw", 40), ("com/example/pemmican/pemmican/DataTypeNamedPinLaw", 42), ("com/example/pemmican/pemmican/DataTypeNamedPinLaw", 44), ("com/example/pemmican/pemmican/DataTypeNamedPinLaw", 46)] : List (String × Nat)), ConstHeldL U_ c.1 c.2) (fun _ _ _ _ _ => True) (fun _ U o U' => ∃ v L, o = .returned v ∧ Qx Z x t kt M wz ds c zc Ps h0 n0 v U'.vm U'.heap L ∧ ReturnedEndW U o U' L ({ frames := 2, cells := 10, slots := 144, locals := 28 } : Room).cells ({ frames := 2, cells := 10, slots := 144, locals := 28 } : Room).slots) := by
  refine MetFree.of_bodySF (plainFor_of_name pnx) hisR ?_
  intro p e s m args below meth cd s₁ Bd hml0 hP hK
  obtain ⟨rfl, hZ, hh, I0, hHC⟩ := hP
  have hZs := hZ
  have J0 : IB s s.vm [] := IB.start
  have M0 : Fr s.heap.size [] := Fr.nil _
  have hS0 : s.Since s.vm h0.size := State.WarmedH.since (State.WarmedH.refl s) _
  have hk0 : h0.size ≤ h0.size := Nat.le_refl _
  have hx := Bd.exec
  have hby := Bd.bytes
  have hlk : meth.locks = false := BodyLoose.notSynchronized Bd
  have hml : cd.maxLocals = 1 := hml0
  have hown : s.vm.findClass "com/example/pemmican/pemmican/DataTypeNamedPinLaw" = some m.cls := findClass_of_methodNamed Bd.named
  have hnm := (name_of_methodNamed Bd.named Bd.method).1
  have X0 : Stand p l e ({ frames := 2, cells := 10, slots := 144, locals := 28 } : Room) s m #[(.ref x)] below meth cd s₁ [] 0 0 := Stand.of_body Bd
  have e0 : s₁.heap = h0 := by rw [← hh, Bd.state]; rfl
  have N0 := Fr.nil n0
  have K0 : Keep h0 h0 [] := Keep.refl _ _
  have wS : ∀ a ∈ Bundle.stringAtoms, a.before a0 Z = true := fun d hd => hw d ((by decide +kernel : ∀ d ∈ Bundle.stringAtoms, d ∈ tables_1) d hd)
  have heq : ∀ d ∈ StrChars.Road.wordsEq, d.before a0 Z = true := fun d hd => hw d ((by decide +kernel : ∀ d ∈ StrChars.Road.wordsEq, d ∈ tables_1) d hd)
  have G : GoV p e below s 10 144 (Qx Z x t kt M wz ds c zc Ps h0 n0) (s₁.setTop (mkF m 0 #[.val (.ref x)] [])) := by
    show GoV p e below s _ _ _ (s₁.setTop (mkF m 0 #[.val (.ref x)] []))
    refine GoV.st (fun _ kq_ => XS.aloadN X0.here hx rfl (hb hby dx_0) rfl rfl kq_) ?_
    show GoV p e below s _ _ _ (s₁.setTop (mkF m 1 #[.val (.ref x)] [(.ref x)]))
    obtain ⟨u1, T1, h1, kk1, ub1, kb1, ca1, cb1, un1, X1, e1, E1, hS1, hk1, hZ1, hown1, NE, NC, NV, NB, NCa, NCb, Sk1, tx1, I1, hJ1, LT1, st1⟩ := own_ldcH (vm0 := s.vm) X0 hx hZ hown (own_w hw 75 rfl) wS e0 hS0 hk0 M0 (hHC ("com/example/pemmican/pemmican/DataTypeNamedPinLaw", 38) (by decide)) I0 (vs := [(.int (115 : Int32)), (.int (116 : Int32)), (.int (114 : Int32)), (.int (105 : Int32)), (.int (110 : Int32)), (.int (103 : Int32))]) (z := (6 : Int32)) (by decide) (by decide) rfl (g := (mkF m 1 #[.val (.ref x)] [(.ref x)])) rfl (hb hby dx_1) (n := 24) (by decide) (by decide) (by decide) (by decide)
    have J1 := hJ1 _ J0
    have E_x := E_x.ext E1
    have F_x_coder := F_x_coder.ext E1
    have F_x_value := F_x_value.ext E1
    have V_t := V_t.ext E1
    have O1 := O0.ext E1
    have K1 := K0.ext E1
    have E_u1 : Exa Z h1 u1 "java/lang/String" := NE
    have F_u1_coder : Fld Z h1 u1 "java/lang/String" "coder" "B" (.int (0 : Int32)) := NC
    have F_u1_value : Fld Z h1 u1 "java/lang/String" "value" "[B" (.ref ub1) := NV
    have V_ub1 : Arv Z h1 ub1 kb1 .byte (6 : Int32) [(.int (115 : Int32)), (.int (116 : Int32)), (.int (114 : Int32)), (.int (105 : Int32)), (.int (110 : Int32)), (.int (103 : Int32))] (.int (0 : Int32)) := NB
    have C_u1 : Cel h1 u1 ca1 := NCa
    have C_ub1 : Cel h1 ub1 cb1 := NCb
    refine GoV.st st1 ?_
    show GoV p e below s _ _ _ (T1.setTop (mkF m 3 #[.val (.ref x)] [(.ref u1), (.ref x)]))
    obtain ⟨cq2, kq2, qa2, qb2, qc2⟩ := isOf hZ1 e1 E_x
    obtain ⟨_, _, ⟨T2, L2, k2, n2⟩, -, X2, ⟨Lc2, hQ2, l2, y2, z2⟩, st2⟩ := X1.virtualBack hx (y := (⟨"java/lang/String", "equals", "(Ljava/lang/Object;)Z"⟩ : MethodName)) (z := (⟨"java/lang/String", "equals", "(Ljava/lang/Object;)Z"⟩ : MethodName)) hown1 (mvT hZ1 (own_w hw 76 rfl)) (mvT hZ1 (own_w hw 62 rfl)) (notFace_of_selects (args := #[]) (mvT hZ1 (own_w hw 64 rfl))) (mvT hZ1 (own_w hw 64 rfl)) (mvT hZ1 (own_w hw 63 rfl)) (by decide) (StrChars.Road.eqW (W := 0) hZ1 heq (kI := 4) (own_w hw 2 rfl) (cs := ds) (ds := ([(115 : Int32), (116 : Int32), (114 : Int32), (105 : Int32), (110 : Int32), (103 : Int32)] : List Int32)) E_x F_x_value F_x_coder V_t hcX hbX hlX E_u1 F_u1_value F_u1_coder V_ub1 own_cod0 own_b0 (by decide) (SC.ext O1.2) hcs (by decide) (by decide)) qa2 qc2 (g := (mkF m 3 #[.val (.ref x)] [(.ref u1), (.ref x)])) rfl (by rw [hml]; rfl) (Steps.refl _) (argsL := [(.ref u1)]) (rest := []) (lenOf pdx_0 rfl) rfl (by show 2 * 0 + _ ≤ _; exact Nat.le_of_eq rfl) (hb hby dx_3) (fun _ _ => ⟨rfl, e1, (by decide : 2 + 0 ≤ _), (by decide : 28 + 0 ≤ _)⟩)
    dsimp only [Pt.U, Pt.locs, Pt.cells, Pt.slots] at X2 l2 y2 z2 st2 hQ2
    subst y2 z2
    obtain ⟨hz2, el2, e2⟩ := hQ2
    obtain ⟨zq2, rfl, hzq2⟩ := own_zz hz2
    have Nc2 : Fr n0 Lc2 := by rw [el2]; exact Fr.nil n0
    have N2 : Fr n0 L2 := by rw [l2]; exact Fr.app N0 Nc2
    have M2 : Fr s.heap.size L2 := by rw [l2, el2, List.append_nil]; exact M0
    refine GoV.tr st2 ?_
    show GoV p e below s _ _ _ (T2.setTop (mkF m 6 #[.val (.ref x)] [(.int zq2)]))
    by_cases c6_3 : zq2 = (0 : Int32)
    · refine GoV.st (fun _ kq_ => XS.ifYes X2.here hx rfl (pc0 := 6) (pc' := 13) rfl (hb hby dx_6) rfl (XT.i0_eq_t c6_3) (by decide) (by decide) kq_) ?_
      show GoV p e below s _ _ _ (T2.setTop (mkF m 13 #[.val (.ref x)] []))
      refine GoV.st (fun _ kq_ => XS.aloadN X2.here hx rfl (hb hby dx_13) rfl rfl kq_) ?_
      show GoV p e below s _ _ _ (T2.setTop (mkF m 14 #[.val (.ref x)] [(.ref x)]))
      obtain ⟨u4, T4, h4, kk4, ub4, kb4, ca4, cb4, un4, X4, e4, E4, hS4, hk4, hZ4, hown4, NE, NC, NV, NB, NCa, NCb, Sk4, tx4, I4, hJ4, LT4, st4⟩ := own_ldcH (vm0 := T1.vm) X2 hx hZ1 hown1 (own_w hw 77 rfl) wS e2 hS1 hk1 M2 (heldCarry (Z := s) (s := s) hS1.1 (mvS (s := s) (vm0 := s.vm) (args := #[]) hZs (own_w hw 77 rfl)) J1 (by decide) (fun _ _ q => q) (hHC ("com/example/pemmican/pemmican/DataTypeNamedPinLaw", 40) (by decide))) I1 (vs := [(.int (105 : Int32)), (.int (110 : Int32)), (.int (116 : Int32)), (.int (101 : Int32)), (.int (103 : Int32)), (.int (101 : Int32)), (.int (114 : Int32))]) (z := (7 : Int32)) (by decide) (by decide) rfl (g := (mkF m 14 #[.val (.ref x)] [(.ref x)])) rfl (hb hby dx_14) (n := 28) (by decide) (by decide) (by decide) (by decide)
      have J4 := hJ4 _ J1
      have E_x := E_x.ext E4
      have F_x_coder := F_x_coder.ext E4
      have F_x_value := F_x_value.ext E4
      have V_t := V_t.ext E4
      have E_u1 := E_u1.ext E4
      have F_u1_coder := F_u1_coder.ext E4
      have F_u1_value := F_u1_value.ext E4
      have V_ub1 := V_ub1.ext E4
      have C_u1 := C_u1.ext E4
      have C_ub1 := C_ub1.ext E4
      have O4 := O1.ext E4
      have K4 := K1.ext E4
      have E_u4 : Exa Z h4 u4 "java/lang/String" := NE
      have F_u4_coder : Fld Z h4 u4 "java/lang/String" "coder" "B" (.int (0 : Int32)) := NC
      have F_u4_value : Fld Z h4 u4 "java/lang/String" "value" "[B" (.ref ub4) := NV
      have V_ub4 : Arv Z h4 ub4 kb4 .byte (7 : Int32) [(.int (105 : Int32)), (.int (110 : Int32)), (.int (116 : Int32)), (.int (101 : Int32)), (.int (103 : Int32)), (.int (101 : Int32)), (.int (114 : Int32))] (.int (0 : Int32)) := NB
      have C_u4 : Cel h4 u4 ca4 := NCa
      have C_ub4 : Cel h4 ub4 cb4 := NCb
      refine GoV.st st4 ?_
      show GoV p e below s _ _ _ (T4.setTop (mkF m 16 #[.val (.ref x)] [(.ref u4), (.ref x)]))
      obtain ⟨cq5, kq5, qa5, qb5, qc5⟩ := isOf hZ4 e4 E_x
      obtain ⟨_, _, ⟨T5, L5, k5, n5⟩, -, X5, ⟨Lc5, hQ5, l5, y5, z5⟩, st5⟩ := X4.virtualBack hx (y := (⟨"java/lang/String", "equals", "(Ljava/lang/Object;)Z"⟩ : MethodName)) (z := (⟨"java/lang/String", "equals", "(Ljava/lang/Object;)Z"⟩ : MethodName)) hown4 (mvT hZ4 (own_w hw 76 rfl)) (mvT hZ4 (own_w hw 62 rfl)) (notFace_of_selects (args := #[]) (mvT hZ4 (own_w hw 64 rfl))) (mvT hZ4 (own_w hw 64 rfl)) (mvT hZ4 (own_w hw 63 rfl)) (by decide) (StrChars.Road.eqW (W := 0) hZ4 heq (kI := 4) (own_w hw 2 rfl) (cs := ds) (ds := ([(105 : Int32), (110 : Int32), (116 : Int32), (101 : Int32), (103 : Int32), (101 : Int32), (114 : Int32)] : List Int32)) E_x F_x_value F_x_coder V_t hcX hbX hlX E_u4 F_u4_value F_u4_coder V_ub4 own_cod1 own_b1 (by decide) (SC.ext O4.2) hcs (by decide) (by decide)) qa5 qc5 (g := (mkF m 16 #[.val (.ref x)] [(.ref u4), (.ref x)])) rfl (by rw [hml]; rfl) (Steps.refl _) (argsL := [(.ref u4)]) (rest := []) (lenOf pdx_0 rfl) rfl (by show 2 * 0 + _ ≤ _; exact Nat.le_of_eq rfl) (hb hby dx_16) (fun _ _ => ⟨rfl, e4, (by decide : 4 + 0 ≤ _), (by decide : 60 + 0 ≤ _)⟩)
      dsimp only [Pt.U, Pt.locs, Pt.cells, Pt.slots] at X5 l5 y5 z5 st5 hQ5
      subst y5 z5
      obtain ⟨hz5, el5, e5⟩ := hQ5
      obtain ⟨zq5, rfl, hzq5⟩ := own_zz hz5
      have Nc5 : Fr n0 Lc5 := by rw [el5]; exact Fr.nil n0
      have N5 : Fr n0 L5 := by rw [l5]; exact Fr.app N2 Nc5
      have M5 : Fr s.heap.size L5 := by rw [l5, el5, List.append_nil]; exact M2
      refine GoV.tr st5 ?_
      show GoV p e below s _ _ _ (T5.setTop (mkF m 19 #[.val (.ref x)] [(.int zq5)]))
      by_cases c19_6 : zq5 = (0 : Int32)
      · refine GoV.st (fun _ kq_ => XS.ifYes X5.here hx rfl (pc0 := 19) (pc' := 26) rfl (hb hby dx_19) rfl (XT.i0_eq_t c19_6) (by decide) (by decide) kq_) ?_
        show GoV p e below s _ _ _ (T5.setTop (mkF m 26 #[.val (.ref x)] []))
        refine GoV.st (fun _ kq_ => XS.aloadN X5.here hx rfl (hb hby dx_26) rfl rfl kq_) ?_
        show GoV p e below s _ _ _ (T5.setTop (mkF m 27 #[.val (.ref x)] [(.ref x)]))
        obtain ⟨u7, T7, h7, kk7, ub7, kb7, ca7, cb7, un7, X7, e7, E7, hS7, hk7, hZ7, hown7, NE, NC, NV, NB, NCa, NCb, Sk7, tx7, I7, hJ7, LT7, st7⟩ := own_ldcH (vm0 := T4.vm) X5 hx hZ4 hown4 (own_w hw 78 rfl) wS e5 hS4 hk4 M5 (heldCarry (Z := s) (s := s) hS4.1 (mvS (s := s) (vm0 := s.vm) (args := #[]) hZs (own_w hw 78 rfl)) J4 (by decide) (fun _ _ q => q) (hHC ("com/example/pemmican/pemmican/DataTypeNamedPinLaw", 42) (by decide))) I4 (vs := [(.int (102 : Int32)), (.int (108 : Int32)), (.int (111 : Int32)), (.int (97 : Int32)), (.int (116 : Int32))]) (z := (5 : Int32)) (by decide) (by decide) rfl (g := (mkF m 27 #[.val (.ref x)] [(.ref x)])) rfl (hb hby dx_27) (n := 20) (by decide) (by decide) (by decide) (by decide)
        have J7 := hJ7 _ J4
        have E_x := E_x.ext E7
        have F_x_coder := F_x_coder.ext E7
        have F_x_value := F_x_value.ext E7
        have V_t := V_t.ext E7
        have E_u1 := E_u1.ext E7
        have F_u1_coder := F_u1_coder.ext E7
        have F_u1_value := F_u1_value.ext E7
        have V_ub1 := V_ub1.ext E7
        have C_u1 := C_u1.ext E7
        have C_ub1 := C_ub1.ext E7
        have E_u4 := E_u4.ext E7
        have F_u4_coder := F_u4_coder.ext E7
        have F_u4_value := F_u4_value.ext E7
        have V_ub4 := V_ub4.ext E7
        have C_u4 := C_u4.ext E7
        have C_ub4 := C_ub4.ext E7
        have O7 := O4.ext E7
        have K7 := K4.ext E7
        have E_u7 : Exa Z h7 u7 "java/lang/String" := NE
        have F_u7_coder : Fld Z h7 u7 "java/lang/String" "coder" "B" (.int (0 : Int32)) := NC
        have F_u7_value : Fld Z h7 u7 "java/lang/String" "value" "[B" (.ref ub7) := NV
        have V_ub7 : Arv Z h7 ub7 kb7 .byte (5 : Int32) [(.int (102 : Int32)), (.int (108 : Int32)), (.int (111 : Int32)), (.int (97 : Int32)), (.int (116 : Int32))] (.int (0 : Int32)) := NB
        have C_u7 : Cel h7 u7 ca7 := NCa
        have C_ub7 : Cel h7 ub7 cb7 := NCb
        refine GoV.st st7 ?_
        show GoV p e below s _ _ _ (T7.setTop (mkF m 29 #[.val (.ref x)] [(.ref u7), (.ref x)]))
        obtain ⟨cq8, kq8, qa8, qb8, qc8⟩ := isOf hZ7 e7 E_x
        obtain ⟨_, _, ⟨T8, L8, k8, n8⟩, -, X8, ⟨Lc8, hQ8, l8, y8, z8⟩, st8⟩ := X7.virtualBack hx (y := (⟨"java/lang/String", "equals", "(Ljava/lang/Object;)Z"⟩ : MethodName)) (z := (⟨"java/lang/String", "equals", "(Ljava/lang/Object;)Z"⟩ : MethodName)) hown7 (mvT hZ7 (own_w hw 76 rfl)) (mvT hZ7 (own_w hw 62 rfl)) (notFace_of_selects (args := #[]) (mvT hZ7 (own_w hw 64 rfl))) (mvT hZ7 (own_w hw 64 rfl)) (mvT hZ7 (own_w hw 63 rfl)) (by decide) (StrChars.Road.eqW (W := 0) hZ7 heq (kI := 4) (own_w hw 2 rfl) (cs := ds) (ds := ([(102 : Int32), (108 : Int32), (111 : Int32), (97 : Int32), (116 : Int32)] : List Int32)) E_x F_x_value F_x_coder V_t hcX hbX hlX E_u7 F_u7_value F_u7_coder V_ub7 own_cod2 own_b2 (by decide) (SC.ext O7.2) hcs (by decide) (by decide)) qa8 qc8 (g := (mkF m 29 #[.val (.ref x)] [(.ref u7), (.ref x)])) rfl (by rw [hml]; rfl) (Steps.refl _) (argsL := [(.ref u7)]) (rest := []) (lenOf pdx_0 rfl) rfl (by show 2 * 0 + _ ≤ _; exact Nat.le_of_eq rfl) (hb hby dx_29) (fun _ _ => ⟨rfl, e7, (by decide : 6 + 0 ≤ _), (by decide : 84 + 0 ≤ _)⟩)
        dsimp only [Pt.U, Pt.locs, Pt.cells, Pt.slots] at X8 l8 y8 z8 st8 hQ8
        subst y8 z8
        obtain ⟨hz8, el8, e8⟩ := hQ8
        obtain ⟨zq8, rfl, hzq8⟩ := own_zz hz8
        have Nc8 : Fr n0 Lc8 := by rw [el8]; exact Fr.nil n0
        have N8 : Fr n0 L8 := by rw [l8]; exact Fr.app N5 Nc8
        have M8 : Fr s.heap.size L8 := by rw [l8, el8, List.append_nil]; exact M5
        refine GoV.tr st8 ?_
        show GoV p e below s _ _ _ (T8.setTop (mkF m 32 #[.val (.ref x)] [(.int zq8)]))
        by_cases c32_9 : zq8 = (0 : Int32)
        · refine GoV.st (fun _ kq_ => XS.ifYes X8.here hx rfl (pc0 := 32) (pc' := 39) rfl (hb hby dx_32) rfl (XT.i0_eq_t c32_9) (by decide) (by decide) kq_) ?_
          show GoV p e below s _ _ _ (T8.setTop (mkF m 39 #[.val (.ref x)] []))
          refine GoV.st (fun _ kq_ => XS.aloadN X8.here hx rfl (hb hby dx_39) rfl rfl kq_) ?_
          show GoV p e below s _ _ _ (T8.setTop (mkF m 40 #[.val (.ref x)] [(.ref x)]))
          obtain ⟨u10, T10, h10, kk10, ub10, kb10, ca10, cb10, un10, X10, e10, E10, hS10, hk10, hZ10, hown10, NE, NC, NV, NB, NCa, NCb, Sk10, tx10, I10, hJ10, LT10, st10⟩ := own_ldcH (vm0 := T7.vm) X8 hx hZ7 hown7 (own_w hw 79 rfl) wS e8 hS7 hk7 M8 (heldCarry (Z := s) (s := s) hS7.1 (mvS (s := s) (vm0 := s.vm) (args := #[]) hZs (own_w hw 79 rfl)) J7 (by decide) (fun _ _ q => q) (hHC ("com/example/pemmican/pemmican/DataTypeNamedPinLaw", 44) (by decide))) I7 (vs := [(.int (100 : Int32)), (.int (111 : Int32)), (.int (117 : Int32)), (.int (98 : Int32)), (.int (108 : Int32)), (.int (101 : Int32))]) (z := (6 : Int32)) (by decide) (by decide) rfl (g := (mkF m 40 #[.val (.ref x)] [(.ref x)])) rfl (hb hby dx_40) (n := 24) (by decide) (by decide) (by decide) (by decide)
          have J10 := hJ10 _ J7
          have E_x := E_x.ext E10
          have F_x_coder := F_x_coder.ext E10
          have F_x_value := F_x_value.ext E10
          have V_t := V_t.ext E10
          have E_u1 := E_u1.ext E10
          have F_u1_coder := F_u1_coder.ext E10
          have F_u1_value := F_u1_value.ext E10
          have V_ub1 := V_ub1.ext E10
          have C_u1 := C_u1.ext E10
          have C_ub1 := C_ub1.ext E10
          have E_u4 := E_u4.ext E10
          have F_u4_coder := F_u4_coder.ext E10
          have F_u4_value := F_u4_value.ext E10
          have V_ub4 := V_ub4.ext E10
          have C_u4 := C_u4.ext E10
          have C_ub4 := C_ub4.ext E10
          have E_u7 := E_u7.ext E10
          have F_u7_coder := F_u7_coder.ext E10
          have F_u7_value := F_u7_value.ext E10
          have V_ub7 := V_ub7.ext E10
          have C_u7 := C_u7.ext E10
          have C_ub7 := C_ub7.ext E10
          have O10 := O7.ext E10
          have K10 := K7.ext E10
          have E_u10 : Exa Z h10 u10 "java/lang/String" := NE
          have F_u10_coder : Fld Z h10 u10 "java/lang/String" "coder" "B" (.int (0 : Int32)) := NC
          have F_u10_value : Fld Z h10 u10 "java/lang/String" "value" "[B" (.ref ub10) := NV
          have V_ub10 : Arv Z h10 ub10 kb10 .byte (6 : Int32) [(.int (100 : Int32)), (.int (111 : Int32)), (.int (117 : Int32)), (.int (98 : Int32)), (.int (108 : Int32)), (.int (101 : Int32))] (.int (0 : Int32)) := NB
          have C_u10 : Cel h10 u10 ca10 := NCa
          have C_ub10 : Cel h10 ub10 cb10 := NCb
          refine GoV.st st10 ?_
          show GoV p e below s _ _ _ (T10.setTop (mkF m 42 #[.val (.ref x)] [(.ref u10), (.ref x)]))
          obtain ⟨cq11, kq11, qa11, qb11, qc11⟩ := isOf hZ10 e10 E_x
          obtain ⟨_, _, ⟨T11, L11, k11, n11⟩, -, X11, ⟨Lc11, hQ11, l11, y11, z11⟩, st11⟩ := X10.virtualBack hx (y := (⟨"java/lang/String", "equals", "(Ljava/lang/Object;)Z"⟩ : MethodName)) (z := (⟨"java/lang/String", "equals", "(Ljava/lang/Object;)Z"⟩ : MethodName)) hown10 (mvT hZ10 (own_w hw 76 rfl)) (mvT hZ10 (own_w hw 62 rfl)) (notFace_of_selects (args := #[]) (mvT hZ10 (own_w hw 64 rfl))) (mvT hZ10 (own_w hw 64 rfl)) (mvT hZ10 (own_w hw 63 rfl)) (by decide) (StrChars.Road.eqW (W := 0) hZ10 heq (kI := 4) (own_w hw 2 rfl) (cs := ds) (ds := ([(100 : Int32), (111 : Int32), (117 : Int32), (98 : Int32), (108 : Int32), (101 : Int32)] : List Int32)) E_x F_x_value F_x_coder V_t hcX hbX hlX E_u10 F_u10_value F_u10_coder V_ub10 own_cod3 own_b3 (by decide) (SC.ext O10.2) hcs (by decide) (by decide)) qa11 qc11 (g := (mkF m 42 #[.val (.ref x)] [(.ref u10), (.ref x)])) rfl (by rw [hml]; rfl) (Steps.refl _) (argsL := [(.ref u10)]) (rest := []) (lenOf pdx_0 rfl) rfl (by show 2 * 0 + _ ≤ _; exact Nat.le_of_eq rfl) (hb hby dx_42) (fun _ _ => ⟨rfl, e10, (by decide : 8 + 0 ≤ _), (by decide : 112 + 0 ≤ _)⟩)
          dsimp only [Pt.U, Pt.locs, Pt.cells, Pt.slots] at X11 l11 y11 z11 st11 hQ11
          subst y11 z11
          obtain ⟨hz11, el11, e11⟩ := hQ11
          obtain ⟨zq11, rfl, hzq11⟩ := own_zz hz11
          have Nc11 : Fr n0 Lc11 := by rw [el11]; exact Fr.nil n0
          have N11 : Fr n0 L11 := by rw [l11]; exact Fr.app N8 Nc11
          have M11 : Fr s.heap.size L11 := by rw [l11, el11, List.append_nil]; exact M8
          refine GoV.tr st11 ?_
          show GoV p e below s _ _ _ (T11.setTop (mkF m 45 #[.val (.ref x)] [(.int zq11)]))
          by_cases c45_12 : zq11 = (0 : Int32)
          · refine GoV.st (fun _ kq_ => XS.ifYes X11.here hx rfl (pc0 := 45) (pc' := 52) rfl (hb hby dx_45) rfl (XT.i0_eq_t c45_12) (by decide) (by decide) kq_) ?_
            show GoV p e below s _ _ _ (T11.setTop (mkF m 52 #[.val (.ref x)] []))
            refine GoV.st (fun _ kq_ => XS.aloadN X11.here hx rfl (hb hby dx_52) rfl rfl kq_) ?_
            show GoV p e below s _ _ _ (T11.setTop (mkF m 53 #[.val (.ref x)] [(.ref x)]))
            obtain ⟨u13, T13, h13, kk13, ub13, kb13, ca13, cb13, un13, X13, e13, E13, hS13, hk13, hZ13, hown13, NE, NC, NV, NB, NCa, NCb, Sk13, tx13, I13, hJ13, LT13, st13⟩ := own_ldcH (vm0 := T10.vm) X11 hx hZ10 hown10 (own_w hw 80 rfl) wS e11 hS10 hk10 M11 (heldCarry (Z := s) (s := s) hS10.1 (mvS (s := s) (vm0 := s.vm) (args := #[]) hZs (own_w hw 80 rfl)) J10 (by decide) (fun _ _ q => q) (hHC ("com/example/pemmican/pemmican/DataTypeNamedPinLaw", 46) (by decide))) I10 (vs := [(.int (98 : Int32)), (.int (111 : Int32)), (.int (111 : Int32)), (.int (108 : Int32)), (.int (101 : Int32)), (.int (97 : Int32)), (.int (110 : Int32))]) (z := (7 : Int32)) (by decide) (by decide) rfl (g := (mkF m 53 #[.val (.ref x)] [(.ref x)])) rfl (hb hby dx_53) (n := 28) (by decide) (by decide) (by decide) (by decide)
            have J13 := hJ13 _ J10
            have E_x := E_x.ext E13
            have F_x_coder := F_x_coder.ext E13
            have F_x_value := F_x_value.ext E13
            have V_t := V_t.ext E13
            have E_u1 := E_u1.ext E13
            have F_u1_coder := F_u1_coder.ext E13
            have F_u1_value := F_u1_value.ext E13
            have V_ub1 := V_ub1.ext E13
            have C_u1 := C_u1.ext E13
            have C_ub1 := C_ub1.ext E13
            have E_u4 := E_u4.ext E13
            have F_u4_coder := F_u4_coder.ext E13
            have F_u4_value := F_u4_value.ext E13
            have V_ub4 := V_ub4.ext E13
            have C_u4 := C_u4.ext E13
            have C_ub4 := C_ub4.ext E13
            have E_u7 := E_u7.ext E13
            have F_u7_coder := F_u7_coder.ext E13
            have F_u7_value := F_u7_value.ext E13
            have V_ub7 := V_ub7.ext E13
            have C_u7 := C_u7.ext E13
            have C_ub7 := C_ub7.ext E13
            have E_u10 := E_u10.ext E13
            have F_u10_coder := F_u10_coder.ext E13
            have F_u10_value := F_u10_value.ext E13
            have V_ub10 := V_ub10.ext E13
            have C_u10 := C_u10.ext E13
            have C_ub10 := C_ub10.ext E13
            have O13 := O10.ext E13
            have K13 := K10.ext E13
            have E_u13 : Exa Z h13 u13 "java/lang/String" := NE
            have F_u13_coder : Fld Z h13 u13 "java/lang/String" "coder" "B" (.int (0 : Int32)) := NC
            have F_u13_value : Fld Z h13 u13 "java/lang/String" "value" "[B" (.ref ub13) := NV
            have V_ub13 : Arv Z h13 ub13 kb13 .byte (7 : Int32) [(.int (98 : Int32)), (.int (111 : Int32)), (.int (111 : Int32)), (.int (108 : Int32)), (.int (101 : Int32)), (.int (97 : Int32)), (.int (110 : Int32))] (.int (0 : Int32)) := NB
            have C_u13 : Cel h13 u13 ca13 := NCa
            have C_ub13 : Cel h13 ub13 cb13 := NCb
            refine GoV.st st13 ?_
            show GoV p e below s _ _ _ (T13.setTop (mkF m 55 #[.val (.ref x)] [(.ref u13), (.ref x)]))
            obtain ⟨cq14, kq14, qa14, qb14, qc14⟩ := isOf hZ13 e13 E_x
            obtain ⟨_, _, ⟨T14, L14, k14, n14⟩, -, X14, ⟨Lc14, hQ14, l14, y14, z14⟩, st14⟩ := X13.virtualBack hx (y := (⟨"java/lang/String", "equals", "(Ljava/lang/Object;)Z"⟩ : MethodName)) (z := (⟨"java/lang/String", "equals", "(Ljava/lang/Object;)Z"⟩ : MethodName)) hown13 (mvT hZ13 (own_w hw 76 rfl)) (mvT hZ13 (own_w hw 62 rfl)) (notFace_of_selects (args := #[]) (mvT hZ13 (own_w hw 64 rfl))) (mvT hZ13 (own_w hw 64 rfl)) (mvT hZ13 (own_w hw 63 rfl)) (by decide) (StrChars.Road.eqW (W := 0) hZ13 heq (kI := 4) (own_w hw 2 rfl) (cs := ds) (ds := ([(98 : Int32), (111 : Int32), (111 : Int32), (108 : Int32), (101 : Int32), (97 : Int32), (110 : Int32)] : List Int32)) E_x F_x_value F_x_coder V_t hcX hbX hlX E_u13 F_u13_value F_u13_coder V_ub13 own_cod4 own_b4 (by decide) (SC.ext O13.2) hcs (by decide) (by decide)) qa14 qc14 (g := (mkF m 55 #[.val (.ref x)] [(.ref u13), (.ref x)])) rfl (by rw [hml]; rfl) (Steps.refl _) (argsL := [(.ref u13)]) (rest := []) (lenOf pdx_0 rfl) rfl (by show 2 * 0 + _ ≤ _; exact Nat.le_of_eq rfl) (hb hby dx_55) (fun _ _ => ⟨rfl, e13, (by decide : 10 + 0 ≤ _), (by decide : 144 + 0 ≤ _)⟩)
            dsimp only [Pt.U, Pt.locs, Pt.cells, Pt.slots] at X14 l14 y14 z14 st14 hQ14
            subst y14 z14
            obtain ⟨hz14, el14, e14⟩ := hQ14
            obtain ⟨zq14, rfl, hzq14⟩ := own_zz hz14
            have Nc14 : Fr n0 Lc14 := by rw [el14]; exact Fr.nil n0
            have N14 : Fr n0 L14 := by rw [l14]; exact Fr.app N11 Nc14
            have M14 : Fr s.heap.size L14 := by rw [l14, el14, List.append_nil]; exact M11
            refine GoV.tr st14 ?_
            show GoV p e below s _ _ _ (T14.setTop (mkF m 58 #[.val (.ref x)] [(.int zq14)]))
            by_cases c58_15 : zq14 = (0 : Int32)
            · refine GoV.st (fun _ kq_ => XS.ifYes X14.here hx rfl (pc0 := 58) (pc' := 65) rfl (hb hby dx_58) rfl (XT.i0_eq_t c58_15) (by decide) (by decide) kq_) ?_
              show GoV p e below s _ _ _ (T14.setTop (mkF m 65 #[.val (.ref x)] []))
              refine GoV.st (fun _ kq_ => XS.aconstNull X14.here hx rfl (hb hby dx_65) kq_) ?_
              show GoV p e below s _ _ _ (T14.setTop (mkF m 66 #[.val (.ref x)] [.null]))
              exact GoV.ret (vm1 := T13.vm) X14 hlk hS13 (by rw [e14]; exact hk13) (some .null) (fun h => by rw [Bd.returns] at h; cases h) (by rw [e14]; exact ⟨(show some .null = some (oRes c ds) by unfold oRes; rw [if_neg (own_z0 hzq2 c6_3), if_neg (own_z0 hzq5 c19_6), if_neg (own_z0 hzq8 c32_9), if_neg (own_z0 hzq11 c45_12), if_neg (own_z0 hzq14 c58_15)]), N14, K13⟩) (by decide) (by decide) (fun fs hr => retOut X14 hx Bd.returns rfl (Or.inr (Or.inr (Or.inr (Or.inr ⟨rfl, rfl, rfl⟩)))) (hb hby dx_66) hr)
            · refine GoV.st (fun _ kq_ => XS.ifNo X14.here hx rfl (hb hby dx_58) rfl (XT.i0_eq_f c58_15) kq_) ?_
              show GoV p e below s _ _ _ (T14.setTop (mkF m 61 #[.val (.ref x)] []))
              obtain ⟨T16, X16, e16, st16⟩ := getS X14 hx hZ13 hown13 (host := "") (own_w hw 121 rfl) Via.refl e14 (SD4.ext O13.2) (g := (mkF m 61 #[.val (.ref x)] [])) rfl (hb hby dx_61)
              refine GoV.st st16 ?_
              show GoV p e below s _ _ _ (T16.setTop (mkF m 64 #[.val (.ref x)] [(.ref (c 4))]))
              exact GoV.ret (vm1 := T13.vm) X16 hlk hS13 (by rw [e16]; exact hk13) (some (.ref (c 4))) (fun h => by rw [Bd.returns] at h; cases h) (by rw [e16]; exact ⟨(show some (.ref (c 4)) = some (oRes c ds) by unfold oRes; rw [if_neg (own_z0 hzq2 c6_3), if_neg (own_z0 hzq5 c19_6), if_neg (own_z0 hzq8 c32_9), if_neg (own_z0 hzq11 c45_12), if_pos (own_z1 hzq14 c58_15)]), N14, K13⟩) (by decide) (by decide) (fun fs hr => retOut X16 hx Bd.returns rfl (Or.inr (Or.inr (Or.inr (Or.inr ⟨rfl, rfl, rfl⟩)))) (hb hby dx_64) hr)
          · refine GoV.st (fun _ kq_ => XS.ifNo X11.here hx rfl (hb hby dx_45) rfl (XT.i0_eq_f c45_12) kq_) ?_
            show GoV p e below s _ _ _ (T11.setTop (mkF m 48 #[.val (.ref x)] []))
            obtain ⟨T17, X17, e17, st17⟩ := getS X11 hx hZ10 hown10 (host := "") (own_w hw 122 rfl) Via.refl e11 (SD3.ext O10.2) (g := (mkF m 48 #[.val (.ref x)] [])) rfl (hb hby dx_48)
            refine GoV.st st17 ?_
            show GoV p e below s _ _ _ (T17.setTop (mkF m 51 #[.val (.ref x)] [(.ref (c 3))]))
            exact GoV.ret (vm1 := T10.vm) X17 hlk hS10 (by rw [e17]; exact hk10) (some (.ref (c 3))) (fun h => by rw [Bd.returns] at h; cases h) (by rw [e17]; exact ⟨(show some (.ref (c 3)) = some (oRes c ds) by unfold oRes; rw [if_neg (own_z0 hzq2 c6_3), if_neg (own_z0 hzq5 c19_6), if_neg (own_z0 hzq8 c32_9), if_pos (own_z1 hzq11 c45_12)]), N11, K10⟩) (by decide) (by decide) (fun fs hr => retOut X17 hx Bd.returns rfl (Or.inr (Or.inr (Or.inr (Or.inr ⟨rfl, rfl, rfl⟩)))) (hb hby dx_51) hr)
        · refine GoV.st (fun _ kq_ => XS.ifNo X8.here hx rfl (hb hby dx_32) rfl (XT.i0_eq_f c32_9) kq_) ?_
          show GoV p e below s _ _ _ (T8.setTop (mkF m 35 #[.val (.ref x)] []))
          obtain ⟨T18, X18, e18, st18⟩ := getS X8 hx hZ7 hown7 (host := "") (own_w hw 119 rfl) Via.refl e8 (SD2.ext O7.2) (g := (mkF m 35 #[.val (.ref x)] [])) rfl (hb hby dx_35)
          refine GoV.st st18 ?_
          show GoV p e below s _ _ _ (T18.setTop (mkF m 38 #[.val (.ref x)] [(.ref (c 2))]))
          exact GoV.ret (vm1 := T7.vm) X18 hlk hS7 (by rw [e18]; exact hk7) (some (.ref (c 2))) (fun h => by rw [Bd.returns] at h; cases h) (by rw [e18]; exact ⟨(show some (.ref (c 2)) = some (oRes c ds) by unfold oRes; rw [if_neg (own_z0 hzq2 c6_3), if_neg (own_z0 hzq5 c19_6), if_pos (own_z1 hzq8 c32_9)]), N8, K7⟩) (by decide) (by decide) (fun fs hr => retOut X18 hx Bd.returns rfl (Or.inr (Or.inr (Or.inr (Or.inr ⟨rfl, rfl, rfl⟩)))) (hb hby dx_38) hr)
      · refine GoV.st (fun _ kq_ => XS.ifNo X5.here hx rfl (hb hby dx_19) rfl (XT.i0_eq_f c19_6) kq_) ?_
        show GoV p e below s _ _ _ (T5.setTop (mkF m 22 #[.val (.ref x)] []))
        obtain ⟨T19, X19, e19, st19⟩ := getS X5 hx hZ4 hown4 (host := "") (own_w hw 118 rfl) Via.refl e5 (SD1.ext O4.2) (g := (mkF m 22 #[.val (.ref x)] [])) rfl (hb hby dx_22)
        refine GoV.st st19 ?_
        show GoV p e below s _ _ _ (T19.setTop (mkF m 25 #[.val (.ref x)] [(.ref (c 1))]))
        exact GoV.ret (vm1 := T4.vm) X19 hlk hS4 (by rw [e19]; exact hk4) (some (.ref (c 1))) (fun h => by rw [Bd.returns] at h; cases h) (by rw [e19]; exact ⟨(show some (.ref (c 1)) = some (oRes c ds) by unfold oRes; rw [if_neg (own_z0 hzq2 c6_3), if_pos (own_z1 hzq5 c19_6)]), N5, K4⟩) (by decide) (by decide) (fun fs hr => retOut X19 hx Bd.returns rfl (Or.inr (Or.inr (Or.inr (Or.inr ⟨rfl, rfl, rfl⟩)))) (hb hby dx_25) hr)
    · refine GoV.st (fun _ kq_ => XS.ifNo X2.here hx rfl (hb hby dx_6) rfl (XT.i0_eq_f c6_3) kq_) ?_
      show GoV p e below s _ _ _ (T2.setTop (mkF m 9 #[.val (.ref x)] []))
      obtain ⟨T20, X20, e20, st20⟩ := getS X2 hx hZ1 hown1 (host := "") (own_w hw 120 rfl) Via.refl e2 (SD0.ext O1.2) (g := (mkF m 9 #[.val (.ref x)] [])) rfl (hb hby dx_9)
      refine GoV.st st20 ?_
      show GoV p e below s _ _ _ (T20.setTop (mkF m 12 #[.val (.ref x)] [(.ref (c 0))]))
      exact GoV.ret (vm1 := T1.vm) X20 hlk hS1 (by rw [e20]; exact hk1) (some (.ref (c 0))) (fun h => by rw [Bd.returns] at h; cases h) (by rw [e20]; exact ⟨(show some (.ref (c 0)) = some (oRes c ds) by unfold oRes; rw [if_pos (own_z1 hzq2 c6_3)]), N2, K1⟩) (by decide) (by decide) (fun fs hr => retOut X20 hx Bd.returns rfl (Or.inr (Or.inr (Or.inr (Or.inr ⟨rfl, rfl, rfl⟩)))) (hb hby dx_12) hr)
  obtain ⟨s2, o2, st2, r2⟩ := G
  exact ⟨s2, o2, castTop (efx m x) st2, r2⟩
theorem pd0_0 : parseMethodDescriptor "()I" = some ⟨[], some .int⟩ := by decide +kernel
theorem pd0_1 : parseMethodDescriptor "(Ljava/lang/String;)Lcom/example/pemmican/pemmican/DataType;" = some ⟨[(.object "java/lang/String")], some (.object "com/example/pemmican/pemmican/DataType")⟩ := by decide +kernel
theorem pd0_2 : parseMethodDescriptor "([C)V" = some ⟨[(.array .char)], none⟩ := by decide +kernel
theorem pd0_3 : parseMethodDescriptor "(Ljava/lang/String;IIII)C" = some ⟨[(.object "java/lang/String"), .int, .int, .int, .int], some .char⟩ := by decide +kernel
theorem pd0_4 : parseMethodDescriptor "(I)Ljava/lang/String;" = some ⟨[.int], some (.object "java/lang/String")⟩ := by decide +kernel
theorem pn0 : plainName "com/example/pemmican/pemmican/DataTypeNamedPinLaw" = true := by first | (simp [plainName, overriddenIn]; done) | decide +kernel
theorem ef0 (m : MethodId) (x0 : Int32) (x1 : Int32) (x2 : Int32) (x3 : Int32) (x4 : Int32) (x5 : Int32) : entryFrame m #[(.int x0), (.int x1), (.int x2), (.int x3), (.int x4), (.int x5)] maxLocals = mkF m 0 #[.val (.int x0), .val (.int x1), .val (.int x2), .val (.int x3), .val (.int x4), .val (.int x5), .unset, .unset, .unset, .unset, .unset, .unset, .unset, .unset] [] := by first | (simp [entryFrame, mkF, argsToLocals, Value.category, maxLocals]; done) | rfl
def Q0 (Z : State) (p0 : Int32) (p1 : Int32) (p2 : Int32) (p3 : Int32) (p4 : Int32) (p5 : Int32) (c : Nat → Addr) (sa : Nat → Addr) (ya : Nat → Addr) (kv : Nat → ClassId) (va : Addr) (kq : ClassId) (zc : Int32) (fm : Value) (h0 : Heap) (n0 : Nat) (v : Option Value) (vm : Vm) (h : Heap) (L : List Loc) : Prop := v = some (.int 1) ∧ Fr n0 L
set_option maxRecDepth 65536 in
set_option maxHeartbeats 40000000 in
theorem rm0 (l : Launch) (Z : State) (a0 : Array Value) (hw : ∀ d ∈ tables_1, d.before a0 Z = true) (ws : List Jvm.Cond) (p0 : Int32) (p1 : Int32) (p2 : Int32) (p3 : Int32) (p4 : Int32) (p5 : Int32) (c : Nat → Addr) (sa : Nat → Addr) (ya : Nat → Addr) (kv : Nat → ClassId) (va : Addr) (kq : ClassId) (zc : Int32) (fm : Value) (h0 : Heap) (n0 : Nat) (O0 : Old Z n0 h0) (hz0 : Z.heap = h0) (EV : Exa Z Z.heap va "[Lcom/example/pemmican/pemmican/DataType;") (VV : Arv Z Z.heap va kq (.object "com/example/pemmican/pemmican/DataType") (5 : Int32) [(.ref (c 0)), (.ref (c 1)), (.ref (c 2)), (.ref (c 3)), (.ref (c 4))] .null) (D_0 : Exa Z Z.heap (c 0) "com/example/pemmican/pemmican/DataType") (J_0 : Fld Z Z.heap (c 0) "com/example/pemmican/pemmican/DataType" "pmmlName" "Ljava/lang/String;" (.ref (sa 0))) (E_s0 : Exa Z Z.heap (sa 0) "java/lang/String") (F_s0_coder : Fld Z Z.heap (sa 0) "java/lang/String" "coder" "B" (.int (0 : Int32))) (F_s0_value : Fld Z Z.heap (sa 0) "java/lang/String" "value" "[B" (.ref (ya 0))) (V_s0 : Arv Z Z.heap (ya 0) (kv 0) .byte (6 : Int32) [(.int (115 : Int32)), (.int (116 : Int32)), (.int (114 : Int32)), (.int (105 : Int32)), (.int (110 : Int32)), (.int (103 : Int32))] (.int (0 : Int32))) (D_1 : Exa Z Z.heap (c 1) "com/example/pemmican/pemmican/DataType") (J_1 : Fld Z Z.heap (c 1) "com/example/pemmican/pemmican/DataType" "pmmlName" "Ljava/lang/String;" (.ref (sa 1))) (E_s1 : Exa Z Z.heap (sa 1) "java/lang/String") (F_s1_coder : Fld Z Z.heap (sa 1) "java/lang/String" "coder" "B" (.int (0 : Int32))) (F_s1_value : Fld Z Z.heap (sa 1) "java/lang/String" "value" "[B" (.ref (ya 1))) (V_s1 : Arv Z Z.heap (ya 1) (kv 1) .byte (7 : Int32) [(.int (105 : Int32)), (.int (110 : Int32)), (.int (116 : Int32)), (.int (101 : Int32)), (.int (103 : Int32)), (.int (101 : Int32)), (.int (114 : Int32))] (.int (0 : Int32))) (D_2 : Exa Z Z.heap (c 2) "com/example/pemmican/pemmican/DataType") (J_2 : Fld Z Z.heap (c 2) "com/example/pemmican/pemmican/DataType" "pmmlName" "Ljava/lang/String;" (.ref (sa 2))) (E_s2 : Exa Z Z.heap (sa 2) "java/lang/String") (F_s2_coder : Fld Z Z.heap (sa 2) "java/lang/String" "coder" "B" (.int (0 : Int32))) (F_s2_value : Fld Z Z.heap (sa 2) "java/lang/String" "value" "[B" (.ref (ya 2))) (V_s2 : Arv Z Z.heap (ya 2) (kv 2) .byte (5 : Int32) [(.int (102 : Int32)), (.int (108 : Int32)), (.int (111 : Int32)), (.int (97 : Int32)), (.int (116 : Int32))] (.int (0 : Int32))) (D_3 : Exa Z Z.heap (c 3) "com/example/pemmican/pemmican/DataType") (J_3 : Fld Z Z.heap (c 3) "com/example/pemmican/pemmican/DataType" "pmmlName" "Ljava/lang/String;" (.ref (sa 3))) (E_s3 : Exa Z Z.heap (sa 3) "java/lang/String") (F_s3_coder : Fld Z Z.heap (sa 3) "java/lang/String" "coder" "B" (.int (0 : Int32))) (F_s3_value : Fld Z Z.heap (sa 3) "java/lang/String" "value" "[B" (.ref (ya 3))) (V_s3 : Arv Z Z.heap (ya 3) (kv 3) .byte (6 : Int32) [(.int (100 : Int32)), (.int (111 : Int32)), (.int (117 : Int32)), (.int (98 : Int32)), (.int (108 : Int32)), (.int (101 : Int32))] (.int (0 : Int32))) (D_4 : Exa Z Z.heap (c 4) "com/example/pemmican/pemmican/DataType") (J_4 : Fld Z Z.heap (c 4) "com/example/pemmican/pemmican/DataType" "pmmlName" "Ljava/lang/String;" (.ref (sa 4))) (E_s4 : Exa Z Z.heap (sa 4) "java/lang/String") (F_s4_coder : Fld Z Z.heap (sa 4) "java/lang/String" "coder" "B" (.int (0 : Int32))) (F_s4_value : Fld Z Z.heap (sa 4) "java/lang/String" "value" "[B" (.ref (ya 4))) (V_s4 : Arv Z Z.heap (ya 4) (kv 4) .byte (7 : Int32) [(.int (98 : Int32)), (.int (111 : Int32)), (.int (111 : Int32)), (.int (108 : Int32)), (.int (101 : Int32)), (.int (97 : Int32)), (.int (110 : Int32))] (.int (0 : Int32))) (SV : Sta Z Z.heap "com/example/pemmican/pemmican/DataType" "$VALUES" "[Lcom/example/pemmican/pemmican/DataType;" (.ref va)) (SC : Sta Z Z.heap "java/lang/String" "COMPACT_STRINGS" "Z" (.int zc)) (hcs : ¬ zc = 0) (SD0 : Sta Z Z.heap "com/example/pemmican/pemmican/DataType" "STRING" "Lcom/example/pemmican/pemmican/DataType;" (.ref (c 0))) (SD1 : Sta Z Z.heap "com/example/pemmican/pemmican/DataType" "INTEGER" "Lcom/example/pemmican/pemmican/DataType;" (.ref (c 1))) (SD2 : Sta Z Z.heap "com/example/pemmican/pemmican/DataType" "FLOAT" "Lcom/example/pemmican/pemmican/DataType;" (.ref (c 2))) (SD3 : Sta Z Z.heap "com/example/pemmican/pemmican/DataType" "DOUBLE" "Lcom/example/pemmican/pemmican/DataType;" (.ref (c 3))) (SD4 : Sta Z Z.heap "com/example/pemmican/pemmican/DataType" "BOOLEAN" "Lcom/example/pemmican/pemmican/DataType;" (.ref (c 4))) (SF : Sta Z Z.heap "jdk/internal/util/Preconditions" "SIOOBE_FORMATTER" "Ljava/util/function/BiFunction;" fm) (rf : fm.isRef = true) (hcw : Jvm.Lit.compactW.before a0 Z = true) (hcon : Jvm.Lit.constsHeld consts_1 Z) :
    MetFree l x (head1 (Jvm.Cond.code x code maxLocals ret :: ws) room_1) (fun A_ U_ => A_ = #[(.int p0), (.int p1), (.int p2), (.int p3), (.int p4), (.int p5)] ∧ U_ = Z) (fun _ _ _ _ _ => True) (fun _ U o U' => ∃ v L, o = .returned v ∧ Q0 Z p0 p1 p2 p3 p4 p5 c sa ya kv va kq zc fm h0 n0 v U'.vm U'.heap L ∧ ReturnedEndW U o U' L room_1.cells room_1.slots) := by
  refine MetFree.of_bodySF (plainFor_of_name pn0) hisR ?_
  intro p e s m args below meth cd s₁ Bd hml0 hP hK
  obtain ⟨rfl, hU⟩ := hP
  have hZ : Z.Warmed39 s.vm := by rw [hU]; exact State.Warmed39.refl Z
  have hZs := hZ
  have hh : s.heap = h0 := by rw [hU]; exact hz0
  have I0 : OwnI Z s.vm [] := by rw [hU]; exact OwnI.start
  have J0 : IB s s.vm [] := IB.start
  have hs0 : s.heap.size = n0 := by rw [hU]; exact O0.1
  have hS0 : s.Since s.vm h0.size := State.WarmedH.since (State.WarmedH.refl s) _
  have hk0 : h0.size ≤ h0.size := Nat.le_refl _
  have wa : (Jvm.Cond.arrayClass .byte).before a0 Z = true := hw _ (List.mem_of_getElem? (i := 3) rfl)
  have wi : (Jvm.Cond.instantiable "java/lang/String" 4).before a0 Z = true := hw _ (List.mem_of_getElem? (i := 2) rfl)
  have hHZ_0 : ConstHeldL Z "com/example/pemmican/pemmican/DataTypeNamedPinLaw" 38 := heldStart (hcon ("com/example/pemmican/pemmican/DataTypeNamedPinLaw", 38) (by decide)) (own_w hw 75 rfl) (by decide) hcw wa wi
  have hHS_0 : ConstHeldL s "com/example/pemmican/pemmican/DataTypeNamedPinLaw" 38 := by rw [hU]; exact hHZ_0
  have hHZ_1 : ConstHeldL Z "com/example/pemmican/pemmican/DataTypeNamedPinLaw" 40 := heldStart (hcon ("com/example/pemmican/pemmican/DataTypeNamedPinLaw", 40) (by decide)) (own_w hw 77 rfl) (by decide) hcw wa wi
  have hHS_1 : ConstHeldL s "com/example/pemmican/pemmican/DataTypeNamedPinLaw" 40 := by rw [hU]; exact hHZ_1
  have hHZ_2 : ConstHeldL Z "com/example/pemmican/pemmican/DataTypeNamedPinLaw" 42 := heldStart (hcon ("com/example/pemmican/pemmican/DataTypeNamedPinLaw", 42) (by decide)) (own_w hw 78 rfl) (by decide) hcw wa wi
  have hHS_2 : ConstHeldL s "com/example/pemmican/pemmican/DataTypeNamedPinLaw" 42 := by rw [hU]; exact hHZ_2
  have hHZ_3 : ConstHeldL Z "com/example/pemmican/pemmican/DataTypeNamedPinLaw" 44 := heldStart (hcon ("com/example/pemmican/pemmican/DataTypeNamedPinLaw", 44) (by decide)) (own_w hw 79 rfl) (by decide) hcw wa wi
  have hHS_3 : ConstHeldL s "com/example/pemmican/pemmican/DataTypeNamedPinLaw" 44 := by rw [hU]; exact hHZ_3
  have hHZ_4 : ConstHeldL Z "com/example/pemmican/pemmican/DataTypeNamedPinLaw" 46 := heldStart (hcon ("com/example/pemmican/pemmican/DataTypeNamedPinLaw", 46) (by decide)) (own_w hw 80 rfl) (by decide) hcw wa wi
  have hHS_4 : ConstHeldL s "com/example/pemmican/pemmican/DataTypeNamedPinLaw" 46 := by rw [hU]; exact hHZ_4
  have hHZ_5 : ConstHeldL Z "com/example/pemmican/pemmican/DataTypeNamedPinLaw" 7 := heldStart (hcon ("com/example/pemmican/pemmican/DataTypeNamedPinLaw", 7) (by decide)) (own_w hw 0 rfl) (by decide) hcw wa wi
  have hHS_5 : ConstHeldL s "com/example/pemmican/pemmican/DataTypeNamedPinLaw" 7 := by rw [hU]; exact hHZ_5
  have hHZ_6 : ConstHeldL Z "java/lang/String" 7 := heldStart (hcon ("java/lang/String", 7) (by decide)) (own_w hw 34 rfl) (by decide) hcw wa wi
  have hHS_6 : ConstHeldL s "java/lang/String" 7 := by rw [hU]; exact hHZ_6
  have hx := Bd.exec
  have hby := Bd.bytes
  have hlk : meth.locks = false := BodyLoose.notSynchronized Bd
  have hml : cd.maxLocals = 14 := hml0
  have hown : s.vm.findClass "com/example/pemmican/pemmican/DataTypeNamedPinLaw" = some m.cls := findClass_of_methodNamed Bd.named
  have hnm := (name_of_methodNamed Bd.named Bd.method).1
  have X0 : Stand p l e room_1 s m #[(.int p0), (.int p1), (.int p2), (.int p3), (.int p4), (.int p5)] below meth cd s₁ [] 0 0 := Stand.of_body Bd
  have e0 : s₁.heap = h0 := by rw [← hh, Bd.state]; rfl
  have N0 := Fr.nil n0
  have wS : ∀ a ∈ Bundle.stringAtoms, a.before a0 Z = true := fun d hd => hw d ((by decide +kernel : ∀ d ∈ Bundle.stringAtoms, d ∈ tables_1) d hd)
  have hws : ∀ d ∈ StrChars.Road.words, d.before a0 Z = true := fun d hd => hw d ((by decide +kernel : ∀ d ∈ StrChars.Road.words, d ∈ tables_1) d hd)
  have hlen : ∀ d ∈ StrChars.Road.wordsLen, d.before a0 Z = true := fun d hd => hw d ((by decide +kernel : ∀ d ∈ StrChars.Road.wordsLen, d ∈ tables_1) d hd)
  have G : GoV p e below s room_1.cells room_1.slots (Q0 Z p0 p1 p2 p3 p4 p5 c sa ya kv va kq zc fm h0 n0) (s₁.setTop (mkF m 0 #[.val (.int p0), .val (.int p1), .val (.int p2), .val (.int p3), .val (.int p4), .val (.int p5), .unset, .unset, .unset, .unset, .unset, .unset, .unset, .unset] [])) := by
    show GoV p e below s _ _ _ (s₁.setTop (mkF m 0 #[.val (.int p0), .val (.int p1), .val (.int p2), .val (.int p3), .val (.int p4), .val (.int p5), .unset, .unset, .unset, .unset, .unset, .unset, .unset, .unset] []))
    refine GoV.st (fun _ kq_ => XS.iloadN X0.here hx rfl (hb hby at_0) rfl kq_) ?_
    show GoV p e below s _ _ _ (s₁.setTop (mkF m 1 #[.val (.int p0), .val (.int p1), .val (.int p2), .val (.int p3), .val (.int p4), .val (.int p5), .unset, .unset, .unset, .unset, .unset, .unset, .unset, .unset] [(.int p1)]))
    refine GoV.st (fun _ kq_ => XS.iconst X0.here hx rfl (hb hby at_1) kq_) ?_
    show GoV p e below s _ _ _ (s₁.setTop (mkF m 2 #[.val (.int p0), .val (.int p1), .val (.int p2), .val (.int p3), .val (.int p4), .val (.int p5), .unset, .unset, .unset, .unset, .unset, .unset, .unset, .unset] [(.int (3 : Int32)), (.int p1)]))
    refine GoV.st (fun _ kq_ => XS.iand X0.here hx rfl (hb hby at_2) rfl kq_) ?_
    show GoV p e below s _ _ _ (s₁.setTop (mkF m 3 #[.val (.int p0), .val (.int p1), .val (.int p2), .val (.int p3), .val (.int p4), .val (.int p5), .unset, .unset, .unset, .unset, .unset, .unset, .unset, .unset] [(.int (p1 &&& (3 : Int32)))]))
    refine GoV.st (fun _ kq_ => XS.istore X0.here hx rfl (hb hby at_3) rfl (l' := #[.val (.int p0), .val (.int p1), .val (.int p2), .val (.int p3), .val (.int p4), .val (.int p5), .val (.int (p1 &&& (3 : Int32))), .unset, .unset, .unset, .unset, .unset, .unset, .unset]) rfl kq_) ?_
    show GoV p e below s _ _ _ (s₁.setTop (mkF m 5 #[.val (.int p0), .val (.int p1), .val (.int p2), .val (.int p3), .val (.int p4), .val (.int p5), .val (.int (p1 &&& (3 : Int32))), .unset, .unset, .unset, .unset, .unset, .unset, .unset] []))
    have JB : ∀ (a : Addr) (b : Addr) (kb : ClassId) (ca : Cell) (cb : Cell) (un : Array UInt16) (N : Int32) (vs : List Value) (cs : List Int32) (vm1 : Vm) (kj1 : Nat) (T1 : State) (h1 : Heap) (lc1 : List Loc) (X1 : Stand p l e room_1 (s.setVm vm1) m #[(.int p0), (.int p1), (.int p2), (.int p3), (.int p4), (.int p5)] below meth cd T1 lc1 2 32) (e1 : T1.heap = h1) (N1 : Fr n0 lc1) (O1 : Old Z n0 h1) (hS1 : s.Since vm1 kj1) (hk1 : kj1 ≤ h1.size) (hZ1 : Z.Warmed39 (s.setVm vm1).vm) (hown1 : (s.setVm vm1).vm.findClass "com/example/pemmican/pemmican/DataTypeNamedPinLaw" = some m.cls) (I1 : OwnI Z vm1 [(un, a)]) (E_a : Exa Z h1 a "java/lang/String") (F_a_coder : Fld Z h1 a "java/lang/String" "coder" "B" (.int (0 : Int32))) (F_a_value : Fld Z h1 a "java/lang/String" "value" "[B" (.ref b)) (V_b : Arv Z h1 b kb .byte N vs (.int (0 : Int32))) (C_a : Cel h1 a ca) (C_b : Cel h1 b cb) (Sk : OwnSk Z a b ca cb un) (hcB : StrChars.Road.CodA cs 0 N vs) (hbB : ∀ c ∈ cs, ¬ c < 0 ∧ ¬ (255 : Int32) < c) (hlB : cs.length ≤ 8), GoV p e below s room_1.cells room_1.slots (Q0 Z p0 p1 p2 p3 p4 p5 c sa ya kv va kq zc fm h0 n0) (T1.setTop (mkF m 26 #[.val (.int p0), .val (.int p1), .val (.int p2), .val (.int p3), .val (.int p4), .val (.int p5), .val (.int (p1 &&& (3 : Int32))), .unset, .unset, .unset, .unset, .unset, .unset, .unset] [(.ref a)])) := by
      intro a b kb ca cb un N vs cs vm1 kj1 T1 h1 lc1 X1 e1 N1 O1 hS1 hk1 hZ1 hown1 I1 E_a F_a_coder F_a_value V_b C_a C_b Sk hcB hbB hlB
      refine GoV.st (fun _ kq_ => XS.astore X1.here hx rfl (hb hby at_26) rfl rfl (l' := #[.val (.int p0), .val (.int p1), .val (.int p2), .val (.int p3), .val (.int p4), .val (.int p5), .val (.int (p1 &&& (3 : Int32))), .val (.ref a), .unset, .unset, .unset, .unset, .unset, .unset]) rfl kq_) ?_
      show GoV p e below s _ _ _ (T1.setTop (mkF m 28 #[.val (.int p0), .val (.int p1), .val (.int p2), .val (.int p3), .val (.int p4), .val (.int p5), .val (.int (p1 &&& (3 : Int32))), .val (.ref a), .unset, .unset, .unset, .unset, .unset, .unset] []))
      refine GoV.st (fun _ kq_ => XS.aload X1.here hx rfl (hb hby at_28) rfl rfl kq_) ?_
      show GoV p e below s _ _ _ (T1.setTop (mkF m 30 #[.val (.int p0), .val (.int p1), .val (.int p2), .val (.int p3), .val (.int p4), .val (.int p5), .val (.int (p1 &&& (3 : Int32))), .val (.ref a), .unset, .unset, .unset, .unset, .unset, .unset] [(.ref a)]))
      obtain ⟨cq2, kq2, qa2, qb2, qc2⟩ := isOf hZ1 e1 E_a
      obtain ⟨_, _, ⟨T2, L2, k2, n2⟩, -, X2, ⟨Lc2, hQ2, l2, y2, z2⟩, st2⟩ := X1.virtualBack hx (y := (⟨"java/lang/String", "length", "()I"⟩ : MethodName)) (z := (⟨"java/lang/String", "length", "()I"⟩ : MethodName)) hown1 (mvT hZ1 (own_w hw 8 rfl)) (mvT hZ1 (own_w hw 9 rfl)) (notFace_of_selects (args := #[]) (mvT hZ1 (own_w hw 11 rfl))) (mvT hZ1 (own_w hw 11 rfl)) (mvT hZ1 (own_w hw 10 rfl)) (by decide) (StrChars.Road.lenW (W := 0) hZ1 hlen (kI := 4) (own_w hw 2 rfl) (cs := cs) E_a F_a_value F_a_coder V_b hcB (own_up hbB) (SC.ext O1.2) hcs (Nat.le_trans hlB (by decide)) (by decide) (by decide)) qa2 qc2 (g := (mkF m 30 #[.val (.int p0), .val (.int p1), .val (.int p2), .val (.int p3), .val (.int p4), .val (.int p5), .val (.int (p1 &&& (3 : Int32))), .val (.ref a), .unset, .unset, .unset, .unset, .unset, .unset] [(.ref a)])) rfl (by rw [hml]; rfl) (Steps.refl _) (argsL := []) (rest := []) (lenOf pd0_0 rfl) rfl (by show 2 * 0 + _ ≤ _; exact Nat.le_of_eq rfl) (hb hby at_30) (fun _ _ => ⟨rfl, e1, (by decide : 2 + 0 ≤ _), (by decide : 32 + 0 ≤ _)⟩)
      dsimp only [Pt.U, Pt.locs, Pt.cells, Pt.slots] at X2 l2 y2 z2 st2 hQ2
      subst y2 z2
      obtain ⟨rfl, el2, e2⟩ := hQ2
      have Nc2 : Fr n0 Lc2 := by rw [el2]; exact Fr.nil n0
      have N2 : Fr n0 L2 := by rw [l2]; exact Fr.app N1 Nc2
      refine GoV.tr st2 ?_
      show GoV p e below s _ _ _ (T2.setTop (mkF m 33 #[.val (.int p0), .val (.int p1), .val (.int p2), .val (.int p3), .val (.int p4), .val (.int p5), .val (.int (p1 &&& (3 : Int32))), .val (.ref a), .unset, .unset, .unset, .unset, .unset, .unset] [(.int (Int32.ofNat cs.length))]))
      refine GoV.st (fun _ kq_ => XS.istore X2.here hx rfl (hb hby at_33) rfl (l' := #[.val (.int p0), .val (.int p1), .val (.int p2), .val (.int p3), .val (.int p4), .val (.int p5), .val (.int (p1 &&& (3 : Int32))), .val (.ref a), .val (.int (Int32.ofNat cs.length)), .unset, .unset, .unset, .unset, .unset]) rfl kq_) ?_
      show GoV p e below s _ _ _ (T2.setTop (mkF m 35 #[.val (.int p0), .val (.int p1), .val (.int p2), .val (.int p3), .val (.int p4), .val (.int p5), .val (.int (p1 &&& (3 : Int32))), .val (.ref a), .val (.int (Int32.ofNat cs.length)), .unset, .unset, .unset, .unset, .unset] []))
      have JN : ∀ (n : Int32) (q : Int32) (vm3 : Vm) (kj3 : Nat) (T3 : State) (h3 : Heap) (lc3 : List Loc) (X3 : Stand p l e room_1 (s.setVm vm3) m #[(.int p0), (.int p1), (.int p2), (.int p3), (.int p4), (.int p5)] below meth cd T3 lc3 2 32) (e3 : T3.heap = h3) (N3 : Fr n0 lc3) (O3 : Old Z n0 h3) (hS3 : s.Since vm3 kj3) (hk3 : kj3 ≤ h3.size) (hZ3 : Z.Warmed39 (s.setVm vm3).vm) (hown3 : (s.setVm vm3).vm.findClass "com/example/pemmican/pemmican/DataTypeNamedPinLaw" = some m.cls) (I3 : OwnI Z vm3 [(un, a)]) (E_a : Exa Z h3 a "java/lang/String") (F_a_coder : Fld Z h3 a "java/lang/String" "coder" "B" (.int (0 : Int32))) (F_a_value : Fld Z h3 a "java/lang/String" "value" "[B" (.ref b)) (V_b : Arv Z h3 b kb .byte N vs (.int (0 : Int32))) (C_a : Cel h3 a ca) (C_b : Cel h3 b cb) (hn : ¬ n < 0 ∧ n < 9), GoV p e below s room_1.cells room_1.slots (Q0 Z p0 p1 p2 p3 p4 p5 c sa ya kv va kq zc fm h0 n0) (T3.setTop (mkF m 80 #[.val (.int p0), .val (.int p1), .val (.int p2), .val (.int p3), .val (.int p4), .val (.int p5), .val (.int (p1 &&& (3 : Int32))), .val (.ref a), .val (.int (Int32.ofNat cs.length)), .val (.int n), .val (.int q), .unset, .unset, .unset] [])) := by
        intro n q vm3 kj3 T3 h3 lc3 X3 e3 N3 O3 hS3 hk3 hZ3 hown3 I3 E_a F_a_coder F_a_value V_b C_a C_b hn
        have JX : ∀ (x : Addr) (t : Addr) (kt : ClassId) (M : Int32) (wz : List Value) (ds : List Int32) (nn : Int32) (ar : Addr) (Ps : List (Array UInt16 × Addr)) (vm4 : Vm) (kj4 : Nat) (T4 : State) (h4 : Heap) (lc4 : List Loc) (X4 : Stand p l e room_1 (s.setVm vm4) m #[(.int p0), (.int p1), (.int p2), (.int p3), (.int p4), (.int p5)] below meth cd T4 lc4 6 60) (e4 : T4.heap = h4) (N4 : Fr n0 lc4) (O4 : Old Z n0 h4) (hS4 : s.Since vm4 kj4) (hk4 : kj4 ≤ h4.size) (hZ4 : Z.Warmed39 (s.setVm vm4).vm) (hown4 : (s.setVm vm4).vm.findClass "com/example/pemmican/pemmican/DataTypeNamedPinLaw" = some m.cls) (I4 : OwnI Z vm4 Ps) (E_a : Exa Z h4 a "java/lang/String") (F_a_coder : Fld Z h4 a "java/lang/String" "coder" "B" (.int (0 : Int32))) (F_a_value : Fld Z h4 a "java/lang/String" "value" "[B" (.ref b)) (V_b : Arv Z h4 b kb .byte N vs (.int (0 : Int32))) (C_a : Cel h4 a ca) (C_b : Cel h4 b cb) (E_x : Exa Z h4 x "java/lang/String") (F_x_coder : Fld Z h4 x "java/lang/String" "coder" "B" (.int (0 : Int32))) (F_x_value : Fld Z h4 x "java/lang/String" "value" "[B" (.ref t)) (V_t : Arv Z h4 t kt .byte M wz (.int (0 : Int32))) (hcX : StrChars.Road.CodA ds 0 M wz) (hbX : ∀ c ∈ ds, ¬ c < 0 ∧ ¬ (65535 : Int32) < c) (hlX : ds.length ≤ 4000) (hPs : ∀ q ∈ Ps, q = (un, a) ∨ utf16ToString? q.1 = some ""), GoV p e below s room_1.cells room_1.slots (Q0 Z p0 p1 p2 p3 p4 p5 c sa ya kv va kq zc fm h0 n0) (T4.setTop (mkF m 268 #[.val (.int p0), .val (.int p1), .val (.int p2), .val (.int p3), .val (.int p4), .val (.int p5), .val (.int (p1 &&& (3 : Int32))), .val (.ref a), .val (.int (Int32.ofNat cs.length)), .val (.int nn), .val (.int q), .val (.ref ar), .unset, .unset] [(.ref x)])) := by
          intro x t kt M wz ds nn ar Ps vm4 kj4 T4 h4 lc4 X4 e4 N4 O4 hS4 hk4 hZ4 hown4 I4 E_a F_a_coder F_a_value V_b C_a C_b E_x F_x_coder F_x_value V_t hcX hbX hlX hPs
          refine GoV.st (fun _ kq_ => XS.astore X4.here hx rfl (hb hby at_268) rfl rfl (l' := #[.val (.int p0), .val (.int p1), .val (.int p2), .val (.int p3), .val (.int p4), .val (.int p5), .val (.int (p1 &&& (3 : Int32))), .val (.ref a), .val (.int (Int32.ofNat cs.length)), .val (.int nn), .val (.int q), .val (.ref ar), .val (.ref x), .unset]) rfl kq_) ?_
          show GoV p e below s _ _ _ (T4.setTop (mkF m 270 #[.val (.int p0), .val (.int p1), .val (.int p2), .val (.int p3), .val (.int p4), .val (.int p5), .val (.int (p1 &&& (3 : Int32))), .val (.ref a), .val (.int (Int32.ofNat cs.length)), .val (.int nn), .val (.int q), .val (.ref ar), .val (.ref x), .unset] []))
          refine GoV.st (fun _ kq_ => XS.aload X4.here hx rfl (hb hby at_270) rfl rfl kq_) ?_
          show GoV p e below s _ _ _ (T4.setTop (mkF m 272 #[.val (.int p0), .val (.int p1), .val (.int p2), .val (.int p3), .val (.int p4), .val (.int p5), .val (.int (p1 &&& (3 : Int32))), .val (.ref a), .val (.int (Int32.ofNat cs.length)), .val (.int nn), .val (.int q), .val (.ref ar), .val (.ref x), .unset] [(.ref x)]))
          obtain ⟨_, _, ⟨T5, L5, k5, n5⟩, -, X5, ⟨Lc5, hQ5, l5, y5, z5⟩, st5⟩ := Jvm.LawKit.callS X4 hx (y := (⟨"com/example/pemmican/pemmican/DataType", "named", "(Ljava/lang/String;)Lcom/example/pemmican/pemmican/DataType;"⟩ : MethodName)) hown4 (mvT hZ4 (own_w hw 35 rfl)) (mvT hZ4 (own_w hw 36 rfl)) (mvT hZ4 (own_w hw 37 rfl)) (mvT hZ4 (own_w hw 38 rfl)) (by decide) (backOf (W := 0) (rmn l Z a0 hw [] x t kt M wz ds c sa ya kv va kq zc h4 n0 O4 E_x F_x_coder F_x_value V_t hcX hbX hlX EV VV D_0 J_0 E_s0 F_s0_coder F_s0_value V_s0 D_1 J_1 E_s1 F_s1_coder F_s1_value V_s1 D_2 J_2 E_s2 F_s2_coder F_s2_value V_s2 D_3 J_3 E_s3 F_s3_coder F_s3_value V_s3 D_4 J_4 E_s4 F_s4_coder F_s4_value V_s4 SV SC hcs) hZ4 (own_w hw 38 rfl) (own_w hw 37 rfl) (by decide) (by decide)) (g := (mkF m 272 #[.val (.int p0), .val (.int p1), .val (.int p2), .val (.int p3), .val (.int p4), .val (.int p5), .val (.int (p1 &&& (3 : Int32))), .val (.ref a), .val (.int (Int32.ofNat cs.length)), .val (.int nn), .val (.int q), .val (.ref ar), .val (.ref x), .unset] [(.ref x)])) rfl (by rw [hml]; rfl) (argsL := [(.ref x)]) (rest := []) (lenOf pd0_1 rfl) rfl (by show 2 * 0 + _ ≤ _; exact Nat.le_of_eq rfl) (hb hby at_272) (fun _ _ => ⟨rfl, e4, (by decide : 6 + 1 ≤ _), (by decide : 60 + 5 ≤ _)⟩)
          dsimp only [Pt.U, Pt.locs, Pt.cells, Pt.slots] at X5 l5 y5 z5 st5 hQ5
          subst y5 z5
          obtain ⟨rfl, Nc5, Kc5⟩ := hQ5
          have N5 : Fr n0 L5 := by rw [l5]; exact Fr.app N4 Nc5
          have E_a := E_a.keep Kc5
          have F_a_coder := F_a_coder.keep Kc5 nin0
          have F_a_value := F_a_value.keep Kc5 nin0
          have V_b := V_b.keep Kc5 nin0
          have C_a := C_a.keep Kc5 nin0
          have C_b := C_b.keep Kc5 nin0
          have E_x := E_x.keep Kc5
          have F_x_coder := F_x_coder.keep Kc5 nin0
          have F_x_value := F_x_value.keep Kc5 nin0
          have V_t := V_t.keep Kc5 nin0
          have hk5 := Nat.le_trans hk4 Kc5.1
          have O5 := O4.keep Kc5 all0
          refine GoV.st st5 ?_
          show GoV p e below s _ _ _ (T5.setTop (mkF m 275 #[.val (.int p0), .val (.int p1), .val (.int p2), .val (.int p3), .val (.int p4), .val (.int p5), .val (.int (p1 &&& (3 : Int32))), .val (.ref a), .val (.int (Int32.ofNat cs.length)), .val (.int nn), .val (.int q), .val (.ref ar), .val (.ref x), .unset] [(oRes c ds)]))
          refine GoV.st (fun _ kq_ => XS.astore X5.here hx rfl (hb hby at_275) rfl (oRes_ref c ds) (l' := #[.val (.int p0), .val (.int p1), .val (.int p2), .val (.int p3), .val (.int p4), .val (.int p5), .val (.int (p1 &&& (3 : Int32))), .val (.ref a), .val (.int (Int32.ofNat cs.length)), .val (.int nn), .val (.int q), .val (.ref ar), .val (.ref x), .val (oRes c ds)]) (XS.store1 rfl (Or.inl rfl) (XT.cat1 (oRes_ref c ds))) kq_) ?_
          show GoV p e below s _ _ _ (T5.setTop (mkF m 277 #[.val (.int p0), .val (.int p1), .val (.int p2), .val (.int p3), .val (.int p4), .val (.int p5), .val (.int (p1 &&& (3 : Int32))), .val (.ref a), .val (.int (Int32.ofNat cs.length)), .val (.int nn), .val (.int q), .val (.ref ar), .val (.ref x), .val (oRes c ds)] []))
          refine GoV.st (fun _ kq_ => XS.aload X5.here hx rfl (hb hby at_277) rfl (oRes_ref c ds) kq_) ?_
          show GoV p e below s _ _ _ (T5.setTop (mkF m 279 #[.val (.int p0), .val (.int p1), .val (.int p2), .val (.int p3), .val (.int p4), .val (.int p5), .val (.int (p1 &&& (3 : Int32))), .val (.ref a), .val (.int (Int32.ofNat cs.length)), .val (.int nn), .val (.int q), .val (.ref ar), .val (.ref x), .val (oRes c ds)] [(oRes c ds)]))
          refine GoV.st (fun _ kq_ => XS.aload X5.here hx rfl (hb hby at_279) rfl rfl kq_) ?_
          show GoV p e below s _ _ _ (T5.setTop (mkF m 281 #[.val (.int p0), .val (.int p1), .val (.int p2), .val (.int p3), .val (.int p4), .val (.int p5), .val (.int (p1 &&& (3 : Int32))), .val (.ref a), .val (.int (Int32.ofNat cs.length)), .val (.int nn), .val (.int q), .val (.ref ar), .val (.ref x), .val (oRes c ds)] [(.ref x), (oRes c ds)]))
          have hC6 : ∀ U : State, Z.Warmed39 U.vm → (s.setVm vm4).WarmedH U.vm → U.heap = T5.heap → ∀ c ∈ ([("com/example/pemmican/pemmican/DataTypeNamedPinLaw", 38), ("com/example/pemmican/pemmican/DataTypeNamedPinLaw", 40), ("com/example/pemmican/pemmican/DataTypeNamedPinLaw", 42), ("com/example/pemmican/pemmican/DataTypeNamedPinLaw", 44), ("com/example/pemmican/pemmican/DataTypeNamedPinLaw", 46)] : List (String × Nat)), ConstHeldL U c.1 c.2 := by
            intro U hU1 hU2 hU3 c hc
            have hIU := own_iH (s := (s.setVm vm4)) I4 hU2
            have hkU : ∀ (b : Addr) (cl : Cell), Z.heap[b]? = some cl → U.heap[b]? = some cl := fun b cl q => by rw [hU3]; exact O5.2.2 b cl q
            simp only [List.mem_cons, List.not_mem_nil, or_false] at hc
            rcases hc with rfl | rfl | rfl | rfl | rfl
            · exact own_held hU1 (own_w hw 75 rfl) hIU hkU hHZ_0 (fun q hq ht => (hPs q hq).elim (fun e => by subst e; exact Sk U hU1.alike (by rw [hU3]; exact C_a) (by rw [hU3]; exact C_b)) (fun z => absurd (Option.some.inj (z.symm.trans ht)) (by decide)))
            · exact own_held hU1 (own_w hw 77 rfl) hIU hkU hHZ_1 (fun q hq ht => (hPs q hq).elim (fun e => by subst e; exact Sk U hU1.alike (by rw [hU3]; exact C_a) (by rw [hU3]; exact C_b)) (fun z => absurd (Option.some.inj (z.symm.trans ht)) (by decide)))
            · exact own_held hU1 (own_w hw 78 rfl) hIU hkU hHZ_2 (fun q hq ht => (hPs q hq).elim (fun e => by subst e; exact Sk U hU1.alike (by rw [hU3]; exact C_a) (by rw [hU3]; exact C_b)) (fun z => absurd (Option.some.inj (z.symm.trans ht)) (by decide)))
            · exact own_held hU1 (own_w hw 79 rfl) hIU hkU hHZ_3 (fun q hq ht => (hPs q hq).elim (fun e => by subst e; exact Sk U hU1.alike (by rw [hU3]; exact C_a) (by rw [hU3]; exact C_b)) (fun z => absurd (Option.some.inj (z.symm.trans ht)) (by decide)))
            · exact own_held hU1 (own_w hw 80 rfl) hIU hkU hHZ_4 (fun q hq ht => (hPs q hq).elim (fun e => by subst e; exact Sk U hU1.alike (by rw [hU3]; exact C_a) (by rw [hU3]; exact C_b)) (fun z => absurd (Option.some.inj (z.symm.trans ht)) (by decide)))
          obtain ⟨_, _, ⟨T7, L7, k7, n7⟩, -, X7, hSn7, gr7, ⟨Lc7, hQ7, l7, y7, z7⟩, st7⟩ := callSS X5 hx (y := (⟨"com/example/pemmican/pemmican/DataTypeNamedPinLaw", "expected", "(Ljava/lang/String;)Lcom/example/pemmican/pemmican/DataType;"⟩ : MethodName)) hown4 (mvT hZ4 (own_w hw 71 rfl)) (mvT hZ4 (own_w hw 72 rfl)) (mvT hZ4 (own_w hw 73 rfl)) (mvT hZ4 (own_w hw 74 rfl)) (by decide) (own_backHC (W := 1) (rmx l Z a0 hw [] x t kt M wz ds c zc Ps T5.heap n0 O5 E_x F_x_coder F_x_value V_t hcX hbX hlX SD0 SD1 SD2 SD3 SD4 SC hcs) hZ4 I4 hC6 (own_w hw 74 rfl) (own_w hw 73 rfl) (by decide) (by decide)) (g := (mkF m 281 #[.val (.int p0), .val (.int p1), .val (.int p2), .val (.int p3), .val (.int p4), .val (.int p5), .val (.int (p1 &&& (3 : Int32))), .val (.ref a), .val (.int (Int32.ofNat cs.length)), .val (.int nn), .val (.int q), .val (.ref ar), .val (.ref x), .val (oRes c ds)] [(.ref x), (oRes c ds)])) rfl (by rw [hml]; rfl) (argsL := [(.ref x)]) (rest := [(oRes c ds)]) (lenOf pd0_1 rfl) rfl (by show 2 * 0 + _ ≤ _; simp only [List.map_cons, List.map_nil, List.sum_cons, List.sum_nil, XT.cat1 (oRes_ref c ds)] <;> exact Nat.le_of_eq rfl) (hb hby at_281) (fun _ _ => ⟨rfl, rfl, (by decide : 7 + 10 ≤ _), (by decide : 65 + 144 ≤ _)⟩)
          dsimp only [Pt.U, Pt.locs, Pt.cells, Pt.slots] at X7 l7 y7 z7 st7 hQ7
          subst y7 z7
          dsimp only [Pt.U, Pt.locs, Pt.cells, Pt.slots] at hSn7 gr7
          obtain ⟨X7, hS7, hZ7, hown7⟩ := rebS (vm0 := vm4) hS4 hk5 X7 hSn7 gr7 hZ4 hown4
          have hk7 : T7.heap.size ≤ T7.heap.size := Nat.le_refl _
          obtain ⟨rfl, Nc7, Kc7⟩ := hQ7
          have N7 : Fr n0 L7 := by rw [l7]; exact Fr.app N5 Nc7
          have E_a := E_a.keep Kc7
          have F_a_coder := F_a_coder.keep Kc7 nin0
          have F_a_value := F_a_value.keep Kc7 nin0
          have V_b := V_b.keep Kc7 nin0
          have C_a := C_a.keep Kc7 nin0
          have C_b := C_b.keep Kc7 nin0
          have E_x := E_x.keep Kc7
          have F_x_coder := F_x_coder.keep Kc7 nin0
          have F_x_value := F_x_value.keep Kc7 nin0
          have V_t := V_t.keep Kc7 nin0
          have O7 := O5.keep Kc7 all0
          refine GoV.tr st7 ?_
          show GoV p e below s _ _ _ (T7.setTop (mkF m 284 #[.val (.int p0), .val (.int p1), .val (.int p2), .val (.int p3), .val (.int p4), .val (.int p5), .val (.int (p1 &&& (3 : Int32))), .val (.ref a), .val (.int (Int32.ofNat cs.length)), .val (.int nn), .val (.int q), .val (.ref ar), .val (.ref x), .val (oRes c ds)] [(oRes c ds), (oRes c ds)]))
          refine GoV.st (fun _ kq_ => XT.acmpNo X7.here hx rfl (hb hby at_284) rfl (oRes_ref c ds) (oRes_ref c ds) (XT.aa_ne_f rfl) kq_) ?_
          show GoV p e below s _ _ _ (T7.setTop (mkF m 287 #[.val (.int p0), .val (.int p1), .val (.int p2), .val (.int p3), .val (.int p4), .val (.int p5), .val (.int (p1 &&& (3 : Int32))), .val (.ref a), .val (.int (Int32.ofNat cs.length)), .val (.int nn), .val (.int q), .val (.ref ar), .val (.ref x), .val (oRes c ds)] []))
          refine GoV.st (fun _ kq_ => XS.iconst X7.here hx rfl (hb hby at_287) kq_) ?_
          show GoV p e below s _ _ _ (T7.setTop (mkF m 288 #[.val (.int p0), .val (.int p1), .val (.int p2), .val (.int p3), .val (.int p4), .val (.int p5), .val (.int (p1 &&& (3 : Int32))), .val (.ref a), .val (.int (Int32.ofNat cs.length)), .val (.int nn), .val (.int q), .val (.ref ar), .val (.ref x), .val (oRes c ds)] [(.int (1 : Int32))]))
          refine GoV.st (fun _ kq_ => XS.goto X7.here hx rfl (pc0 := 288) (pc' := 292) rfl (hb hby at_288) (by decide) (by decide) kq_) ?_
          show GoV p e below s _ _ _ (T7.setTop (mkF m 292 #[.val (.int p0), .val (.int p1), .val (.int p2), .val (.int p3), .val (.int p4), .val (.int p5), .val (.int (p1 &&& (3 : Int32))), .val (.ref a), .val (.int (Int32.ofNat cs.length)), .val (.int nn), .val (.int q), .val (.ref ar), .val (.ref x), .val (oRes c ds)] [(.int (1 : Int32))]))
          exact GoV.ret (vm1 := T7.vm) X7 hlk hS7 (by exact hk7) (some (.int (nar .boolean (1 : Int32)))) (fun h => by rw [Bd.returns] at h; cases h) (by exact ⟨rfl, N7⟩) (by decide) (by decide) (fun fs hr => retN X7 hx (t := .boolean) Bd.returns (by simp) (hb hby at_292) hr)
        rcases own_9 hn with rfl | rfl | rfl | rfl | rfl | rfl | rfl | rfl | rfl
        · show GoV p e below s _ _ _ (T3.setTop (mkF m 80 #[.val (.int p0), .val (.int p1), .val (.int p2), .val (.int p3), .val (.int p4), .val (.int p5), .val (.int (p1 &&& (3 : Int32))), .val (.ref a), .val (.int (Int32.ofNat cs.length)), .val (.int (0 : Int32)), .val (.int q), .unset, .unset, .unset] []))
          refine GoV.st (fun _ kq_ => XS.iload X3.here hx rfl (hb hby at_80) rfl kq_) ?_
          show GoV p e below s _ _ _ (T3.setTop (mkF m 82 #[.val (.int p0), .val (.int p1), .val (.int p2), .val (.int p3), .val (.int p4), .val (.int p5), .val (.int (p1 &&& (3 : Int32))), .val (.ref a), .val (.int (Int32.ofNat cs.length)), .val (.int (0 : Int32)), .val (.int q), .unset, .unset, .unset] [(.int (0 : Int32))]))
          obtain ⟨T8, h8, k8, X8, e8, E8, A8, st8⟩ := newP X3 hx hZ3 (own_w hw 22 rfl) e3 (g := (mkF m 82 #[.val (.int p0), .val (.int p1), .val (.int p2), .val (.int p3), .val (.int p4), .val (.int p5), .val (.int (p1 &&& (3 : Int32))), .val (.ref a), .val (.int (Int32.ofNat cs.length)), .val (.int (0 : Int32)), .val (.int q), .unset, .unset, .unset] [(.int (0 : Int32))])) rfl (hb hby at_82) rfl (by decide) (cap := 0) (by decide) (by decide) (by decide) (by decide)
          obtain ⟨b8, g8⟩ : ∃ z, z = h3.size := ⟨_, rfl⟩
          rw [← g8] at A8 st8
          have g_b8 : n0 ≤ b8 := Nat.le_trans (own_old O3) (Nat.le_of_eq g8.symm)
          have ne_a_b8 : a ≠ b8 := by rw [g8]; exact Nat.ne_of_lt E_a.lt
          have ne_b_b8 : b ≠ b8 := by rw [g8]; exact Nat.ne_of_lt V_b.lt
          have E_a := E_a.ext E8
          have F_a_coder := F_a_coder.ext E8
          have F_a_value := F_a_value.ext E8
          have V_b := V_b.ext E8
          have C_a := C_a.ext E8
          have C_b := C_b.ext E8
          have hk8 := Nat.le_trans hk3 E8.1
          have O8 := O3.ext E8
          have V_b8 : Arv Z h8 b8 k8 .char (0 : Int32) [] (.int (0 : Int32)) := (Arv.new A8 (by decide)).pad (pad_rep [] (.int (0 : Int32)) 0)
          refine GoV.st st8 ?_
          show GoV p e below s _ _ _ (T8.setTop (mkF m 84 #[.val (.int p0), .val (.int p1), .val (.int p2), .val (.int p3), .val (.int p4), .val (.int p5), .val (.int (p1 &&& (3 : Int32))), .val (.ref a), .val (.int (Int32.ofNat cs.length)), .val (.int (0 : Int32)), .val (.int q), .unset, .unset, .unset] [(.ref b8)]))
          refine GoV.st (fun _ kq_ => XS.astore X8.here hx rfl (hb hby at_84) rfl rfl (l' := #[.val (.int p0), .val (.int p1), .val (.int p2), .val (.int p3), .val (.int p4), .val (.int p5), .val (.int (p1 &&& (3 : Int32))), .val (.ref a), .val (.int (Int32.ofNat cs.length)), .val (.int (0 : Int32)), .val (.int q), .val (.ref b8), .unset, .unset]) rfl kq_) ?_
          show GoV p e below s _ _ _ (T8.setTop (mkF m 86 #[.val (.int p0), .val (.int p1), .val (.int p2), .val (.int p3), .val (.int p4), .val (.int p5), .val (.int (p1 &&& (3 : Int32))), .val (.ref a), .val (.int (Int32.ofNat cs.length)), .val (.int (0 : Int32)), .val (.int q), .val (.ref b8), .unset, .unset] []))
          refine GoV.st (fun _ kq_ => XS.iload X8.here hx rfl (hb hby at_86) rfl kq_) ?_
          show GoV p e below s _ _ _ (T8.setTop (mkF m 88 #[.val (.int p0), .val (.int p1), .val (.int p2), .val (.int p3), .val (.int p4), .val (.int p5), .val (.int (p1 &&& (3 : Int32))), .val (.ref a), .val (.int (Int32.ofNat cs.length)), .val (.int (0 : Int32)), .val (.int q), .val (.ref b8), .unset, .unset] [(.int (0 : Int32))]))
          refine GoV.st (fun _ kq_ => XS.ifYes X8.here hx rfl (pc0 := 88) (pc' := 106) rfl (hb hby at_88) rfl (by decide) (by decide) (by decide) kq_) ?_
          show GoV p e below s _ _ _ (T8.setTop (mkF m 106 #[.val (.int p0), .val (.int p1), .val (.int p2), .val (.int p3), .val (.int p4), .val (.int p5), .val (.int (p1 &&& (3 : Int32))), .val (.ref a), .val (.int (Int32.ofNat cs.length)), .val (.int (0 : Int32)), .val (.int q), .val (.ref b8), .unset, .unset] []))
          refine GoV.st (fun _ kq_ => XS.iload X8.here hx rfl (hb hby at_106) rfl kq_) ?_
          show GoV p e below s _ _ _ (T8.setTop (mkF m 108 #[.val (.int p0), .val (.int p1), .val (.int p2), .val (.int p3), .val (.int p4), .val (.int p5), .val (.int (p1 &&& (3 : Int32))), .val (.ref a), .val (.int (Int32.ofNat cs.length)), .val (.int (0 : Int32)), .val (.int q), .val (.ref b8), .unset, .unset] [(.int (0 : Int32))]))
          refine GoV.st (fun _ kq_ => XS.iconst X8.here hx rfl (hb hby at_108) kq_) ?_
          show GoV p e below s _ _ _ (T8.setTop (mkF m 109 #[.val (.int p0), .val (.int p1), .val (.int p2), .val (.int p3), .val (.int p4), .val (.int p5), .val (.int (p1 &&& (3 : Int32))), .val (.ref a), .val (.int (Int32.ofNat cs.length)), .val (.int (0 : Int32)), .val (.int q), .val (.ref b8), .unset, .unset] [(.int (1 : Int32)), (.int (0 : Int32))]))
          refine GoV.st (fun _ kq_ => XS.icmpYes X8.here hx rfl (pc0 := 109) (pc' := 127) rfl (hb hby at_109) rfl (by decide) (by decide) (by decide) kq_) ?_
          show GoV p e below s _ _ _ (T8.setTop (mkF m 127 #[.val (.int p0), .val (.int p1), .val (.int p2), .val (.int p3), .val (.int p4), .val (.int p5), .val (.int (p1 &&& (3 : Int32))), .val (.ref a), .val (.int (Int32.ofNat cs.length)), .val (.int (0 : Int32)), .val (.int q), .val (.ref b8), .unset, .unset] []))
          refine GoV.st (fun _ kq_ => XS.iload X8.here hx rfl (hb hby at_127) rfl kq_) ?_
          show GoV p e below s _ _ _ (T8.setTop (mkF m 129 #[.val (.int p0), .val (.int p1), .val (.int p2), .val (.int p3), .val (.int p4), .val (.int p5), .val (.int (p1 &&& (3 : Int32))), .val (.ref a), .val (.int (Int32.ofNat cs.length)), .val (.int (0 : Int32)), .val (.int q), .val (.ref b8), .unset, .unset] [(.int (0 : Int32))]))
          refine GoV.st (fun _ kq_ => XS.iconst X8.here hx rfl (hb hby at_129) kq_) ?_
          show GoV p e below s _ _ _ (T8.setTop (mkF m 130 #[.val (.int p0), .val (.int p1), .val (.int p2), .val (.int p3), .val (.int p4), .val (.int p5), .val (.int (p1 &&& (3 : Int32))), .val (.ref a), .val (.int (Int32.ofNat cs.length)), .val (.int (0 : Int32)), .val (.int q), .val (.ref b8), .unset, .unset] [(.int (2 : Int32)), (.int (0 : Int32))]))
          refine GoV.st (fun _ kq_ => XS.icmpYes X8.here hx rfl (pc0 := 130) (pc' := 148) rfl (hb hby at_130) rfl (by decide) (by decide) (by decide) kq_) ?_
          show GoV p e below s _ _ _ (T8.setTop (mkF m 148 #[.val (.int p0), .val (.int p1), .val (.int p2), .val (.int p3), .val (.int p4), .val (.int p5), .val (.int (p1 &&& (3 : Int32))), .val (.ref a), .val (.int (Int32.ofNat cs.length)), .val (.int (0 : Int32)), .val (.int q), .val (.ref b8), .unset, .unset] []))
          refine GoV.st (fun _ kq_ => XS.iload X8.here hx rfl (hb hby at_148) rfl kq_) ?_
          show GoV p e below s _ _ _ (T8.setTop (mkF m 150 #[.val (.int p0), .val (.int p1), .val (.int p2), .val (.int p3), .val (.int p4), .val (.int p5), .val (.int (p1 &&& (3 : Int32))), .val (.ref a), .val (.int (Int32.ofNat cs.length)), .val (.int (0 : Int32)), .val (.int q), .val (.ref b8), .unset, .unset] [(.int (0 : Int32))]))
          refine GoV.st (fun _ kq_ => XS.iconst X8.here hx rfl (hb hby at_150) kq_) ?_
          show GoV p e below s _ _ _ (T8.setTop (mkF m 151 #[.val (.int p0), .val (.int p1), .val (.int p2), .val (.int p3), .val (.int p4), .val (.int p5), .val (.int (p1 &&& (3 : Int32))), .val (.ref a), .val (.int (Int32.ofNat cs.length)), .val (.int (0 : Int32)), .val (.int q), .val (.ref b8), .unset, .unset] [(.int (3 : Int32)), (.int (0 : Int32))]))
          refine GoV.st (fun _ kq_ => XS.icmpYes X8.here hx rfl (pc0 := 151) (pc' := 169) rfl (hb hby at_151) rfl (by decide) (by decide) (by decide) kq_) ?_
          show GoV p e below s _ _ _ (T8.setTop (mkF m 169 #[.val (.int p0), .val (.int p1), .val (.int p2), .val (.int p3), .val (.int p4), .val (.int p5), .val (.int (p1 &&& (3 : Int32))), .val (.ref a), .val (.int (Int32.ofNat cs.length)), .val (.int (0 : Int32)), .val (.int q), .val (.ref b8), .unset, .unset] []))
          refine GoV.st (fun _ kq_ => XS.iload X8.here hx rfl (hb hby at_169) rfl kq_) ?_
          show GoV p e below s _ _ _ (T8.setTop (mkF m 171 #[.val (.int p0), .val (.int p1), .val (.int p2), .val (.int p3), .val (.int p4), .val (.int p5), .val (.int (p1 &&& (3 : Int32))), .val (.ref a), .val (.int (Int32.ofNat cs.length)), .val (.int (0 : Int32)), .val (.int q), .val (.ref b8), .unset, .unset] [(.int (0 : Int32))]))
          refine GoV.st (fun _ kq_ => XS.iconst X8.here hx rfl (hb hby at_171) kq_) ?_
          show GoV p e below s _ _ _ (T8.setTop (mkF m 172 #[.val (.int p0), .val (.int p1), .val (.int p2), .val (.int p3), .val (.int p4), .val (.int p5), .val (.int (p1 &&& (3 : Int32))), .val (.ref a), .val (.int (Int32.ofNat cs.length)), .val (.int (0 : Int32)), .val (.int q), .val (.ref b8), .unset, .unset] [(.int (4 : Int32)), (.int (0 : Int32))]))
          refine GoV.st (fun _ kq_ => XS.icmpYes X8.here hx rfl (pc0 := 172) (pc' := 190) rfl (hb hby at_172) rfl (by decide) (by decide) (by decide) kq_) ?_
          show GoV p e below s _ _ _ (T8.setTop (mkF m 190 #[.val (.int p0), .val (.int p1), .val (.int p2), .val (.int p3), .val (.int p4), .val (.int p5), .val (.int (p1 &&& (3 : Int32))), .val (.ref a), .val (.int (Int32.ofNat cs.length)), .val (.int (0 : Int32)), .val (.int q), .val (.ref b8), .unset, .unset] []))
          refine GoV.st (fun _ kq_ => XS.iload X8.here hx rfl (hb hby at_190) rfl kq_) ?_
          show GoV p e below s _ _ _ (T8.setTop (mkF m 192 #[.val (.int p0), .val (.int p1), .val (.int p2), .val (.int p3), .val (.int p4), .val (.int p5), .val (.int (p1 &&& (3 : Int32))), .val (.ref a), .val (.int (Int32.ofNat cs.length)), .val (.int (0 : Int32)), .val (.int q), .val (.ref b8), .unset, .unset] [(.int (0 : Int32))]))
          refine GoV.st (fun _ kq_ => XS.iconst X8.here hx rfl (hb hby at_192) kq_) ?_
          show GoV p e below s _ _ _ (T8.setTop (mkF m 193 #[.val (.int p0), .val (.int p1), .val (.int p2), .val (.int p3), .val (.int p4), .val (.int p5), .val (.int (p1 &&& (3 : Int32))), .val (.ref a), .val (.int (Int32.ofNat cs.length)), .val (.int (0 : Int32)), .val (.int q), .val (.ref b8), .unset, .unset] [(.int (5 : Int32)), (.int (0 : Int32))]))
          refine GoV.st (fun _ kq_ => XS.icmpYes X8.here hx rfl (pc0 := 193) (pc' := 211) rfl (hb hby at_193) rfl (by decide) (by decide) (by decide) kq_) ?_
          show GoV p e below s _ _ _ (T8.setTop (mkF m 211 #[.val (.int p0), .val (.int p1), .val (.int p2), .val (.int p3), .val (.int p4), .val (.int p5), .val (.int (p1 &&& (3 : Int32))), .val (.ref a), .val (.int (Int32.ofNat cs.length)), .val (.int (0 : Int32)), .val (.int q), .val (.ref b8), .unset, .unset] []))
          refine GoV.st (fun _ kq_ => XS.iload X8.here hx rfl (hb hby at_211) rfl kq_) ?_
          show GoV p e below s _ _ _ (T8.setTop (mkF m 213 #[.val (.int p0), .val (.int p1), .val (.int p2), .val (.int p3), .val (.int p4), .val (.int p5), .val (.int (p1 &&& (3 : Int32))), .val (.ref a), .val (.int (Int32.ofNat cs.length)), .val (.int (0 : Int32)), .val (.int q), .val (.ref b8), .unset, .unset] [(.int (0 : Int32))]))
          refine GoV.st (fun _ kq_ => XS.bipush X8.here hx rfl (hb hby at_213) kq_) ?_
          show GoV p e below s _ _ _ (T8.setTop (mkF m 215 #[.val (.int p0), .val (.int p1), .val (.int p2), .val (.int p3), .val (.int p4), .val (.int p5), .val (.int (p1 &&& (3 : Int32))), .val (.ref a), .val (.int (Int32.ofNat cs.length)), .val (.int (0 : Int32)), .val (.int q), .val (.ref b8), .unset, .unset] [(.int (6 : Int32)), (.int (0 : Int32))]))
          refine GoV.st (fun _ kq_ => XS.icmpYes X8.here hx rfl (pc0 := 215) (pc' := 235) rfl (hb hby at_215) rfl (by decide) (by decide) (by decide) kq_) ?_
          show GoV p e below s _ _ _ (T8.setTop (mkF m 235 #[.val (.int p0), .val (.int p1), .val (.int p2), .val (.int p3), .val (.int p4), .val (.int p5), .val (.int (p1 &&& (3 : Int32))), .val (.ref a), .val (.int (Int32.ofNat cs.length)), .val (.int (0 : Int32)), .val (.int q), .val (.ref b8), .unset, .unset] []))
          refine GoV.st (fun _ kq_ => XS.iload X8.here hx rfl (hb hby at_235) rfl kq_) ?_
          show GoV p e below s _ _ _ (T8.setTop (mkF m 237 #[.val (.int p0), .val (.int p1), .val (.int p2), .val (.int p3), .val (.int p4), .val (.int p5), .val (.int (p1 &&& (3 : Int32))), .val (.ref a), .val (.int (Int32.ofNat cs.length)), .val (.int (0 : Int32)), .val (.int q), .val (.ref b8), .unset, .unset] [(.int (0 : Int32))]))
          refine GoV.st (fun _ kq_ => XS.bipush X8.here hx rfl (hb hby at_237) kq_) ?_
          show GoV p e below s _ _ _ (T8.setTop (mkF m 239 #[.val (.int p0), .val (.int p1), .val (.int p2), .val (.int p3), .val (.int p4), .val (.int p5), .val (.int (p1 &&& (3 : Int32))), .val (.ref a), .val (.int (Int32.ofNat cs.length)), .val (.int (0 : Int32)), .val (.int q), .val (.ref b8), .unset, .unset] [(.int (7 : Int32)), (.int (0 : Int32))]))
          refine GoV.st (fun _ kq_ => XS.icmpYes X8.here hx rfl (pc0 := 239) (pc' := 259) rfl (hb hby at_239) rfl (by decide) (by decide) (by decide) kq_) ?_
          show GoV p e below s _ _ _ (T8.setTop (mkF m 259 #[.val (.int p0), .val (.int p1), .val (.int p2), .val (.int p3), .val (.int p4), .val (.int p5), .val (.int (p1 &&& (3 : Int32))), .val (.ref a), .val (.int (Int32.ofNat cs.length)), .val (.int (0 : Int32)), .val (.int q), .val (.ref b8), .unset, .unset] []))
          obtain ⟨T9, h9, X9, e9, E9, A9, D9, -, st9⟩ := newO X8 hx hZ3 hown3 (own_w hw 23 rfl) (own_w hw 2 rfl) (own_w hw 1 rfl) e8 (g := (mkF m 259 #[.val (.int p0), .val (.int p1), .val (.int p2), .val (.int p3), .val (.int p4), .val (.int p5), .val (.int (p1 &&& (3 : Int32))), .val (.ref a), .val (.int (Int32.ofNat cs.length)), .val (.int (0 : Int32)), .val (.int q), .val (.ref b8), .unset, .unset] [])) rfl (hb hby at_259) (by decide) (by decide)
          obtain ⟨a9, g9⟩ : ∃ z, z = h8.size := ⟨_, rfl⟩
          rw [← g9] at A9 D9 st9
          have g_a9 : n0 ≤ a9 := Nat.le_trans (own_old O8) (Nat.le_of_eq g9.symm)
          have ne_a_a9 : a ≠ a9 := by rw [g9]; exact Nat.ne_of_lt E_a.lt
          have ne_b_a9 : b ≠ a9 := by rw [g9]; exact Nat.ne_of_lt V_b.lt
          have ne_b8_a9 : b8 ≠ a9 := by rw [g9]; exact Nat.ne_of_lt V_b8.lt
          have E_a := E_a.ext E9
          have F_a_coder := F_a_coder.ext E9
          have F_a_value := F_a_value.ext E9
          have V_b := V_b.ext E9
          have C_a := C_a.ext E9
          have C_b := C_b.ext E9
          have V_b8 := V_b8.ext E9
          have hk9 := Nat.le_trans hk8 E9.1
          have O9 := O8.ext E9
          have E_a9 : Exa Z h9 a9 "java/lang/String" := A9
          have F_a9_value : Fld Z h9 a9 "java/lang/String" "value" "[B" .null := D9 (Or.inr (own_w hw 4 rfl)) (ty := (.array .byte)) (by decide)
          have F_a9_coder : Fld Z h9 a9 "java/lang/String" "coder" "B" (.int (0 : Int32)) := D9 (Or.inr (own_w hw 5 rfl)) (ty := .byte) (by decide)
          refine GoV.st st9 ?_
          show GoV p e below s _ _ _ (T9.setTop (mkF m 262 #[.val (.int p0), .val (.int p1), .val (.int p2), .val (.int p3), .val (.int p4), .val (.int p5), .val (.int (p1 &&& (3 : Int32))), .val (.ref a), .val (.int (Int32.ofNat cs.length)), .val (.int (0 : Int32)), .val (.int q), .val (.ref b8), .unset, .unset] [(.ref a9)]))
          refine GoV.st (fun _ kq_ => XS.dup X9.here hx rfl (hb hby at_262) rfl rfl kq_) ?_
          show GoV p e below s _ _ _ (T9.setTop (mkF m 263 #[.val (.int p0), .val (.int p1), .val (.int p2), .val (.int p3), .val (.int p4), .val (.int p5), .val (.int (p1 &&& (3 : Int32))), .val (.ref a), .val (.int (Int32.ofNat cs.length)), .val (.int (0 : Int32)), .val (.int q), .val (.ref b8), .unset, .unset] [(.ref a9), (.ref a9)]))
          refine GoV.st (fun _ kq_ => XS.aload X9.here hx rfl (hb hby at_263) rfl rfl kq_) ?_
          show GoV p e below s _ _ _ (T9.setTop (mkF m 265 #[.val (.int p0), .val (.int p1), .val (.int p2), .val (.int p3), .val (.int p4), .val (.int p5), .val (.int (p1 &&& (3 : Int32))), .val (.ref a), .val (.int (Int32.ofNat cs.length)), .val (.int (0 : Int32)), .val (.int q), .val (.ref b8), .unset, .unset] [(.ref b8), (.ref a9), (.ref a9)]))
          have hC10 : ∀ U : State, Z.Warmed39 U.vm → (s.setVm vm3).WarmedH U.vm → U.heap = h9 → ∀ c ∈ ([("java/lang/String", 7)] : List (String × Nat)), ConstHeldL U c.1 c.2 := by
            intro U hU1 hU2 hU3 c hc
            have hIU := own_iH (s := (s.setVm vm3)) I3 hU2
            have hkU : ∀ (b : Addr) (cl : Cell), Z.heap[b]? = some cl → U.heap[b]? = some cl := fun b cl q => by rw [hU3]; exact O9.2.2 b cl q
            simp only [List.mem_cons, List.not_mem_nil, or_false] at hc
            rcases hc with rfl
            · exact own_held hU1 (own_w hw 34 rfl) hIU hkU hHZ_6 (fun q hq _ => by simp only [List.mem_singleton] at hq; subst hq; exact Sk U hU1.alike (by rw [hU3]; exact C_a) (by rw [hU3]; exact C_b))
          obtain ⟨_, _, ⟨T11, L11, k11, n11⟩, -, X11, hSn11, gr11, ⟨Lc11, hQ11, l11, y11, z11⟩, st11⟩ := X9.specialBackS hx (y := (⟨"java/lang/String", "<init>", "([C)V"⟩ : MethodName)) rfl hown3 (mvT hZ3 (own_w hw 24 rfl)) (mvT hZ3 (own_w hw 25 rfl)) (mvT hZ3 (own_w hw 26 rfl)) (by decide) (own_backHC (W := 1) (rme l Z a0 hw [] a9 b8 k8 [(un, a)] h9 n0 O9 E_a9 F_a9_coder F_a9_value V_b8 g_a9 ne_b8_a9) hZ3 I3 hC10 (own_w hw 26 rfl) (own_w hw 1 rfl) (by decide) (by decide)) (g := (mkF m 265 #[.val (.int p0), .val (.int p1), .val (.int p2), .val (.int p3), .val (.int p4), .val (.int p5), .val (.int (p1 &&& (3 : Int32))), .val (.ref a), .val (.int (Int32.ofNat cs.length)), .val (.int (0 : Int32)), .val (.int q), .val (.ref b8), .unset, .unset] [(.ref b8), (.ref a9), (.ref a9)])) rfl (by rw [hml]; rfl) (Steps.refl _) (a := a9) (argsL := [(.ref b8)]) (rest := [(.ref a9)]) (lenOf pd0_2 rfl) rfl (by show 2 * 0 + _ ≤ _; exact Nat.le_of_eq rfl) (hb hby at_265) (fun _ _ => ⟨rfl, e9, (by decide : 4 + 2 ≤ _), (by decide : 36 + 4 ≤ _)⟩)
          dsimp only [Pt.U, Pt.locs, Pt.cells, Pt.slots] at X11 l11 y11 z11 st11 hQ11
          subst y11 z11
          dsimp only [Pt.U, Pt.locs, Pt.cells, Pt.slots] at hSn11 gr11
          obtain ⟨X11, hS11, hZ11, hown11⟩ := rebS (vm0 := vm3) hS3 (by rw [e9]; exact hk9) X11 hSn11 gr11 hZ3 hown3
          have hk11 : T11.heap.size ≤ T11.heap.size := Nat.le_refl _
          obtain ⟨rfl, Nc11, Kc11, ub11, kb11, un11, u11, NE, NC, NV, NB, tx11, I11⟩ := hQ11
          have N11 : Fr n0 L11 := by rw [l11]; exact Fr.app N3 Nc11
          have E_a := E_a.keep Kc11
          have F_a_coder := F_a_coder.keep Kc11 (ninS ne_a_a9 nin0)
          have F_a_value := F_a_value.keep Kc11 (ninS ne_a_a9 nin0)
          have V_b := V_b.keep Kc11 (ninS ne_b_a9 nin0)
          have C_a := C_a.keep Kc11 (ninS ne_a_a9 nin0)
          have C_b := C_b.keep Kc11 (ninS ne_b_a9 nin0)
          have V_b8 := V_b8.keep Kc11 (ninS ne_b8_a9 nin0)
          have O11 := O9.keep Kc11 (allS g_a9 all0)
          have E_a9 : Exa Z T11.heap a9 "java/lang/String" := NE
          have F_a9_coder : Fld Z T11.heap a9 "java/lang/String" "coder" "B" (.int (0 : Int32)) := NC
          have F_a9_value : Fld Z T11.heap a9 "java/lang/String" "value" "[B" (.ref ub11) := NV
          have V_ub11 : Arv Z T11.heap ub11 kb11 .byte (0 : Int32) [] (.int (0 : Int32)) := NB
          refine GoV.tr st11 ?_
          show GoV p e below s _ _ _ (T11.setTop (mkF m 268 #[.val (.int p0), .val (.int p1), .val (.int p2), .val (.int p3), .val (.int p4), .val (.int p5), .val (.int (p1 &&& (3 : Int32))), .val (.ref a), .val (.int (Int32.ofNat cs.length)), .val (.int (0 : Int32)), .val (.int q), .val (.ref b8), .unset, .unset] [(.ref a9)]))
          exact JX a9 ub11 _ _ _ [] (0 : Int32) b8 _ (T11.vm) _ _ _ _ (X11.mono (by decide) (by decide)) rfl N11 O11 hS11 hk11 hZ11 hown11 I11 E_a F_a_coder F_a_value V_b C_a C_b E_a9 F_a9_coder F_a9_value V_ub11 own_cod5 own_b5 (by decide) (fun q hq => by rcases List.mem_cons.mp hq with rfl | hq; exact Or.inr tx11; exact Or.inl (List.mem_singleton.mp hq))
        · show GoV p e below s _ _ _ (T3.setTop (mkF m 80 #[.val (.int p0), .val (.int p1), .val (.int p2), .val (.int p3), .val (.int p4), .val (.int p5), .val (.int (p1 &&& (3 : Int32))), .val (.ref a), .val (.int (Int32.ofNat cs.length)), .val (.int (1 : Int32)), .val (.int q), .unset, .unset, .unset] []))
          refine GoV.st (fun _ kq_ => XS.iload X3.here hx rfl (hb hby at_80) rfl kq_) ?_
          show GoV p e below s _ _ _ (T3.setTop (mkF m 82 #[.val (.int p0), .val (.int p1), .val (.int p2), .val (.int p3), .val (.int p4), .val (.int p5), .val (.int (p1 &&& (3 : Int32))), .val (.ref a), .val (.int (Int32.ofNat cs.length)), .val (.int (1 : Int32)), .val (.int q), .unset, .unset, .unset] [(.int (1 : Int32))]))
          obtain ⟨T12, h12, k12, X12, e12, E12, A12, st12⟩ := newP X3 hx hZ3 (own_w hw 22 rfl) e3 (g := (mkF m 82 #[.val (.int p0), .val (.int p1), .val (.int p2), .val (.int p3), .val (.int p4), .val (.int p5), .val (.int (p1 &&& (3 : Int32))), .val (.ref a), .val (.int (Int32.ofNat cs.length)), .val (.int (1 : Int32)), .val (.int q), .unset, .unset, .unset] [(.int (1 : Int32))])) rfl (hb hby at_82) rfl (by decide) (cap := 1) (by decide) (by decide) (by decide) (by decide)
          obtain ⟨b12, g12⟩ : ∃ z, z = h3.size := ⟨_, rfl⟩
          rw [← g12] at A12 st12
          have g_b12 : n0 ≤ b12 := Nat.le_trans (own_old O3) (Nat.le_of_eq g12.symm)
          have ne_a_b12 : a ≠ b12 := by rw [g12]; exact Nat.ne_of_lt E_a.lt
          have ne_b_b12 : b ≠ b12 := by rw [g12]; exact Nat.ne_of_lt V_b.lt
          have E_a := E_a.ext E12
          have F_a_coder := F_a_coder.ext E12
          have F_a_value := F_a_value.ext E12
          have V_b := V_b.ext E12
          have C_a := C_a.ext E12
          have C_b := C_b.ext E12
          have hk12 := Nat.le_trans hk3 E12.1
          have O12 := O3.ext E12
          have V_b12 : Arv Z h12 b12 k12 .char (1 : Int32) [(.int (0 : Int32))] (.int (0 : Int32)) := (Arv.new A12 (by decide)).pad (pad_rep [] (.int (0 : Int32)) 1)
          refine GoV.st st12 ?_
          show GoV p e below s _ _ _ (T12.setTop (mkF m 84 #[.val (.int p0), .val (.int p1), .val (.int p2), .val (.int p3), .val (.int p4), .val (.int p5), .val (.int (p1 &&& (3 : Int32))), .val (.ref a), .val (.int (Int32.ofNat cs.length)), .val (.int (1 : Int32)), .val (.int q), .unset, .unset, .unset] [(.ref b12)]))
          refine GoV.st (fun _ kq_ => XS.astore X12.here hx rfl (hb hby at_84) rfl rfl (l' := #[.val (.int p0), .val (.int p1), .val (.int p2), .val (.int p3), .val (.int p4), .val (.int p5), .val (.int (p1 &&& (3 : Int32))), .val (.ref a), .val (.int (Int32.ofNat cs.length)), .val (.int (1 : Int32)), .val (.int q), .val (.ref b12), .unset, .unset]) rfl kq_) ?_
          show GoV p e below s _ _ _ (T12.setTop (mkF m 86 #[.val (.int p0), .val (.int p1), .val (.int p2), .val (.int p3), .val (.int p4), .val (.int p5), .val (.int (p1 &&& (3 : Int32))), .val (.ref a), .val (.int (Int32.ofNat cs.length)), .val (.int (1 : Int32)), .val (.int q), .val (.ref b12), .unset, .unset] []))
          refine GoV.st (fun _ kq_ => XS.iload X12.here hx rfl (hb hby at_86) rfl kq_) ?_
          show GoV p e below s _ _ _ (T12.setTop (mkF m 88 #[.val (.int p0), .val (.int p1), .val (.int p2), .val (.int p3), .val (.int p4), .val (.int p5), .val (.int (p1 &&& (3 : Int32))), .val (.ref a), .val (.int (Int32.ofNat cs.length)), .val (.int (1 : Int32)), .val (.int q), .val (.ref b12), .unset, .unset] [(.int (1 : Int32))]))
          refine GoV.st (fun _ kq_ => XS.ifNo X12.here hx rfl (hb hby at_88) rfl (by decide) kq_) ?_
          show GoV p e below s _ _ _ (T12.setTop (mkF m 91 #[.val (.int p0), .val (.int p1), .val (.int p2), .val (.int p3), .val (.int p4), .val (.int p5), .val (.int (p1 &&& (3 : Int32))), .val (.ref a), .val (.int (Int32.ofNat cs.length)), .val (.int (1 : Int32)), .val (.int q), .val (.ref b12), .unset, .unset] []))
          refine GoV.st (fun _ kq_ => XS.aload X12.here hx rfl (hb hby at_91) rfl rfl kq_) ?_
          show GoV p e below s _ _ _ (T12.setTop (mkF m 93 #[.val (.int p0), .val (.int p1), .val (.int p2), .val (.int p3), .val (.int p4), .val (.int p5), .val (.int (p1 &&& (3 : Int32))), .val (.ref a), .val (.int (Int32.ofNat cs.length)), .val (.int (1 : Int32)), .val (.int q), .val (.ref b12), .unset, .unset] [(.ref b12)]))
          refine GoV.st (fun _ kq_ => XS.iconst X12.here hx rfl (hb hby at_93) kq_) ?_
          show GoV p e below s _ _ _ (T12.setTop (mkF m 94 #[.val (.int p0), .val (.int p1), .val (.int p2), .val (.int p3), .val (.int p4), .val (.int p5), .val (.int (p1 &&& (3 : Int32))), .val (.ref a), .val (.int (Int32.ofNat cs.length)), .val (.int (1 : Int32)), .val (.int q), .val (.ref b12), .unset, .unset] [(.int (0 : Int32)), (.ref b12)]))
          refine GoV.st (fun _ kq_ => XS.aload X12.here hx rfl (hb hby at_94) rfl rfl kq_) ?_
          show GoV p e below s _ _ _ (T12.setTop (mkF m 96 #[.val (.int p0), .val (.int p1), .val (.int p2), .val (.int p3), .val (.int p4), .val (.int p5), .val (.int (p1 &&& (3 : Int32))), .val (.ref a), .val (.int (Int32.ofNat cs.length)), .val (.int (1 : Int32)), .val (.int q), .val (.ref b12), .unset, .unset] [(.ref a), (.int (0 : Int32)), (.ref b12)]))
          refine GoV.st (fun _ kq_ => XS.iconst X12.here hx rfl (hb hby at_96) kq_) ?_
          show GoV p e below s _ _ _ (T12.setTop (mkF m 97 #[.val (.int p0), .val (.int p1), .val (.int p2), .val (.int p3), .val (.int p4), .val (.int p5), .val (.int (p1 &&& (3 : Int32))), .val (.ref a), .val (.int (Int32.ofNat cs.length)), .val (.int (1 : Int32)), .val (.int q), .val (.ref b12), .unset, .unset] [(.int (0 : Int32)), (.ref a), (.int (0 : Int32)), (.ref b12)]))
          refine GoV.st (fun _ kq_ => XS.iload X12.here hx rfl (hb hby at_97) rfl kq_) ?_
          show GoV p e below s _ _ _ (T12.setTop (mkF m 99 #[.val (.int p0), .val (.int p1), .val (.int p2), .val (.int p3), .val (.int p4), .val (.int p5), .val (.int (p1 &&& (3 : Int32))), .val (.ref a), .val (.int (Int32.ofNat cs.length)), .val (.int (1 : Int32)), .val (.int q), .val (.ref b12), .unset, .unset] [(.int q), (.int (0 : Int32)), (.ref a), (.int (0 : Int32)), (.ref b12)]))
          refine GoV.st (fun _ kq_ => XS.iloadN X12.here hx rfl (hb hby at_99) rfl kq_) ?_
          show GoV p e below s _ _ _ (T12.setTop (mkF m 100 #[.val (.int p0), .val (.int p1), .val (.int p2), .val (.int p3), .val (.int p4), .val (.int p5), .val (.int (p1 &&& (3 : Int32))), .val (.ref a), .val (.int (Int32.ofNat cs.length)), .val (.int (1 : Int32)), .val (.int q), .val (.ref b12), .unset, .unset] [(.int p3), (.int q), (.int (0 : Int32)), (.ref a), (.int (0 : Int32)), (.ref b12)]))
          refine GoV.st (fun _ kq_ => XS.iload X12.here hx rfl (hb hby at_100) rfl kq_) ?_
          show GoV p e below s _ _ _ (T12.setTop (mkF m 102 #[.val (.int p0), .val (.int p1), .val (.int p2), .val (.int p3), .val (.int p4), .val (.int p5), .val (.int (p1 &&& (3 : Int32))), .val (.ref a), .val (.int (Int32.ofNat cs.length)), .val (.int (1 : Int32)), .val (.int q), .val (.ref b12), .unset, .unset] [(.int p5), (.int p3), (.int q), (.int (0 : Int32)), (.ref a), (.int (0 : Int32)), (.ref b12)]))
          obtain ⟨_, _, ⟨T13, L13, k13, n13⟩, -, X13, ⟨Lc13, hQ13, l13, y13, z13⟩, st13⟩ := Jvm.LawKit.callS X12 hx (y := (⟨"com/example/pemmican/pemmican/DataTypeNamedPinLaw", "ch", "(Ljava/lang/String;IIII)C"⟩ : MethodName)) hown3 (mvT hZ3 (own_w hw 84 rfl)) (mvT hZ3 (own_w hw 85 rfl)) (mvT hZ3 (own_w hw 73 rfl)) (mvT hZ3 (own_w hw 86 rfl)) (by decide) (backOf (W := 2) (rmc l Z a0 hw [] a b kb N vs cs (0 : Int32) q p3 p5 zc fm h12 n0 O12 E_a F_a_coder F_a_value V_b hcB hbB hlB (by decide) SC hcs SF rf) hZ3 (own_w hw 86 rfl) (own_w hw 73 rfl) (by decide) (by decide)) (g := (mkF m 102 #[.val (.int p0), .val (.int p1), .val (.int p2), .val (.int p3), .val (.int p4), .val (.int p5), .val (.int (p1 &&& (3 : Int32))), .val (.ref a), .val (.int (Int32.ofNat cs.length)), .val (.int (1 : Int32)), .val (.int q), .val (.ref b12), .unset, .unset] [(.int p5), (.int p3), (.int q), (.int (0 : Int32)), (.ref a), (.int (0 : Int32)), (.ref b12)])) rfl (by rw [hml]; rfl) (argsL := [(.ref a), (.int (0 : Int32)), (.int q), (.int p3), (.int p5)]) (rest := [(.int (0 : Int32)), (.ref b12)]) (lenOf pd0_3 rfl) rfl (by show 2 * 0 + _ ≤ _; exact Nat.le_of_eq rfl) (hb hby at_102) (fun _ _ => ⟨rfl, e12, (by decide : 3 + 0 ≤ _), (by decide : 33 + 0 ≤ _)⟩)
          dsimp only [Pt.U, Pt.locs, Pt.cells, Pt.slots] at X13 l13 y13 z13 st13 hQ13
          subst y13 z13
          obtain ⟨r13, rfl, hr13, Nc13, e13⟩ := hQ13
          have N13 : Fr n0 L13 := by rw [l13]; exact Fr.app N3 Nc13
          refine GoV.st st13 ?_
          show GoV p e below s _ _ _ (T13.setTop (mkF m 105 #[.val (.int p0), .val (.int p1), .val (.int p2), .val (.int p3), .val (.int p4), .val (.int p5), .val (.int (p1 &&& (3 : Int32))), .val (.ref a), .val (.int (Int32.ofNat cs.length)), .val (.int (1 : Int32)), .val (.int q), .val (.ref b12), .unset, .unset] [(.int r13), (.int (0 : Int32)), (.ref b12)]))
          obtain ⟨T14, h14, X14, e14, W14, V14, st14⟩ := own_stC X13 hx hZ3 e13 V_b12 (j := (0 : Int32)) (by decide) (by decide) 0 rfl (Nat.le_of_ble_eq_true rfl) (g := (mkF m 105 #[.val (.int p0), .val (.int p1), .val (.int p2), .val (.int p3), .val (.int p4), .val (.int p5), .val (.int (p1 &&& (3 : Int32))), .val (.ref a), .val (.int (Int32.ofNat cs.length)), .val (.int (1 : Int32)), .val (.int q), .val (.ref b12), .unset, .unset] [(.int r13), (.int (0 : Int32)), (.ref b12)])) rfl rfl (hb hby at_105)
          obtain ⟨lc14, X14, N14⟩ := own_gen X14 (Fr.snoc X14 N13 g_b12)
          have O14 := O12.wr W14 g_b12
          have E_a := E_a.wr W14
          have F_a_coder := F_a_coder.other W14 (Or.inl ne_a_b12)
          have F_a_value := F_a_value.other W14 (Or.inl ne_a_b12)
          have V_b := V_b.other W14 ne_b_b12
          have C_a := C_a.other W14 ne_a_b12
          have C_b := C_b.other W14 ne_b_b12
          have hk14 := Nat.le_trans hk12 (Nat.le_of_eq W14.size.symm)
          have V_b12 : Arv Z h14 b12 k12 .char (1 : Int32) [(.int (nar .char r13))] (.int (0 : Int32)) := V14
          refine GoV.st st14 ?_
          show GoV p e below s _ _ _ (T14.setTop (mkF m 106 #[.val (.int p0), .val (.int p1), .val (.int p2), .val (.int p3), .val (.int p4), .val (.int p5), .val (.int (p1 &&& (3 : Int32))), .val (.ref a), .val (.int (Int32.ofNat cs.length)), .val (.int (1 : Int32)), .val (.int q), .val (.ref b12), .unset, .unset] []))
          refine GoV.st (fun _ kq_ => XS.iload X14.here hx rfl (hb hby at_106) rfl kq_) ?_
          show GoV p e below s _ _ _ (T14.setTop (mkF m 108 #[.val (.int p0), .val (.int p1), .val (.int p2), .val (.int p3), .val (.int p4), .val (.int p5), .val (.int (p1 &&& (3 : Int32))), .val (.ref a), .val (.int (Int32.ofNat cs.length)), .val (.int (1 : Int32)), .val (.int q), .val (.ref b12), .unset, .unset] [(.int (1 : Int32))]))
          refine GoV.st (fun _ kq_ => XS.iconst X14.here hx rfl (hb hby at_108) kq_) ?_
          show GoV p e below s _ _ _ (T14.setTop (mkF m 109 #[.val (.int p0), .val (.int p1), .val (.int p2), .val (.int p3), .val (.int p4), .val (.int p5), .val (.int (p1 &&& (3 : Int32))), .val (.ref a), .val (.int (Int32.ofNat cs.length)), .val (.int (1 : Int32)), .val (.int q), .val (.ref b12), .unset, .unset] [(.int (1 : Int32)), (.int (1 : Int32))]))
          refine GoV.st (fun _ kq_ => XS.icmpYes X14.here hx rfl (pc0 := 109) (pc' := 127) rfl (hb hby at_109) rfl (by decide) (by decide) (by decide) kq_) ?_
          show GoV p e below s _ _ _ (T14.setTop (mkF m 127 #[.val (.int p0), .val (.int p1), .val (.int p2), .val (.int p3), .val (.int p4), .val (.int p5), .val (.int (p1 &&& (3 : Int32))), .val (.ref a), .val (.int (Int32.ofNat cs.length)), .val (.int (1 : Int32)), .val (.int q), .val (.ref b12), .unset, .unset] []))
          refine GoV.st (fun _ kq_ => XS.iload X14.here hx rfl (hb hby at_127) rfl kq_) ?_
          show GoV p e below s _ _ _ (T14.setTop (mkF m 129 #[.val (.int p0), .val (.int p1), .val (.int p2), .val (.int p3), .val (.int p4), .val (.int p5), .val (.int (p1 &&& (3 : Int32))), .val (.ref a), .val (.int (Int32.ofNat cs.length)), .val (.int (1 : Int32)), .val (.int q), .val (.ref b12), .unset, .unset] [(.int (1 : Int32))]))
          refine GoV.st (fun _ kq_ => XS.iconst X14.here hx rfl (hb hby at_129) kq_) ?_
          show GoV p e below s _ _ _ (T14.setTop (mkF m 130 #[.val (.int p0), .val (.int p1), .val (.int p2), .val (.int p3), .val (.int p4), .val (.int p5), .val (.int (p1 &&& (3 : Int32))), .val (.ref a), .val (.int (Int32.ofNat cs.length)), .val (.int (1 : Int32)), .val (.int q), .val (.ref b12), .unset, .unset] [(.int (2 : Int32)), (.int (1 : Int32))]))
          refine GoV.st (fun _ kq_ => XS.icmpYes X14.here hx rfl (pc0 := 130) (pc' := 148) rfl (hb hby at_130) rfl (by decide) (by decide) (by decide) kq_) ?_
          show GoV p e below s _ _ _ (T14.setTop (mkF m 148 #[.val (.int p0), .val (.int p1), .val (.int p2), .val (.int p3), .val (.int p4), .val (.int p5), .val (.int (p1 &&& (3 : Int32))), .val (.ref a), .val (.int (Int32.ofNat cs.length)), .val (.int (1 : Int32)), .val (.int q), .val (.ref b12), .unset, .unset] []))
          refine GoV.st (fun _ kq_ => XS.iload X14.here hx rfl (hb hby at_148) rfl kq_) ?_
          show GoV p e below s _ _ _ (T14.setTop (mkF m 150 #[.val (.int p0), .val (.int p1), .val (.int p2), .val (.int p3), .val (.int p4), .val (.int p5), .val (.int (p1 &&& (3 : Int32))), .val (.ref a), .val (.int (Int32.ofNat cs.length)), .val (.int (1 : Int32)), .val (.int q), .val (.ref b12), .unset, .unset] [(.int (1 : Int32))]))
          refine GoV.st (fun _ kq_ => XS.iconst X14.here hx rfl (hb hby at_150) kq_) ?_
          show GoV p e below s _ _ _ (T14.setTop (mkF m 151 #[.val (.int p0), .val (.int p1), .val (.int p2), .val (.int p3), .val (.int p4), .val (.int p5), .val (.int (p1 &&& (3 : Int32))), .val (.ref a), .val (.int (Int32.ofNat cs.length)), .val (.int (1 : Int32)), .val (.int q), .val (.ref b12), .unset, .unset] [(.int (3 : Int32)), (.int (1 : Int32))]))
          refine GoV.st (fun _ kq_ => XS.icmpYes X14.here hx rfl (pc0 := 151) (pc' := 169) rfl (hb hby at_151) rfl (by decide) (by decide) (by decide) kq_) ?_
          show GoV p e below s _ _ _ (T14.setTop (mkF m 169 #[.val (.int p0), .val (.int p1), .val (.int p2), .val (.int p3), .val (.int p4), .val (.int p5), .val (.int (p1 &&& (3 : Int32))), .val (.ref a), .val (.int (Int32.ofNat cs.length)), .val (.int (1 : Int32)), .val (.int q), .val (.ref b12), .unset, .unset] []))
          refine GoV.st (fun _ kq_ => XS.iload X14.here hx rfl (hb hby at_169) rfl kq_) ?_
          show GoV p e below s _ _ _ (T14.setTop (mkF m 171 #[.val (.int p0), .val (.int p1), .val (.int p2), .val (.int p3), .val (.int p4), .val (.int p5), .val (.int (p1 &&& (3 : Int32))), .val (.ref a), .val (.int (Int32.ofNat cs.length)), .val (.int (1 : Int32)), .val (.int q), .val (.ref b12), .unset, .unset] [(.int (1 : Int32))]))
          refine GoV.st (fun _ kq_ => XS.iconst X14.here hx rfl (hb hby at_171) kq_) ?_
          show GoV p e below s _ _ _ (T14.setTop (mkF m 172 #[.val (.int p0), .val (.int p1), .val (.int p2), .val (.int p3), .val (.int p4), .val (.int p5), .val (.int (p1 &&& (3 : Int32))), .val (.ref a), .val (.int (Int32.ofNat cs.length)), .val (.int (1 : Int32)), .val (.int q), .val (.ref b12), .unset, .unset] [(.int (4 : Int32)), (.int (1 : Int32))]))
          refine GoV.st (fun _ kq_ => XS.icmpYes X14.here hx rfl (pc0 := 172) (pc' := 190) rfl (hb hby at_172) rfl (by decide) (by decide) (by decide) kq_) ?_
          show GoV p e below s _ _ _ (T14.setTop (mkF m 190 #[.val (.int p0), .val (.int p1), .val (.int p2), .val (.int p3), .val (.int p4), .val (.int p5), .val (.int (p1 &&& (3 : Int32))), .val (.ref a), .val (.int (Int32.ofNat cs.length)), .val (.int (1 : Int32)), .val (.int q), .val (.ref b12), .unset, .unset] []))
          refine GoV.st (fun _ kq_ => XS.iload X14.here hx rfl (hb hby at_190) rfl kq_) ?_
          show GoV p e below s _ _ _ (T14.setTop (mkF m 192 #[.val (.int p0), .val (.int p1), .val (.int p2), .val (.int p3), .val (.int p4), .val (.int p5), .val (.int (p1 &&& (3 : Int32))), .val (.ref a), .val (.int (Int32.ofNat cs.length)), .val (.int (1 : Int32)), .val (.int q), .val (.ref b12), .unset, .unset] [(.int (1 : Int32))]))
          refine GoV.st (fun _ kq_ => XS.iconst X14.here hx rfl (hb hby at_192) kq_) ?_
          show GoV p e below s _ _ _ (T14.setTop (mkF m 193 #[.val (.int p0), .val (.int p1), .val (.int p2), .val (.int p3), .val (.int p4), .val (.int p5), .val (.int (p1 &&& (3 : Int32))), .val (.ref a), .val (.int (Int32.ofNat cs.length)), .val (.int (1 : Int32)), .val (.int q), .val (.ref b12), .unset, .unset] [(.int (5 : Int32)), (.int (1 : Int32))]))
          refine GoV.st (fun _ kq_ => XS.icmpYes X14.here hx rfl (pc0 := 193) (pc' := 211) rfl (hb hby at_193) rfl (by decide) (by decide) (by decide) kq_) ?_
          show GoV p e below s _ _ _ (T14.setTop (mkF m 211 #[.val (.int p0), .val (.int p1), .val (.int p2), .val (.int p3), .val (.int p4), .val (.int p5), .val (.int (p1 &&& (3 : Int32))), .val (.ref a), .val (.int (Int32.ofNat cs.length)), .val (.int (1 : Int32)), .val (.int q), .val (.ref b12), .unset, .unset] []))
          refine GoV.st (fun _ kq_ => XS.iload X14.here hx rfl (hb hby at_211) rfl kq_) ?_
          show GoV p e below s _ _ _ (T14.setTop (mkF m 213 #[.val (.int p0), .val (.int p1), .val (.int p2), .val (.int p3), .val (.int p4), .val (.int p5), .val (.int (p1 &&& (3 : Int32))), .val (.ref a), .val (.int (Int32.ofNat cs.length)), .val (.int (1 : Int32)), .val (.int q), .val (.ref b12), .unset, .unset] [(.int (1 : Int32))]))
          refine GoV.st (fun _ kq_ => XS.bipush X14.here hx rfl (hb hby at_213) kq_) ?_
          show GoV p e below s _ _ _ (T14.setTop (mkF m 215 #[.val (.int p0), .val (.int p1), .val (.int p2), .val (.int p3), .val (.int p4), .val (.int p5), .val (.int (p1 &&& (3 : Int32))), .val (.ref a), .val (.int (Int32.ofNat cs.length)), .val (.int (1 : Int32)), .val (.int q), .val (.ref b12), .unset, .unset] [(.int (6 : Int32)), (.int (1 : Int32))]))
          refine GoV.st (fun _ kq_ => XS.icmpYes X14.here hx rfl (pc0 := 215) (pc' := 235) rfl (hb hby at_215) rfl (by decide) (by decide) (by decide) kq_) ?_
          show GoV p e below s _ _ _ (T14.setTop (mkF m 235 #[.val (.int p0), .val (.int p1), .val (.int p2), .val (.int p3), .val (.int p4), .val (.int p5), .val (.int (p1 &&& (3 : Int32))), .val (.ref a), .val (.int (Int32.ofNat cs.length)), .val (.int (1 : Int32)), .val (.int q), .val (.ref b12), .unset, .unset] []))
          refine GoV.st (fun _ kq_ => XS.iload X14.here hx rfl (hb hby at_235) rfl kq_) ?_
          show GoV p e below s _ _ _ (T14.setTop (mkF m 237 #[.val (.int p0), .val (.int p1), .val (.int p2), .val (.int p3), .val (.int p4), .val (.int p5), .val (.int (p1 &&& (3 : Int32))), .val (.ref a), .val (.int (Int32.ofNat cs.length)), .val (.int (1 : Int32)), .val (.int q), .val (.ref b12), .unset, .unset] [(.int (1 : Int32))]))
          refine GoV.st (fun _ kq_ => XS.bipush X14.here hx rfl (hb hby at_237) kq_) ?_
          show GoV p e below s _ _ _ (T14.setTop (mkF m 239 #[.val (.int p0), .val (.int p1), .val (.int p2), .val (.int p3), .val (.int p4), .val (.int p5), .val (.int (p1 &&& (3 : Int32))), .val (.ref a), .val (.int (Int32.ofNat cs.length)), .val (.int (1 : Int32)), .val (.int q), .val (.ref b12), .unset, .unset] [(.int (7 : Int32)), (.int (1 : Int32))]))
          refine GoV.st (fun _ kq_ => XS.icmpYes X14.here hx rfl (pc0 := 239) (pc' := 259) rfl (hb hby at_239) rfl (by decide) (by decide) (by decide) kq_) ?_
          show GoV p e below s _ _ _ (T14.setTop (mkF m 259 #[.val (.int p0), .val (.int p1), .val (.int p2), .val (.int p3), .val (.int p4), .val (.int p5), .val (.int (p1 &&& (3 : Int32))), .val (.ref a), .val (.int (Int32.ofNat cs.length)), .val (.int (1 : Int32)), .val (.int q), .val (.ref b12), .unset, .unset] []))
          obtain ⟨T15, h15, X15, e15, E15, A15, D15, -, st15⟩ := newO X14 hx hZ3 hown3 (own_w hw 23 rfl) (own_w hw 2 rfl) (own_w hw 1 rfl) e14 (g := (mkF m 259 #[.val (.int p0), .val (.int p1), .val (.int p2), .val (.int p3), .val (.int p4), .val (.int p5), .val (.int (p1 &&& (3 : Int32))), .val (.ref a), .val (.int (Int32.ofNat cs.length)), .val (.int (1 : Int32)), .val (.int q), .val (.ref b12), .unset, .unset] [])) rfl (hb hby at_259) (by decide) (by decide)
          obtain ⟨a15, g15⟩ : ∃ z, z = h14.size := ⟨_, rfl⟩
          rw [← g15] at A15 D15 st15
          have g_a15 : n0 ≤ a15 := Nat.le_trans (own_old O14) (Nat.le_of_eq g15.symm)
          have ne_a_a15 : a ≠ a15 := by rw [g15]; exact Nat.ne_of_lt E_a.lt
          have ne_b_a15 : b ≠ a15 := by rw [g15]; exact Nat.ne_of_lt V_b.lt
          have ne_b12_a15 : b12 ≠ a15 := by rw [g15]; exact Nat.ne_of_lt V_b12.lt
          have E_a := E_a.ext E15
          have F_a_coder := F_a_coder.ext E15
          have F_a_value := F_a_value.ext E15
          have V_b := V_b.ext E15
          have C_a := C_a.ext E15
          have C_b := C_b.ext E15
          have V_b12 := V_b12.ext E15
          have hk15 := Nat.le_trans hk14 E15.1
          have O15 := O14.ext E15
          have E_a15 : Exa Z h15 a15 "java/lang/String" := A15
          have F_a15_value : Fld Z h15 a15 "java/lang/String" "value" "[B" .null := D15 (Or.inr (own_w hw 4 rfl)) (ty := (.array .byte)) (by decide)
          have F_a15_coder : Fld Z h15 a15 "java/lang/String" "coder" "B" (.int (0 : Int32)) := D15 (Or.inr (own_w hw 5 rfl)) (ty := .byte) (by decide)
          refine GoV.st st15 ?_
          show GoV p e below s _ _ _ (T15.setTop (mkF m 262 #[.val (.int p0), .val (.int p1), .val (.int p2), .val (.int p3), .val (.int p4), .val (.int p5), .val (.int (p1 &&& (3 : Int32))), .val (.ref a), .val (.int (Int32.ofNat cs.length)), .val (.int (1 : Int32)), .val (.int q), .val (.ref b12), .unset, .unset] [(.ref a15)]))
          refine GoV.st (fun _ kq_ => XS.dup X15.here hx rfl (hb hby at_262) rfl rfl kq_) ?_
          show GoV p e below s _ _ _ (T15.setTop (mkF m 263 #[.val (.int p0), .val (.int p1), .val (.int p2), .val (.int p3), .val (.int p4), .val (.int p5), .val (.int (p1 &&& (3 : Int32))), .val (.ref a), .val (.int (Int32.ofNat cs.length)), .val (.int (1 : Int32)), .val (.int q), .val (.ref b12), .unset, .unset] [(.ref a15), (.ref a15)]))
          refine GoV.st (fun _ kq_ => XS.aload X15.here hx rfl (hb hby at_263) rfl rfl kq_) ?_
          show GoV p e below s _ _ _ (T15.setTop (mkF m 265 #[.val (.int p0), .val (.int p1), .val (.int p2), .val (.int p3), .val (.int p4), .val (.int p5), .val (.int (p1 &&& (3 : Int32))), .val (.ref a), .val (.int (Int32.ofNat cs.length)), .val (.int (1 : Int32)), .val (.int q), .val (.ref b12), .unset, .unset] [(.ref b12), (.ref a15), (.ref a15)]))
          have hp : ∀ z ∈ ([(nar .char r13)] : List Int32), ¬ z < 0 ∧ ¬ (255 : Int32) < z := by
            intro z hz
            simp only [List.mem_cons, List.not_mem_nil, or_false] at hz
            rcases hz with rfl
            · exact (by rw [own_nc hr13]; exact hr13)
          obtain ⟨_, _, ⟨T16, L16, k16, n16⟩, -, X16, ⟨Lc16, hQ16, l16, y16, z16⟩, st16⟩ := X15.specialBack hx (y := (⟨"java/lang/String", "<init>", "([C)V"⟩ : MethodName)) rfl hown3 (mvT hZ3 (own_w hw 24 rfl)) (mvT hZ3 (own_w hw 25 rfl)) (mvT hZ3 (own_w hw 26 rfl)) (by decide) (StrChars.Road.backV (W := 1) hZ3 hws (kI := 4) (own_w hw 2 rfl) (cs := ([(nar .char r13)] : List Int32)) (bs := ([(nar .char r13)] : List Int32).map (fun c => c.toInt8.toInt32)) (n := 1) g_a15 (own_old O15) E_a15 F_a15_value F_a15_coder V_b12 (SC.ext O15.2) hcs rfl rfl (by decide) (by decide) hp rfl (by decide) (by decide)) (g := (mkF m 265 #[.val (.int p0), .val (.int p1), .val (.int p2), .val (.int p3), .val (.int p4), .val (.int p5), .val (.int (p1 &&& (3 : Int32))), .val (.ref a), .val (.int (Int32.ofNat cs.length)), .val (.int (1 : Int32)), .val (.int q), .val (.ref b12), .unset, .unset] [(.ref b12), (.ref a15), (.ref a15)])) rfl (by rw [hml]; rfl) (Steps.refl _) (a := a15) (argsL := [(.ref b12)]) (rest := [(.ref a15)]) (lenOf pd0_2 rfl) rfl (by show 2 * 0 + _ ≤ _; exact Nat.le_of_eq rfl) (hb hby at_265) (fun _ _ => ⟨rfl, e15, (by decide : 4 + 1 ≤ _), (by decide : 37 + 1 ≤ _)⟩)
          dsimp only [Pt.U, Pt.locs, Pt.cells, Pt.slots] at X16 l16 y16 z16 st16 hQ16
          subst y16 z16
          obtain ⟨rfl, Nc16, Kc16, NE, NC, t16, kt16, gt16, szt16, -, NV, NB⟩ := hQ16
          have N16 : Fr n0 L16 := by rw [l16]; exact Fr.app N14 Nc16
          have E_a := E_a.keep Kc16
          have F_a_coder := F_a_coder.keep Kc16 (ninS ne_a_a15 nin0)
          have F_a_value := F_a_value.keep Kc16 (ninS ne_a_a15 nin0)
          have V_b := V_b.keep Kc16 (ninS ne_b_a15 nin0)
          have C_a := C_a.keep Kc16 (ninS ne_a_a15 nin0)
          have C_b := C_b.keep Kc16 (ninS ne_b_a15 nin0)
          have V_b12 := V_b12.keep Kc16 (ninS ne_b12_a15 nin0)
          have hk16 := Nat.le_trans hk15 Kc16.1
          have O16 := O15.keep Kc16 (allS g_a15 all0)
          have E_a15 : Exa Z T16.heap a15 "java/lang/String" := NE
          have F_a15_coder : Fld Z T16.heap a15 "java/lang/String" "coder" "B" (.int (0 : Int32)) := NC
          have F_a15_value : Fld Z T16.heap a15 "java/lang/String" "value" "[B" (.ref t16) := NV
          have V_t16 : Arv Z T16.heap t16 kt16 .byte (1 : Int32) ((([(nar .char r13)] : List Int32).map (fun c => c.toInt8.toInt32)).map Value.int) (.int (0 : Int32)) := NB
          refine GoV.tr st16 ?_
          show GoV p e below s _ _ _ (T16.setTop (mkF m 268 #[.val (.int p0), .val (.int p1), .val (.int p2), .val (.int p3), .val (.int p4), .val (.int p5), .val (.int (p1 &&& (3 : Int32))), .val (.ref a), .val (.int (Int32.ofNat cs.length)), .val (.int (1 : Int32)), .val (.int q), .val (.ref b12), .unset, .unset] [(.ref a15)]))
          exact JX a15 t16 _ _ _ ([(nar .char r13)] : List Int32) (1 : Int32) b12 _ (vm3) _ _ _ _ (X16.mono (by decide) (by decide)) rfl N16 O16 hS3 hk16 hZ3 hown3 I3 E_a F_a_coder F_a_value V_b C_a C_b E_a15 F_a15_coder F_a15_value V_t16 (StrChars.Road.codOf (n := 1) rfl (fun c hc => (hp c hc).2)) (own_up hp) (Nat.le_of_ble_eq_true rfl) (fun q hq => Or.inl (List.mem_singleton.mp hq))
        · show GoV p e below s _ _ _ (T3.setTop (mkF m 80 #[.val (.int p0), .val (.int p1), .val (.int p2), .val (.int p3), .val (.int p4), .val (.int p5), .val (.int (p1 &&& (3 : Int32))), .val (.ref a), .val (.int (Int32.ofNat cs.length)), .val (.int (2 : Int32)), .val (.int q), .unset, .unset, .unset] []))
          refine GoV.st (fun _ kq_ => XS.iload X3.here hx rfl (hb hby at_80) rfl kq_) ?_
          show GoV p e below s _ _ _ (T3.setTop (mkF m 82 #[.val (.int p0), .val (.int p1), .val (.int p2), .val (.int p3), .val (.int p4), .val (.int p5), .val (.int (p1 &&& (3 : Int32))), .val (.ref a), .val (.int (Int32.ofNat cs.length)), .val (.int (2 : Int32)), .val (.int q), .unset, .unset, .unset] [(.int (2 : Int32))]))
          obtain ⟨T17, h17, k17, X17, e17, E17, A17, st17⟩ := newP X3 hx hZ3 (own_w hw 22 rfl) e3 (g := (mkF m 82 #[.val (.int p0), .val (.int p1), .val (.int p2), .val (.int p3), .val (.int p4), .val (.int p5), .val (.int (p1 &&& (3 : Int32))), .val (.ref a), .val (.int (Int32.ofNat cs.length)), .val (.int (2 : Int32)), .val (.int q), .unset, .unset, .unset] [(.int (2 : Int32))])) rfl (hb hby at_82) rfl (by decide) (cap := 2) (by decide) (by decide) (by decide) (by decide)
          obtain ⟨b17, g17⟩ : ∃ z, z = h3.size := ⟨_, rfl⟩
          rw [← g17] at A17 st17
          have g_b17 : n0 ≤ b17 := Nat.le_trans (own_old O3) (Nat.le_of_eq g17.symm)
          have ne_a_b17 : a ≠ b17 := by rw [g17]; exact Nat.ne_of_lt E_a.lt
          have ne_b_b17 : b ≠ b17 := by rw [g17]; exact Nat.ne_of_lt V_b.lt
          have E_a := E_a.ext E17
          have F_a_coder := F_a_coder.ext E17
          have F_a_value := F_a_value.ext E17
          have V_b := V_b.ext E17
          have C_a := C_a.ext E17
          have C_b := C_b.ext E17
          have hk17 := Nat.le_trans hk3 E17.1
          have O17 := O3.ext E17
          have V_b17 : Arv Z h17 b17 k17 .char (2 : Int32) [(.int (0 : Int32)), (.int (0 : Int32))] (.int (0 : Int32)) := (Arv.new A17 (by decide)).pad (pad_rep [] (.int (0 : Int32)) 2)
          refine GoV.st st17 ?_
          show GoV p e below s _ _ _ (T17.setTop (mkF m 84 #[.val (.int p0), .val (.int p1), .val (.int p2), .val (.int p3), .val (.int p4), .val (.int p5), .val (.int (p1 &&& (3 : Int32))), .val (.ref a), .val (.int (Int32.ofNat cs.length)), .val (.int (2 : Int32)), .val (.int q), .unset, .unset, .unset] [(.ref b17)]))
          refine GoV.st (fun _ kq_ => XS.astore X17.here hx rfl (hb hby at_84) rfl rfl (l' := #[.val (.int p0), .val (.int p1), .val (.int p2), .val (.int p3), .val (.int p4), .val (.int p5), .val (.int (p1 &&& (3 : Int32))), .val (.ref a), .val (.int (Int32.ofNat cs.length)), .val (.int (2 : Int32)), .val (.int q), .val (.ref b17), .unset, .unset]) rfl kq_) ?_
          show GoV p e below s _ _ _ (T17.setTop (mkF m 86 #[.val (.int p0), .val (.int p1), .val (.int p2), .val (.int p3), .val (.int p4), .val (.int p5), .val (.int (p1 &&& (3 : Int32))), .val (.ref a), .val (.int (Int32.ofNat cs.length)), .val (.int (2 : Int32)), .val (.int q), .val (.ref b17), .unset, .unset] []))
          refine GoV.st (fun _ kq_ => XS.iload X17.here hx rfl (hb hby at_86) rfl kq_) ?_
          show GoV p e below s _ _ _ (T17.setTop (mkF m 88 #[.val (.int p0), .val (.int p1), .val (.int p2), .val (.int p3), .val (.int p4), .val (.int p5), .val (.int (p1 &&& (3 : Int32))), .val (.ref a), .val (.int (Int32.ofNat cs.length)), .val (.int (2 : Int32)), .val (.int q), .val (.ref b17), .unset, .unset] [(.int (2 : Int32))]))
          refine GoV.st (fun _ kq_ => XS.ifNo X17.here hx rfl (hb hby at_88) rfl (by decide) kq_) ?_
          show GoV p e below s _ _ _ (T17.setTop (mkF m 91 #[.val (.int p0), .val (.int p1), .val (.int p2), .val (.int p3), .val (.int p4), .val (.int p5), .val (.int (p1 &&& (3 : Int32))), .val (.ref a), .val (.int (Int32.ofNat cs.length)), .val (.int (2 : Int32)), .val (.int q), .val (.ref b17), .unset, .unset] []))
          refine GoV.st (fun _ kq_ => XS.aload X17.here hx rfl (hb hby at_91) rfl rfl kq_) ?_
          show GoV p e below s _ _ _ (T17.setTop (mkF m 93 #[.val (.int p0), .val (.int p1), .val (.int p2), .val (.int p3), .val (.int p4), .val (.int p5), .val (.int (p1 &&& (3 : Int32))), .val (.ref a), .val (.int (Int32.ofNat cs.length)), .val (.int (2 : Int32)), .val (.int q), .val (.ref b17), .unset, .unset] [(.ref b17)]))
          refine GoV.st (fun _ kq_ => XS.iconst X17.here hx rfl (hb hby at_93) kq_) ?_
          show GoV p e below s _ _ _ (T17.setTop (mkF m 94 #[.val (.int p0), .val (.int p1), .val (.int p2), .val (.int p3), .val (.int p4), .val (.int p5), .val (.int (p1 &&& (3 : Int32))), .val (.ref a), .val (.int (Int32.ofNat cs.length)), .val (.int (2 : Int32)), .val (.int q), .val (.ref b17), .unset, .unset] [(.int (0 : Int32)), (.ref b17)]))
          refine GoV.st (fun _ kq_ => XS.aload X17.here hx rfl (hb hby at_94) rfl rfl kq_) ?_
          show GoV p e below s _ _ _ (T17.setTop (mkF m 96 #[.val (.int p0), .val (.int p1), .val (.int p2), .val (.int p3), .val (.int p4), .val (.int p5), .val (.int (p1 &&& (3 : Int32))), .val (.ref a), .val (.int (Int32.ofNat cs.length)), .val (.int (2 : Int32)), .val (.int q), .val (.ref b17), .unset, .unset] [(.ref a), (.int (0 : Int32)), (.ref b17)]))
          refine GoV.st (fun _ kq_ => XS.iconst X17.here hx rfl (hb hby at_96) kq_) ?_
          show GoV p e below s _ _ _ (T17.setTop (mkF m 97 #[.val (.int p0), .val (.int p1), .val (.int p2), .val (.int p3), .val (.int p4), .val (.int p5), .val (.int (p1 &&& (3 : Int32))), .val (.ref a), .val (.int (Int32.ofNat cs.length)), .val (.int (2 : Int32)), .val (.int q), .val (.ref b17), .unset, .unset] [(.int (0 : Int32)), (.ref a), (.int (0 : Int32)), (.ref b17)]))
          refine GoV.st (fun _ kq_ => XS.iload X17.here hx rfl (hb hby at_97) rfl kq_) ?_
          show GoV p e below s _ _ _ (T17.setTop (mkF m 99 #[.val (.int p0), .val (.int p1), .val (.int p2), .val (.int p3), .val (.int p4), .val (.int p5), .val (.int (p1 &&& (3 : Int32))), .val (.ref a), .val (.int (Int32.ofNat cs.length)), .val (.int (2 : Int32)), .val (.int q), .val (.ref b17), .unset, .unset] [(.int q), (.int (0 : Int32)), (.ref a), (.int (0 : Int32)), (.ref b17)]))
          refine GoV.st (fun _ kq_ => XS.iloadN X17.here hx rfl (hb hby at_99) rfl kq_) ?_
          show GoV p e below s _ _ _ (T17.setTop (mkF m 100 #[.val (.int p0), .val (.int p1), .val (.int p2), .val (.int p3), .val (.int p4), .val (.int p5), .val (.int (p1 &&& (3 : Int32))), .val (.ref a), .val (.int (Int32.ofNat cs.length)), .val (.int (2 : Int32)), .val (.int q), .val (.ref b17), .unset, .unset] [(.int p3), (.int q), (.int (0 : Int32)), (.ref a), (.int (0 : Int32)), (.ref b17)]))
          refine GoV.st (fun _ kq_ => XS.iload X17.here hx rfl (hb hby at_100) rfl kq_) ?_
          show GoV p e below s _ _ _ (T17.setTop (mkF m 102 #[.val (.int p0), .val (.int p1), .val (.int p2), .val (.int p3), .val (.int p4), .val (.int p5), .val (.int (p1 &&& (3 : Int32))), .val (.ref a), .val (.int (Int32.ofNat cs.length)), .val (.int (2 : Int32)), .val (.int q), .val (.ref b17), .unset, .unset] [(.int p5), (.int p3), (.int q), (.int (0 : Int32)), (.ref a), (.int (0 : Int32)), (.ref b17)]))
          obtain ⟨_, _, ⟨T18, L18, k18, n18⟩, -, X18, ⟨Lc18, hQ18, l18, y18, z18⟩, st18⟩ := Jvm.LawKit.callS X17 hx (y := (⟨"com/example/pemmican/pemmican/DataTypeNamedPinLaw", "ch", "(Ljava/lang/String;IIII)C"⟩ : MethodName)) hown3 (mvT hZ3 (own_w hw 84 rfl)) (mvT hZ3 (own_w hw 85 rfl)) (mvT hZ3 (own_w hw 73 rfl)) (mvT hZ3 (own_w hw 86 rfl)) (by decide) (backOf (W := 2) (rmc l Z a0 hw [] a b kb N vs cs (0 : Int32) q p3 p5 zc fm h17 n0 O17 E_a F_a_coder F_a_value V_b hcB hbB hlB (by decide) SC hcs SF rf) hZ3 (own_w hw 86 rfl) (own_w hw 73 rfl) (by decide) (by decide)) (g := (mkF m 102 #[.val (.int p0), .val (.int p1), .val (.int p2), .val (.int p3), .val (.int p4), .val (.int p5), .val (.int (p1 &&& (3 : Int32))), .val (.ref a), .val (.int (Int32.ofNat cs.length)), .val (.int (2 : Int32)), .val (.int q), .val (.ref b17), .unset, .unset] [(.int p5), (.int p3), (.int q), (.int (0 : Int32)), (.ref a), (.int (0 : Int32)), (.ref b17)])) rfl (by rw [hml]; rfl) (argsL := [(.ref a), (.int (0 : Int32)), (.int q), (.int p3), (.int p5)]) (rest := [(.int (0 : Int32)), (.ref b17)]) (lenOf pd0_3 rfl) rfl (by show 2 * 0 + _ ≤ _; exact Nat.le_of_eq rfl) (hb hby at_102) (fun _ _ => ⟨rfl, e17, (by decide : 3 + 0 ≤ _), (by decide : 34 + 0 ≤ _)⟩)
          dsimp only [Pt.U, Pt.locs, Pt.cells, Pt.slots] at X18 l18 y18 z18 st18 hQ18
          subst y18 z18
          obtain ⟨r18, rfl, hr18, Nc18, e18⟩ := hQ18
          have N18 : Fr n0 L18 := by rw [l18]; exact Fr.app N3 Nc18
          refine GoV.st st18 ?_
          show GoV p e below s _ _ _ (T18.setTop (mkF m 105 #[.val (.int p0), .val (.int p1), .val (.int p2), .val (.int p3), .val (.int p4), .val (.int p5), .val (.int (p1 &&& (3 : Int32))), .val (.ref a), .val (.int (Int32.ofNat cs.length)), .val (.int (2 : Int32)), .val (.int q), .val (.ref b17), .unset, .unset] [(.int r18), (.int (0 : Int32)), (.ref b17)]))
          obtain ⟨T19, h19, X19, e19, W19, V19, st19⟩ := own_stC X18 hx hZ3 e18 V_b17 (j := (0 : Int32)) (by decide) (by decide) 0 rfl (Nat.le_of_ble_eq_true rfl) (g := (mkF m 105 #[.val (.int p0), .val (.int p1), .val (.int p2), .val (.int p3), .val (.int p4), .val (.int p5), .val (.int (p1 &&& (3 : Int32))), .val (.ref a), .val (.int (Int32.ofNat cs.length)), .val (.int (2 : Int32)), .val (.int q), .val (.ref b17), .unset, .unset] [(.int r18), (.int (0 : Int32)), (.ref b17)])) rfl rfl (hb hby at_105)
          obtain ⟨lc19, X19, N19⟩ := own_gen X19 (Fr.snoc X19 N18 g_b17)
          have O19 := O17.wr W19 g_b17
          have E_a := E_a.wr W19
          have F_a_coder := F_a_coder.other W19 (Or.inl ne_a_b17)
          have F_a_value := F_a_value.other W19 (Or.inl ne_a_b17)
          have V_b := V_b.other W19 ne_b_b17
          have C_a := C_a.other W19 ne_a_b17
          have C_b := C_b.other W19 ne_b_b17
          have hk19 := Nat.le_trans hk17 (Nat.le_of_eq W19.size.symm)
          have V_b17 : Arv Z h19 b17 k17 .char (2 : Int32) [(.int (nar .char r18)), (.int (0 : Int32))] (.int (0 : Int32)) := V19
          refine GoV.st st19 ?_
          show GoV p e below s _ _ _ (T19.setTop (mkF m 106 #[.val (.int p0), .val (.int p1), .val (.int p2), .val (.int p3), .val (.int p4), .val (.int p5), .val (.int (p1 &&& (3 : Int32))), .val (.ref a), .val (.int (Int32.ofNat cs.length)), .val (.int (2 : Int32)), .val (.int q), .val (.ref b17), .unset, .unset] []))
          refine GoV.st (fun _ kq_ => XS.iload X19.here hx rfl (hb hby at_106) rfl kq_) ?_
          show GoV p e below s _ _ _ (T19.setTop (mkF m 108 #[.val (.int p0), .val (.int p1), .val (.int p2), .val (.int p3), .val (.int p4), .val (.int p5), .val (.int (p1 &&& (3 : Int32))), .val (.ref a), .val (.int (Int32.ofNat cs.length)), .val (.int (2 : Int32)), .val (.int q), .val (.ref b17), .unset, .unset] [(.int (2 : Int32))]))
          refine GoV.st (fun _ kq_ => XS.iconst X19.here hx rfl (hb hby at_108) kq_) ?_
          show GoV p e below s _ _ _ (T19.setTop (mkF m 109 #[.val (.int p0), .val (.int p1), .val (.int p2), .val (.int p3), .val (.int p4), .val (.int p5), .val (.int (p1 &&& (3 : Int32))), .val (.ref a), .val (.int (Int32.ofNat cs.length)), .val (.int (2 : Int32)), .val (.int q), .val (.ref b17), .unset, .unset] [(.int (1 : Int32)), (.int (2 : Int32))]))
          refine GoV.st (fun _ kq_ => XS.icmpNo X19.here hx rfl (hb hby at_109) rfl (by decide) kq_) ?_
          show GoV p e below s _ _ _ (T19.setTop (mkF m 112 #[.val (.int p0), .val (.int p1), .val (.int p2), .val (.int p3), .val (.int p4), .val (.int p5), .val (.int (p1 &&& (3 : Int32))), .val (.ref a), .val (.int (Int32.ofNat cs.length)), .val (.int (2 : Int32)), .val (.int q), .val (.ref b17), .unset, .unset] []))
          refine GoV.st (fun _ kq_ => XS.aload X19.here hx rfl (hb hby at_112) rfl rfl kq_) ?_
          show GoV p e below s _ _ _ (T19.setTop (mkF m 114 #[.val (.int p0), .val (.int p1), .val (.int p2), .val (.int p3), .val (.int p4), .val (.int p5), .val (.int (p1 &&& (3 : Int32))), .val (.ref a), .val (.int (Int32.ofNat cs.length)), .val (.int (2 : Int32)), .val (.int q), .val (.ref b17), .unset, .unset] [(.ref b17)]))
          refine GoV.st (fun _ kq_ => XS.iconst X19.here hx rfl (hb hby at_114) kq_) ?_
          show GoV p e below s _ _ _ (T19.setTop (mkF m 115 #[.val (.int p0), .val (.int p1), .val (.int p2), .val (.int p3), .val (.int p4), .val (.int p5), .val (.int (p1 &&& (3 : Int32))), .val (.ref a), .val (.int (Int32.ofNat cs.length)), .val (.int (2 : Int32)), .val (.int q), .val (.ref b17), .unset, .unset] [(.int (1 : Int32)), (.ref b17)]))
          refine GoV.st (fun _ kq_ => XS.aload X19.here hx rfl (hb hby at_115) rfl rfl kq_) ?_
          show GoV p e below s _ _ _ (T19.setTop (mkF m 117 #[.val (.int p0), .val (.int p1), .val (.int p2), .val (.int p3), .val (.int p4), .val (.int p5), .val (.int (p1 &&& (3 : Int32))), .val (.ref a), .val (.int (Int32.ofNat cs.length)), .val (.int (2 : Int32)), .val (.int q), .val (.ref b17), .unset, .unset] [(.ref a), (.int (1 : Int32)), (.ref b17)]))
          refine GoV.st (fun _ kq_ => XS.iconst X19.here hx rfl (hb hby at_117) kq_) ?_
          show GoV p e below s _ _ _ (T19.setTop (mkF m 118 #[.val (.int p0), .val (.int p1), .val (.int p2), .val (.int p3), .val (.int p4), .val (.int p5), .val (.int (p1 &&& (3 : Int32))), .val (.ref a), .val (.int (Int32.ofNat cs.length)), .val (.int (2 : Int32)), .val (.int q), .val (.ref b17), .unset, .unset] [(.int (1 : Int32)), (.ref a), (.int (1 : Int32)), (.ref b17)]))
          refine GoV.st (fun _ kq_ => XS.iload X19.here hx rfl (hb hby at_118) rfl kq_) ?_
          show GoV p e below s _ _ _ (T19.setTop (mkF m 120 #[.val (.int p0), .val (.int p1), .val (.int p2), .val (.int p3), .val (.int p4), .val (.int p5), .val (.int (p1 &&& (3 : Int32))), .val (.ref a), .val (.int (Int32.ofNat cs.length)), .val (.int (2 : Int32)), .val (.int q), .val (.ref b17), .unset, .unset] [(.int q), (.int (1 : Int32)), (.ref a), (.int (1 : Int32)), (.ref b17)]))
          refine GoV.st (fun _ kq_ => XS.iloadN X19.here hx rfl (hb hby at_120) rfl kq_) ?_
          show GoV p e below s _ _ _ (T19.setTop (mkF m 121 #[.val (.int p0), .val (.int p1), .val (.int p2), .val (.int p3), .val (.int p4), .val (.int p5), .val (.int (p1 &&& (3 : Int32))), .val (.ref a), .val (.int (Int32.ofNat cs.length)), .val (.int (2 : Int32)), .val (.int q), .val (.ref b17), .unset, .unset] [(.int p3), (.int q), (.int (1 : Int32)), (.ref a), (.int (1 : Int32)), (.ref b17)]))
          refine GoV.st (fun _ kq_ => XS.iload X19.here hx rfl (hb hby at_121) rfl kq_) ?_
          show GoV p e below s _ _ _ (T19.setTop (mkF m 123 #[.val (.int p0), .val (.int p1), .val (.int p2), .val (.int p3), .val (.int p4), .val (.int p5), .val (.int (p1 &&& (3 : Int32))), .val (.ref a), .val (.int (Int32.ofNat cs.length)), .val (.int (2 : Int32)), .val (.int q), .val (.ref b17), .unset, .unset] [(.int p5), (.int p3), (.int q), (.int (1 : Int32)), (.ref a), (.int (1 : Int32)), (.ref b17)]))
          obtain ⟨_, _, ⟨T20, L20, k20, n20⟩, -, X20, ⟨Lc20, hQ20, l20, y20, z20⟩, st20⟩ := Jvm.LawKit.callS X19 hx (y := (⟨"com/example/pemmican/pemmican/DataTypeNamedPinLaw", "ch", "(Ljava/lang/String;IIII)C"⟩ : MethodName)) hown3 (mvT hZ3 (own_w hw 84 rfl)) (mvT hZ3 (own_w hw 85 rfl)) (mvT hZ3 (own_w hw 73 rfl)) (mvT hZ3 (own_w hw 86 rfl)) (by decide) (backOf (W := 2) (rmc l Z a0 hw [] a b kb N vs cs (1 : Int32) q p3 p5 zc fm h19 n0 O19 E_a F_a_coder F_a_value V_b hcB hbB hlB (by decide) SC hcs SF rf) hZ3 (own_w hw 86 rfl) (own_w hw 73 rfl) (by decide) (by decide)) (g := (mkF m 123 #[.val (.int p0), .val (.int p1), .val (.int p2), .val (.int p3), .val (.int p4), .val (.int p5), .val (.int (p1 &&& (3 : Int32))), .val (.ref a), .val (.int (Int32.ofNat cs.length)), .val (.int (2 : Int32)), .val (.int q), .val (.ref b17), .unset, .unset] [(.int p5), (.int p3), (.int q), (.int (1 : Int32)), (.ref a), (.int (1 : Int32)), (.ref b17)])) rfl (by rw [hml]; rfl) (argsL := [(.ref a), (.int (1 : Int32)), (.int q), (.int p3), (.int p5)]) (rest := [(.int (1 : Int32)), (.ref b17)]) (lenOf pd0_3 rfl) rfl (by show 2 * 0 + _ ≤ _; exact Nat.le_of_eq rfl) (hb hby at_123) (fun _ _ => ⟨rfl, e19, (by decide : 3 + 0 ≤ _), (by decide : 34 + 0 ≤ _)⟩)
          dsimp only [Pt.U, Pt.locs, Pt.cells, Pt.slots] at X20 l20 y20 z20 st20 hQ20
          subst y20 z20
          obtain ⟨r20, rfl, hr20, Nc20, e20⟩ := hQ20
          have N20 : Fr n0 L20 := by rw [l20]; exact Fr.app N19 Nc20
          refine GoV.st st20 ?_
          show GoV p e below s _ _ _ (T20.setTop (mkF m 126 #[.val (.int p0), .val (.int p1), .val (.int p2), .val (.int p3), .val (.int p4), .val (.int p5), .val (.int (p1 &&& (3 : Int32))), .val (.ref a), .val (.int (Int32.ofNat cs.length)), .val (.int (2 : Int32)), .val (.int q), .val (.ref b17), .unset, .unset] [(.int r20), (.int (1 : Int32)), (.ref b17)]))
          obtain ⟨T21, h21, X21, e21, W21, V21, st21⟩ := own_stC X20 hx hZ3 e20 V_b17 (j := (1 : Int32)) (by decide) (by decide) 1 rfl (Nat.le_of_ble_eq_true rfl) (g := (mkF m 126 #[.val (.int p0), .val (.int p1), .val (.int p2), .val (.int p3), .val (.int p4), .val (.int p5), .val (.int (p1 &&& (3 : Int32))), .val (.ref a), .val (.int (Int32.ofNat cs.length)), .val (.int (2 : Int32)), .val (.int q), .val (.ref b17), .unset, .unset] [(.int r20), (.int (1 : Int32)), (.ref b17)])) rfl rfl (hb hby at_126)
          obtain ⟨lc21, X21, N21⟩ := own_gen X21 (Fr.snoc X21 N20 g_b17)
          have O21 := O19.wr W21 g_b17
          have E_a := E_a.wr W21
          have F_a_coder := F_a_coder.other W21 (Or.inl ne_a_b17)
          have F_a_value := F_a_value.other W21 (Or.inl ne_a_b17)
          have V_b := V_b.other W21 ne_b_b17
          have C_a := C_a.other W21 ne_a_b17
          have C_b := C_b.other W21 ne_b_b17
          have hk21 := Nat.le_trans hk19 (Nat.le_of_eq W21.size.symm)
          have V_b17 : Arv Z h21 b17 k17 .char (2 : Int32) [(.int (nar .char r18)), (.int (nar .char r20))] (.int (0 : Int32)) := V21
          refine GoV.st st21 ?_
          show GoV p e below s _ _ _ (T21.setTop (mkF m 127 #[.val (.int p0), .val (.int p1), .val (.int p2), .val (.int p3), .val (.int p4), .val (.int p5), .val (.int (p1 &&& (3 : Int32))), .val (.ref a), .val (.int (Int32.ofNat cs.length)), .val (.int (2 : Int32)), .val (.int q), .val (.ref b17), .unset, .unset] []))
          refine GoV.st (fun _ kq_ => XS.iload X21.here hx rfl (hb hby at_127) rfl kq_) ?_
          show GoV p e below s _ _ _ (T21.setTop (mkF m 129 #[.val (.int p0), .val (.int p1), .val (.int p2), .val (.int p3), .val (.int p4), .val (.int p5), .val (.int (p1 &&& (3 : Int32))), .val (.ref a), .val (.int (Int32.ofNat cs.length)), .val (.int (2 : Int32)), .val (.int q), .val (.ref b17), .unset, .unset] [(.int (2 : Int32))]))
          refine GoV.st (fun _ kq_ => XS.iconst X21.here hx rfl (hb hby at_129) kq_) ?_
          show GoV p e below s _ _ _ (T21.setTop (mkF m 130 #[.val (.int p0), .val (.int p1), .val (.int p2), .val (.int p3), .val (.int p4), .val (.int p5), .val (.int (p1 &&& (3 : Int32))), .val (.ref a), .val (.int (Int32.ofNat cs.length)), .val (.int (2 : Int32)), .val (.int q), .val (.ref b17), .unset, .unset] [(.int (2 : Int32)), (.int (2 : Int32))]))
          refine GoV.st (fun _ kq_ => XS.icmpYes X21.here hx rfl (pc0 := 130) (pc' := 148) rfl (hb hby at_130) rfl (by decide) (by decide) (by decide) kq_) ?_
          show GoV p e below s _ _ _ (T21.setTop (mkF m 148 #[.val (.int p0), .val (.int p1), .val (.int p2), .val (.int p3), .val (.int p4), .val (.int p5), .val (.int (p1 &&& (3 : Int32))), .val (.ref a), .val (.int (Int32.ofNat cs.length)), .val (.int (2 : Int32)), .val (.int q), .val (.ref b17), .unset, .unset] []))
          refine GoV.st (fun _ kq_ => XS.iload X21.here hx rfl (hb hby at_148) rfl kq_) ?_
          show GoV p e below s _ _ _ (T21.setTop (mkF m 150 #[.val (.int p0), .val (.int p1), .val (.int p2), .val (.int p3), .val (.int p4), .val (.int p5), .val (.int (p1 &&& (3 : Int32))), .val (.ref a), .val (.int (Int32.ofNat cs.length)), .val (.int (2 : Int32)), .val (.int q), .val (.ref b17), .unset, .unset] [(.int (2 : Int32))]))
          refine GoV.st (fun _ kq_ => XS.iconst X21.here hx rfl (hb hby at_150) kq_) ?_
          show GoV p e below s _ _ _ (T21.setTop (mkF m 151 #[.val (.int p0), .val (.int p1), .val (.int p2), .val (.int p3), .val (.int p4), .val (.int p5), .val (.int (p1 &&& (3 : Int32))), .val (.ref a), .val (.int (Int32.ofNat cs.length)), .val (.int (2 : Int32)), .val (.int q), .val (.ref b17), .unset, .unset] [(.int (3 : Int32)), (.int (2 : Int32))]))
          refine GoV.st (fun _ kq_ => XS.icmpYes X21.here hx rfl (pc0 := 151) (pc' := 169) rfl (hb hby at_151) rfl (by decide) (by decide) (by decide) kq_) ?_
          show GoV p e below s _ _ _ (T21.setTop (mkF m 169 #[.val (.int p0), .val (.int p1), .val (.int p2), .val (.int p3), .val (.int p4), .val (.int p5), .val (.int (p1 &&& (3 : Int32))), .val (.ref a), .val (.int (Int32.ofNat cs.length)), .val (.int (2 : Int32)), .val (.int q), .val (.ref b17), .unset, .unset] []))
          refine GoV.st (fun _ kq_ => XS.iload X21.here hx rfl (hb hby at_169) rfl kq_) ?_
          show GoV p e below s _ _ _ (T21.setTop (mkF m 171 #[.val (.int p0), .val (.int p1), .val (.int p2), .val (.int p3), .val (.int p4), .val (.int p5), .val (.int (p1 &&& (3 : Int32))), .val (.ref a), .val (.int (Int32.ofNat cs.length)), .val (.int (2 : Int32)), .val (.int q), .val (.ref b17), .unset, .unset] [(.int (2 : Int32))]))
          refine GoV.st (fun _ kq_ => XS.iconst X21.here hx rfl (hb hby at_171) kq_) ?_
          show GoV p e below s _ _ _ (T21.setTop (mkF m 172 #[.val (.int p0), .val (.int p1), .val (.int p2), .val (.int p3), .val (.int p4), .val (.int p5), .val (.int (p1 &&& (3 : Int32))), .val (.ref a), .val (.int (Int32.ofNat cs.length)), .val (.int (2 : Int32)), .val (.int q), .val (.ref b17), .unset, .unset] [(.int (4 : Int32)), (.int (2 : Int32))]))
          refine GoV.st (fun _ kq_ => XS.icmpYes X21.here hx rfl (pc0 := 172) (pc' := 190) rfl (hb hby at_172) rfl (by decide) (by decide) (by decide) kq_) ?_
          show GoV p e below s _ _ _ (T21.setTop (mkF m 190 #[.val (.int p0), .val (.int p1), .val (.int p2), .val (.int p3), .val (.int p4), .val (.int p5), .val (.int (p1 &&& (3 : Int32))), .val (.ref a), .val (.int (Int32.ofNat cs.length)), .val (.int (2 : Int32)), .val (.int q), .val (.ref b17), .unset, .unset] []))
          refine GoV.st (fun _ kq_ => XS.iload X21.here hx rfl (hb hby at_190) rfl kq_) ?_
          show GoV p e below s _ _ _ (T21.setTop (mkF m 192 #[.val (.int p0), .val (.int p1), .val (.int p2), .val (.int p3), .val (.int p4), .val (.int p5), .val (.int (p1 &&& (3 : Int32))), .val (.ref a), .val (.int (Int32.ofNat cs.length)), .val (.int (2 : Int32)), .val (.int q), .val (.ref b17), .unset, .unset] [(.int (2 : Int32))]))
          refine GoV.st (fun _ kq_ => XS.iconst X21.here hx rfl (hb hby at_192) kq_) ?_
          show GoV p e below s _ _ _ (T21.setTop (mkF m 193 #[.val (.int p0), .val (.int p1), .val (.int p2), .val (.int p3), .val (.int p4), .val (.int p5), .val (.int (p1 &&& (3 : Int32))), .val (.ref a), .val (.int (Int32.ofNat cs.length)), .val (.int (2 : Int32)), .val (.int q), .val (.ref b17), .unset, .unset] [(.int (5 : Int32)), (.int (2 : Int32))]))
          refine GoV.st (fun _ kq_ => XS.icmpYes X21.here hx rfl (pc0 := 193) (pc' := 211) rfl (hb hby at_193) rfl (by decide) (by decide) (by decide) kq_) ?_
          show GoV p e below s _ _ _ (T21.setTop (mkF m 211 #[.val (.int p0), .val (.int p1), .val (.int p2), .val (.int p3), .val (.int p4), .val (.int p5), .val (.int (p1 &&& (3 : Int32))), .val (.ref a), .val (.int (Int32.ofNat cs.length)), .val (.int (2 : Int32)), .val (.int q), .val (.ref b17), .unset, .unset] []))
          refine GoV.st (fun _ kq_ => XS.iload X21.here hx rfl (hb hby at_211) rfl kq_) ?_
          show GoV p e below s _ _ _ (T21.setTop (mkF m 213 #[.val (.int p0), .val (.int p1), .val (.int p2), .val (.int p3), .val (.int p4), .val (.int p5), .val (.int (p1 &&& (3 : Int32))), .val (.ref a), .val (.int (Int32.ofNat cs.length)), .val (.int (2 : Int32)), .val (.int q), .val (.ref b17), .unset, .unset] [(.int (2 : Int32))]))
          refine GoV.st (fun _ kq_ => XS.bipush X21.here hx rfl (hb hby at_213) kq_) ?_
          show GoV p e below s _ _ _ (T21.setTop (mkF m 215 #[.val (.int p0), .val (.int p1), .val (.int p2), .val (.int p3), .val (.int p4), .val (.int p5), .val (.int (p1 &&& (3 : Int32))), .val (.ref a), .val (.int (Int32.ofNat cs.length)), .val (.int (2 : Int32)), .val (.int q), .val (.ref b17), .unset, .unset] [(.int (6 : Int32)), (.int (2 : Int32))]))
          refine GoV.st (fun _ kq_ => XS.icmpYes X21.here hx rfl (pc0 := 215) (pc' := 235) rfl (hb hby at_215) rfl (by decide) (by decide) (by decide) kq_) ?_
          show GoV p e below s _ _ _ (T21.setTop (mkF m 235 #[.val (.int p0), .val (.int p1), .val (.int p2), .val (.int p3), .val (.int p4), .val (.int p5), .val (.int (p1 &&& (3 : Int32))), .val (.ref a), .val (.int (Int32.ofNat cs.length)), .val (.int (2 : Int32)), .val (.int q), .val (.ref b17), .unset, .unset] []))
          refine GoV.st (fun _ kq_ => XS.iload X21.here hx rfl (hb hby at_235) rfl kq_) ?_
          show GoV p e below s _ _ _ (T21.setTop (mkF m 237 #[.val (.int p0), .val (.int p1), .val (.int p2), .val (.int p3), .val (.int p4), .val (.int p5), .val (.int (p1 &&& (3 : Int32))), .val (.ref a), .val (.int (Int32.ofNat cs.length)), .val (.int (2 : Int32)), .val (.int q), .val (.ref b17), .unset, .unset] [(.int (2 : Int32))]))
          refine GoV.st (fun _ kq_ => XS.bipush X21.here hx rfl (hb hby at_237) kq_) ?_
          show GoV p e below s _ _ _ (T21.setTop (mkF m 239 #[.val (.int p0), .val (.int p1), .val (.int p2), .val (.int p3), .val (.int p4), .val (.int p5), .val (.int (p1 &&& (3 : Int32))), .val (.ref a), .val (.int (Int32.ofNat cs.length)), .val (.int (2 : Int32)), .val (.int q), .val (.ref b17), .unset, .unset] [(.int (7 : Int32)), (.int (2 : Int32))]))
          refine GoV.st (fun _ kq_ => XS.icmpYes X21.here hx rfl (pc0 := 239) (pc' := 259) rfl (hb hby at_239) rfl (by decide) (by decide) (by decide) kq_) ?_
          show GoV p e below s _ _ _ (T21.setTop (mkF m 259 #[.val (.int p0), .val (.int p1), .val (.int p2), .val (.int p3), .val (.int p4), .val (.int p5), .val (.int (p1 &&& (3 : Int32))), .val (.ref a), .val (.int (Int32.ofNat cs.length)), .val (.int (2 : Int32)), .val (.int q), .val (.ref b17), .unset, .unset] []))
          obtain ⟨T22, h22, X22, e22, E22, A22, D22, -, st22⟩ := newO X21 hx hZ3 hown3 (own_w hw 23 rfl) (own_w hw 2 rfl) (own_w hw 1 rfl) e21 (g := (mkF m 259 #[.val (.int p0), .val (.int p1), .val (.int p2), .val (.int p3), .val (.int p4), .val (.int p5), .val (.int (p1 &&& (3 : Int32))), .val (.ref a), .val (.int (Int32.ofNat cs.length)), .val (.int (2 : Int32)), .val (.int q), .val (.ref b17), .unset, .unset] [])) rfl (hb hby at_259) (by decide) (by decide)
          obtain ⟨a22, g22⟩ : ∃ z, z = h21.size := ⟨_, rfl⟩
          rw [← g22] at A22 D22 st22
          have g_a22 : n0 ≤ a22 := Nat.le_trans (own_old O21) (Nat.le_of_eq g22.symm)
          have ne_a_a22 : a ≠ a22 := by rw [g22]; exact Nat.ne_of_lt E_a.lt
          have ne_b_a22 : b ≠ a22 := by rw [g22]; exact Nat.ne_of_lt V_b.lt
          have ne_b17_a22 : b17 ≠ a22 := by rw [g22]; exact Nat.ne_of_lt V_b17.lt
          have E_a := E_a.ext E22
          have F_a_coder := F_a_coder.ext E22
          have F_a_value := F_a_value.ext E22
          have V_b := V_b.ext E22
          have C_a := C_a.ext E22
          have C_b := C_b.ext E22
          have V_b17 := V_b17.ext E22
          have hk22 := Nat.le_trans hk21 E22.1
          have O22 := O21.ext E22
          have E_a22 : Exa Z h22 a22 "java/lang/String" := A22
          have F_a22_value : Fld Z h22 a22 "java/lang/String" "value" "[B" .null := D22 (Or.inr (own_w hw 4 rfl)) (ty := (.array .byte)) (by decide)
          have F_a22_coder : Fld Z h22 a22 "java/lang/String" "coder" "B" (.int (0 : Int32)) := D22 (Or.inr (own_w hw 5 rfl)) (ty := .byte) (by decide)
          refine GoV.st st22 ?_
          show GoV p e below s _ _ _ (T22.setTop (mkF m 262 #[.val (.int p0), .val (.int p1), .val (.int p2), .val (.int p3), .val (.int p4), .val (.int p5), .val (.int (p1 &&& (3 : Int32))), .val (.ref a), .val (.int (Int32.ofNat cs.length)), .val (.int (2 : Int32)), .val (.int q), .val (.ref b17), .unset, .unset] [(.ref a22)]))
          refine GoV.st (fun _ kq_ => XS.dup X22.here hx rfl (hb hby at_262) rfl rfl kq_) ?_
          show GoV p e below s _ _ _ (T22.setTop (mkF m 263 #[.val (.int p0), .val (.int p1), .val (.int p2), .val (.int p3), .val (.int p4), .val (.int p5), .val (.int (p1 &&& (3 : Int32))), .val (.ref a), .val (.int (Int32.ofNat cs.length)), .val (.int (2 : Int32)), .val (.int q), .val (.ref b17), .unset, .unset] [(.ref a22), (.ref a22)]))
          refine GoV.st (fun _ kq_ => XS.aload X22.here hx rfl (hb hby at_263) rfl rfl kq_) ?_
          show GoV p e below s _ _ _ (T22.setTop (mkF m 265 #[.val (.int p0), .val (.int p1), .val (.int p2), .val (.int p3), .val (.int p4), .val (.int p5), .val (.int (p1 &&& (3 : Int32))), .val (.ref a), .val (.int (Int32.ofNat cs.length)), .val (.int (2 : Int32)), .val (.int q), .val (.ref b17), .unset, .unset] [(.ref b17), (.ref a22), (.ref a22)]))
          have hp : ∀ z ∈ ([(nar .char r18), (nar .char r20)] : List Int32), ¬ z < 0 ∧ ¬ (255 : Int32) < z := by
            intro z hz
            simp only [List.mem_cons, List.not_mem_nil, or_false] at hz
            rcases hz with rfl | rfl
            · exact (by rw [own_nc hr18]; exact hr18)
            · exact (by rw [own_nc hr20]; exact hr20)
          obtain ⟨_, _, ⟨T23, L23, k23, n23⟩, -, X23, ⟨Lc23, hQ23, l23, y23, z23⟩, st23⟩ := X22.specialBack hx (y := (⟨"java/lang/String", "<init>", "([C)V"⟩ : MethodName)) rfl hown3 (mvT hZ3 (own_w hw 24 rfl)) (mvT hZ3 (own_w hw 25 rfl)) (mvT hZ3 (own_w hw 26 rfl)) (by decide) (StrChars.Road.backV (W := 1) hZ3 hws (kI := 4) (own_w hw 2 rfl) (cs := ([(nar .char r18), (nar .char r20)] : List Int32)) (bs := ([(nar .char r18), (nar .char r20)] : List Int32).map (fun c => c.toInt8.toInt32)) (n := 2) g_a22 (own_old O22) E_a22 F_a22_value F_a22_coder V_b17 (SC.ext O22.2) hcs rfl rfl (by decide) (by decide) hp rfl (by decide) (by decide)) (g := (mkF m 265 #[.val (.int p0), .val (.int p1), .val (.int p2), .val (.int p3), .val (.int p4), .val (.int p5), .val (.int (p1 &&& (3 : Int32))), .val (.ref a), .val (.int (Int32.ofNat cs.length)), .val (.int (2 : Int32)), .val (.int q), .val (.ref b17), .unset, .unset] [(.ref b17), (.ref a22), (.ref a22)])) rfl (by rw [hml]; rfl) (Steps.refl _) (a := a22) (argsL := [(.ref b17)]) (rest := [(.ref a22)]) (lenOf pd0_2 rfl) rfl (by show 2 * 0 + _ ≤ _; exact Nat.le_of_eq rfl) (hb hby at_265) (fun _ _ => ⟨rfl, e22, (by decide : 4 + 1 ≤ _), (by decide : 38 + 2 ≤ _)⟩)
          dsimp only [Pt.U, Pt.locs, Pt.cells, Pt.slots] at X23 l23 y23 z23 st23 hQ23
          subst y23 z23
          obtain ⟨rfl, Nc23, Kc23, NE, NC, t23, kt23, gt23, szt23, -, NV, NB⟩ := hQ23
          have N23 : Fr n0 L23 := by rw [l23]; exact Fr.app N21 Nc23
          have E_a := E_a.keep Kc23
          have F_a_coder := F_a_coder.keep Kc23 (ninS ne_a_a22 nin0)
          have F_a_value := F_a_value.keep Kc23 (ninS ne_a_a22 nin0)
          have V_b := V_b.keep Kc23 (ninS ne_b_a22 nin0)
          have C_a := C_a.keep Kc23 (ninS ne_a_a22 nin0)
          have C_b := C_b.keep Kc23 (ninS ne_b_a22 nin0)
          have V_b17 := V_b17.keep Kc23 (ninS ne_b17_a22 nin0)
          have hk23 := Nat.le_trans hk22 Kc23.1
          have O23 := O22.keep Kc23 (allS g_a22 all0)
          have E_a22 : Exa Z T23.heap a22 "java/lang/String" := NE
          have F_a22_coder : Fld Z T23.heap a22 "java/lang/String" "coder" "B" (.int (0 : Int32)) := NC
          have F_a22_value : Fld Z T23.heap a22 "java/lang/String" "value" "[B" (.ref t23) := NV
          have V_t23 : Arv Z T23.heap t23 kt23 .byte (2 : Int32) ((([(nar .char r18), (nar .char r20)] : List Int32).map (fun c => c.toInt8.toInt32)).map Value.int) (.int (0 : Int32)) := NB
          refine GoV.tr st23 ?_
          show GoV p e below s _ _ _ (T23.setTop (mkF m 268 #[.val (.int p0), .val (.int p1), .val (.int p2), .val (.int p3), .val (.int p4), .val (.int p5), .val (.int (p1 &&& (3 : Int32))), .val (.ref a), .val (.int (Int32.ofNat cs.length)), .val (.int (2 : Int32)), .val (.int q), .val (.ref b17), .unset, .unset] [(.ref a22)]))
          exact JX a22 t23 _ _ _ ([(nar .char r18), (nar .char r20)] : List Int32) (2 : Int32) b17 _ (vm3) _ _ _ _ (X23.mono (by decide) (by decide)) rfl N23 O23 hS3 hk23 hZ3 hown3 I3 E_a F_a_coder F_a_value V_b C_a C_b E_a22 F_a22_coder F_a22_value V_t23 (StrChars.Road.codOf (n := 2) rfl (fun c hc => (hp c hc).2)) (own_up hp) (Nat.le_of_ble_eq_true rfl) (fun q hq => Or.inl (List.mem_singleton.mp hq))
        · show GoV p e below s _ _ _ (T3.setTop (mkF m 80 #[.val (.int p0), .val (.int p1), .val (.int p2), .val (.int p3), .val (.int p4), .val (.int p5), .val (.int (p1 &&& (3 : Int32))), .val (.ref a), .val (.int (Int32.ofNat cs.length)), .val (.int (3 : Int32)), .val (.int q), .unset, .unset, .unset] []))
          refine GoV.st (fun _ kq_ => XS.iload X3.here hx rfl (hb hby at_80) rfl kq_) ?_
          show GoV p e below s _ _ _ (T3.setTop (mkF m 82 #[.val (.int p0), .val (.int p1), .val (.int p2), .val (.int p3), .val (.int p4), .val (.int p5), .val (.int (p1 &&& (3 : Int32))), .val (.ref a), .val (.int (Int32.ofNat cs.length)), .val (.int (3 : Int32)), .val (.int q), .unset, .unset, .unset] [(.int (3 : Int32))]))
          obtain ⟨T24, h24, k24, X24, e24, E24, A24, st24⟩ := newP X3 hx hZ3 (own_w hw 22 rfl) e3 (g := (mkF m 82 #[.val (.int p0), .val (.int p1), .val (.int p2), .val (.int p3), .val (.int p4), .val (.int p5), .val (.int (p1 &&& (3 : Int32))), .val (.ref a), .val (.int (Int32.ofNat cs.length)), .val (.int (3 : Int32)), .val (.int q), .unset, .unset, .unset] [(.int (3 : Int32))])) rfl (hb hby at_82) rfl (by decide) (cap := 3) (by decide) (by decide) (by decide) (by decide)
          obtain ⟨b24, g24⟩ : ∃ z, z = h3.size := ⟨_, rfl⟩
          rw [← g24] at A24 st24
          have g_b24 : n0 ≤ b24 := Nat.le_trans (own_old O3) (Nat.le_of_eq g24.symm)
          have ne_a_b24 : a ≠ b24 := by rw [g24]; exact Nat.ne_of_lt E_a.lt
          have ne_b_b24 : b ≠ b24 := by rw [g24]; exact Nat.ne_of_lt V_b.lt
          have E_a := E_a.ext E24
          have F_a_coder := F_a_coder.ext E24
          have F_a_value := F_a_value.ext E24
          have V_b := V_b.ext E24
          have C_a := C_a.ext E24
          have C_b := C_b.ext E24
          have hk24 := Nat.le_trans hk3 E24.1
          have O24 := O3.ext E24
          have V_b24 : Arv Z h24 b24 k24 .char (3 : Int32) [(.int (0 : Int32)), (.int (0 : Int32)), (.int (0 : Int32))] (.int (0 : Int32)) := (Arv.new A24 (by decide)).pad (pad_rep [] (.int (0 : Int32)) 3)
          refine GoV.st st24 ?_
          show GoV p e below s _ _ _ (T24.setTop (mkF m 84 #[.val (.int p0), .val (.int p1), .val (.int p2), .val (.int p3), .val (.int p4), .val (.int p5), .val (.int (p1 &&& (3 : Int32))), .val (.ref a), .val (.int (Int32.ofNat cs.length)), .val (.int (3 : Int32)), .val (.int q), .unset, .unset, .unset] [(.ref b24)]))
          refine GoV.st (fun _ kq_ => XS.astore X24.here hx rfl (hb hby at_84) rfl rfl (l' := #[.val (.int p0), .val (.int p1), .val (.int p2), .val (.int p3), .val (.int p4), .val (.int p5), .val (.int (p1 &&& (3 : Int32))), .val (.ref a), .val (.int (Int32.ofNat cs.length)), .val (.int (3 : Int32)), .val (.int q), .val (.ref b24), .unset, .unset]) rfl kq_) ?_
          show GoV p e below s _ _ _ (T24.setTop (mkF m 86 #[.val (.int p0), .val (.int p1), .val (.int p2), .val (.int p3), .val (.int p4), .val (.int p5), .val (.int (p1 &&& (3 : Int32))), .val (.ref a), .val (.int (Int32.ofNat cs.length)), .val (.int (3 : Int32)), .val (.int q), .val (.ref b24), .unset, .unset] []))
          refine GoV.st (fun _ kq_ => XS.iload X24.here hx rfl (hb hby at_86) rfl kq_) ?_
          show GoV p e below s _ _ _ (T24.setTop (mkF m 88 #[.val (.int p0), .val (.int p1), .val (.int p2), .val (.int p3), .val (.int p4), .val (.int p5), .val (.int (p1 &&& (3 : Int32))), .val (.ref a), .val (.int (Int32.ofNat cs.length)), .val (.int (3 : Int32)), .val (.int q), .val (.ref b24), .unset, .unset] [(.int (3 : Int32))]))
          refine GoV.st (fun _ kq_ => XS.ifNo X24.here hx rfl (hb hby at_88) rfl (by decide) kq_) ?_
          show GoV p e below s _ _ _ (T24.setTop (mkF m 91 #[.val (.int p0), .val (.int p1), .val (.int p2), .val (.int p3), .val (.int p4), .val (.int p5), .val (.int (p1 &&& (3 : Int32))), .val (.ref a), .val (.int (Int32.ofNat cs.length)), .val (.int (3 : Int32)), .val (.int q), .val (.ref b24), .unset, .unset] []))
          refine GoV.st (fun _ kq_ => XS.aload X24.here hx rfl (hb hby at_91) rfl rfl kq_) ?_
          show GoV p e below s _ _ _ (T24.setTop (mkF m 93 #[.val (.int p0), .val (.int p1), .val (.int p2), .val (.int p3), .val (.int p4), .val (.int p5), .val (.int (p1 &&& (3 : Int32))), .val (.ref a), .val (.int (Int32.ofNat cs.length)), .val (.int (3 : Int32)), .val (.int q), .val (.ref b24), .unset, .unset] [(.ref b24)]))
          refine GoV.st (fun _ kq_ => XS.iconst X24.here hx rfl (hb hby at_93) kq_) ?_
          show GoV p e below s _ _ _ (T24.setTop (mkF m 94 #[.val (.int p0), .val (.int p1), .val (.int p2), .val (.int p3), .val (.int p4), .val (.int p5), .val (.int (p1 &&& (3 : Int32))), .val (.ref a), .val (.int (Int32.ofNat cs.length)), .val (.int (3 : Int32)), .val (.int q), .val (.ref b24), .unset, .unset] [(.int (0 : Int32)), (.ref b24)]))
          refine GoV.st (fun _ kq_ => XS.aload X24.here hx rfl (hb hby at_94) rfl rfl kq_) ?_
          show GoV p e below s _ _ _ (T24.setTop (mkF m 96 #[.val (.int p0), .val (.int p1), .val (.int p2), .val (.int p3), .val (.int p4), .val (.int p5), .val (.int (p1 &&& (3 : Int32))), .val (.ref a), .val (.int (Int32.ofNat cs.length)), .val (.int (3 : Int32)), .val (.int q), .val (.ref b24), .unset, .unset] [(.ref a), (.int (0 : Int32)), (.ref b24)]))
          refine GoV.st (fun _ kq_ => XS.iconst X24.here hx rfl (hb hby at_96) kq_) ?_
          show GoV p e below s _ _ _ (T24.setTop (mkF m 97 #[.val (.int p0), .val (.int p1), .val (.int p2), .val (.int p3), .val (.int p4), .val (.int p5), .val (.int (p1 &&& (3 : Int32))), .val (.ref a), .val (.int (Int32.ofNat cs.length)), .val (.int (3 : Int32)), .val (.int q), .val (.ref b24), .unset, .unset] [(.int (0 : Int32)), (.ref a), (.int (0 : Int32)), (.ref b24)]))
          refine GoV.st (fun _ kq_ => XS.iload X24.here hx rfl (hb hby at_97) rfl kq_) ?_
          show GoV p e below s _ _ _ (T24.setTop (mkF m 99 #[.val (.int p0), .val (.int p1), .val (.int p2), .val (.int p3), .val (.int p4), .val (.int p5), .val (.int (p1 &&& (3 : Int32))), .val (.ref a), .val (.int (Int32.ofNat cs.length)), .val (.int (3 : Int32)), .val (.int q), .val (.ref b24), .unset, .unset] [(.int q), (.int (0 : Int32)), (.ref a), (.int (0 : Int32)), (.ref b24)]))
          refine GoV.st (fun _ kq_ => XS.iloadN X24.here hx rfl (hb hby at_99) rfl kq_) ?_
          show GoV p e below s _ _ _ (T24.setTop (mkF m 100 #[.val (.int p0), .val (.int p1), .val (.int p2), .val (.int p3), .val (.int p4), .val (.int p5), .val (.int (p1 &&& (3 : Int32))), .val (.ref a), .val (.int (Int32.ofNat cs.length)), .val (.int (3 : Int32)), .val (.int q), .val (.ref b24), .unset, .unset] [(.int p3), (.int q), (.int (0 : Int32)), (.ref a), (.int (0 : Int32)), (.ref b24)]))
          refine GoV.st (fun _ kq_ => XS.iload X24.here hx rfl (hb hby at_100) rfl kq_) ?_
          show GoV p e below s _ _ _ (T24.setTop (mkF m 102 #[.val (.int p0), .val (.int p1), .val (.int p2), .val (.int p3), .val (.int p4), .val (.int p5), .val (.int (p1 &&& (3 : Int32))), .val (.ref a), .val (.int (Int32.ofNat cs.length)), .val (.int (3 : Int32)), .val (.int q), .val (.ref b24), .unset, .unset] [(.int p5), (.int p3), (.int q), (.int (0 : Int32)), (.ref a), (.int (0 : Int32)), (.ref b24)]))
          obtain ⟨_, _, ⟨T25, L25, k25, n25⟩, -, X25, ⟨Lc25, hQ25, l25, y25, z25⟩, st25⟩ := Jvm.LawKit.callS X24 hx (y := (⟨"com/example/pemmican/pemmican/DataTypeNamedPinLaw", "ch", "(Ljava/lang/String;IIII)C"⟩ : MethodName)) hown3 (mvT hZ3 (own_w hw 84 rfl)) (mvT hZ3 (own_w hw 85 rfl)) (mvT hZ3 (own_w hw 73 rfl)) (mvT hZ3 (own_w hw 86 rfl)) (by decide) (backOf (W := 2) (rmc l Z a0 hw [] a b kb N vs cs (0 : Int32) q p3 p5 zc fm h24 n0 O24 E_a F_a_coder F_a_value V_b hcB hbB hlB (by decide) SC hcs SF rf) hZ3 (own_w hw 86 rfl) (own_w hw 73 rfl) (by decide) (by decide)) (g := (mkF m 102 #[.val (.int p0), .val (.int p1), .val (.int p2), .val (.int p3), .val (.int p4), .val (.int p5), .val (.int (p1 &&& (3 : Int32))), .val (.ref a), .val (.int (Int32.ofNat cs.length)), .val (.int (3 : Int32)), .val (.int q), .val (.ref b24), .unset, .unset] [(.int p5), (.int p3), (.int q), (.int (0 : Int32)), (.ref a), (.int (0 : Int32)), (.ref b24)])) rfl (by rw [hml]; rfl) (argsL := [(.ref a), (.int (0 : Int32)), (.int q), (.int p3), (.int p5)]) (rest := [(.int (0 : Int32)), (.ref b24)]) (lenOf pd0_3 rfl) rfl (by show 2 * 0 + _ ≤ _; exact Nat.le_of_eq rfl) (hb hby at_102) (fun _ _ => ⟨rfl, e24, (by decide : 3 + 0 ≤ _), (by decide : 35 + 0 ≤ _)⟩)
          dsimp only [Pt.U, Pt.locs, Pt.cells, Pt.slots] at X25 l25 y25 z25 st25 hQ25
          subst y25 z25
          obtain ⟨r25, rfl, hr25, Nc25, e25⟩ := hQ25
          have N25 : Fr n0 L25 := by rw [l25]; exact Fr.app N3 Nc25
          refine GoV.st st25 ?_
          show GoV p e below s _ _ _ (T25.setTop (mkF m 105 #[.val (.int p0), .val (.int p1), .val (.int p2), .val (.int p3), .val (.int p4), .val (.int p5), .val (.int (p1 &&& (3 : Int32))), .val (.ref a), .val (.int (Int32.ofNat cs.length)), .val (.int (3 : Int32)), .val (.int q), .val (.ref b24), .unset, .unset] [(.int r25), (.int (0 : Int32)), (.ref b24)]))
          obtain ⟨T26, h26, X26, e26, W26, V26, st26⟩ := own_stC X25 hx hZ3 e25 V_b24 (j := (0 : Int32)) (by decide) (by decide) 0 rfl (Nat.le_of_ble_eq_true rfl) (g := (mkF m 105 #[.val (.int p0), .val (.int p1), .val (.int p2), .val (.int p3), .val (.int p4), .val (.int p5), .val (.int (p1 &&& (3 : Int32))), .val (.ref a), .val (.int (Int32.ofNat cs.length)), .val (.int (3 : Int32)), .val (.int q), .val (.ref b24), .unset, .unset] [(.int r25), (.int (0 : Int32)), (.ref b24)])) rfl rfl (hb hby at_105)
          obtain ⟨lc26, X26, N26⟩ := own_gen X26 (Fr.snoc X26 N25 g_b24)
          have O26 := O24.wr W26 g_b24
          have E_a := E_a.wr W26
          have F_a_coder := F_a_coder.other W26 (Or.inl ne_a_b24)
          have F_a_value := F_a_value.other W26 (Or.inl ne_a_b24)
          have V_b := V_b.other W26 ne_b_b24
          have C_a := C_a.other W26 ne_a_b24
          have C_b := C_b.other W26 ne_b_b24
          have hk26 := Nat.le_trans hk24 (Nat.le_of_eq W26.size.symm)
          have V_b24 : Arv Z h26 b24 k24 .char (3 : Int32) [(.int (nar .char r25)), (.int (0 : Int32)), (.int (0 : Int32))] (.int (0 : Int32)) := V26
          refine GoV.st st26 ?_
          show GoV p e below s _ _ _ (T26.setTop (mkF m 106 #[.val (.int p0), .val (.int p1), .val (.int p2), .val (.int p3), .val (.int p4), .val (.int p5), .val (.int (p1 &&& (3 : Int32))), .val (.ref a), .val (.int (Int32.ofNat cs.length)), .val (.int (3 : Int32)), .val (.int q), .val (.ref b24), .unset, .unset] []))
          refine GoV.st (fun _ kq_ => XS.iload X26.here hx rfl (hb hby at_106) rfl kq_) ?_
          show GoV p e below s _ _ _ (T26.setTop (mkF m 108 #[.val (.int p0), .val (.int p1), .val (.int p2), .val (.int p3), .val (.int p4), .val (.int p5), .val (.int (p1 &&& (3 : Int32))), .val (.ref a), .val (.int (Int32.ofNat cs.length)), .val (.int (3 : Int32)), .val (.int q), .val (.ref b24), .unset, .unset] [(.int (3 : Int32))]))
          refine GoV.st (fun _ kq_ => XS.iconst X26.here hx rfl (hb hby at_108) kq_) ?_
          show GoV p e below s _ _ _ (T26.setTop (mkF m 109 #[.val (.int p0), .val (.int p1), .val (.int p2), .val (.int p3), .val (.int p4), .val (.int p5), .val (.int (p1 &&& (3 : Int32))), .val (.ref a), .val (.int (Int32.ofNat cs.length)), .val (.int (3 : Int32)), .val (.int q), .val (.ref b24), .unset, .unset] [(.int (1 : Int32)), (.int (3 : Int32))]))
          refine GoV.st (fun _ kq_ => XS.icmpNo X26.here hx rfl (hb hby at_109) rfl (by decide) kq_) ?_
          show GoV p e below s _ _ _ (T26.setTop (mkF m 112 #[.val (.int p0), .val (.int p1), .val (.int p2), .val (.int p3), .val (.int p4), .val (.int p5), .val (.int (p1 &&& (3 : Int32))), .val (.ref a), .val (.int (Int32.ofNat cs.length)), .val (.int (3 : Int32)), .val (.int q), .val (.ref b24), .unset, .unset] []))
          refine GoV.st (fun _ kq_ => XS.aload X26.here hx rfl (hb hby at_112) rfl rfl kq_) ?_
          show GoV p e below s _ _ _ (T26.setTop (mkF m 114 #[.val (.int p0), .val (.int p1), .val (.int p2), .val (.int p3), .val (.int p4), .val (.int p5), .val (.int (p1 &&& (3 : Int32))), .val (.ref a), .val (.int (Int32.ofNat cs.length)), .val (.int (3 : Int32)), .val (.int q), .val (.ref b24), .unset, .unset] [(.ref b24)]))
          refine GoV.st (fun _ kq_ => XS.iconst X26.here hx rfl (hb hby at_114) kq_) ?_
          show GoV p e below s _ _ _ (T26.setTop (mkF m 115 #[.val (.int p0), .val (.int p1), .val (.int p2), .val (.int p3), .val (.int p4), .val (.int p5), .val (.int (p1 &&& (3 : Int32))), .val (.ref a), .val (.int (Int32.ofNat cs.length)), .val (.int (3 : Int32)), .val (.int q), .val (.ref b24), .unset, .unset] [(.int (1 : Int32)), (.ref b24)]))
          refine GoV.st (fun _ kq_ => XS.aload X26.here hx rfl (hb hby at_115) rfl rfl kq_) ?_
          show GoV p e below s _ _ _ (T26.setTop (mkF m 117 #[.val (.int p0), .val (.int p1), .val (.int p2), .val (.int p3), .val (.int p4), .val (.int p5), .val (.int (p1 &&& (3 : Int32))), .val (.ref a), .val (.int (Int32.ofNat cs.length)), .val (.int (3 : Int32)), .val (.int q), .val (.ref b24), .unset, .unset] [(.ref a), (.int (1 : Int32)), (.ref b24)]))
          refine GoV.st (fun _ kq_ => XS.iconst X26.here hx rfl (hb hby at_117) kq_) ?_
          show GoV p e below s _ _ _ (T26.setTop (mkF m 118 #[.val (.int p0), .val (.int p1), .val (.int p2), .val (.int p3), .val (.int p4), .val (.int p5), .val (.int (p1 &&& (3 : Int32))), .val (.ref a), .val (.int (Int32.ofNat cs.length)), .val (.int (3 : Int32)), .val (.int q), .val (.ref b24), .unset, .unset] [(.int (1 : Int32)), (.ref a), (.int (1 : Int32)), (.ref b24)]))
          refine GoV.st (fun _ kq_ => XS.iload X26.here hx rfl (hb hby at_118) rfl kq_) ?_
          show GoV p e below s _ _ _ (T26.setTop (mkF m 120 #[.val (.int p0), .val (.int p1), .val (.int p2), .val (.int p3), .val (.int p4), .val (.int p5), .val (.int (p1 &&& (3 : Int32))), .val (.ref a), .val (.int (Int32.ofNat cs.length)), .val (.int (3 : Int32)), .val (.int q), .val (.ref b24), .unset, .unset] [(.int q), (.int (1 : Int32)), (.ref a), (.int (1 : Int32)), (.ref b24)]))
          refine GoV.st (fun _ kq_ => XS.iloadN X26.here hx rfl (hb hby at_120) rfl kq_) ?_
          show GoV p e below s _ _ _ (T26.setTop (mkF m 121 #[.val (.int p0), .val (.int p1), .val (.int p2), .val (.int p3), .val (.int p4), .val (.int p5), .val (.int (p1 &&& (3 : Int32))), .val (.ref a), .val (.int (Int32.ofNat cs.length)), .val (.int (3 : Int32)), .val (.int q), .val (.ref b24), .unset, .unset] [(.int p3), (.int q), (.int (1 : Int32)), (.ref a), (.int (1 : Int32)), (.ref b24)]))
          refine GoV.st (fun _ kq_ => XS.iload X26.here hx rfl (hb hby at_121) rfl kq_) ?_
          show GoV p e below s _ _ _ (T26.setTop (mkF m 123 #[.val (.int p0), .val (.int p1), .val (.int p2), .val (.int p3), .val (.int p4), .val (.int p5), .val (.int (p1 &&& (3 : Int32))), .val (.ref a), .val (.int (Int32.ofNat cs.length)), .val (.int (3 : Int32)), .val (.int q), .val (.ref b24), .unset, .unset] [(.int p5), (.int p3), (.int q), (.int (1 : Int32)), (.ref a), (.int (1 : Int32)), (.ref b24)]))
          obtain ⟨_, _, ⟨T27, L27, k27, n27⟩, -, X27, ⟨Lc27, hQ27, l27, y27, z27⟩, st27⟩ := Jvm.LawKit.callS X26 hx (y := (⟨"com/example/pemmican/pemmican/DataTypeNamedPinLaw", "ch", "(Ljava/lang/String;IIII)C"⟩ : MethodName)) hown3 (mvT hZ3 (own_w hw 84 rfl)) (mvT hZ3 (own_w hw 85 rfl)) (mvT hZ3 (own_w hw 73 rfl)) (mvT hZ3 (own_w hw 86 rfl)) (by decide) (backOf (W := 2) (rmc l Z a0 hw [] a b kb N vs cs (1 : Int32) q p3 p5 zc fm h26 n0 O26 E_a F_a_coder F_a_value V_b hcB hbB hlB (by decide) SC hcs SF rf) hZ3 (own_w hw 86 rfl) (own_w hw 73 rfl) (by decide) (by decide)) (g := (mkF m 123 #[.val (.int p0), .val (.int p1), .val (.int p2), .val (.int p3), .val (.int p4), .val (.int p5), .val (.int (p1 &&& (3 : Int32))), .val (.ref a), .val (.int (Int32.ofNat cs.length)), .val (.int (3 : Int32)), .val (.int q), .val (.ref b24), .unset, .unset] [(.int p5), (.int p3), (.int q), (.int (1 : Int32)), (.ref a), (.int (1 : Int32)), (.ref b24)])) rfl (by rw [hml]; rfl) (argsL := [(.ref a), (.int (1 : Int32)), (.int q), (.int p3), (.int p5)]) (rest := [(.int (1 : Int32)), (.ref b24)]) (lenOf pd0_3 rfl) rfl (by show 2 * 0 + _ ≤ _; exact Nat.le_of_eq rfl) (hb hby at_123) (fun _ _ => ⟨rfl, e26, (by decide : 3 + 0 ≤ _), (by decide : 35 + 0 ≤ _)⟩)
          dsimp only [Pt.U, Pt.locs, Pt.cells, Pt.slots] at X27 l27 y27 z27 st27 hQ27
          subst y27 z27
          obtain ⟨r27, rfl, hr27, Nc27, e27⟩ := hQ27
          have N27 : Fr n0 L27 := by rw [l27]; exact Fr.app N26 Nc27
          refine GoV.st st27 ?_
          show GoV p e below s _ _ _ (T27.setTop (mkF m 126 #[.val (.int p0), .val (.int p1), .val (.int p2), .val (.int p3), .val (.int p4), .val (.int p5), .val (.int (p1 &&& (3 : Int32))), .val (.ref a), .val (.int (Int32.ofNat cs.length)), .val (.int (3 : Int32)), .val (.int q), .val (.ref b24), .unset, .unset] [(.int r27), (.int (1 : Int32)), (.ref b24)]))
          obtain ⟨T28, h28, X28, e28, W28, V28, st28⟩ := own_stC X27 hx hZ3 e27 V_b24 (j := (1 : Int32)) (by decide) (by decide) 1 rfl (Nat.le_of_ble_eq_true rfl) (g := (mkF m 126 #[.val (.int p0), .val (.int p1), .val (.int p2), .val (.int p3), .val (.int p4), .val (.int p5), .val (.int (p1 &&& (3 : Int32))), .val (.ref a), .val (.int (Int32.ofNat cs.length)), .val (.int (3 : Int32)), .val (.int q), .val (.ref b24), .unset, .unset] [(.int r27), (.int (1 : Int32)), (.ref b24)])) rfl rfl (hb hby at_126)
          obtain ⟨lc28, X28, N28⟩ := own_gen X28 (Fr.snoc X28 N27 g_b24)
          have O28 := O26.wr W28 g_b24
          have E_a := E_a.wr W28
          have F_a_coder := F_a_coder.other W28 (Or.inl ne_a_b24)
          have F_a_value := F_a_value.other W28 (Or.inl ne_a_b24)
          have V_b := V_b.other W28 ne_b_b24
          have C_a := C_a.other W28 ne_a_b24
          have C_b := C_b.other W28 ne_b_b24
          have hk28 := Nat.le_trans hk26 (Nat.le_of_eq W28.size.symm)
          have V_b24 : Arv Z h28 b24 k24 .char (3 : Int32) [(.int (nar .char r25)), (.int (nar .char r27)), (.int (0 : Int32))] (.int (0 : Int32)) := V28
          refine GoV.st st28 ?_
          show GoV p e below s _ _ _ (T28.setTop (mkF m 127 #[.val (.int p0), .val (.int p1), .val (.int p2), .val (.int p3), .val (.int p4), .val (.int p5), .val (.int (p1 &&& (3 : Int32))), .val (.ref a), .val (.int (Int32.ofNat cs.length)), .val (.int (3 : Int32)), .val (.int q), .val (.ref b24), .unset, .unset] []))
          refine GoV.st (fun _ kq_ => XS.iload X28.here hx rfl (hb hby at_127) rfl kq_) ?_
          show GoV p e below s _ _ _ (T28.setTop (mkF m 129 #[.val (.int p0), .val (.int p1), .val (.int p2), .val (.int p3), .val (.int p4), .val (.int p5), .val (.int (p1 &&& (3 : Int32))), .val (.ref a), .val (.int (Int32.ofNat cs.length)), .val (.int (3 : Int32)), .val (.int q), .val (.ref b24), .unset, .unset] [(.int (3 : Int32))]))
          refine GoV.st (fun _ kq_ => XS.iconst X28.here hx rfl (hb hby at_129) kq_) ?_
          show GoV p e below s _ _ _ (T28.setTop (mkF m 130 #[.val (.int p0), .val (.int p1), .val (.int p2), .val (.int p3), .val (.int p4), .val (.int p5), .val (.int (p1 &&& (3 : Int32))), .val (.ref a), .val (.int (Int32.ofNat cs.length)), .val (.int (3 : Int32)), .val (.int q), .val (.ref b24), .unset, .unset] [(.int (2 : Int32)), (.int (3 : Int32))]))
          refine GoV.st (fun _ kq_ => XS.icmpNo X28.here hx rfl (hb hby at_130) rfl (by decide) kq_) ?_
          show GoV p e below s _ _ _ (T28.setTop (mkF m 133 #[.val (.int p0), .val (.int p1), .val (.int p2), .val (.int p3), .val (.int p4), .val (.int p5), .val (.int (p1 &&& (3 : Int32))), .val (.ref a), .val (.int (Int32.ofNat cs.length)), .val (.int (3 : Int32)), .val (.int q), .val (.ref b24), .unset, .unset] []))
          refine GoV.st (fun _ kq_ => XS.aload X28.here hx rfl (hb hby at_133) rfl rfl kq_) ?_
          show GoV p e below s _ _ _ (T28.setTop (mkF m 135 #[.val (.int p0), .val (.int p1), .val (.int p2), .val (.int p3), .val (.int p4), .val (.int p5), .val (.int (p1 &&& (3 : Int32))), .val (.ref a), .val (.int (Int32.ofNat cs.length)), .val (.int (3 : Int32)), .val (.int q), .val (.ref b24), .unset, .unset] [(.ref b24)]))
          refine GoV.st (fun _ kq_ => XS.iconst X28.here hx rfl (hb hby at_135) kq_) ?_
          show GoV p e below s _ _ _ (T28.setTop (mkF m 136 #[.val (.int p0), .val (.int p1), .val (.int p2), .val (.int p3), .val (.int p4), .val (.int p5), .val (.int (p1 &&& (3 : Int32))), .val (.ref a), .val (.int (Int32.ofNat cs.length)), .val (.int (3 : Int32)), .val (.int q), .val (.ref b24), .unset, .unset] [(.int (2 : Int32)), (.ref b24)]))
          refine GoV.st (fun _ kq_ => XS.aload X28.here hx rfl (hb hby at_136) rfl rfl kq_) ?_
          show GoV p e below s _ _ _ (T28.setTop (mkF m 138 #[.val (.int p0), .val (.int p1), .val (.int p2), .val (.int p3), .val (.int p4), .val (.int p5), .val (.int (p1 &&& (3 : Int32))), .val (.ref a), .val (.int (Int32.ofNat cs.length)), .val (.int (3 : Int32)), .val (.int q), .val (.ref b24), .unset, .unset] [(.ref a), (.int (2 : Int32)), (.ref b24)]))
          refine GoV.st (fun _ kq_ => XS.iconst X28.here hx rfl (hb hby at_138) kq_) ?_
          show GoV p e below s _ _ _ (T28.setTop (mkF m 139 #[.val (.int p0), .val (.int p1), .val (.int p2), .val (.int p3), .val (.int p4), .val (.int p5), .val (.int (p1 &&& (3 : Int32))), .val (.ref a), .val (.int (Int32.ofNat cs.length)), .val (.int (3 : Int32)), .val (.int q), .val (.ref b24), .unset, .unset] [(.int (2 : Int32)), (.ref a), (.int (2 : Int32)), (.ref b24)]))
          refine GoV.st (fun _ kq_ => XS.iload X28.here hx rfl (hb hby at_139) rfl kq_) ?_
          show GoV p e below s _ _ _ (T28.setTop (mkF m 141 #[.val (.int p0), .val (.int p1), .val (.int p2), .val (.int p3), .val (.int p4), .val (.int p5), .val (.int (p1 &&& (3 : Int32))), .val (.ref a), .val (.int (Int32.ofNat cs.length)), .val (.int (3 : Int32)), .val (.int q), .val (.ref b24), .unset, .unset] [(.int q), (.int (2 : Int32)), (.ref a), (.int (2 : Int32)), (.ref b24)]))
          refine GoV.st (fun _ kq_ => XS.iloadN X28.here hx rfl (hb hby at_141) rfl kq_) ?_
          show GoV p e below s _ _ _ (T28.setTop (mkF m 142 #[.val (.int p0), .val (.int p1), .val (.int p2), .val (.int p3), .val (.int p4), .val (.int p5), .val (.int (p1 &&& (3 : Int32))), .val (.ref a), .val (.int (Int32.ofNat cs.length)), .val (.int (3 : Int32)), .val (.int q), .val (.ref b24), .unset, .unset] [(.int p3), (.int q), (.int (2 : Int32)), (.ref a), (.int (2 : Int32)), (.ref b24)]))
          refine GoV.st (fun _ kq_ => XS.iload X28.here hx rfl (hb hby at_142) rfl kq_) ?_
          show GoV p e below s _ _ _ (T28.setTop (mkF m 144 #[.val (.int p0), .val (.int p1), .val (.int p2), .val (.int p3), .val (.int p4), .val (.int p5), .val (.int (p1 &&& (3 : Int32))), .val (.ref a), .val (.int (Int32.ofNat cs.length)), .val (.int (3 : Int32)), .val (.int q), .val (.ref b24), .unset, .unset] [(.int p5), (.int p3), (.int q), (.int (2 : Int32)), (.ref a), (.int (2 : Int32)), (.ref b24)]))
          obtain ⟨_, _, ⟨T29, L29, k29, n29⟩, -, X29, ⟨Lc29, hQ29, l29, y29, z29⟩, st29⟩ := Jvm.LawKit.callS X28 hx (y := (⟨"com/example/pemmican/pemmican/DataTypeNamedPinLaw", "ch", "(Ljava/lang/String;IIII)C"⟩ : MethodName)) hown3 (mvT hZ3 (own_w hw 84 rfl)) (mvT hZ3 (own_w hw 85 rfl)) (mvT hZ3 (own_w hw 73 rfl)) (mvT hZ3 (own_w hw 86 rfl)) (by decide) (backOf (W := 2) (rmc l Z a0 hw [] a b kb N vs cs (2 : Int32) q p3 p5 zc fm h28 n0 O28 E_a F_a_coder F_a_value V_b hcB hbB hlB (by decide) SC hcs SF rf) hZ3 (own_w hw 86 rfl) (own_w hw 73 rfl) (by decide) (by decide)) (g := (mkF m 144 #[.val (.int p0), .val (.int p1), .val (.int p2), .val (.int p3), .val (.int p4), .val (.int p5), .val (.int (p1 &&& (3 : Int32))), .val (.ref a), .val (.int (Int32.ofNat cs.length)), .val (.int (3 : Int32)), .val (.int q), .val (.ref b24), .unset, .unset] [(.int p5), (.int p3), (.int q), (.int (2 : Int32)), (.ref a), (.int (2 : Int32)), (.ref b24)])) rfl (by rw [hml]; rfl) (argsL := [(.ref a), (.int (2 : Int32)), (.int q), (.int p3), (.int p5)]) (rest := [(.int (2 : Int32)), (.ref b24)]) (lenOf pd0_3 rfl) rfl (by show 2 * 0 + _ ≤ _; exact Nat.le_of_eq rfl) (hb hby at_144) (fun _ _ => ⟨rfl, e28, (by decide : 3 + 0 ≤ _), (by decide : 35 + 0 ≤ _)⟩)
          dsimp only [Pt.U, Pt.locs, Pt.cells, Pt.slots] at X29 l29 y29 z29 st29 hQ29
          subst y29 z29
          obtain ⟨r29, rfl, hr29, Nc29, e29⟩ := hQ29
          have N29 : Fr n0 L29 := by rw [l29]; exact Fr.app N28 Nc29
          refine GoV.st st29 ?_
          show GoV p e below s _ _ _ (T29.setTop (mkF m 147 #[.val (.int p0), .val (.int p1), .val (.int p2), .val (.int p3), .val (.int p4), .val (.int p5), .val (.int (p1 &&& (3 : Int32))), .val (.ref a), .val (.int (Int32.ofNat cs.length)), .val (.int (3 : Int32)), .val (.int q), .val (.ref b24), .unset, .unset] [(.int r29), (.int (2 : Int32)), (.ref b24)]))
          obtain ⟨T30, h30, X30, e30, W30, V30, st30⟩ := own_stC X29 hx hZ3 e29 V_b24 (j := (2 : Int32)) (by decide) (by decide) 2 rfl (Nat.le_of_ble_eq_true rfl) (g := (mkF m 147 #[.val (.int p0), .val (.int p1), .val (.int p2), .val (.int p3), .val (.int p4), .val (.int p5), .val (.int (p1 &&& (3 : Int32))), .val (.ref a), .val (.int (Int32.ofNat cs.length)), .val (.int (3 : Int32)), .val (.int q), .val (.ref b24), .unset, .unset] [(.int r29), (.int (2 : Int32)), (.ref b24)])) rfl rfl (hb hby at_147)
          obtain ⟨lc30, X30, N30⟩ := own_gen X30 (Fr.snoc X30 N29 g_b24)
          have O30 := O28.wr W30 g_b24
          have E_a := E_a.wr W30
          have F_a_coder := F_a_coder.other W30 (Or.inl ne_a_b24)
          have F_a_value := F_a_value.other W30 (Or.inl ne_a_b24)
          have V_b := V_b.other W30 ne_b_b24
          have C_a := C_a.other W30 ne_a_b24
          have C_b := C_b.other W30 ne_b_b24
          have hk30 := Nat.le_trans hk28 (Nat.le_of_eq W30.size.symm)
          have V_b24 : Arv Z h30 b24 k24 .char (3 : Int32) [(.int (nar .char r25)), (.int (nar .char r27)), (.int (nar .char r29))] (.int (0 : Int32)) := V30
          refine GoV.st st30 ?_
          show GoV p e below s _ _ _ (T30.setTop (mkF m 148 #[.val (.int p0), .val (.int p1), .val (.int p2), .val (.int p3), .val (.int p4), .val (.int p5), .val (.int (p1 &&& (3 : Int32))), .val (.ref a), .val (.int (Int32.ofNat cs.length)), .val (.int (3 : Int32)), .val (.int q), .val (.ref b24), .unset, .unset] []))
          refine GoV.st (fun _ kq_ => XS.iload X30.here hx rfl (hb hby at_148) rfl kq_) ?_
          show GoV p e below s _ _ _ (T30.setTop (mkF m 150 #[.val (.int p0), .val (.int p1), .val (.int p2), .val (.int p3), .val (.int p4), .val (.int p5), .val (.int (p1 &&& (3 : Int32))), .val (.ref a), .val (.int (Int32.ofNat cs.length)), .val (.int (3 : Int32)), .val (.int q), .val (.ref b24), .unset, .unset] [(.int (3 : Int32))]))
          refine GoV.st (fun _ kq_ => XS.iconst X30.here hx rfl (hb hby at_150) kq_) ?_
          show GoV p e below s _ _ _ (T30.setTop (mkF m 151 #[.val (.int p0), .val (.int p1), .val (.int p2), .val (.int p3), .val (.int p4), .val (.int p5), .val (.int (p1 &&& (3 : Int32))), .val (.ref a), .val (.int (Int32.ofNat cs.length)), .val (.int (3 : Int32)), .val (.int q), .val (.ref b24), .unset, .unset] [(.int (3 : Int32)), (.int (3 : Int32))]))
          refine GoV.st (fun _ kq_ => XS.icmpYes X30.here hx rfl (pc0 := 151) (pc' := 169) rfl (hb hby at_151) rfl (by decide) (by decide) (by decide) kq_) ?_
          show GoV p e below s _ _ _ (T30.setTop (mkF m 169 #[.val (.int p0), .val (.int p1), .val (.int p2), .val (.int p3), .val (.int p4), .val (.int p5), .val (.int (p1 &&& (3 : Int32))), .val (.ref a), .val (.int (Int32.ofNat cs.length)), .val (.int (3 : Int32)), .val (.int q), .val (.ref b24), .unset, .unset] []))
          refine GoV.st (fun _ kq_ => XS.iload X30.here hx rfl (hb hby at_169) rfl kq_) ?_
          show GoV p e below s _ _ _ (T30.setTop (mkF m 171 #[.val (.int p0), .val (.int p1), .val (.int p2), .val (.int p3), .val (.int p4), .val (.int p5), .val (.int (p1 &&& (3 : Int32))), .val (.ref a), .val (.int (Int32.ofNat cs.length)), .val (.int (3 : Int32)), .val (.int q), .val (.ref b24), .unset, .unset] [(.int (3 : Int32))]))
          refine GoV.st (fun _ kq_ => XS.iconst X30.here hx rfl (hb hby at_171) kq_) ?_
          show GoV p e below s _ _ _ (T30.setTop (mkF m 172 #[.val (.int p0), .val (.int p1), .val (.int p2), .val (.int p3), .val (.int p4), .val (.int p5), .val (.int (p1 &&& (3 : Int32))), .val (.ref a), .val (.int (Int32.ofNat cs.length)), .val (.int (3 : Int32)), .val (.int q), .val (.ref b24), .unset, .unset] [(.int (4 : Int32)), (.int (3 : Int32))]))
          refine GoV.st (fun _ kq_ => XS.icmpYes X30.here hx rfl (pc0 := 172) (pc' := 190) rfl (hb hby at_172) rfl (by decide) (by decide) (by decide) kq_) ?_
          show GoV p e below s _ _ _ (T30.setTop (mkF m 190 #[.val (.int p0), .val (.int p1), .val (.int p2), .val (.int p3), .val (.int p4), .val (.int p5), .val (.int (p1 &&& (3 : Int32))), .val (.ref a), .val (.int (Int32.ofNat cs.length)), .val (.int (3 : Int32)), .val (.int q), .val (.ref b24), .unset, .unset] []))
          refine GoV.st (fun _ kq_ => XS.iload X30.here hx rfl (hb hby at_190) rfl kq_) ?_
          show GoV p e below s _ _ _ (T30.setTop (mkF m 192 #[.val (.int p0), .val (.int p1), .val (.int p2), .val (.int p3), .val (.int p4), .val (.int p5), .val (.int (p1 &&& (3 : Int32))), .val (.ref a), .val (.int (Int32.ofNat cs.length)), .val (.int (3 : Int32)), .val (.int q), .val (.ref b24), .unset, .unset] [(.int (3 : Int32))]))
          refine GoV.st (fun _ kq_ => XS.iconst X30.here hx rfl (hb hby at_192) kq_) ?_
          show GoV p e below s _ _ _ (T30.setTop (mkF m 193 #[.val (.int p0), .val (.int p1), .val (.int p2), .val (.int p3), .val (.int p4), .val (.int p5), .val (.int (p1 &&& (3 : Int32))), .val (.ref a), .val (.int (Int32.ofNat cs.length)), .val (.int (3 : Int32)), .val (.int q), .val (.ref b24), .unset, .unset] [(.int (5 : Int32)), (.int (3 : Int32))]))
          refine GoV.st (fun _ kq_ => XS.icmpYes X30.here hx rfl (pc0 := 193) (pc' := 211) rfl (hb hby at_193) rfl (by decide) (by decide) (by decide) kq_) ?_
          show GoV p e below s _ _ _ (T30.setTop (mkF m 211 #[.val (.int p0), .val (.int p1), .val (.int p2), .val (.int p3), .val (.int p4), .val (.int p5), .val (.int (p1 &&& (3 : Int32))), .val (.ref a), .val (.int (Int32.ofNat cs.length)), .val (.int (3 : Int32)), .val (.int q), .val (.ref b24), .unset, .unset] []))
          refine GoV.st (fun _ kq_ => XS.iload X30.here hx rfl (hb hby at_211) rfl kq_) ?_
          show GoV p e below s _ _ _ (T30.setTop (mkF m 213 #[.val (.int p0), .val (.int p1), .val (.int p2), .val (.int p3), .val (.int p4), .val (.int p5), .val (.int (p1 &&& (3 : Int32))), .val (.ref a), .val (.int (Int32.ofNat cs.length)), .val (.int (3 : Int32)), .val (.int q), .val (.ref b24), .unset, .unset] [(.int (3 : Int32))]))
          refine GoV.st (fun _ kq_ => XS.bipush X30.here hx rfl (hb hby at_213) kq_) ?_
          show GoV p e below s _ _ _ (T30.setTop (mkF m 215 #[.val (.int p0), .val (.int p1), .val (.int p2), .val (.int p3), .val (.int p4), .val (.int p5), .val (.int (p1 &&& (3 : Int32))), .val (.ref a), .val (.int (Int32.ofNat cs.length)), .val (.int (3 : Int32)), .val (.int q), .val (.ref b24), .unset, .unset] [(.int (6 : Int32)), (.int (3 : Int32))]))
          refine GoV.st (fun _ kq_ => XS.icmpYes X30.here hx rfl (pc0 := 215) (pc' := 235) rfl (hb hby at_215) rfl (by decide) (by decide) (by decide) kq_) ?_
          show GoV p e below s _ _ _ (T30.setTop (mkF m 235 #[.val (.int p0), .val (.int p1), .val (.int p2), .val (.int p3), .val (.int p4), .val (.int p5), .val (.int (p1 &&& (3 : Int32))), .val (.ref a), .val (.int (Int32.ofNat cs.length)), .val (.int (3 : Int32)), .val (.int q), .val (.ref b24), .unset, .unset] []))
          refine GoV.st (fun _ kq_ => XS.iload X30.here hx rfl (hb hby at_235) rfl kq_) ?_
          show GoV p e below s _ _ _ (T30.setTop (mkF m 237 #[.val (.int p0), .val (.int p1), .val (.int p2), .val (.int p3), .val (.int p4), .val (.int p5), .val (.int (p1 &&& (3 : Int32))), .val (.ref a), .val (.int (Int32.ofNat cs.length)), .val (.int (3 : Int32)), .val (.int q), .val (.ref b24), .unset, .unset] [(.int (3 : Int32))]))
          refine GoV.st (fun _ kq_ => XS.bipush X30.here hx rfl (hb hby at_237) kq_) ?_
          show GoV p e below s _ _ _ (T30.setTop (mkF m 239 #[.val (.int p0), .val (.int p1), .val (.int p2), .val (.int p3), .val (.int p4), .val (.int p5), .val (.int (p1 &&& (3 : Int32))), .val (.ref a), .val (.int (Int32.ofNat cs.length)), .val (.int (3 : Int32)), .val (.int q), .val (.ref b24), .unset, .unset] [(.int (7 : Int32)), (.int (3 : Int32))]))
          refine GoV.st (fun _ kq_ => XS.icmpYes X30.here hx rfl (pc0 := 239) (pc' := 259) rfl (hb hby at_239) rfl (by decide) (by decide) (by decide) kq_) ?_
          show GoV p e below s _ _ _ (T30.setTop (mkF m 259 #[.val (.int p0), .val (.int p1), .val (.int p2), .val (.int p3), .val (.int p4), .val (.int p5), .val (.int (p1 &&& (3 : Int32))), .val (.ref a), .val (.int (Int32.ofNat cs.length)), .val (.int (3 : Int32)), .val (.int q), .val (.ref b24), .unset, .unset] []))
          obtain ⟨T31, h31, X31, e31, E31, A31, D31, -, st31⟩ := newO X30 hx hZ3 hown3 (own_w hw 23 rfl) (own_w hw 2 rfl) (own_w hw 1 rfl) e30 (g := (mkF m 259 #[.val (.int p0), .val (.int p1), .val (.int p2), .val (.int p3), .val (.int p4), .val (.int p5), .val (.int (p1 &&& (3 : Int32))), .val (.ref a), .val (.int (Int32.ofNat cs.length)), .val (.int (3 : Int32)), .val (.int q), .val (.ref b24), .unset, .unset] [])) rfl (hb hby at_259) (by decide) (by decide)
          obtain ⟨a31, g31⟩ : ∃ z, z = h30.size := ⟨_, rfl⟩
          rw [← g31] at A31 D31 st31
          have g_a31 : n0 ≤ a31 := Nat.le_trans (own_old O30) (Nat.le_of_eq g31.symm)
          have ne_a_a31 : a ≠ a31 := by rw [g31]; exact Nat.ne_of_lt E_a.lt
          have ne_b_a31 : b ≠ a31 := by rw [g31]; exact Nat.ne_of_lt V_b.lt
          have ne_b24_a31 : b24 ≠ a31 := by rw [g31]; exact Nat.ne_of_lt V_b24.lt
          have E_a := E_a.ext E31
          have F_a_coder := F_a_coder.ext E31
          have F_a_value := F_a_value.ext E31
          have V_b := V_b.ext E31
          have C_a := C_a.ext E31
          have C_b := C_b.ext E31
          have V_b24 := V_b24.ext E31
          have hk31 := Nat.le_trans hk30 E31.1
          have O31 := O30.ext E31
          have E_a31 : Exa Z h31 a31 "java/lang/String" := A31
          have F_a31_value : Fld Z h31 a31 "java/lang/String" "value" "[B" .null := D31 (Or.inr (own_w hw 4 rfl)) (ty := (.array .byte)) (by decide)
          have F_a31_coder : Fld Z h31 a31 "java/lang/String" "coder" "B" (.int (0 : Int32)) := D31 (Or.inr (own_w hw 5 rfl)) (ty := .byte) (by decide)
          refine GoV.st st31 ?_
          show GoV p e below s _ _ _ (T31.setTop (mkF m 262 #[.val (.int p0), .val (.int p1), .val (.int p2), .val (.int p3), .val (.int p4), .val (.int p5), .val (.int (p1 &&& (3 : Int32))), .val (.ref a), .val (.int (Int32.ofNat cs.length)), .val (.int (3 : Int32)), .val (.int q), .val (.ref b24), .unset, .unset] [(.ref a31)]))
          refine GoV.st (fun _ kq_ => XS.dup X31.here hx rfl (hb hby at_262) rfl rfl kq_) ?_
          show GoV p e below s _ _ _ (T31.setTop (mkF m 263 #[.val (.int p0), .val (.int p1), .val (.int p2), .val (.int p3), .val (.int p4), .val (.int p5), .val (.int (p1 &&& (3 : Int32))), .val (.ref a), .val (.int (Int32.ofNat cs.length)), .val (.int (3 : Int32)), .val (.int q), .val (.ref b24), .unset, .unset] [(.ref a31), (.ref a31)]))
          refine GoV.st (fun _ kq_ => XS.aload X31.here hx rfl (hb hby at_263) rfl rfl kq_) ?_
          show GoV p e below s _ _ _ (T31.setTop (mkF m 265 #[.val (.int p0), .val (.int p1), .val (.int p2), .val (.int p3), .val (.int p4), .val (.int p5), .val (.int (p1 &&& (3 : Int32))), .val (.ref a), .val (.int (Int32.ofNat cs.length)), .val (.int (3 : Int32)), .val (.int q), .val (.ref b24), .unset, .unset] [(.ref b24), (.ref a31), (.ref a31)]))
          have hp : ∀ z ∈ ([(nar .char r25), (nar .char r27), (nar .char r29)] : List Int32), ¬ z < 0 ∧ ¬ (255 : Int32) < z := by
            intro z hz
            simp only [List.mem_cons, List.not_mem_nil, or_false] at hz
            rcases hz with rfl | rfl | rfl
            · exact (by rw [own_nc hr25]; exact hr25)
            · exact (by rw [own_nc hr27]; exact hr27)
            · exact (by rw [own_nc hr29]; exact hr29)
          obtain ⟨_, _, ⟨T32, L32, k32, n32⟩, -, X32, ⟨Lc32, hQ32, l32, y32, z32⟩, st32⟩ := X31.specialBack hx (y := (⟨"java/lang/String", "<init>", "([C)V"⟩ : MethodName)) rfl hown3 (mvT hZ3 (own_w hw 24 rfl)) (mvT hZ3 (own_w hw 25 rfl)) (mvT hZ3 (own_w hw 26 rfl)) (by decide) (StrChars.Road.backV (W := 1) hZ3 hws (kI := 4) (own_w hw 2 rfl) (cs := ([(nar .char r25), (nar .char r27), (nar .char r29)] : List Int32)) (bs := ([(nar .char r25), (nar .char r27), (nar .char r29)] : List Int32).map (fun c => c.toInt8.toInt32)) (n := 3) g_a31 (own_old O31) E_a31 F_a31_value F_a31_coder V_b24 (SC.ext O31.2) hcs rfl rfl (by decide) (by decide) hp rfl (by decide) (by decide)) (g := (mkF m 265 #[.val (.int p0), .val (.int p1), .val (.int p2), .val (.int p3), .val (.int p4), .val (.int p5), .val (.int (p1 &&& (3 : Int32))), .val (.ref a), .val (.int (Int32.ofNat cs.length)), .val (.int (3 : Int32)), .val (.int q), .val (.ref b24), .unset, .unset] [(.ref b24), (.ref a31), (.ref a31)])) rfl (by rw [hml]; rfl) (Steps.refl _) (a := a31) (argsL := [(.ref b24)]) (rest := [(.ref a31)]) (lenOf pd0_2 rfl) rfl (by show 2 * 0 + _ ≤ _; exact Nat.le_of_eq rfl) (hb hby at_265) (fun _ _ => ⟨rfl, e31, (by decide : 4 + 1 ≤ _), (by decide : 39 + 3 ≤ _)⟩)
          dsimp only [Pt.U, Pt.locs, Pt.cells, Pt.slots] at X32 l32 y32 z32 st32 hQ32
          subst y32 z32
          obtain ⟨rfl, Nc32, Kc32, NE, NC, t32, kt32, gt32, szt32, -, NV, NB⟩ := hQ32
          have N32 : Fr n0 L32 := by rw [l32]; exact Fr.app N30 Nc32
          have E_a := E_a.keep Kc32
          have F_a_coder := F_a_coder.keep Kc32 (ninS ne_a_a31 nin0)
          have F_a_value := F_a_value.keep Kc32 (ninS ne_a_a31 nin0)
          have V_b := V_b.keep Kc32 (ninS ne_b_a31 nin0)
          have C_a := C_a.keep Kc32 (ninS ne_a_a31 nin0)
          have C_b := C_b.keep Kc32 (ninS ne_b_a31 nin0)
          have V_b24 := V_b24.keep Kc32 (ninS ne_b24_a31 nin0)
          have hk32 := Nat.le_trans hk31 Kc32.1
          have O32 := O31.keep Kc32 (allS g_a31 all0)
          have E_a31 : Exa Z T32.heap a31 "java/lang/String" := NE
          have F_a31_coder : Fld Z T32.heap a31 "java/lang/String" "coder" "B" (.int (0 : Int32)) := NC
          have F_a31_value : Fld Z T32.heap a31 "java/lang/String" "value" "[B" (.ref t32) := NV
          have V_t32 : Arv Z T32.heap t32 kt32 .byte (3 : Int32) ((([(nar .char r25), (nar .char r27), (nar .char r29)] : List Int32).map (fun c => c.toInt8.toInt32)).map Value.int) (.int (0 : Int32)) := NB
          refine GoV.tr st32 ?_
          show GoV p e below s _ _ _ (T32.setTop (mkF m 268 #[.val (.int p0), .val (.int p1), .val (.int p2), .val (.int p3), .val (.int p4), .val (.int p5), .val (.int (p1 &&& (3 : Int32))), .val (.ref a), .val (.int (Int32.ofNat cs.length)), .val (.int (3 : Int32)), .val (.int q), .val (.ref b24), .unset, .unset] [(.ref a31)]))
          exact JX a31 t32 _ _ _ ([(nar .char r25), (nar .char r27), (nar .char r29)] : List Int32) (3 : Int32) b24 _ (vm3) _ _ _ _ (X32.mono (by decide) (by decide)) rfl N32 O32 hS3 hk32 hZ3 hown3 I3 E_a F_a_coder F_a_value V_b C_a C_b E_a31 F_a31_coder F_a31_value V_t32 (StrChars.Road.codOf (n := 3) rfl (fun c hc => (hp c hc).2)) (own_up hp) (Nat.le_of_ble_eq_true rfl) (fun q hq => Or.inl (List.mem_singleton.mp hq))
        · show GoV p e below s _ _ _ (T3.setTop (mkF m 80 #[.val (.int p0), .val (.int p1), .val (.int p2), .val (.int p3), .val (.int p4), .val (.int p5), .val (.int (p1 &&& (3 : Int32))), .val (.ref a), .val (.int (Int32.ofNat cs.length)), .val (.int (4 : Int32)), .val (.int q), .unset, .unset, .unset] []))
          refine GoV.st (fun _ kq_ => XS.iload X3.here hx rfl (hb hby at_80) rfl kq_) ?_
          show GoV p e below s _ _ _ (T3.setTop (mkF m 82 #[.val (.int p0), .val (.int p1), .val (.int p2), .val (.int p3), .val (.int p4), .val (.int p5), .val (.int (p1 &&& (3 : Int32))), .val (.ref a), .val (.int (Int32.ofNat cs.length)), .val (.int (4 : Int32)), .val (.int q), .unset, .unset, .unset] [(.int (4 : Int32))]))
          obtain ⟨T33, h33, k33, X33, e33, E33, A33, st33⟩ := newP X3 hx hZ3 (own_w hw 22 rfl) e3 (g := (mkF m 82 #[.val (.int p0), .val (.int p1), .val (.int p2), .val (.int p3), .val (.int p4), .val (.int p5), .val (.int (p1 &&& (3 : Int32))), .val (.ref a), .val (.int (Int32.ofNat cs.length)), .val (.int (4 : Int32)), .val (.int q), .unset, .unset, .unset] [(.int (4 : Int32))])) rfl (hb hby at_82) rfl (by decide) (cap := 4) (by decide) (by decide) (by decide) (by decide)
          obtain ⟨b33, g33⟩ : ∃ z, z = h3.size := ⟨_, rfl⟩
          rw [← g33] at A33 st33
          have g_b33 : n0 ≤ b33 := Nat.le_trans (own_old O3) (Nat.le_of_eq g33.symm)
          have ne_a_b33 : a ≠ b33 := by rw [g33]; exact Nat.ne_of_lt E_a.lt
          have ne_b_b33 : b ≠ b33 := by rw [g33]; exact Nat.ne_of_lt V_b.lt
          have E_a := E_a.ext E33
          have F_a_coder := F_a_coder.ext E33
          have F_a_value := F_a_value.ext E33
          have V_b := V_b.ext E33
          have C_a := C_a.ext E33
          have C_b := C_b.ext E33
          have hk33 := Nat.le_trans hk3 E33.1
          have O33 := O3.ext E33
          have V_b33 : Arv Z h33 b33 k33 .char (4 : Int32) [(.int (0 : Int32)), (.int (0 : Int32)), (.int (0 : Int32)), (.int (0 : Int32))] (.int (0 : Int32)) := (Arv.new A33 (by decide)).pad (pad_rep [] (.int (0 : Int32)) 4)
          refine GoV.st st33 ?_
          show GoV p e below s _ _ _ (T33.setTop (mkF m 84 #[.val (.int p0), .val (.int p1), .val (.int p2), .val (.int p3), .val (.int p4), .val (.int p5), .val (.int (p1 &&& (3 : Int32))), .val (.ref a), .val (.int (Int32.ofNat cs.length)), .val (.int (4 : Int32)), .val (.int q), .unset, .unset, .unset] [(.ref b33)]))
          refine GoV.st (fun _ kq_ => XS.astore X33.here hx rfl (hb hby at_84) rfl rfl (l' := #[.val (.int p0), .val (.int p1), .val (.int p2), .val (.int p3), .val (.int p4), .val (.int p5), .val (.int (p1 &&& (3 : Int32))), .val (.ref a), .val (.int (Int32.ofNat cs.length)), .val (.int (4 : Int32)), .val (.int q), .val (.ref b33), .unset, .unset]) rfl kq_) ?_
          show GoV p e below s _ _ _ (T33.setTop (mkF m 86 #[.val (.int p0), .val (.int p1), .val (.int p2), .val (.int p3), .val (.int p4), .val (.int p5), .val (.int (p1 &&& (3 : Int32))), .val (.ref a), .val (.int (Int32.ofNat cs.length)), .val (.int (4 : Int32)), .val (.int q), .val (.ref b33), .unset, .unset] []))
          refine GoV.st (fun _ kq_ => XS.iload X33.here hx rfl (hb hby at_86) rfl kq_) ?_
          show GoV p e below s _ _ _ (T33.setTop (mkF m 88 #[.val (.int p0), .val (.int p1), .val (.int p2), .val (.int p3), .val (.int p4), .val (.int p5), .val (.int (p1 &&& (3 : Int32))), .val (.ref a), .val (.int (Int32.ofNat cs.length)), .val (.int (4 : Int32)), .val (.int q), .val (.ref b33), .unset, .unset] [(.int (4 : Int32))]))
          refine GoV.st (fun _ kq_ => XS.ifNo X33.here hx rfl (hb hby at_88) rfl (by decide) kq_) ?_
          show GoV p e below s _ _ _ (T33.setTop (mkF m 91 #[.val (.int p0), .val (.int p1), .val (.int p2), .val (.int p3), .val (.int p4), .val (.int p5), .val (.int (p1 &&& (3 : Int32))), .val (.ref a), .val (.int (Int32.ofNat cs.length)), .val (.int (4 : Int32)), .val (.int q), .val (.ref b33), .unset, .unset] []))
          refine GoV.st (fun _ kq_ => XS.aload X33.here hx rfl (hb hby at_91) rfl rfl kq_) ?_
          show GoV p e below s _ _ _ (T33.setTop (mkF m 93 #[.val (.int p0), .val (.int p1), .val (.int p2), .val (.int p3), .val (.int p4), .val (.int p5), .val (.int (p1 &&& (3 : Int32))), .val (.ref a), .val (.int (Int32.ofNat cs.length)), .val (.int (4 : Int32)), .val (.int q), .val (.ref b33), .unset, .unset] [(.ref b33)]))
          refine GoV.st (fun _ kq_ => XS.iconst X33.here hx rfl (hb hby at_93) kq_) ?_
          show GoV p e below s _ _ _ (T33.setTop (mkF m 94 #[.val (.int p0), .val (.int p1), .val (.int p2), .val (.int p3), .val (.int p4), .val (.int p5), .val (.int (p1 &&& (3 : Int32))), .val (.ref a), .val (.int (Int32.ofNat cs.length)), .val (.int (4 : Int32)), .val (.int q), .val (.ref b33), .unset, .unset] [(.int (0 : Int32)), (.ref b33)]))
          refine GoV.st (fun _ kq_ => XS.aload X33.here hx rfl (hb hby at_94) rfl rfl kq_) ?_
          show GoV p e below s _ _ _ (T33.setTop (mkF m 96 #[.val (.int p0), .val (.int p1), .val (.int p2), .val (.int p3), .val (.int p4), .val (.int p5), .val (.int (p1 &&& (3 : Int32))), .val (.ref a), .val (.int (Int32.ofNat cs.length)), .val (.int (4 : Int32)), .val (.int q), .val (.ref b33), .unset, .unset] [(.ref a), (.int (0 : Int32)), (.ref b33)]))
          refine GoV.st (fun _ kq_ => XS.iconst X33.here hx rfl (hb hby at_96) kq_) ?_
          show GoV p e below s _ _ _ (T33.setTop (mkF m 97 #[.val (.int p0), .val (.int p1), .val (.int p2), .val (.int p3), .val (.int p4), .val (.int p5), .val (.int (p1 &&& (3 : Int32))), .val (.ref a), .val (.int (Int32.ofNat cs.length)), .val (.int (4 : Int32)), .val (.int q), .val (.ref b33), .unset, .unset] [(.int (0 : Int32)), (.ref a), (.int (0 : Int32)), (.ref b33)]))
          refine GoV.st (fun _ kq_ => XS.iload X33.here hx rfl (hb hby at_97) rfl kq_) ?_
          show GoV p e below s _ _ _ (T33.setTop (mkF m 99 #[.val (.int p0), .val (.int p1), .val (.int p2), .val (.int p3), .val (.int p4), .val (.int p5), .val (.int (p1 &&& (3 : Int32))), .val (.ref a), .val (.int (Int32.ofNat cs.length)), .val (.int (4 : Int32)), .val (.int q), .val (.ref b33), .unset, .unset] [(.int q), (.int (0 : Int32)), (.ref a), (.int (0 : Int32)), (.ref b33)]))
          refine GoV.st (fun _ kq_ => XS.iloadN X33.here hx rfl (hb hby at_99) rfl kq_) ?_
          show GoV p e below s _ _ _ (T33.setTop (mkF m 100 #[.val (.int p0), .val (.int p1), .val (.int p2), .val (.int p3), .val (.int p4), .val (.int p5), .val (.int (p1 &&& (3 : Int32))), .val (.ref a), .val (.int (Int32.ofNat cs.length)), .val (.int (4 : Int32)), .val (.int q), .val (.ref b33), .unset, .unset] [(.int p3), (.int q), (.int (0 : Int32)), (.ref a), (.int (0 : Int32)), (.ref b33)]))
          refine GoV.st (fun _ kq_ => XS.iload X33.here hx rfl (hb hby at_100) rfl kq_) ?_
          show GoV p e below s _ _ _ (T33.setTop (mkF m 102 #[.val (.int p0), .val (.int p1), .val (.int p2), .val (.int p3), .val (.int p4), .val (.int p5), .val (.int (p1 &&& (3 : Int32))), .val (.ref a), .val (.int (Int32.ofNat cs.length)), .val (.int (4 : Int32)), .val (.int q), .val (.ref b33), .unset, .unset] [(.int p5), (.int p3), (.int q), (.int (0 : Int32)), (.ref a), (.int (0 : Int32)), (.ref b33)]))
          obtain ⟨_, _, ⟨T34, L34, k34, n34⟩, -, X34, ⟨Lc34, hQ34, l34, y34, z34⟩, st34⟩ := Jvm.LawKit.callS X33 hx (y := (⟨"com/example/pemmican/pemmican/DataTypeNamedPinLaw", "ch", "(Ljava/lang/String;IIII)C"⟩ : MethodName)) hown3 (mvT hZ3 (own_w hw 84 rfl)) (mvT hZ3 (own_w hw 85 rfl)) (mvT hZ3 (own_w hw 73 rfl)) (mvT hZ3 (own_w hw 86 rfl)) (by decide) (backOf (W := 2) (rmc l Z a0 hw [] a b kb N vs cs (0 : Int32) q p3 p5 zc fm h33 n0 O33 E_a F_a_coder F_a_value V_b hcB hbB hlB (by decide) SC hcs SF rf) hZ3 (own_w hw 86 rfl) (own_w hw 73 rfl) (by decide) (by decide)) (g := (mkF m 102 #[.val (.int p0), .val (.int p1), .val (.int p2), .val (.int p3), .val (.int p4), .val (.int p5), .val (.int (p1 &&& (3 : Int32))), .val (.ref a), .val (.int (Int32.ofNat cs.length)), .val (.int (4 : Int32)), .val (.int q), .val (.ref b33), .unset, .unset] [(.int p5), (.int p3), (.int q), (.int (0 : Int32)), (.ref a), (.int (0 : Int32)), (.ref b33)])) rfl (by rw [hml]; rfl) (argsL := [(.ref a), (.int (0 : Int32)), (.int q), (.int p3), (.int p5)]) (rest := [(.int (0 : Int32)), (.ref b33)]) (lenOf pd0_3 rfl) rfl (by show 2 * 0 + _ ≤ _; exact Nat.le_of_eq rfl) (hb hby at_102) (fun _ _ => ⟨rfl, e33, (by decide : 3 + 0 ≤ _), (by decide : 36 + 0 ≤ _)⟩)
          dsimp only [Pt.U, Pt.locs, Pt.cells, Pt.slots] at X34 l34 y34 z34 st34 hQ34
          subst y34 z34
          obtain ⟨r34, rfl, hr34, Nc34, e34⟩ := hQ34
          have N34 : Fr n0 L34 := by rw [l34]; exact Fr.app N3 Nc34
          refine GoV.st st34 ?_
          show GoV p e below s _ _ _ (T34.setTop (mkF m 105 #[.val (.int p0), .val (.int p1), .val (.int p2), .val (.int p3), .val (.int p4), .val (.int p5), .val (.int (p1 &&& (3 : Int32))), .val (.ref a), .val (.int (Int32.ofNat cs.length)), .val (.int (4 : Int32)), .val (.int q), .val (.ref b33), .unset, .unset] [(.int r34), (.int (0 : Int32)), (.ref b33)]))
          obtain ⟨T35, h35, X35, e35, W35, V35, st35⟩ := own_stC X34 hx hZ3 e34 V_b33 (j := (0 : Int32)) (by decide) (by decide) 0 rfl (Nat.le_of_ble_eq_true rfl) (g := (mkF m 105 #[.val (.int p0), .val (.int p1), .val (.int p2), .val (.int p3), .val (.int p4), .val (.int p5), .val (.int (p1 &&& (3 : Int32))), .val (.ref a), .val (.int (Int32.ofNat cs.length)), .val (.int (4 : Int32)), .val (.int q), .val (.ref b33), .unset, .unset] [(.int r34), (.int (0 : Int32)), (.ref b33)])) rfl rfl (hb hby at_105)
          obtain ⟨lc35, X35, N35⟩ := own_gen X35 (Fr.snoc X35 N34 g_b33)
          have O35 := O33.wr W35 g_b33
          have E_a := E_a.wr W35
          have F_a_coder := F_a_coder.other W35 (Or.inl ne_a_b33)
          have F_a_value := F_a_value.other W35 (Or.inl ne_a_b33)
          have V_b := V_b.other W35 ne_b_b33
          have C_a := C_a.other W35 ne_a_b33
          have C_b := C_b.other W35 ne_b_b33
          have hk35 := Nat.le_trans hk33 (Nat.le_of_eq W35.size.symm)
          have V_b33 : Arv Z h35 b33 k33 .char (4 : Int32) [(.int (nar .char r34)), (.int (0 : Int32)), (.int (0 : Int32)), (.int (0 : Int32))] (.int (0 : Int32)) := V35
          refine GoV.st st35 ?_
          show GoV p e below s _ _ _ (T35.setTop (mkF m 106 #[.val (.int p0), .val (.int p1), .val (.int p2), .val (.int p3), .val (.int p4), .val (.int p5), .val (.int (p1 &&& (3 : Int32))), .val (.ref a), .val (.int (Int32.ofNat cs.length)), .val (.int (4 : Int32)), .val (.int q), .val (.ref b33), .unset, .unset] []))
          refine GoV.st (fun _ kq_ => XS.iload X35.here hx rfl (hb hby at_106) rfl kq_) ?_
          show GoV p e below s _ _ _ (T35.setTop (mkF m 108 #[.val (.int p0), .val (.int p1), .val (.int p2), .val (.int p3), .val (.int p4), .val (.int p5), .val (.int (p1 &&& (3 : Int32))), .val (.ref a), .val (.int (Int32.ofNat cs.length)), .val (.int (4 : Int32)), .val (.int q), .val (.ref b33), .unset, .unset] [(.int (4 : Int32))]))
          refine GoV.st (fun _ kq_ => XS.iconst X35.here hx rfl (hb hby at_108) kq_) ?_
          show GoV p e below s _ _ _ (T35.setTop (mkF m 109 #[.val (.int p0), .val (.int p1), .val (.int p2), .val (.int p3), .val (.int p4), .val (.int p5), .val (.int (p1 &&& (3 : Int32))), .val (.ref a), .val (.int (Int32.ofNat cs.length)), .val (.int (4 : Int32)), .val (.int q), .val (.ref b33), .unset, .unset] [(.int (1 : Int32)), (.int (4 : Int32))]))
          refine GoV.st (fun _ kq_ => XS.icmpNo X35.here hx rfl (hb hby at_109) rfl (by decide) kq_) ?_
          show GoV p e below s _ _ _ (T35.setTop (mkF m 112 #[.val (.int p0), .val (.int p1), .val (.int p2), .val (.int p3), .val (.int p4), .val (.int p5), .val (.int (p1 &&& (3 : Int32))), .val (.ref a), .val (.int (Int32.ofNat cs.length)), .val (.int (4 : Int32)), .val (.int q), .val (.ref b33), .unset, .unset] []))
          refine GoV.st (fun _ kq_ => XS.aload X35.here hx rfl (hb hby at_112) rfl rfl kq_) ?_
          show GoV p e below s _ _ _ (T35.setTop (mkF m 114 #[.val (.int p0), .val (.int p1), .val (.int p2), .val (.int p3), .val (.int p4), .val (.int p5), .val (.int (p1 &&& (3 : Int32))), .val (.ref a), .val (.int (Int32.ofNat cs.length)), .val (.int (4 : Int32)), .val (.int q), .val (.ref b33), .unset, .unset] [(.ref b33)]))
          refine GoV.st (fun _ kq_ => XS.iconst X35.here hx rfl (hb hby at_114) kq_) ?_
          show GoV p e below s _ _ _ (T35.setTop (mkF m 115 #[.val (.int p0), .val (.int p1), .val (.int p2), .val (.int p3), .val (.int p4), .val (.int p5), .val (.int (p1 &&& (3 : Int32))), .val (.ref a), .val (.int (Int32.ofNat cs.length)), .val (.int (4 : Int32)), .val (.int q), .val (.ref b33), .unset, .unset] [(.int (1 : Int32)), (.ref b33)]))
          refine GoV.st (fun _ kq_ => XS.aload X35.here hx rfl (hb hby at_115) rfl rfl kq_) ?_
          show GoV p e below s _ _ _ (T35.setTop (mkF m 117 #[.val (.int p0), .val (.int p1), .val (.int p2), .val (.int p3), .val (.int p4), .val (.int p5), .val (.int (p1 &&& (3 : Int32))), .val (.ref a), .val (.int (Int32.ofNat cs.length)), .val (.int (4 : Int32)), .val (.int q), .val (.ref b33), .unset, .unset] [(.ref a), (.int (1 : Int32)), (.ref b33)]))
          refine GoV.st (fun _ kq_ => XS.iconst X35.here hx rfl (hb hby at_117) kq_) ?_
          show GoV p e below s _ _ _ (T35.setTop (mkF m 118 #[.val (.int p0), .val (.int p1), .val (.int p2), .val (.int p3), .val (.int p4), .val (.int p5), .val (.int (p1 &&& (3 : Int32))), .val (.ref a), .val (.int (Int32.ofNat cs.length)), .val (.int (4 : Int32)), .val (.int q), .val (.ref b33), .unset, .unset] [(.int (1 : Int32)), (.ref a), (.int (1 : Int32)), (.ref b33)]))
          refine GoV.st (fun _ kq_ => XS.iload X35.here hx rfl (hb hby at_118) rfl kq_) ?_
          show GoV p e below s _ _ _ (T35.setTop (mkF m 120 #[.val (.int p0), .val (.int p1), .val (.int p2), .val (.int p3), .val (.int p4), .val (.int p5), .val (.int (p1 &&& (3 : Int32))), .val (.ref a), .val (.int (Int32.ofNat cs.length)), .val (.int (4 : Int32)), .val (.int q), .val (.ref b33), .unset, .unset] [(.int q), (.int (1 : Int32)), (.ref a), (.int (1 : Int32)), (.ref b33)]))
          refine GoV.st (fun _ kq_ => XS.iloadN X35.here hx rfl (hb hby at_120) rfl kq_) ?_
          show GoV p e below s _ _ _ (T35.setTop (mkF m 121 #[.val (.int p0), .val (.int p1), .val (.int p2), .val (.int p3), .val (.int p4), .val (.int p5), .val (.int (p1 &&& (3 : Int32))), .val (.ref a), .val (.int (Int32.ofNat cs.length)), .val (.int (4 : Int32)), .val (.int q), .val (.ref b33), .unset, .unset] [(.int p3), (.int q), (.int (1 : Int32)), (.ref a), (.int (1 : Int32)), (.ref b33)]))
          refine GoV.st (fun _ kq_ => XS.iload X35.here hx rfl (hb hby at_121) rfl kq_) ?_
          show GoV p e below s _ _ _ (T35.setTop (mkF m 123 #[.val (.int p0), .val (.int p1), .val (.int p2), .val (.int p3), .val (.int p4), .val (.int p5), .val (.int (p1 &&& (3 : Int32))), .val (.ref a), .val (.int (Int32.ofNat cs.length)), .val (.int (4 : Int32)), .val (.int q), .val (.ref b33), .unset, .unset] [(.int p5), (.int p3), (.int q), (.int (1 : Int32)), (.ref a), (.int (1 : Int32)), (.ref b33)]))
          obtain ⟨_, _, ⟨T36, L36, k36, n36⟩, -, X36, ⟨Lc36, hQ36, l36, y36, z36⟩, st36⟩ := Jvm.LawKit.callS X35 hx (y := (⟨"com/example/pemmican/pemmican/DataTypeNamedPinLaw", "ch", "(Ljava/lang/String;IIII)C"⟩ : MethodName)) hown3 (mvT hZ3 (own_w hw 84 rfl)) (mvT hZ3 (own_w hw 85 rfl)) (mvT hZ3 (own_w hw 73 rfl)) (mvT hZ3 (own_w hw 86 rfl)) (by decide) (backOf (W := 2) (rmc l Z a0 hw [] a b kb N vs cs (1 : Int32) q p3 p5 zc fm h35 n0 O35 E_a F_a_coder F_a_value V_b hcB hbB hlB (by decide) SC hcs SF rf) hZ3 (own_w hw 86 rfl) (own_w hw 73 rfl) (by decide) (by decide)) (g := (mkF m 123 #[.val (.int p0), .val (.int p1), .val (.int p2), .val (.int p3), .val (.int p4), .val (.int p5), .val (.int (p1 &&& (3 : Int32))), .val (.ref a), .val (.int (Int32.ofNat cs.length)), .val (.int (4 : Int32)), .val (.int q), .val (.ref b33), .unset, .unset] [(.int p5), (.int p3), (.int q), (.int (1 : Int32)), (.ref a), (.int (1 : Int32)), (.ref b33)])) rfl (by rw [hml]; rfl) (argsL := [(.ref a), (.int (1 : Int32)), (.int q), (.int p3), (.int p5)]) (rest := [(.int (1 : Int32)), (.ref b33)]) (lenOf pd0_3 rfl) rfl (by show 2 * 0 + _ ≤ _; exact Nat.le_of_eq rfl) (hb hby at_123) (fun _ _ => ⟨rfl, e35, (by decide : 3 + 0 ≤ _), (by decide : 36 + 0 ≤ _)⟩)
          dsimp only [Pt.U, Pt.locs, Pt.cells, Pt.slots] at X36 l36 y36 z36 st36 hQ36
          subst y36 z36
          obtain ⟨r36, rfl, hr36, Nc36, e36⟩ := hQ36
          have N36 : Fr n0 L36 := by rw [l36]; exact Fr.app N35 Nc36
          refine GoV.st st36 ?_
          show GoV p e below s _ _ _ (T36.setTop (mkF m 126 #[.val (.int p0), .val (.int p1), .val (.int p2), .val (.int p3), .val (.int p4), .val (.int p5), .val (.int (p1 &&& (3 : Int32))), .val (.ref a), .val (.int (Int32.ofNat cs.length)), .val (.int (4 : Int32)), .val (.int q), .val (.ref b33), .unset, .unset] [(.int r36), (.int (1 : Int32)), (.ref b33)]))
          obtain ⟨T37, h37, X37, e37, W37, V37, st37⟩ := own_stC X36 hx hZ3 e36 V_b33 (j := (1 : Int32)) (by decide) (by decide) 1 rfl (Nat.le_of_ble_eq_true rfl) (g := (mkF m 126 #[.val (.int p0), .val (.int p1), .val (.int p2), .val (.int p3), .val (.int p4), .val (.int p5), .val (.int (p1 &&& (3 : Int32))), .val (.ref a), .val (.int (Int32.ofNat cs.length)), .val (.int (4 : Int32)), .val (.int q), .val (.ref b33), .unset, .unset] [(.int r36), (.int (1 : Int32)), (.ref b33)])) rfl rfl (hb hby at_126)
          obtain ⟨lc37, X37, N37⟩ := own_gen X37 (Fr.snoc X37 N36 g_b33)
          have O37 := O35.wr W37 g_b33
          have E_a := E_a.wr W37
          have F_a_coder := F_a_coder.other W37 (Or.inl ne_a_b33)
          have F_a_value := F_a_value.other W37 (Or.inl ne_a_b33)
          have V_b := V_b.other W37 ne_b_b33
          have C_a := C_a.other W37 ne_a_b33
          have C_b := C_b.other W37 ne_b_b33
          have hk37 := Nat.le_trans hk35 (Nat.le_of_eq W37.size.symm)
          have V_b33 : Arv Z h37 b33 k33 .char (4 : Int32) [(.int (nar .char r34)), (.int (nar .char r36)), (.int (0 : Int32)), (.int (0 : Int32))] (.int (0 : Int32)) := V37
          refine GoV.st st37 ?_
          show GoV p e below s _ _ _ (T37.setTop (mkF m 127 #[.val (.int p0), .val (.int p1), .val (.int p2), .val (.int p3), .val (.int p4), .val (.int p5), .val (.int (p1 &&& (3 : Int32))), .val (.ref a), .val (.int (Int32.ofNat cs.length)), .val (.int (4 : Int32)), .val (.int q), .val (.ref b33), .unset, .unset] []))
          refine GoV.st (fun _ kq_ => XS.iload X37.here hx rfl (hb hby at_127) rfl kq_) ?_
          show GoV p e below s _ _ _ (T37.setTop (mkF m 129 #[.val (.int p0), .val (.int p1), .val (.int p2), .val (.int p3), .val (.int p4), .val (.int p5), .val (.int (p1 &&& (3 : Int32))), .val (.ref a), .val (.int (Int32.ofNat cs.length)), .val (.int (4 : Int32)), .val (.int q), .val (.ref b33), .unset, .unset] [(.int (4 : Int32))]))
          refine GoV.st (fun _ kq_ => XS.iconst X37.here hx rfl (hb hby at_129) kq_) ?_
          show GoV p e below s _ _ _ (T37.setTop (mkF m 130 #[.val (.int p0), .val (.int p1), .val (.int p2), .val (.int p3), .val (.int p4), .val (.int p5), .val (.int (p1 &&& (3 : Int32))), .val (.ref a), .val (.int (Int32.ofNat cs.length)), .val (.int (4 : Int32)), .val (.int q), .val (.ref b33), .unset, .unset] [(.int (2 : Int32)), (.int (4 : Int32))]))
          refine GoV.st (fun _ kq_ => XS.icmpNo X37.here hx rfl (hb hby at_130) rfl (by decide) kq_) ?_
          show GoV p e below s _ _ _ (T37.setTop (mkF m 133 #[.val (.int p0), .val (.int p1), .val (.int p2), .val (.int p3), .val (.int p4), .val (.int p5), .val (.int (p1 &&& (3 : Int32))), .val (.ref a), .val (.int (Int32.ofNat cs.length)), .val (.int (4 : Int32)), .val (.int q), .val (.ref b33), .unset, .unset] []))
          refine GoV.st (fun _ kq_ => XS.aload X37.here hx rfl (hb hby at_133) rfl rfl kq_) ?_
          show GoV p e below s _ _ _ (T37.setTop (mkF m 135 #[.val (.int p0), .val (.int p1), .val (.int p2), .val (.int p3), .val (.int p4), .val (.int p5), .val (.int (p1 &&& (3 : Int32))), .val (.ref a), .val (.int (Int32.ofNat cs.length)), .val (.int (4 : Int32)), .val (.int q), .val (.ref b33), .unset, .unset] [(.ref b33)]))
          refine GoV.st (fun _ kq_ => XS.iconst X37.here hx rfl (hb hby at_135) kq_) ?_
          show GoV p e below s _ _ _ (T37.setTop (mkF m 136 #[.val (.int p0), .val (.int p1), .val (.int p2), .val (.int p3), .val (.int p4), .val (.int p5), .val (.int (p1 &&& (3 : Int32))), .val (.ref a), .val (.int (Int32.ofNat cs.length)), .val (.int (4 : Int32)), .val (.int q), .val (.ref b33), .unset, .unset] [(.int (2 : Int32)), (.ref b33)]))
          refine GoV.st (fun _ kq_ => XS.aload X37.here hx rfl (hb hby at_136) rfl rfl kq_) ?_
          show GoV p e below s _ _ _ (T37.setTop (mkF m 138 #[.val (.int p0), .val (.int p1), .val (.int p2), .val (.int p3), .val (.int p4), .val (.int p5), .val (.int (p1 &&& (3 : Int32))), .val (.ref a), .val (.int (Int32.ofNat cs.length)), .val (.int (4 : Int32)), .val (.int q), .val (.ref b33), .unset, .unset] [(.ref a), (.int (2 : Int32)), (.ref b33)]))
          refine GoV.st (fun _ kq_ => XS.iconst X37.here hx rfl (hb hby at_138) kq_) ?_
          show GoV p e below s _ _ _ (T37.setTop (mkF m 139 #[.val (.int p0), .val (.int p1), .val (.int p2), .val (.int p3), .val (.int p4), .val (.int p5), .val (.int (p1 &&& (3 : Int32))), .val (.ref a), .val (.int (Int32.ofNat cs.length)), .val (.int (4 : Int32)), .val (.int q), .val (.ref b33), .unset, .unset] [(.int (2 : Int32)), (.ref a), (.int (2 : Int32)), (.ref b33)]))
          refine GoV.st (fun _ kq_ => XS.iload X37.here hx rfl (hb hby at_139) rfl kq_) ?_
          show GoV p e below s _ _ _ (T37.setTop (mkF m 141 #[.val (.int p0), .val (.int p1), .val (.int p2), .val (.int p3), .val (.int p4), .val (.int p5), .val (.int (p1 &&& (3 : Int32))), .val (.ref a), .val (.int (Int32.ofNat cs.length)), .val (.int (4 : Int32)), .val (.int q), .val (.ref b33), .unset, .unset] [(.int q), (.int (2 : Int32)), (.ref a), (.int (2 : Int32)), (.ref b33)]))
          refine GoV.st (fun _ kq_ => XS.iloadN X37.here hx rfl (hb hby at_141) rfl kq_) ?_
          show GoV p e below s _ _ _ (T37.setTop (mkF m 142 #[.val (.int p0), .val (.int p1), .val (.int p2), .val (.int p3), .val (.int p4), .val (.int p5), .val (.int (p1 &&& (3 : Int32))), .val (.ref a), .val (.int (Int32.ofNat cs.length)), .val (.int (4 : Int32)), .val (.int q), .val (.ref b33), .unset, .unset] [(.int p3), (.int q), (.int (2 : Int32)), (.ref a), (.int (2 : Int32)), (.ref b33)]))
          refine GoV.st (fun _ kq_ => XS.iload X37.here hx rfl (hb hby at_142) rfl kq_) ?_
          show GoV p e below s _ _ _ (T37.setTop (mkF m 144 #[.val (.int p0), .val (.int p1), .val (.int p2), .val (.int p3), .val (.int p4), .val (.int p5), .val (.int (p1 &&& (3 : Int32))), .val (.ref a), .val (.int (Int32.ofNat cs.length)), .val (.int (4 : Int32)), .val (.int q), .val (.ref b33), .unset, .unset] [(.int p5), (.int p3), (.int q), (.int (2 : Int32)), (.ref a), (.int (2 : Int32)), (.ref b33)]))
          obtain ⟨_, _, ⟨T38, L38, k38, n38⟩, -, X38, ⟨Lc38, hQ38, l38, y38, z38⟩, st38⟩ := Jvm.LawKit.callS X37 hx (y := (⟨"com/example/pemmican/pemmican/DataTypeNamedPinLaw", "ch", "(Ljava/lang/String;IIII)C"⟩ : MethodName)) hown3 (mvT hZ3 (own_w hw 84 rfl)) (mvT hZ3 (own_w hw 85 rfl)) (mvT hZ3 (own_w hw 73 rfl)) (mvT hZ3 (own_w hw 86 rfl)) (by decide) (backOf (W := 2) (rmc l Z a0 hw [] a b kb N vs cs (2 : Int32) q p3 p5 zc fm h37 n0 O37 E_a F_a_coder F_a_value V_b hcB hbB hlB (by decide) SC hcs SF rf) hZ3 (own_w hw 86 rfl) (own_w hw 73 rfl) (by decide) (by decide)) (g := (mkF m 144 #[.val (.int p0), .val (.int p1), .val (.int p2), .val (.int p3), .val (.int p4), .val (.int p5), .val (.int (p1 &&& (3 : Int32))), .val (.ref a), .val (.int (Int32.ofNat cs.length)), .val (.int (4 : Int32)), .val (.int q), .val (.ref b33), .unset, .unset] [(.int p5), (.int p3), (.int q), (.int (2 : Int32)), (.ref a), (.int (2 : Int32)), (.ref b33)])) rfl (by rw [hml]; rfl) (argsL := [(.ref a), (.int (2 : Int32)), (.int q), (.int p3), (.int p5)]) (rest := [(.int (2 : Int32)), (.ref b33)]) (lenOf pd0_3 rfl) rfl (by show 2 * 0 + _ ≤ _; exact Nat.le_of_eq rfl) (hb hby at_144) (fun _ _ => ⟨rfl, e37, (by decide : 3 + 0 ≤ _), (by decide : 36 + 0 ≤ _)⟩)
          dsimp only [Pt.U, Pt.locs, Pt.cells, Pt.slots] at X38 l38 y38 z38 st38 hQ38
          subst y38 z38
          obtain ⟨r38, rfl, hr38, Nc38, e38⟩ := hQ38
          have N38 : Fr n0 L38 := by rw [l38]; exact Fr.app N37 Nc38
          refine GoV.st st38 ?_
          show GoV p e below s _ _ _ (T38.setTop (mkF m 147 #[.val (.int p0), .val (.int p1), .val (.int p2), .val (.int p3), .val (.int p4), .val (.int p5), .val (.int (p1 &&& (3 : Int32))), .val (.ref a), .val (.int (Int32.ofNat cs.length)), .val (.int (4 : Int32)), .val (.int q), .val (.ref b33), .unset, .unset] [(.int r38), (.int (2 : Int32)), (.ref b33)]))
          obtain ⟨T39, h39, X39, e39, W39, V39, st39⟩ := own_stC X38 hx hZ3 e38 V_b33 (j := (2 : Int32)) (by decide) (by decide) 2 rfl (Nat.le_of_ble_eq_true rfl) (g := (mkF m 147 #[.val (.int p0), .val (.int p1), .val (.int p2), .val (.int p3), .val (.int p4), .val (.int p5), .val (.int (p1 &&& (3 : Int32))), .val (.ref a), .val (.int (Int32.ofNat cs.length)), .val (.int (4 : Int32)), .val (.int q), .val (.ref b33), .unset, .unset] [(.int r38), (.int (2 : Int32)), (.ref b33)])) rfl rfl (hb hby at_147)
          obtain ⟨lc39, X39, N39⟩ := own_gen X39 (Fr.snoc X39 N38 g_b33)
          have O39 := O37.wr W39 g_b33
          have E_a := E_a.wr W39
          have F_a_coder := F_a_coder.other W39 (Or.inl ne_a_b33)
          have F_a_value := F_a_value.other W39 (Or.inl ne_a_b33)
          have V_b := V_b.other W39 ne_b_b33
          have C_a := C_a.other W39 ne_a_b33
          have C_b := C_b.other W39 ne_b_b33
          have hk39 := Nat.le_trans hk37 (Nat.le_of_eq W39.size.symm)
          have V_b33 : Arv Z h39 b33 k33 .char (4 : Int32) [(.int (nar .char r34)), (.int (nar .char r36)), (.int (nar .char r38)), (.int (0 : Int32))] (.int (0 : Int32)) := V39
          refine GoV.st st39 ?_
          show GoV p e below s _ _ _ (T39.setTop (mkF m 148 #[.val (.int p0), .val (.int p1), .val (.int p2), .val (.int p3), .val (.int p4), .val (.int p5), .val (.int (p1 &&& (3 : Int32))), .val (.ref a), .val (.int (Int32.ofNat cs.length)), .val (.int (4 : Int32)), .val (.int q), .val (.ref b33), .unset, .unset] []))
          refine GoV.st (fun _ kq_ => XS.iload X39.here hx rfl (hb hby at_148) rfl kq_) ?_
          show GoV p e below s _ _ _ (T39.setTop (mkF m 150 #[.val (.int p0), .val (.int p1), .val (.int p2), .val (.int p3), .val (.int p4), .val (.int p5), .val (.int (p1 &&& (3 : Int32))), .val (.ref a), .val (.int (Int32.ofNat cs.length)), .val (.int (4 : Int32)), .val (.int q), .val (.ref b33), .unset, .unset] [(.int (4 : Int32))]))
          refine GoV.st (fun _ kq_ => XS.iconst X39.here hx rfl (hb hby at_150) kq_) ?_
          show GoV p e below s _ _ _ (T39.setTop (mkF m 151 #[.val (.int p0), .val (.int p1), .val (.int p2), .val (.int p3), .val (.int p4), .val (.int p5), .val (.int (p1 &&& (3 : Int32))), .val (.ref a), .val (.int (Int32.ofNat cs.length)), .val (.int (4 : Int32)), .val (.int q), .val (.ref b33), .unset, .unset] [(.int (3 : Int32)), (.int (4 : Int32))]))
          refine GoV.st (fun _ kq_ => XS.icmpNo X39.here hx rfl (hb hby at_151) rfl (by decide) kq_) ?_
          show GoV p e below s _ _ _ (T39.setTop (mkF m 154 #[.val (.int p0), .val (.int p1), .val (.int p2), .val (.int p3), .val (.int p4), .val (.int p5), .val (.int (p1 &&& (3 : Int32))), .val (.ref a), .val (.int (Int32.ofNat cs.length)), .val (.int (4 : Int32)), .val (.int q), .val (.ref b33), .unset, .unset] []))
          refine GoV.st (fun _ kq_ => XS.aload X39.here hx rfl (hb hby at_154) rfl rfl kq_) ?_
          show GoV p e below s _ _ _ (T39.setTop (mkF m 156 #[.val (.int p0), .val (.int p1), .val (.int p2), .val (.int p3), .val (.int p4), .val (.int p5), .val (.int (p1 &&& (3 : Int32))), .val (.ref a), .val (.int (Int32.ofNat cs.length)), .val (.int (4 : Int32)), .val (.int q), .val (.ref b33), .unset, .unset] [(.ref b33)]))
          refine GoV.st (fun _ kq_ => XS.iconst X39.here hx rfl (hb hby at_156) kq_) ?_
          show GoV p e below s _ _ _ (T39.setTop (mkF m 157 #[.val (.int p0), .val (.int p1), .val (.int p2), .val (.int p3), .val (.int p4), .val (.int p5), .val (.int (p1 &&& (3 : Int32))), .val (.ref a), .val (.int (Int32.ofNat cs.length)), .val (.int (4 : Int32)), .val (.int q), .val (.ref b33), .unset, .unset] [(.int (3 : Int32)), (.ref b33)]))
          refine GoV.st (fun _ kq_ => XS.aload X39.here hx rfl (hb hby at_157) rfl rfl kq_) ?_
          show GoV p e below s _ _ _ (T39.setTop (mkF m 159 #[.val (.int p0), .val (.int p1), .val (.int p2), .val (.int p3), .val (.int p4), .val (.int p5), .val (.int (p1 &&& (3 : Int32))), .val (.ref a), .val (.int (Int32.ofNat cs.length)), .val (.int (4 : Int32)), .val (.int q), .val (.ref b33), .unset, .unset] [(.ref a), (.int (3 : Int32)), (.ref b33)]))
          refine GoV.st (fun _ kq_ => XS.iconst X39.here hx rfl (hb hby at_159) kq_) ?_
          show GoV p e below s _ _ _ (T39.setTop (mkF m 160 #[.val (.int p0), .val (.int p1), .val (.int p2), .val (.int p3), .val (.int p4), .val (.int p5), .val (.int (p1 &&& (3 : Int32))), .val (.ref a), .val (.int (Int32.ofNat cs.length)), .val (.int (4 : Int32)), .val (.int q), .val (.ref b33), .unset, .unset] [(.int (3 : Int32)), (.ref a), (.int (3 : Int32)), (.ref b33)]))
          refine GoV.st (fun _ kq_ => XS.iload X39.here hx rfl (hb hby at_160) rfl kq_) ?_
          show GoV p e below s _ _ _ (T39.setTop (mkF m 162 #[.val (.int p0), .val (.int p1), .val (.int p2), .val (.int p3), .val (.int p4), .val (.int p5), .val (.int (p1 &&& (3 : Int32))), .val (.ref a), .val (.int (Int32.ofNat cs.length)), .val (.int (4 : Int32)), .val (.int q), .val (.ref b33), .unset, .unset] [(.int q), (.int (3 : Int32)), (.ref a), (.int (3 : Int32)), (.ref b33)]))
          refine GoV.st (fun _ kq_ => XS.iloadN X39.here hx rfl (hb hby at_162) rfl kq_) ?_
          show GoV p e below s _ _ _ (T39.setTop (mkF m 163 #[.val (.int p0), .val (.int p1), .val (.int p2), .val (.int p3), .val (.int p4), .val (.int p5), .val (.int (p1 &&& (3 : Int32))), .val (.ref a), .val (.int (Int32.ofNat cs.length)), .val (.int (4 : Int32)), .val (.int q), .val (.ref b33), .unset, .unset] [(.int p3), (.int q), (.int (3 : Int32)), (.ref a), (.int (3 : Int32)), (.ref b33)]))
          refine GoV.st (fun _ kq_ => XS.iload X39.here hx rfl (hb hby at_163) rfl kq_) ?_
          show GoV p e below s _ _ _ (T39.setTop (mkF m 165 #[.val (.int p0), .val (.int p1), .val (.int p2), .val (.int p3), .val (.int p4), .val (.int p5), .val (.int (p1 &&& (3 : Int32))), .val (.ref a), .val (.int (Int32.ofNat cs.length)), .val (.int (4 : Int32)), .val (.int q), .val (.ref b33), .unset, .unset] [(.int p5), (.int p3), (.int q), (.int (3 : Int32)), (.ref a), (.int (3 : Int32)), (.ref b33)]))
          obtain ⟨_, _, ⟨T40, L40, k40, n40⟩, -, X40, ⟨Lc40, hQ40, l40, y40, z40⟩, st40⟩ := Jvm.LawKit.callS X39 hx (y := (⟨"com/example/pemmican/pemmican/DataTypeNamedPinLaw", "ch", "(Ljava/lang/String;IIII)C"⟩ : MethodName)) hown3 (mvT hZ3 (own_w hw 84 rfl)) (mvT hZ3 (own_w hw 85 rfl)) (mvT hZ3 (own_w hw 73 rfl)) (mvT hZ3 (own_w hw 86 rfl)) (by decide) (backOf (W := 2) (rmc l Z a0 hw [] a b kb N vs cs (3 : Int32) q p3 p5 zc fm h39 n0 O39 E_a F_a_coder F_a_value V_b hcB hbB hlB (by decide) SC hcs SF rf) hZ3 (own_w hw 86 rfl) (own_w hw 73 rfl) (by decide) (by decide)) (g := (mkF m 165 #[.val (.int p0), .val (.int p1), .val (.int p2), .val (.int p3), .val (.int p4), .val (.int p5), .val (.int (p1 &&& (3 : Int32))), .val (.ref a), .val (.int (Int32.ofNat cs.length)), .val (.int (4 : Int32)), .val (.int q), .val (.ref b33), .unset, .unset] [(.int p5), (.int p3), (.int q), (.int (3 : Int32)), (.ref a), (.int (3 : Int32)), (.ref b33)])) rfl (by rw [hml]; rfl) (argsL := [(.ref a), (.int (3 : Int32)), (.int q), (.int p3), (.int p5)]) (rest := [(.int (3 : Int32)), (.ref b33)]) (lenOf pd0_3 rfl) rfl (by show 2 * 0 + _ ≤ _; exact Nat.le_of_eq rfl) (hb hby at_165) (fun _ _ => ⟨rfl, e39, (by decide : 3 + 0 ≤ _), (by decide : 36 + 0 ≤ _)⟩)
          dsimp only [Pt.U, Pt.locs, Pt.cells, Pt.slots] at X40 l40 y40 z40 st40 hQ40
          subst y40 z40
          obtain ⟨r40, rfl, hr40, Nc40, e40⟩ := hQ40
          have N40 : Fr n0 L40 := by rw [l40]; exact Fr.app N39 Nc40
          refine GoV.st st40 ?_
          show GoV p e below s _ _ _ (T40.setTop (mkF m 168 #[.val (.int p0), .val (.int p1), .val (.int p2), .val (.int p3), .val (.int p4), .val (.int p5), .val (.int (p1 &&& (3 : Int32))), .val (.ref a), .val (.int (Int32.ofNat cs.length)), .val (.int (4 : Int32)), .val (.int q), .val (.ref b33), .unset, .unset] [(.int r40), (.int (3 : Int32)), (.ref b33)]))
          obtain ⟨T41, h41, X41, e41, W41, V41, st41⟩ := own_stC X40 hx hZ3 e40 V_b33 (j := (3 : Int32)) (by decide) (by decide) 3 rfl (Nat.le_of_ble_eq_true rfl) (g := (mkF m 168 #[.val (.int p0), .val (.int p1), .val (.int p2), .val (.int p3), .val (.int p4), .val (.int p5), .val (.int (p1 &&& (3 : Int32))), .val (.ref a), .val (.int (Int32.ofNat cs.length)), .val (.int (4 : Int32)), .val (.int q), .val (.ref b33), .unset, .unset] [(.int r40), (.int (3 : Int32)), (.ref b33)])) rfl rfl (hb hby at_168)
          obtain ⟨lc41, X41, N41⟩ := own_gen X41 (Fr.snoc X41 N40 g_b33)
          have O41 := O39.wr W41 g_b33
          have E_a := E_a.wr W41
          have F_a_coder := F_a_coder.other W41 (Or.inl ne_a_b33)
          have F_a_value := F_a_value.other W41 (Or.inl ne_a_b33)
          have V_b := V_b.other W41 ne_b_b33
          have C_a := C_a.other W41 ne_a_b33
          have C_b := C_b.other W41 ne_b_b33
          have hk41 := Nat.le_trans hk39 (Nat.le_of_eq W41.size.symm)
          have V_b33 : Arv Z h41 b33 k33 .char (4 : Int32) [(.int (nar .char r34)), (.int (nar .char r36)), (.int (nar .char r38)), (.int (nar .char r40))] (.int (0 : Int32)) := V41
          refine GoV.st st41 ?_
          show GoV p e below s _ _ _ (T41.setTop (mkF m 169 #[.val (.int p0), .val (.int p1), .val (.int p2), .val (.int p3), .val (.int p4), .val (.int p5), .val (.int (p1 &&& (3 : Int32))), .val (.ref a), .val (.int (Int32.ofNat cs.length)), .val (.int (4 : Int32)), .val (.int q), .val (.ref b33), .unset, .unset] []))
          refine GoV.st (fun _ kq_ => XS.iload X41.here hx rfl (hb hby at_169) rfl kq_) ?_
          show GoV p e below s _ _ _ (T41.setTop (mkF m 171 #[.val (.int p0), .val (.int p1), .val (.int p2), .val (.int p3), .val (.int p4), .val (.int p5), .val (.int (p1 &&& (3 : Int32))), .val (.ref a), .val (.int (Int32.ofNat cs.length)), .val (.int (4 : Int32)), .val (.int q), .val (.ref b33), .unset, .unset] [(.int (4 : Int32))]))
          refine GoV.st (fun _ kq_ => XS.iconst X41.here hx rfl (hb hby at_171) kq_) ?_
          show GoV p e below s _ _ _ (T41.setTop (mkF m 172 #[.val (.int p0), .val (.int p1), .val (.int p2), .val (.int p3), .val (.int p4), .val (.int p5), .val (.int (p1 &&& (3 : Int32))), .val (.ref a), .val (.int (Int32.ofNat cs.length)), .val (.int (4 : Int32)), .val (.int q), .val (.ref b33), .unset, .unset] [(.int (4 : Int32)), (.int (4 : Int32))]))
          refine GoV.st (fun _ kq_ => XS.icmpYes X41.here hx rfl (pc0 := 172) (pc' := 190) rfl (hb hby at_172) rfl (by decide) (by decide) (by decide) kq_) ?_
          show GoV p e below s _ _ _ (T41.setTop (mkF m 190 #[.val (.int p0), .val (.int p1), .val (.int p2), .val (.int p3), .val (.int p4), .val (.int p5), .val (.int (p1 &&& (3 : Int32))), .val (.ref a), .val (.int (Int32.ofNat cs.length)), .val (.int (4 : Int32)), .val (.int q), .val (.ref b33), .unset, .unset] []))
          refine GoV.st (fun _ kq_ => XS.iload X41.here hx rfl (hb hby at_190) rfl kq_) ?_
          show GoV p e below s _ _ _ (T41.setTop (mkF m 192 #[.val (.int p0), .val (.int p1), .val (.int p2), .val (.int p3), .val (.int p4), .val (.int p5), .val (.int (p1 &&& (3 : Int32))), .val (.ref a), .val (.int (Int32.ofNat cs.length)), .val (.int (4 : Int32)), .val (.int q), .val (.ref b33), .unset, .unset] [(.int (4 : Int32))]))
          refine GoV.st (fun _ kq_ => XS.iconst X41.here hx rfl (hb hby at_192) kq_) ?_
          show GoV p e below s _ _ _ (T41.setTop (mkF m 193 #[.val (.int p0), .val (.int p1), .val (.int p2), .val (.int p3), .val (.int p4), .val (.int p5), .val (.int (p1 &&& (3 : Int32))), .val (.ref a), .val (.int (Int32.ofNat cs.length)), .val (.int (4 : Int32)), .val (.int q), .val (.ref b33), .unset, .unset] [(.int (5 : Int32)), (.int (4 : Int32))]))
          refine GoV.st (fun _ kq_ => XS.icmpYes X41.here hx rfl (pc0 := 193) (pc' := 211) rfl (hb hby at_193) rfl (by decide) (by decide) (by decide) kq_) ?_
          show GoV p e below s _ _ _ (T41.setTop (mkF m 211 #[.val (.int p0), .val (.int p1), .val (.int p2), .val (.int p3), .val (.int p4), .val (.int p5), .val (.int (p1 &&& (3 : Int32))), .val (.ref a), .val (.int (Int32.ofNat cs.length)), .val (.int (4 : Int32)), .val (.int q), .val (.ref b33), .unset, .unset] []))
          refine GoV.st (fun _ kq_ => XS.iload X41.here hx rfl (hb hby at_211) rfl kq_) ?_
          show GoV p e below s _ _ _ (T41.setTop (mkF m 213 #[.val (.int p0), .val (.int p1), .val (.int p2), .val (.int p3), .val (.int p4), .val (.int p5), .val (.int (p1 &&& (3 : Int32))), .val (.ref a), .val (.int (Int32.ofNat cs.length)), .val (.int (4 : Int32)), .val (.int q), .val (.ref b33), .unset, .unset] [(.int (4 : Int32))]))
          refine GoV.st (fun _ kq_ => XS.bipush X41.here hx rfl (hb hby at_213) kq_) ?_
          show GoV p e below s _ _ _ (T41.setTop (mkF m 215 #[.val (.int p0), .val (.int p1), .val (.int p2), .val (.int p3), .val (.int p4), .val (.int p5), .val (.int (p1 &&& (3 : Int32))), .val (.ref a), .val (.int (Int32.ofNat cs.length)), .val (.int (4 : Int32)), .val (.int q), .val (.ref b33), .unset, .unset] [(.int (6 : Int32)), (.int (4 : Int32))]))
          refine GoV.st (fun _ kq_ => XS.icmpYes X41.here hx rfl (pc0 := 215) (pc' := 235) rfl (hb hby at_215) rfl (by decide) (by decide) (by decide) kq_) ?_
          show GoV p e below s _ _ _ (T41.setTop (mkF m 235 #[.val (.int p0), .val (.int p1), .val (.int p2), .val (.int p3), .val (.int p4), .val (.int p5), .val (.int (p1 &&& (3 : Int32))), .val (.ref a), .val (.int (Int32.ofNat cs.length)), .val (.int (4 : Int32)), .val (.int q), .val (.ref b33), .unset, .unset] []))
          refine GoV.st (fun _ kq_ => XS.iload X41.here hx rfl (hb hby at_235) rfl kq_) ?_
          show GoV p e below s _ _ _ (T41.setTop (mkF m 237 #[.val (.int p0), .val (.int p1), .val (.int p2), .val (.int p3), .val (.int p4), .val (.int p5), .val (.int (p1 &&& (3 : Int32))), .val (.ref a), .val (.int (Int32.ofNat cs.length)), .val (.int (4 : Int32)), .val (.int q), .val (.ref b33), .unset, .unset] [(.int (4 : Int32))]))
          refine GoV.st (fun _ kq_ => XS.bipush X41.here hx rfl (hb hby at_237) kq_) ?_
          show GoV p e below s _ _ _ (T41.setTop (mkF m 239 #[.val (.int p0), .val (.int p1), .val (.int p2), .val (.int p3), .val (.int p4), .val (.int p5), .val (.int (p1 &&& (3 : Int32))), .val (.ref a), .val (.int (Int32.ofNat cs.length)), .val (.int (4 : Int32)), .val (.int q), .val (.ref b33), .unset, .unset] [(.int (7 : Int32)), (.int (4 : Int32))]))
          refine GoV.st (fun _ kq_ => XS.icmpYes X41.here hx rfl (pc0 := 239) (pc' := 259) rfl (hb hby at_239) rfl (by decide) (by decide) (by decide) kq_) ?_
          show GoV p e below s _ _ _ (T41.setTop (mkF m 259 #[.val (.int p0), .val (.int p1), .val (.int p2), .val (.int p3), .val (.int p4), .val (.int p5), .val (.int (p1 &&& (3 : Int32))), .val (.ref a), .val (.int (Int32.ofNat cs.length)), .val (.int (4 : Int32)), .val (.int q), .val (.ref b33), .unset, .unset] []))
          obtain ⟨T42, h42, X42, e42, E42, A42, D42, -, st42⟩ := newO X41 hx hZ3 hown3 (own_w hw 23 rfl) (own_w hw 2 rfl) (own_w hw 1 rfl) e41 (g := (mkF m 259 #[.val (.int p0), .val (.int p1), .val (.int p2), .val (.int p3), .val (.int p4), .val (.int p5), .val (.int (p1 &&& (3 : Int32))), .val (.ref a), .val (.int (Int32.ofNat cs.length)), .val (.int (4 : Int32)), .val (.int q), .val (.ref b33), .unset, .unset] [])) rfl (hb hby at_259) (by decide) (by decide)
          obtain ⟨a42, g42⟩ : ∃ z, z = h41.size := ⟨_, rfl⟩
          rw [← g42] at A42 D42 st42
          have g_a42 : n0 ≤ a42 := Nat.le_trans (own_old O41) (Nat.le_of_eq g42.symm)
          have ne_a_a42 : a ≠ a42 := by rw [g42]; exact Nat.ne_of_lt E_a.lt
          have ne_b_a42 : b ≠ a42 := by rw [g42]; exact Nat.ne_of_lt V_b.lt
          have ne_b33_a42 : b33 ≠ a42 := by rw [g42]; exact Nat.ne_of_lt V_b33.lt
          have E_a := E_a.ext E42
          have F_a_coder := F_a_coder.ext E42
          have F_a_value := F_a_value.ext E42
          have V_b := V_b.ext E42
          have C_a := C_a.ext E42
          have C_b := C_b.ext E42
          have V_b33 := V_b33.ext E42
          have hk42 := Nat.le_trans hk41 E42.1
          have O42 := O41.ext E42
          have E_a42 : Exa Z h42 a42 "java/lang/String" := A42
          have F_a42_value : Fld Z h42 a42 "java/lang/String" "value" "[B" .null := D42 (Or.inr (own_w hw 4 rfl)) (ty := (.array .byte)) (by decide)
          have F_a42_coder : Fld Z h42 a42 "java/lang/String" "coder" "B" (.int (0 : Int32)) := D42 (Or.inr (own_w hw 5 rfl)) (ty := .byte) (by decide)
          refine GoV.st st42 ?_
          show GoV p e below s _ _ _ (T42.setTop (mkF m 262 #[.val (.int p0), .val (.int p1), .val (.int p2), .val (.int p3), .val (.int p4), .val (.int p5), .val (.int (p1 &&& (3 : Int32))), .val (.ref a), .val (.int (Int32.ofNat cs.length)), .val (.int (4 : Int32)), .val (.int q), .val (.ref b33), .unset, .unset] [(.ref a42)]))
          refine GoV.st (fun _ kq_ => XS.dup X42.here hx rfl (hb hby at_262) rfl rfl kq_) ?_
          show GoV p e below s _ _ _ (T42.setTop (mkF m 263 #[.val (.int p0), .val (.int p1), .val (.int p2), .val (.int p3), .val (.int p4), .val (.int p5), .val (.int (p1 &&& (3 : Int32))), .val (.ref a), .val (.int (Int32.ofNat cs.length)), .val (.int (4 : Int32)), .val (.int q), .val (.ref b33), .unset, .unset] [(.ref a42), (.ref a42)]))
          refine GoV.st (fun _ kq_ => XS.aload X42.here hx rfl (hb hby at_263) rfl rfl kq_) ?_
          show GoV p e below s _ _ _ (T42.setTop (mkF m 265 #[.val (.int p0), .val (.int p1), .val (.int p2), .val (.int p3), .val (.int p4), .val (.int p5), .val (.int (p1 &&& (3 : Int32))), .val (.ref a), .val (.int (Int32.ofNat cs.length)), .val (.int (4 : Int32)), .val (.int q), .val (.ref b33), .unset, .unset] [(.ref b33), (.ref a42), (.ref a42)]))
          have hp : ∀ z ∈ ([(nar .char r34), (nar .char r36), (nar .char r38), (nar .char r40)] : List Int32), ¬ z < 0 ∧ ¬ (255 : Int32) < z := by
            intro z hz
            simp only [List.mem_cons, List.not_mem_nil, or_false] at hz
            rcases hz with rfl | rfl | rfl | rfl
            · exact (by rw [own_nc hr34]; exact hr34)
            · exact (by rw [own_nc hr36]; exact hr36)
            · exact (by rw [own_nc hr38]; exact hr38)
            · exact (by rw [own_nc hr40]; exact hr40)
          obtain ⟨_, _, ⟨T43, L43, k43, n43⟩, -, X43, ⟨Lc43, hQ43, l43, y43, z43⟩, st43⟩ := X42.specialBack hx (y := (⟨"java/lang/String", "<init>", "([C)V"⟩ : MethodName)) rfl hown3 (mvT hZ3 (own_w hw 24 rfl)) (mvT hZ3 (own_w hw 25 rfl)) (mvT hZ3 (own_w hw 26 rfl)) (by decide) (StrChars.Road.backV (W := 1) hZ3 hws (kI := 4) (own_w hw 2 rfl) (cs := ([(nar .char r34), (nar .char r36), (nar .char r38), (nar .char r40)] : List Int32)) (bs := ([(nar .char r34), (nar .char r36), (nar .char r38), (nar .char r40)] : List Int32).map (fun c => c.toInt8.toInt32)) (n := 4) g_a42 (own_old O42) E_a42 F_a42_value F_a42_coder V_b33 (SC.ext O42.2) hcs rfl rfl (by decide) (by decide) hp rfl (by decide) (by decide)) (g := (mkF m 265 #[.val (.int p0), .val (.int p1), .val (.int p2), .val (.int p3), .val (.int p4), .val (.int p5), .val (.int (p1 &&& (3 : Int32))), .val (.ref a), .val (.int (Int32.ofNat cs.length)), .val (.int (4 : Int32)), .val (.int q), .val (.ref b33), .unset, .unset] [(.ref b33), (.ref a42), (.ref a42)])) rfl (by rw [hml]; rfl) (Steps.refl _) (a := a42) (argsL := [(.ref b33)]) (rest := [(.ref a42)]) (lenOf pd0_2 rfl) rfl (by show 2 * 0 + _ ≤ _; exact Nat.le_of_eq rfl) (hb hby at_265) (fun _ _ => ⟨rfl, e42, (by decide : 4 + 1 ≤ _), (by decide : 40 + 4 ≤ _)⟩)
          dsimp only [Pt.U, Pt.locs, Pt.cells, Pt.slots] at X43 l43 y43 z43 st43 hQ43
          subst y43 z43
          obtain ⟨rfl, Nc43, Kc43, NE, NC, t43, kt43, gt43, szt43, -, NV, NB⟩ := hQ43
          have N43 : Fr n0 L43 := by rw [l43]; exact Fr.app N41 Nc43
          have E_a := E_a.keep Kc43
          have F_a_coder := F_a_coder.keep Kc43 (ninS ne_a_a42 nin0)
          have F_a_value := F_a_value.keep Kc43 (ninS ne_a_a42 nin0)
          have V_b := V_b.keep Kc43 (ninS ne_b_a42 nin0)
          have C_a := C_a.keep Kc43 (ninS ne_a_a42 nin0)
          have C_b := C_b.keep Kc43 (ninS ne_b_a42 nin0)
          have V_b33 := V_b33.keep Kc43 (ninS ne_b33_a42 nin0)
          have hk43 := Nat.le_trans hk42 Kc43.1
          have O43 := O42.keep Kc43 (allS g_a42 all0)
          have E_a42 : Exa Z T43.heap a42 "java/lang/String" := NE
          have F_a42_coder : Fld Z T43.heap a42 "java/lang/String" "coder" "B" (.int (0 : Int32)) := NC
          have F_a42_value : Fld Z T43.heap a42 "java/lang/String" "value" "[B" (.ref t43) := NV
          have V_t43 : Arv Z T43.heap t43 kt43 .byte (4 : Int32) ((([(nar .char r34), (nar .char r36), (nar .char r38), (nar .char r40)] : List Int32).map (fun c => c.toInt8.toInt32)).map Value.int) (.int (0 : Int32)) := NB
          refine GoV.tr st43 ?_
          show GoV p e below s _ _ _ (T43.setTop (mkF m 268 #[.val (.int p0), .val (.int p1), .val (.int p2), .val (.int p3), .val (.int p4), .val (.int p5), .val (.int (p1 &&& (3 : Int32))), .val (.ref a), .val (.int (Int32.ofNat cs.length)), .val (.int (4 : Int32)), .val (.int q), .val (.ref b33), .unset, .unset] [(.ref a42)]))
          exact JX a42 t43 _ _ _ ([(nar .char r34), (nar .char r36), (nar .char r38), (nar .char r40)] : List Int32) (4 : Int32) b33 _ (vm3) _ _ _ _ (X43.mono (by decide) (by decide)) rfl N43 O43 hS3 hk43 hZ3 hown3 I3 E_a F_a_coder F_a_value V_b C_a C_b E_a42 F_a42_coder F_a42_value V_t43 (StrChars.Road.codOf (n := 4) rfl (fun c hc => (hp c hc).2)) (own_up hp) (Nat.le_of_ble_eq_true rfl) (fun q hq => Or.inl (List.mem_singleton.mp hq))
        · show GoV p e below s _ _ _ (T3.setTop (mkF m 80 #[.val (.int p0), .val (.int p1), .val (.int p2), .val (.int p3), .val (.int p4), .val (.int p5), .val (.int (p1 &&& (3 : Int32))), .val (.ref a), .val (.int (Int32.ofNat cs.length)), .val (.int (5 : Int32)), .val (.int q), .unset, .unset, .unset] []))
          refine GoV.st (fun _ kq_ => XS.iload X3.here hx rfl (hb hby at_80) rfl kq_) ?_
          show GoV p e below s _ _ _ (T3.setTop (mkF m 82 #[.val (.int p0), .val (.int p1), .val (.int p2), .val (.int p3), .val (.int p4), .val (.int p5), .val (.int (p1 &&& (3 : Int32))), .val (.ref a), .val (.int (Int32.ofNat cs.length)), .val (.int (5 : Int32)), .val (.int q), .unset, .unset, .unset] [(.int (5 : Int32))]))
          obtain ⟨T44, h44, k44, X44, e44, E44, A44, st44⟩ := newP X3 hx hZ3 (own_w hw 22 rfl) e3 (g := (mkF m 82 #[.val (.int p0), .val (.int p1), .val (.int p2), .val (.int p3), .val (.int p4), .val (.int p5), .val (.int (p1 &&& (3 : Int32))), .val (.ref a), .val (.int (Int32.ofNat cs.length)), .val (.int (5 : Int32)), .val (.int q), .unset, .unset, .unset] [(.int (5 : Int32))])) rfl (hb hby at_82) rfl (by decide) (cap := 5) (by decide) (by decide) (by decide) (by decide)
          obtain ⟨b44, g44⟩ : ∃ z, z = h3.size := ⟨_, rfl⟩
          rw [← g44] at A44 st44
          have g_b44 : n0 ≤ b44 := Nat.le_trans (own_old O3) (Nat.le_of_eq g44.symm)
          have ne_a_b44 : a ≠ b44 := by rw [g44]; exact Nat.ne_of_lt E_a.lt
          have ne_b_b44 : b ≠ b44 := by rw [g44]; exact Nat.ne_of_lt V_b.lt
          have E_a := E_a.ext E44
          have F_a_coder := F_a_coder.ext E44
          have F_a_value := F_a_value.ext E44
          have V_b := V_b.ext E44
          have C_a := C_a.ext E44
          have C_b := C_b.ext E44
          have hk44 := Nat.le_trans hk3 E44.1
          have O44 := O3.ext E44
          have V_b44 : Arv Z h44 b44 k44 .char (5 : Int32) [(.int (0 : Int32)), (.int (0 : Int32)), (.int (0 : Int32)), (.int (0 : Int32)), (.int (0 : Int32))] (.int (0 : Int32)) := (Arv.new A44 (by decide)).pad (pad_rep [] (.int (0 : Int32)) 5)
          refine GoV.st st44 ?_
          show GoV p e below s _ _ _ (T44.setTop (mkF m 84 #[.val (.int p0), .val (.int p1), .val (.int p2), .val (.int p3), .val (.int p4), .val (.int p5), .val (.int (p1 &&& (3 : Int32))), .val (.ref a), .val (.int (Int32.ofNat cs.length)), .val (.int (5 : Int32)), .val (.int q), .unset, .unset, .unset] [(.ref b44)]))
          refine GoV.st (fun _ kq_ => XS.astore X44.here hx rfl (hb hby at_84) rfl rfl (l' := #[.val (.int p0), .val (.int p1), .val (.int p2), .val (.int p3), .val (.int p4), .val (.int p5), .val (.int (p1 &&& (3 : Int32))), .val (.ref a), .val (.int (Int32.ofNat cs.length)), .val (.int (5 : Int32)), .val (.int q), .val (.ref b44), .unset, .unset]) rfl kq_) ?_
          show GoV p e below s _ _ _ (T44.setTop (mkF m 86 #[.val (.int p0), .val (.int p1), .val (.int p2), .val (.int p3), .val (.int p4), .val (.int p5), .val (.int (p1 &&& (3 : Int32))), .val (.ref a), .val (.int (Int32.ofNat cs.length)), .val (.int (5 : Int32)), .val (.int q), .val (.ref b44), .unset, .unset] []))
          refine GoV.st (fun _ kq_ => XS.iload X44.here hx rfl (hb hby at_86) rfl kq_) ?_
          show GoV p e below s _ _ _ (T44.setTop (mkF m 88 #[.val (.int p0), .val (.int p1), .val (.int p2), .val (.int p3), .val (.int p4), .val (.int p5), .val (.int (p1 &&& (3 : Int32))), .val (.ref a), .val (.int (Int32.ofNat cs.length)), .val (.int (5 : Int32)), .val (.int q), .val (.ref b44), .unset, .unset] [(.int (5 : Int32))]))
          refine GoV.st (fun _ kq_ => XS.ifNo X44.here hx rfl (hb hby at_88) rfl (by decide) kq_) ?_
          show GoV p e below s _ _ _ (T44.setTop (mkF m 91 #[.val (.int p0), .val (.int p1), .val (.int p2), .val (.int p3), .val (.int p4), .val (.int p5), .val (.int (p1 &&& (3 : Int32))), .val (.ref a), .val (.int (Int32.ofNat cs.length)), .val (.int (5 : Int32)), .val (.int q), .val (.ref b44), .unset, .unset] []))
          refine GoV.st (fun _ kq_ => XS.aload X44.here hx rfl (hb hby at_91) rfl rfl kq_) ?_
          show GoV p e below s _ _ _ (T44.setTop (mkF m 93 #[.val (.int p0), .val (.int p1), .val (.int p2), .val (.int p3), .val (.int p4), .val (.int p5), .val (.int (p1 &&& (3 : Int32))), .val (.ref a), .val (.int (Int32.ofNat cs.length)), .val (.int (5 : Int32)), .val (.int q), .val (.ref b44), .unset, .unset] [(.ref b44)]))
          refine GoV.st (fun _ kq_ => XS.iconst X44.here hx rfl (hb hby at_93) kq_) ?_
          show GoV p e below s _ _ _ (T44.setTop (mkF m 94 #[.val (.int p0), .val (.int p1), .val (.int p2), .val (.int p3), .val (.int p4), .val (.int p5), .val (.int (p1 &&& (3 : Int32))), .val (.ref a), .val (.int (Int32.ofNat cs.length)), .val (.int (5 : Int32)), .val (.int q), .val (.ref b44), .unset, .unset] [(.int (0 : Int32)), (.ref b44)]))
          refine GoV.st (fun _ kq_ => XS.aload X44.here hx rfl (hb hby at_94) rfl rfl kq_) ?_
          show GoV p e below s _ _ _ (T44.setTop (mkF m 96 #[.val (.int p0), .val (.int p1), .val (.int p2), .val (.int p3), .val (.int p4), .val (.int p5), .val (.int (p1 &&& (3 : Int32))), .val (.ref a), .val (.int (Int32.ofNat cs.length)), .val (.int (5 : Int32)), .val (.int q), .val (.ref b44), .unset, .unset] [(.ref a), (.int (0 : Int32)), (.ref b44)]))
          refine GoV.st (fun _ kq_ => XS.iconst X44.here hx rfl (hb hby at_96) kq_) ?_
          show GoV p e below s _ _ _ (T44.setTop (mkF m 97 #[.val (.int p0), .val (.int p1), .val (.int p2), .val (.int p3), .val (.int p4), .val (.int p5), .val (.int (p1 &&& (3 : Int32))), .val (.ref a), .val (.int (Int32.ofNat cs.length)), .val (.int (5 : Int32)), .val (.int q), .val (.ref b44), .unset, .unset] [(.int (0 : Int32)), (.ref a), (.int (0 : Int32)), (.ref b44)]))
          refine GoV.st (fun _ kq_ => XS.iload X44.here hx rfl (hb hby at_97) rfl kq_) ?_
          show GoV p e below s _ _ _ (T44.setTop (mkF m 99 #[.val (.int p0), .val (.int p1), .val (.int p2), .val (.int p3), .val (.int p4), .val (.int p5), .val (.int (p1 &&& (3 : Int32))), .val (.ref a), .val (.int (Int32.ofNat cs.length)), .val (.int (5 : Int32)), .val (.int q), .val (.ref b44), .unset, .unset] [(.int q), (.int (0 : Int32)), (.ref a), (.int (0 : Int32)), (.ref b44)]))
          refine GoV.st (fun _ kq_ => XS.iloadN X44.here hx rfl (hb hby at_99) rfl kq_) ?_
          show GoV p e below s _ _ _ (T44.setTop (mkF m 100 #[.val (.int p0), .val (.int p1), .val (.int p2), .val (.int p3), .val (.int p4), .val (.int p5), .val (.int (p1 &&& (3 : Int32))), .val (.ref a), .val (.int (Int32.ofNat cs.length)), .val (.int (5 : Int32)), .val (.int q), .val (.ref b44), .unset, .unset] [(.int p3), (.int q), (.int (0 : Int32)), (.ref a), (.int (0 : Int32)), (.ref b44)]))
          refine GoV.st (fun _ kq_ => XS.iload X44.here hx rfl (hb hby at_100) rfl kq_) ?_
          show GoV p e below s _ _ _ (T44.setTop (mkF m 102 #[.val (.int p0), .val (.int p1), .val (.int p2), .val (.int p3), .val (.int p4), .val (.int p5), .val (.int (p1 &&& (3 : Int32))), .val (.ref a), .val (.int (Int32.ofNat cs.length)), .val (.int (5 : Int32)), .val (.int q), .val (.ref b44), .unset, .unset] [(.int p5), (.int p3), (.int q), (.int (0 : Int32)), (.ref a), (.int (0 : Int32)), (.ref b44)]))
          obtain ⟨_, _, ⟨T45, L45, k45, n45⟩, -, X45, ⟨Lc45, hQ45, l45, y45, z45⟩, st45⟩ := Jvm.LawKit.callS X44 hx (y := (⟨"com/example/pemmican/pemmican/DataTypeNamedPinLaw", "ch", "(Ljava/lang/String;IIII)C"⟩ : MethodName)) hown3 (mvT hZ3 (own_w hw 84 rfl)) (mvT hZ3 (own_w hw 85 rfl)) (mvT hZ3 (own_w hw 73 rfl)) (mvT hZ3 (own_w hw 86 rfl)) (by decide) (backOf (W := 2) (rmc l Z a0 hw [] a b kb N vs cs (0 : Int32) q p3 p5 zc fm h44 n0 O44 E_a F_a_coder F_a_value V_b hcB hbB hlB (by decide) SC hcs SF rf) hZ3 (own_w hw 86 rfl) (own_w hw 73 rfl) (by decide) (by decide)) (g := (mkF m 102 #[.val (.int p0), .val (.int p1), .val (.int p2), .val (.int p3), .val (.int p4), .val (.int p5), .val (.int (p1 &&& (3 : Int32))), .val (.ref a), .val (.int (Int32.ofNat cs.length)), .val (.int (5 : Int32)), .val (.int q), .val (.ref b44), .unset, .unset] [(.int p5), (.int p3), (.int q), (.int (0 : Int32)), (.ref a), (.int (0 : Int32)), (.ref b44)])) rfl (by rw [hml]; rfl) (argsL := [(.ref a), (.int (0 : Int32)), (.int q), (.int p3), (.int p5)]) (rest := [(.int (0 : Int32)), (.ref b44)]) (lenOf pd0_3 rfl) rfl (by show 2 * 0 + _ ≤ _; exact Nat.le_of_eq rfl) (hb hby at_102) (fun _ _ => ⟨rfl, e44, (by decide : 3 + 0 ≤ _), (by decide : 37 + 0 ≤ _)⟩)
          dsimp only [Pt.U, Pt.locs, Pt.cells, Pt.slots] at X45 l45 y45 z45 st45 hQ45
          subst y45 z45
          obtain ⟨r45, rfl, hr45, Nc45, e45⟩ := hQ45
          have N45 : Fr n0 L45 := by rw [l45]; exact Fr.app N3 Nc45
          refine GoV.st st45 ?_
          show GoV p e below s _ _ _ (T45.setTop (mkF m 105 #[.val (.int p0), .val (.int p1), .val (.int p2), .val (.int p3), .val (.int p4), .val (.int p5), .val (.int (p1 &&& (3 : Int32))), .val (.ref a), .val (.int (Int32.ofNat cs.length)), .val (.int (5 : Int32)), .val (.int q), .val (.ref b44), .unset, .unset] [(.int r45), (.int (0 : Int32)), (.ref b44)]))
          obtain ⟨T46, h46, X46, e46, W46, V46, st46⟩ := own_stC X45 hx hZ3 e45 V_b44 (j := (0 : Int32)) (by decide) (by decide) 0 rfl (Nat.le_of_ble_eq_true rfl) (g := (mkF m 105 #[.val (.int p0), .val (.int p1), .val (.int p2), .val (.int p3), .val (.int p4), .val (.int p5), .val (.int (p1 &&& (3 : Int32))), .val (.ref a), .val (.int (Int32.ofNat cs.length)), .val (.int (5 : Int32)), .val (.int q), .val (.ref b44), .unset, .unset] [(.int r45), (.int (0 : Int32)), (.ref b44)])) rfl rfl (hb hby at_105)
          obtain ⟨lc46, X46, N46⟩ := own_gen X46 (Fr.snoc X46 N45 g_b44)
          have O46 := O44.wr W46 g_b44
          have E_a := E_a.wr W46
          have F_a_coder := F_a_coder.other W46 (Or.inl ne_a_b44)
          have F_a_value := F_a_value.other W46 (Or.inl ne_a_b44)
          have V_b := V_b.other W46 ne_b_b44
          have C_a := C_a.other W46 ne_a_b44
          have C_b := C_b.other W46 ne_b_b44
          have hk46 := Nat.le_trans hk44 (Nat.le_of_eq W46.size.symm)
          have V_b44 : Arv Z h46 b44 k44 .char (5 : Int32) [(.int (nar .char r45)), (.int (0 : Int32)), (.int (0 : Int32)), (.int (0 : Int32)), (.int (0 : Int32))] (.int (0 : Int32)) := V46
          refine GoV.st st46 ?_
          show GoV p e below s _ _ _ (T46.setTop (mkF m 106 #[.val (.int p0), .val (.int p1), .val (.int p2), .val (.int p3), .val (.int p4), .val (.int p5), .val (.int (p1 &&& (3 : Int32))), .val (.ref a), .val (.int (Int32.ofNat cs.length)), .val (.int (5 : Int32)), .val (.int q), .val (.ref b44), .unset, .unset] []))
          refine GoV.st (fun _ kq_ => XS.iload X46.here hx rfl (hb hby at_106) rfl kq_) ?_
          show GoV p e below s _ _ _ (T46.setTop (mkF m 108 #[.val (.int p0), .val (.int p1), .val (.int p2), .val (.int p3), .val (.int p4), .val (.int p5), .val (.int (p1 &&& (3 : Int32))), .val (.ref a), .val (.int (Int32.ofNat cs.length)), .val (.int (5 : Int32)), .val (.int q), .val (.ref b44), .unset, .unset] [(.int (5 : Int32))]))
          refine GoV.st (fun _ kq_ => XS.iconst X46.here hx rfl (hb hby at_108) kq_) ?_
          show GoV p e below s _ _ _ (T46.setTop (mkF m 109 #[.val (.int p0), .val (.int p1), .val (.int p2), .val (.int p3), .val (.int p4), .val (.int p5), .val (.int (p1 &&& (3 : Int32))), .val (.ref a), .val (.int (Int32.ofNat cs.length)), .val (.int (5 : Int32)), .val (.int q), .val (.ref b44), .unset, .unset] [(.int (1 : Int32)), (.int (5 : Int32))]))
          refine GoV.st (fun _ kq_ => XS.icmpNo X46.here hx rfl (hb hby at_109) rfl (by decide) kq_) ?_
          show GoV p e below s _ _ _ (T46.setTop (mkF m 112 #[.val (.int p0), .val (.int p1), .val (.int p2), .val (.int p3), .val (.int p4), .val (.int p5), .val (.int (p1 &&& (3 : Int32))), .val (.ref a), .val (.int (Int32.ofNat cs.length)), .val (.int (5 : Int32)), .val (.int q), .val (.ref b44), .unset, .unset] []))
          refine GoV.st (fun _ kq_ => XS.aload X46.here hx rfl (hb hby at_112) rfl rfl kq_) ?_
          show GoV p e below s _ _ _ (T46.setTop (mkF m 114 #[.val (.int p0), .val (.int p1), .val (.int p2), .val (.int p3), .val (.int p4), .val (.int p5), .val (.int (p1 &&& (3 : Int32))), .val (.ref a), .val (.int (Int32.ofNat cs.length)), .val (.int (5 : Int32)), .val (.int q), .val (.ref b44), .unset, .unset] [(.ref b44)]))
          refine GoV.st (fun _ kq_ => XS.iconst X46.here hx rfl (hb hby at_114) kq_) ?_
          show GoV p e below s _ _ _ (T46.setTop (mkF m 115 #[.val (.int p0), .val (.int p1), .val (.int p2), .val (.int p3), .val (.int p4), .val (.int p5), .val (.int (p1 &&& (3 : Int32))), .val (.ref a), .val (.int (Int32.ofNat cs.length)), .val (.int (5 : Int32)), .val (.int q), .val (.ref b44), .unset, .unset] [(.int (1 : Int32)), (.ref b44)]))
          refine GoV.st (fun _ kq_ => XS.aload X46.here hx rfl (hb hby at_115) rfl rfl kq_) ?_
          show GoV p e below s _ _ _ (T46.setTop (mkF m 117 #[.val (.int p0), .val (.int p1), .val (.int p2), .val (.int p3), .val (.int p4), .val (.int p5), .val (.int (p1 &&& (3 : Int32))), .val (.ref a), .val (.int (Int32.ofNat cs.length)), .val (.int (5 : Int32)), .val (.int q), .val (.ref b44), .unset, .unset] [(.ref a), (.int (1 : Int32)), (.ref b44)]))
          refine GoV.st (fun _ kq_ => XS.iconst X46.here hx rfl (hb hby at_117) kq_) ?_
          show GoV p e below s _ _ _ (T46.setTop (mkF m 118 #[.val (.int p0), .val (.int p1), .val (.int p2), .val (.int p3), .val (.int p4), .val (.int p5), .val (.int (p1 &&& (3 : Int32))), .val (.ref a), .val (.int (Int32.ofNat cs.length)), .val (.int (5 : Int32)), .val (.int q), .val (.ref b44), .unset, .unset] [(.int (1 : Int32)), (.ref a), (.int (1 : Int32)), (.ref b44)]))
          refine GoV.st (fun _ kq_ => XS.iload X46.here hx rfl (hb hby at_118) rfl kq_) ?_
          show GoV p e below s _ _ _ (T46.setTop (mkF m 120 #[.val (.int p0), .val (.int p1), .val (.int p2), .val (.int p3), .val (.int p4), .val (.int p5), .val (.int (p1 &&& (3 : Int32))), .val (.ref a), .val (.int (Int32.ofNat cs.length)), .val (.int (5 : Int32)), .val (.int q), .val (.ref b44), .unset, .unset] [(.int q), (.int (1 : Int32)), (.ref a), (.int (1 : Int32)), (.ref b44)]))
          refine GoV.st (fun _ kq_ => XS.iloadN X46.here hx rfl (hb hby at_120) rfl kq_) ?_
          show GoV p e below s _ _ _ (T46.setTop (mkF m 121 #[.val (.int p0), .val (.int p1), .val (.int p2), .val (.int p3), .val (.int p4), .val (.int p5), .val (.int (p1 &&& (3 : Int32))), .val (.ref a), .val (.int (Int32.ofNat cs.length)), .val (.int (5 : Int32)), .val (.int q), .val (.ref b44), .unset, .unset] [(.int p3), (.int q), (.int (1 : Int32)), (.ref a), (.int (1 : Int32)), (.ref b44)]))
          refine GoV.st (fun _ kq_ => XS.iload X46.here hx rfl (hb hby at_121) rfl kq_) ?_
          show GoV p e below s _ _ _ (T46.setTop (mkF m 123 #[.val (.int p0), .val (.int p1), .val (.int p2), .val (.int p3), .val (.int p4), .val (.int p5), .val (.int (p1 &&& (3 : Int32))), .val (.ref a), .val (.int (Int32.ofNat cs.length)), .val (.int (5 : Int32)), .val (.int q), .val (.ref b44), .unset, .unset] [(.int p5), (.int p3), (.int q), (.int (1 : Int32)), (.ref a), (.int (1 : Int32)), (.ref b44)]))
          obtain ⟨_, _, ⟨T47, L47, k47, n47⟩, -, X47, ⟨Lc47, hQ47, l47, y47, z47⟩, st47⟩ := Jvm.LawKit.callS X46 hx (y := (⟨"com/example/pemmican/pemmican/DataTypeNamedPinLaw", "ch", "(Ljava/lang/String;IIII)C"⟩ : MethodName)) hown3 (mvT hZ3 (own_w hw 84 rfl)) (mvT hZ3 (own_w hw 85 rfl)) (mvT hZ3 (own_w hw 73 rfl)) (mvT hZ3 (own_w hw 86 rfl)) (by decide) (backOf (W := 2) (rmc l Z a0 hw [] a b kb N vs cs (1 : Int32) q p3 p5 zc fm h46 n0 O46 E_a F_a_coder F_a_value V_b hcB hbB hlB (by decide) SC hcs SF rf) hZ3 (own_w hw 86 rfl) (own_w hw 73 rfl) (by decide) (by decide)) (g := (mkF m 123 #[.val (.int p0), .val (.int p1), .val (.int p2), .val (.int p3), .val (.int p4), .val (.int p5), .val (.int (p1 &&& (3 : Int32))), .val (.ref a), .val (.int (Int32.ofNat cs.length)), .val (.int (5 : Int32)), .val (.int q), .val (.ref b44), .unset, .unset] [(.int p5), (.int p3), (.int q), (.int (1 : Int32)), (.ref a), (.int (1 : Int32)), (.ref b44)])) rfl (by rw [hml]; rfl) (argsL := [(.ref a), (.int (1 : Int32)), (.int q), (.int p3), (.int p5)]) (rest := [(.int (1 : Int32)), (.ref b44)]) (lenOf pd0_3 rfl) rfl (by show 2 * 0 + _ ≤ _; exact Nat.le_of_eq rfl) (hb hby at_123) (fun _ _ => ⟨rfl, e46, (by decide : 3 + 0 ≤ _), (by decide : 37 + 0 ≤ _)⟩)
          dsimp only [Pt.U, Pt.locs, Pt.cells, Pt.slots] at X47 l47 y47 z47 st47 hQ47
          subst y47 z47
          obtain ⟨r47, rfl, hr47, Nc47, e47⟩ := hQ47
          have N47 : Fr n0 L47 := by rw [l47]; exact Fr.app N46 Nc47
          refine GoV.st st47 ?_
          show GoV p e below s _ _ _ (T47.setTop (mkF m 126 #[.val (.int p0), .val (.int p1), .val (.int p2), .val (.int p3), .val (.int p4), .val (.int p5), .val (.int (p1 &&& (3 : Int32))), .val (.ref a), .val (.int (Int32.ofNat cs.length)), .val (.int (5 : Int32)), .val (.int q), .val (.ref b44), .unset, .unset] [(.int r47), (.int (1 : Int32)), (.ref b44)]))
          obtain ⟨T48, h48, X48, e48, W48, V48, st48⟩ := own_stC X47 hx hZ3 e47 V_b44 (j := (1 : Int32)) (by decide) (by decide) 1 rfl (Nat.le_of_ble_eq_true rfl) (g := (mkF m 126 #[.val (.int p0), .val (.int p1), .val (.int p2), .val (.int p3), .val (.int p4), .val (.int p5), .val (.int (p1 &&& (3 : Int32))), .val (.ref a), .val (.int (Int32.ofNat cs.length)), .val (.int (5 : Int32)), .val (.int q), .val (.ref b44), .unset, .unset] [(.int r47), (.int (1 : Int32)), (.ref b44)])) rfl rfl (hb hby at_126)
          obtain ⟨lc48, X48, N48⟩ := own_gen X48 (Fr.snoc X48 N47 g_b44)
          have O48 := O46.wr W48 g_b44
          have E_a := E_a.wr W48
          have F_a_coder := F_a_coder.other W48 (Or.inl ne_a_b44)
          have F_a_value := F_a_value.other W48 (Or.inl ne_a_b44)
          have V_b := V_b.other W48 ne_b_b44
          have C_a := C_a.other W48 ne_a_b44
          have C_b := C_b.other W48 ne_b_b44
          have hk48 := Nat.le_trans hk46 (Nat.le_of_eq W48.size.symm)
          have V_b44 : Arv Z h48 b44 k44 .char (5 : Int32) [(.int (nar .char r45)), (.int (nar .char r47)), (.int (0 : Int32)), (.int (0 : Int32)), (.int (0 : Int32))] (.int (0 : Int32)) := V48
          refine GoV.st st48 ?_
          show GoV p e below s _ _ _ (T48.setTop (mkF m 127 #[.val (.int p0), .val (.int p1), .val (.int p2), .val (.int p3), .val (.int p4), .val (.int p5), .val (.int (p1 &&& (3 : Int32))), .val (.ref a), .val (.int (Int32.ofNat cs.length)), .val (.int (5 : Int32)), .val (.int q), .val (.ref b44), .unset, .unset] []))
          refine GoV.st (fun _ kq_ => XS.iload X48.here hx rfl (hb hby at_127) rfl kq_) ?_
          show GoV p e below s _ _ _ (T48.setTop (mkF m 129 #[.val (.int p0), .val (.int p1), .val (.int p2), .val (.int p3), .val (.int p4), .val (.int p5), .val (.int (p1 &&& (3 : Int32))), .val (.ref a), .val (.int (Int32.ofNat cs.length)), .val (.int (5 : Int32)), .val (.int q), .val (.ref b44), .unset, .unset] [(.int (5 : Int32))]))
          refine GoV.st (fun _ kq_ => XS.iconst X48.here hx rfl (hb hby at_129) kq_) ?_
          show GoV p e below s _ _ _ (T48.setTop (mkF m 130 #[.val (.int p0), .val (.int p1), .val (.int p2), .val (.int p3), .val (.int p4), .val (.int p5), .val (.int (p1 &&& (3 : Int32))), .val (.ref a), .val (.int (Int32.ofNat cs.length)), .val (.int (5 : Int32)), .val (.int q), .val (.ref b44), .unset, .unset] [(.int (2 : Int32)), (.int (5 : Int32))]))
          refine GoV.st (fun _ kq_ => XS.icmpNo X48.here hx rfl (hb hby at_130) rfl (by decide) kq_) ?_
          show GoV p e below s _ _ _ (T48.setTop (mkF m 133 #[.val (.int p0), .val (.int p1), .val (.int p2), .val (.int p3), .val (.int p4), .val (.int p5), .val (.int (p1 &&& (3 : Int32))), .val (.ref a), .val (.int (Int32.ofNat cs.length)), .val (.int (5 : Int32)), .val (.int q), .val (.ref b44), .unset, .unset] []))
          refine GoV.st (fun _ kq_ => XS.aload X48.here hx rfl (hb hby at_133) rfl rfl kq_) ?_
          show GoV p e below s _ _ _ (T48.setTop (mkF m 135 #[.val (.int p0), .val (.int p1), .val (.int p2), .val (.int p3), .val (.int p4), .val (.int p5), .val (.int (p1 &&& (3 : Int32))), .val (.ref a), .val (.int (Int32.ofNat cs.length)), .val (.int (5 : Int32)), .val (.int q), .val (.ref b44), .unset, .unset] [(.ref b44)]))
          refine GoV.st (fun _ kq_ => XS.iconst X48.here hx rfl (hb hby at_135) kq_) ?_
          show GoV p e below s _ _ _ (T48.setTop (mkF m 136 #[.val (.int p0), .val (.int p1), .val (.int p2), .val (.int p3), .val (.int p4), .val (.int p5), .val (.int (p1 &&& (3 : Int32))), .val (.ref a), .val (.int (Int32.ofNat cs.length)), .val (.int (5 : Int32)), .val (.int q), .val (.ref b44), .unset, .unset] [(.int (2 : Int32)), (.ref b44)]))
          refine GoV.st (fun _ kq_ => XS.aload X48.here hx rfl (hb hby at_136) rfl rfl kq_) ?_
          show GoV p e below s _ _ _ (T48.setTop (mkF m 138 #[.val (.int p0), .val (.int p1), .val (.int p2), .val (.int p3), .val (.int p4), .val (.int p5), .val (.int (p1 &&& (3 : Int32))), .val (.ref a), .val (.int (Int32.ofNat cs.length)), .val (.int (5 : Int32)), .val (.int q), .val (.ref b44), .unset, .unset] [(.ref a), (.int (2 : Int32)), (.ref b44)]))
          refine GoV.st (fun _ kq_ => XS.iconst X48.here hx rfl (hb hby at_138) kq_) ?_
          show GoV p e below s _ _ _ (T48.setTop (mkF m 139 #[.val (.int p0), .val (.int p1), .val (.int p2), .val (.int p3), .val (.int p4), .val (.int p5), .val (.int (p1 &&& (3 : Int32))), .val (.ref a), .val (.int (Int32.ofNat cs.length)), .val (.int (5 : Int32)), .val (.int q), .val (.ref b44), .unset, .unset] [(.int (2 : Int32)), (.ref a), (.int (2 : Int32)), (.ref b44)]))
          refine GoV.st (fun _ kq_ => XS.iload X48.here hx rfl (hb hby at_139) rfl kq_) ?_
          show GoV p e below s _ _ _ (T48.setTop (mkF m 141 #[.val (.int p0), .val (.int p1), .val (.int p2), .val (.int p3), .val (.int p4), .val (.int p5), .val (.int (p1 &&& (3 : Int32))), .val (.ref a), .val (.int (Int32.ofNat cs.length)), .val (.int (5 : Int32)), .val (.int q), .val (.ref b44), .unset, .unset] [(.int q), (.int (2 : Int32)), (.ref a), (.int (2 : Int32)), (.ref b44)]))
          refine GoV.st (fun _ kq_ => XS.iloadN X48.here hx rfl (hb hby at_141) rfl kq_) ?_
          show GoV p e below s _ _ _ (T48.setTop (mkF m 142 #[.val (.int p0), .val (.int p1), .val (.int p2), .val (.int p3), .val (.int p4), .val (.int p5), .val (.int (p1 &&& (3 : Int32))), .val (.ref a), .val (.int (Int32.ofNat cs.length)), .val (.int (5 : Int32)), .val (.int q), .val (.ref b44), .unset, .unset] [(.int p3), (.int q), (.int (2 : Int32)), (.ref a), (.int (2 : Int32)), (.ref b44)]))
          refine GoV.st (fun _ kq_ => XS.iload X48.here hx rfl (hb hby at_142) rfl kq_) ?_
          show GoV p e below s _ _ _ (T48.setTop (mkF m 144 #[.val (.int p0), .val (.int p1), .val (.int p2), .val (.int p3), .val (.int p4), .val (.int p5), .val (.int (p1 &&& (3 : Int32))), .val (.ref a), .val (.int (Int32.ofNat cs.length)), .val (.int (5 : Int32)), .val (.int q), .val (.ref b44), .unset, .unset] [(.int p5), (.int p3), (.int q), (.int (2 : Int32)), (.ref a), (.int (2 : Int32)), (.ref b44)]))
          obtain ⟨_, _, ⟨T49, L49, k49, n49⟩, -, X49, ⟨Lc49, hQ49, l49, y49, z49⟩, st49⟩ := Jvm.LawKit.callS X48 hx (y := (⟨"com/example/pemmican/pemmican/DataTypeNamedPinLaw", "ch", "(Ljava/lang/String;IIII)C"⟩ : MethodName)) hown3 (mvT hZ3 (own_w hw 84 rfl)) (mvT hZ3 (own_w hw 85 rfl)) (mvT hZ3 (own_w hw 73 rfl)) (mvT hZ3 (own_w hw 86 rfl)) (by decide) (backOf (W := 2) (rmc l Z a0 hw [] a b kb N vs cs (2 : Int32) q p3 p5 zc fm h48 n0 O48 E_a F_a_coder F_a_value V_b hcB hbB hlB (by decide) SC hcs SF rf) hZ3 (own_w hw 86 rfl) (own_w hw 73 rfl) (by decide) (by decide)) (g := (mkF m 144 #[.val (.int p0), .val (.int p1), .val (.int p2), .val (.int p3), .val (.int p4), .val (.int p5), .val (.int (p1 &&& (3 : Int32))), .val (.ref a), .val (.int (Int32.ofNat cs.length)), .val (.int (5 : Int32)), .val (.int q), .val (.ref b44), .unset, .unset] [(.int p5), (.int p3), (.int q), (.int (2 : Int32)), (.ref a), (.int (2 : Int32)), (.ref b44)])) rfl (by rw [hml]; rfl) (argsL := [(.ref a), (.int (2 : Int32)), (.int q), (.int p3), (.int p5)]) (rest := [(.int (2 : Int32)), (.ref b44)]) (lenOf pd0_3 rfl) rfl (by show 2 * 0 + _ ≤ _; exact Nat.le_of_eq rfl) (hb hby at_144) (fun _ _ => ⟨rfl, e48, (by decide : 3 + 0 ≤ _), (by decide : 37 + 0 ≤ _)⟩)
          dsimp only [Pt.U, Pt.locs, Pt.cells, Pt.slots] at X49 l49 y49 z49 st49 hQ49
          subst y49 z49
          obtain ⟨r49, rfl, hr49, Nc49, e49⟩ := hQ49
          have N49 : Fr n0 L49 := by rw [l49]; exact Fr.app N48 Nc49
          refine GoV.st st49 ?_
          show GoV p e below s _ _ _ (T49.setTop (mkF m 147 #[.val (.int p0), .val (.int p1), .val (.int p2), .val (.int p3), .val (.int p4), .val (.int p5), .val (.int (p1 &&& (3 : Int32))), .val (.ref a), .val (.int (Int32.ofNat cs.length)), .val (.int (5 : Int32)), .val (.int q), .val (.ref b44), .unset, .unset] [(.int r49), (.int (2 : Int32)), (.ref b44)]))
          obtain ⟨T50, h50, X50, e50, W50, V50, st50⟩ := own_stC X49 hx hZ3 e49 V_b44 (j := (2 : Int32)) (by decide) (by decide) 2 rfl (Nat.le_of_ble_eq_true rfl) (g := (mkF m 147 #[.val (.int p0), .val (.int p1), .val (.int p2), .val (.int p3), .val (.int p4), .val (.int p5), .val (.int (p1 &&& (3 : Int32))), .val (.ref a), .val (.int (Int32.ofNat cs.length)), .val (.int (5 : Int32)), .val (.int q), .val (.ref b44), .unset, .unset] [(.int r49), (.int (2 : Int32)), (.ref b44)])) rfl rfl (hb hby at_147)
          obtain ⟨lc50, X50, N50⟩ := own_gen X50 (Fr.snoc X50 N49 g_b44)
          have O50 := O48.wr W50 g_b44
          have E_a := E_a.wr W50
          have F_a_coder := F_a_coder.other W50 (Or.inl ne_a_b44)
          have F_a_value := F_a_value.other W50 (Or.inl ne_a_b44)
          have V_b := V_b.other W50 ne_b_b44
          have C_a := C_a.other W50 ne_a_b44
          have C_b := C_b.other W50 ne_b_b44
          have hk50 := Nat.le_trans hk48 (Nat.le_of_eq W50.size.symm)
          have V_b44 : Arv Z h50 b44 k44 .char (5 : Int32) [(.int (nar .char r45)), (.int (nar .char r47)), (.int (nar .char r49)), (.int (0 : Int32)), (.int (0 : Int32))] (.int (0 : Int32)) := V50
          refine GoV.st st50 ?_
          show GoV p e below s _ _ _ (T50.setTop (mkF m 148 #[.val (.int p0), .val (.int p1), .val (.int p2), .val (.int p3), .val (.int p4), .val (.int p5), .val (.int (p1 &&& (3 : Int32))), .val (.ref a), .val (.int (Int32.ofNat cs.length)), .val (.int (5 : Int32)), .val (.int q), .val (.ref b44), .unset, .unset] []))
          refine GoV.st (fun _ kq_ => XS.iload X50.here hx rfl (hb hby at_148) rfl kq_) ?_
          show GoV p e below s _ _ _ (T50.setTop (mkF m 150 #[.val (.int p0), .val (.int p1), .val (.int p2), .val (.int p3), .val (.int p4), .val (.int p5), .val (.int (p1 &&& (3 : Int32))), .val (.ref a), .val (.int (Int32.ofNat cs.length)), .val (.int (5 : Int32)), .val (.int q), .val (.ref b44), .unset, .unset] [(.int (5 : Int32))]))
          refine GoV.st (fun _ kq_ => XS.iconst X50.here hx rfl (hb hby at_150) kq_) ?_
          show GoV p e below s _ _ _ (T50.setTop (mkF m 151 #[.val (.int p0), .val (.int p1), .val (.int p2), .val (.int p3), .val (.int p4), .val (.int p5), .val (.int (p1 &&& (3 : Int32))), .val (.ref a), .val (.int (Int32.ofNat cs.length)), .val (.int (5 : Int32)), .val (.int q), .val (.ref b44), .unset, .unset] [(.int (3 : Int32)), (.int (5 : Int32))]))
          refine GoV.st (fun _ kq_ => XS.icmpNo X50.here hx rfl (hb hby at_151) rfl (by decide) kq_) ?_
          show GoV p e below s _ _ _ (T50.setTop (mkF m 154 #[.val (.int p0), .val (.int p1), .val (.int p2), .val (.int p3), .val (.int p4), .val (.int p5), .val (.int (p1 &&& (3 : Int32))), .val (.ref a), .val (.int (Int32.ofNat cs.length)), .val (.int (5 : Int32)), .val (.int q), .val (.ref b44), .unset, .unset] []))
          refine GoV.st (fun _ kq_ => XS.aload X50.here hx rfl (hb hby at_154) rfl rfl kq_) ?_
          show GoV p e below s _ _ _ (T50.setTop (mkF m 156 #[.val (.int p0), .val (.int p1), .val (.int p2), .val (.int p3), .val (.int p4), .val (.int p5), .val (.int (p1 &&& (3 : Int32))), .val (.ref a), .val (.int (Int32.ofNat cs.length)), .val (.int (5 : Int32)), .val (.int q), .val (.ref b44), .unset, .unset] [(.ref b44)]))
          refine GoV.st (fun _ kq_ => XS.iconst X50.here hx rfl (hb hby at_156) kq_) ?_
          show GoV p e below s _ _ _ (T50.setTop (mkF m 157 #[.val (.int p0), .val (.int p1), .val (.int p2), .val (.int p3), .val (.int p4), .val (.int p5), .val (.int (p1 &&& (3 : Int32))), .val (.ref a), .val (.int (Int32.ofNat cs.length)), .val (.int (5 : Int32)), .val (.int q), .val (.ref b44), .unset, .unset] [(.int (3 : Int32)), (.ref b44)]))
          refine GoV.st (fun _ kq_ => XS.aload X50.here hx rfl (hb hby at_157) rfl rfl kq_) ?_
          show GoV p e below s _ _ _ (T50.setTop (mkF m 159 #[.val (.int p0), .val (.int p1), .val (.int p2), .val (.int p3), .val (.int p4), .val (.int p5), .val (.int (p1 &&& (3 : Int32))), .val (.ref a), .val (.int (Int32.ofNat cs.length)), .val (.int (5 : Int32)), .val (.int q), .val (.ref b44), .unset, .unset] [(.ref a), (.int (3 : Int32)), (.ref b44)]))
          refine GoV.st (fun _ kq_ => XS.iconst X50.here hx rfl (hb hby at_159) kq_) ?_
          show GoV p e below s _ _ _ (T50.setTop (mkF m 160 #[.val (.int p0), .val (.int p1), .val (.int p2), .val (.int p3), .val (.int p4), .val (.int p5), .val (.int (p1 &&& (3 : Int32))), .val (.ref a), .val (.int (Int32.ofNat cs.length)), .val (.int (5 : Int32)), .val (.int q), .val (.ref b44), .unset, .unset] [(.int (3 : Int32)), (.ref a), (.int (3 : Int32)), (.ref b44)]))
          refine GoV.st (fun _ kq_ => XS.iload X50.here hx rfl (hb hby at_160) rfl kq_) ?_
          show GoV p e below s _ _ _ (T50.setTop (mkF m 162 #[.val (.int p0), .val (.int p1), .val (.int p2), .val (.int p3), .val (.int p4), .val (.int p5), .val (.int (p1 &&& (3 : Int32))), .val (.ref a), .val (.int (Int32.ofNat cs.length)), .val (.int (5 : Int32)), .val (.int q), .val (.ref b44), .unset, .unset] [(.int q), (.int (3 : Int32)), (.ref a), (.int (3 : Int32)), (.ref b44)]))
          refine GoV.st (fun _ kq_ => XS.iloadN X50.here hx rfl (hb hby at_162) rfl kq_) ?_
          show GoV p e below s _ _ _ (T50.setTop (mkF m 163 #[.val (.int p0), .val (.int p1), .val (.int p2), .val (.int p3), .val (.int p4), .val (.int p5), .val (.int (p1 &&& (3 : Int32))), .val (.ref a), .val (.int (Int32.ofNat cs.length)), .val (.int (5 : Int32)), .val (.int q), .val (.ref b44), .unset, .unset] [(.int p3), (.int q), (.int (3 : Int32)), (.ref a), (.int (3 : Int32)), (.ref b44)]))
          refine GoV.st (fun _ kq_ => XS.iload X50.here hx rfl (hb hby at_163) rfl kq_) ?_
          show GoV p e below s _ _ _ (T50.setTop (mkF m 165 #[.val (.int p0), .val (.int p1), .val (.int p2), .val (.int p3), .val (.int p4), .val (.int p5), .val (.int (p1 &&& (3 : Int32))), .val (.ref a), .val (.int (Int32.ofNat cs.length)), .val (.int (5 : Int32)), .val (.int q), .val (.ref b44), .unset, .unset] [(.int p5), (.int p3), (.int q), (.int (3 : Int32)), (.ref a), (.int (3 : Int32)), (.ref b44)]))
          obtain ⟨_, _, ⟨T51, L51, k51, n51⟩, -, X51, ⟨Lc51, hQ51, l51, y51, z51⟩, st51⟩ := Jvm.LawKit.callS X50 hx (y := (⟨"com/example/pemmican/pemmican/DataTypeNamedPinLaw", "ch", "(Ljava/lang/String;IIII)C"⟩ : MethodName)) hown3 (mvT hZ3 (own_w hw 84 rfl)) (mvT hZ3 (own_w hw 85 rfl)) (mvT hZ3 (own_w hw 73 rfl)) (mvT hZ3 (own_w hw 86 rfl)) (by decide) (backOf (W := 2) (rmc l Z a0 hw [] a b kb N vs cs (3 : Int32) q p3 p5 zc fm h50 n0 O50 E_a F_a_coder F_a_value V_b hcB hbB hlB (by decide) SC hcs SF rf) hZ3 (own_w hw 86 rfl) (own_w hw 73 rfl) (by decide) (by decide)) (g := (mkF m 165 #[.val (.int p0), .val (.int p1), .val (.int p2), .val (.int p3), .val (.int p4), .val (.int p5), .val (.int (p1 &&& (3 : Int32))), .val (.ref a), .val (.int (Int32.ofNat cs.length)), .val (.int (5 : Int32)), .val (.int q), .val (.ref b44), .unset, .unset] [(.int p5), (.int p3), (.int q), (.int (3 : Int32)), (.ref a), (.int (3 : Int32)), (.ref b44)])) rfl (by rw [hml]; rfl) (argsL := [(.ref a), (.int (3 : Int32)), (.int q), (.int p3), (.int p5)]) (rest := [(.int (3 : Int32)), (.ref b44)]) (lenOf pd0_3 rfl) rfl (by show 2 * 0 + _ ≤ _; exact Nat.le_of_eq rfl) (hb hby at_165) (fun _ _ => ⟨rfl, e50, (by decide : 3 + 0 ≤ _), (by decide : 37 + 0 ≤ _)⟩)
          dsimp only [Pt.U, Pt.locs, Pt.cells, Pt.slots] at X51 l51 y51 z51 st51 hQ51
          subst y51 z51
          obtain ⟨r51, rfl, hr51, Nc51, e51⟩ := hQ51
          have N51 : Fr n0 L51 := by rw [l51]; exact Fr.app N50 Nc51
          refine GoV.st st51 ?_
          show GoV p e below s _ _ _ (T51.setTop (mkF m 168 #[.val (.int p0), .val (.int p1), .val (.int p2), .val (.int p3), .val (.int p4), .val (.int p5), .val (.int (p1 &&& (3 : Int32))), .val (.ref a), .val (.int (Int32.ofNat cs.length)), .val (.int (5 : Int32)), .val (.int q), .val (.ref b44), .unset, .unset] [(.int r51), (.int (3 : Int32)), (.ref b44)]))
          obtain ⟨T52, h52, X52, e52, W52, V52, st52⟩ := own_stC X51 hx hZ3 e51 V_b44 (j := (3 : Int32)) (by decide) (by decide) 3 rfl (Nat.le_of_ble_eq_true rfl) (g := (mkF m 168 #[.val (.int p0), .val (.int p1), .val (.int p2), .val (.int p3), .val (.int p4), .val (.int p5), .val (.int (p1 &&& (3 : Int32))), .val (.ref a), .val (.int (Int32.ofNat cs.length)), .val (.int (5 : Int32)), .val (.int q), .val (.ref b44), .unset, .unset] [(.int r51), (.int (3 : Int32)), (.ref b44)])) rfl rfl (hb hby at_168)
          obtain ⟨lc52, X52, N52⟩ := own_gen X52 (Fr.snoc X52 N51 g_b44)
          have O52 := O50.wr W52 g_b44
          have E_a := E_a.wr W52
          have F_a_coder := F_a_coder.other W52 (Or.inl ne_a_b44)
          have F_a_value := F_a_value.other W52 (Or.inl ne_a_b44)
          have V_b := V_b.other W52 ne_b_b44
          have C_a := C_a.other W52 ne_a_b44
          have C_b := C_b.other W52 ne_b_b44
          have hk52 := Nat.le_trans hk50 (Nat.le_of_eq W52.size.symm)
          have V_b44 : Arv Z h52 b44 k44 .char (5 : Int32) [(.int (nar .char r45)), (.int (nar .char r47)), (.int (nar .char r49)), (.int (nar .char r51)), (.int (0 : Int32))] (.int (0 : Int32)) := V52
          refine GoV.st st52 ?_
          show GoV p e below s _ _ _ (T52.setTop (mkF m 169 #[.val (.int p0), .val (.int p1), .val (.int p2), .val (.int p3), .val (.int p4), .val (.int p5), .val (.int (p1 &&& (3 : Int32))), .val (.ref a), .val (.int (Int32.ofNat cs.length)), .val (.int (5 : Int32)), .val (.int q), .val (.ref b44), .unset, .unset] []))
          refine GoV.st (fun _ kq_ => XS.iload X52.here hx rfl (hb hby at_169) rfl kq_) ?_
          show GoV p e below s _ _ _ (T52.setTop (mkF m 171 #[.val (.int p0), .val (.int p1), .val (.int p2), .val (.int p3), .val (.int p4), .val (.int p5), .val (.int (p1 &&& (3 : Int32))), .val (.ref a), .val (.int (Int32.ofNat cs.length)), .val (.int (5 : Int32)), .val (.int q), .val (.ref b44), .unset, .unset] [(.int (5 : Int32))]))
          refine GoV.st (fun _ kq_ => XS.iconst X52.here hx rfl (hb hby at_171) kq_) ?_
          show GoV p e below s _ _ _ (T52.setTop (mkF m 172 #[.val (.int p0), .val (.int p1), .val (.int p2), .val (.int p3), .val (.int p4), .val (.int p5), .val (.int (p1 &&& (3 : Int32))), .val (.ref a), .val (.int (Int32.ofNat cs.length)), .val (.int (5 : Int32)), .val (.int q), .val (.ref b44), .unset, .unset] [(.int (4 : Int32)), (.int (5 : Int32))]))
          refine GoV.st (fun _ kq_ => XS.icmpNo X52.here hx rfl (hb hby at_172) rfl (by decide) kq_) ?_
          show GoV p e below s _ _ _ (T52.setTop (mkF m 175 #[.val (.int p0), .val (.int p1), .val (.int p2), .val (.int p3), .val (.int p4), .val (.int p5), .val (.int (p1 &&& (3 : Int32))), .val (.ref a), .val (.int (Int32.ofNat cs.length)), .val (.int (5 : Int32)), .val (.int q), .val (.ref b44), .unset, .unset] []))
          refine GoV.st (fun _ kq_ => XS.aload X52.here hx rfl (hb hby at_175) rfl rfl kq_) ?_
          show GoV p e below s _ _ _ (T52.setTop (mkF m 177 #[.val (.int p0), .val (.int p1), .val (.int p2), .val (.int p3), .val (.int p4), .val (.int p5), .val (.int (p1 &&& (3 : Int32))), .val (.ref a), .val (.int (Int32.ofNat cs.length)), .val (.int (5 : Int32)), .val (.int q), .val (.ref b44), .unset, .unset] [(.ref b44)]))
          refine GoV.st (fun _ kq_ => XS.iconst X52.here hx rfl (hb hby at_177) kq_) ?_
          show GoV p e below s _ _ _ (T52.setTop (mkF m 178 #[.val (.int p0), .val (.int p1), .val (.int p2), .val (.int p3), .val (.int p4), .val (.int p5), .val (.int (p1 &&& (3 : Int32))), .val (.ref a), .val (.int (Int32.ofNat cs.length)), .val (.int (5 : Int32)), .val (.int q), .val (.ref b44), .unset, .unset] [(.int (4 : Int32)), (.ref b44)]))
          refine GoV.st (fun _ kq_ => XS.aload X52.here hx rfl (hb hby at_178) rfl rfl kq_) ?_
          show GoV p e below s _ _ _ (T52.setTop (mkF m 180 #[.val (.int p0), .val (.int p1), .val (.int p2), .val (.int p3), .val (.int p4), .val (.int p5), .val (.int (p1 &&& (3 : Int32))), .val (.ref a), .val (.int (Int32.ofNat cs.length)), .val (.int (5 : Int32)), .val (.int q), .val (.ref b44), .unset, .unset] [(.ref a), (.int (4 : Int32)), (.ref b44)]))
          refine GoV.st (fun _ kq_ => XS.iconst X52.here hx rfl (hb hby at_180) kq_) ?_
          show GoV p e below s _ _ _ (T52.setTop (mkF m 181 #[.val (.int p0), .val (.int p1), .val (.int p2), .val (.int p3), .val (.int p4), .val (.int p5), .val (.int (p1 &&& (3 : Int32))), .val (.ref a), .val (.int (Int32.ofNat cs.length)), .val (.int (5 : Int32)), .val (.int q), .val (.ref b44), .unset, .unset] [(.int (4 : Int32)), (.ref a), (.int (4 : Int32)), (.ref b44)]))
          refine GoV.st (fun _ kq_ => XS.iload X52.here hx rfl (hb hby at_181) rfl kq_) ?_
          show GoV p e below s _ _ _ (T52.setTop (mkF m 183 #[.val (.int p0), .val (.int p1), .val (.int p2), .val (.int p3), .val (.int p4), .val (.int p5), .val (.int (p1 &&& (3 : Int32))), .val (.ref a), .val (.int (Int32.ofNat cs.length)), .val (.int (5 : Int32)), .val (.int q), .val (.ref b44), .unset, .unset] [(.int q), (.int (4 : Int32)), (.ref a), (.int (4 : Int32)), (.ref b44)]))
          refine GoV.st (fun _ kq_ => XS.iloadN X52.here hx rfl (hb hby at_183) rfl kq_) ?_
          show GoV p e below s _ _ _ (T52.setTop (mkF m 184 #[.val (.int p0), .val (.int p1), .val (.int p2), .val (.int p3), .val (.int p4), .val (.int p5), .val (.int (p1 &&& (3 : Int32))), .val (.ref a), .val (.int (Int32.ofNat cs.length)), .val (.int (5 : Int32)), .val (.int q), .val (.ref b44), .unset, .unset] [(.int p3), (.int q), (.int (4 : Int32)), (.ref a), (.int (4 : Int32)), (.ref b44)]))
          refine GoV.st (fun _ kq_ => XS.iload X52.here hx rfl (hb hby at_184) rfl kq_) ?_
          show GoV p e below s _ _ _ (T52.setTop (mkF m 186 #[.val (.int p0), .val (.int p1), .val (.int p2), .val (.int p3), .val (.int p4), .val (.int p5), .val (.int (p1 &&& (3 : Int32))), .val (.ref a), .val (.int (Int32.ofNat cs.length)), .val (.int (5 : Int32)), .val (.int q), .val (.ref b44), .unset, .unset] [(.int p5), (.int p3), (.int q), (.int (4 : Int32)), (.ref a), (.int (4 : Int32)), (.ref b44)]))
          obtain ⟨_, _, ⟨T53, L53, k53, n53⟩, -, X53, ⟨Lc53, hQ53, l53, y53, z53⟩, st53⟩ := Jvm.LawKit.callS X52 hx (y := (⟨"com/example/pemmican/pemmican/DataTypeNamedPinLaw", "ch", "(Ljava/lang/String;IIII)C"⟩ : MethodName)) hown3 (mvT hZ3 (own_w hw 84 rfl)) (mvT hZ3 (own_w hw 85 rfl)) (mvT hZ3 (own_w hw 73 rfl)) (mvT hZ3 (own_w hw 86 rfl)) (by decide) (backOf (W := 2) (rmc l Z a0 hw [] a b kb N vs cs (4 : Int32) q p3 p5 zc fm h52 n0 O52 E_a F_a_coder F_a_value V_b hcB hbB hlB (by decide) SC hcs SF rf) hZ3 (own_w hw 86 rfl) (own_w hw 73 rfl) (by decide) (by decide)) (g := (mkF m 186 #[.val (.int p0), .val (.int p1), .val (.int p2), .val (.int p3), .val (.int p4), .val (.int p5), .val (.int (p1 &&& (3 : Int32))), .val (.ref a), .val (.int (Int32.ofNat cs.length)), .val (.int (5 : Int32)), .val (.int q), .val (.ref b44), .unset, .unset] [(.int p5), (.int p3), (.int q), (.int (4 : Int32)), (.ref a), (.int (4 : Int32)), (.ref b44)])) rfl (by rw [hml]; rfl) (argsL := [(.ref a), (.int (4 : Int32)), (.int q), (.int p3), (.int p5)]) (rest := [(.int (4 : Int32)), (.ref b44)]) (lenOf pd0_3 rfl) rfl (by show 2 * 0 + _ ≤ _; exact Nat.le_of_eq rfl) (hb hby at_186) (fun _ _ => ⟨rfl, e52, (by decide : 3 + 0 ≤ _), (by decide : 37 + 0 ≤ _)⟩)
          dsimp only [Pt.U, Pt.locs, Pt.cells, Pt.slots] at X53 l53 y53 z53 st53 hQ53
          subst y53 z53
          obtain ⟨r53, rfl, hr53, Nc53, e53⟩ := hQ53
          have N53 : Fr n0 L53 := by rw [l53]; exact Fr.app N52 Nc53
          refine GoV.st st53 ?_
          show GoV p e below s _ _ _ (T53.setTop (mkF m 189 #[.val (.int p0), .val (.int p1), .val (.int p2), .val (.int p3), .val (.int p4), .val (.int p5), .val (.int (p1 &&& (3 : Int32))), .val (.ref a), .val (.int (Int32.ofNat cs.length)), .val (.int (5 : Int32)), .val (.int q), .val (.ref b44), .unset, .unset] [(.int r53), (.int (4 : Int32)), (.ref b44)]))
          obtain ⟨T54, h54, X54, e54, W54, V54, st54⟩ := own_stC X53 hx hZ3 e53 V_b44 (j := (4 : Int32)) (by decide) (by decide) 4 rfl (Nat.le_of_ble_eq_true rfl) (g := (mkF m 189 #[.val (.int p0), .val (.int p1), .val (.int p2), .val (.int p3), .val (.int p4), .val (.int p5), .val (.int (p1 &&& (3 : Int32))), .val (.ref a), .val (.int (Int32.ofNat cs.length)), .val (.int (5 : Int32)), .val (.int q), .val (.ref b44), .unset, .unset] [(.int r53), (.int (4 : Int32)), (.ref b44)])) rfl rfl (hb hby at_189)
          obtain ⟨lc54, X54, N54⟩ := own_gen X54 (Fr.snoc X54 N53 g_b44)
          have O54 := O52.wr W54 g_b44
          have E_a := E_a.wr W54
          have F_a_coder := F_a_coder.other W54 (Or.inl ne_a_b44)
          have F_a_value := F_a_value.other W54 (Or.inl ne_a_b44)
          have V_b := V_b.other W54 ne_b_b44
          have C_a := C_a.other W54 ne_a_b44
          have C_b := C_b.other W54 ne_b_b44
          have hk54 := Nat.le_trans hk52 (Nat.le_of_eq W54.size.symm)
          have V_b44 : Arv Z h54 b44 k44 .char (5 : Int32) [(.int (nar .char r45)), (.int (nar .char r47)), (.int (nar .char r49)), (.int (nar .char r51)), (.int (nar .char r53))] (.int (0 : Int32)) := V54
          refine GoV.st st54 ?_
          show GoV p e below s _ _ _ (T54.setTop (mkF m 190 #[.val (.int p0), .val (.int p1), .val (.int p2), .val (.int p3), .val (.int p4), .val (.int p5), .val (.int (p1 &&& (3 : Int32))), .val (.ref a), .val (.int (Int32.ofNat cs.length)), .val (.int (5 : Int32)), .val (.int q), .val (.ref b44), .unset, .unset] []))
          refine GoV.st (fun _ kq_ => XS.iload X54.here hx rfl (hb hby at_190) rfl kq_) ?_
          show GoV p e below s _ _ _ (T54.setTop (mkF m 192 #[.val (.int p0), .val (.int p1), .val (.int p2), .val (.int p3), .val (.int p4), .val (.int p5), .val (.int (p1 &&& (3 : Int32))), .val (.ref a), .val (.int (Int32.ofNat cs.length)), .val (.int (5 : Int32)), .val (.int q), .val (.ref b44), .unset, .unset] [(.int (5 : Int32))]))
          refine GoV.st (fun _ kq_ => XS.iconst X54.here hx rfl (hb hby at_192) kq_) ?_
          show GoV p e below s _ _ _ (T54.setTop (mkF m 193 #[.val (.int p0), .val (.int p1), .val (.int p2), .val (.int p3), .val (.int p4), .val (.int p5), .val (.int (p1 &&& (3 : Int32))), .val (.ref a), .val (.int (Int32.ofNat cs.length)), .val (.int (5 : Int32)), .val (.int q), .val (.ref b44), .unset, .unset] [(.int (5 : Int32)), (.int (5 : Int32))]))
          refine GoV.st (fun _ kq_ => XS.icmpYes X54.here hx rfl (pc0 := 193) (pc' := 211) rfl (hb hby at_193) rfl (by decide) (by decide) (by decide) kq_) ?_
          show GoV p e below s _ _ _ (T54.setTop (mkF m 211 #[.val (.int p0), .val (.int p1), .val (.int p2), .val (.int p3), .val (.int p4), .val (.int p5), .val (.int (p1 &&& (3 : Int32))), .val (.ref a), .val (.int (Int32.ofNat cs.length)), .val (.int (5 : Int32)), .val (.int q), .val (.ref b44), .unset, .unset] []))
          refine GoV.st (fun _ kq_ => XS.iload X54.here hx rfl (hb hby at_211) rfl kq_) ?_
          show GoV p e below s _ _ _ (T54.setTop (mkF m 213 #[.val (.int p0), .val (.int p1), .val (.int p2), .val (.int p3), .val (.int p4), .val (.int p5), .val (.int (p1 &&& (3 : Int32))), .val (.ref a), .val (.int (Int32.ofNat cs.length)), .val (.int (5 : Int32)), .val (.int q), .val (.ref b44), .unset, .unset] [(.int (5 : Int32))]))
          refine GoV.st (fun _ kq_ => XS.bipush X54.here hx rfl (hb hby at_213) kq_) ?_
          show GoV p e below s _ _ _ (T54.setTop (mkF m 215 #[.val (.int p0), .val (.int p1), .val (.int p2), .val (.int p3), .val (.int p4), .val (.int p5), .val (.int (p1 &&& (3 : Int32))), .val (.ref a), .val (.int (Int32.ofNat cs.length)), .val (.int (5 : Int32)), .val (.int q), .val (.ref b44), .unset, .unset] [(.int (6 : Int32)), (.int (5 : Int32))]))
          refine GoV.st (fun _ kq_ => XS.icmpYes X54.here hx rfl (pc0 := 215) (pc' := 235) rfl (hb hby at_215) rfl (by decide) (by decide) (by decide) kq_) ?_
          show GoV p e below s _ _ _ (T54.setTop (mkF m 235 #[.val (.int p0), .val (.int p1), .val (.int p2), .val (.int p3), .val (.int p4), .val (.int p5), .val (.int (p1 &&& (3 : Int32))), .val (.ref a), .val (.int (Int32.ofNat cs.length)), .val (.int (5 : Int32)), .val (.int q), .val (.ref b44), .unset, .unset] []))
          refine GoV.st (fun _ kq_ => XS.iload X54.here hx rfl (hb hby at_235) rfl kq_) ?_
          show GoV p e below s _ _ _ (T54.setTop (mkF m 237 #[.val (.int p0), .val (.int p1), .val (.int p2), .val (.int p3), .val (.int p4), .val (.int p5), .val (.int (p1 &&& (3 : Int32))), .val (.ref a), .val (.int (Int32.ofNat cs.length)), .val (.int (5 : Int32)), .val (.int q), .val (.ref b44), .unset, .unset] [(.int (5 : Int32))]))
          refine GoV.st (fun _ kq_ => XS.bipush X54.here hx rfl (hb hby at_237) kq_) ?_
          show GoV p e below s _ _ _ (T54.setTop (mkF m 239 #[.val (.int p0), .val (.int p1), .val (.int p2), .val (.int p3), .val (.int p4), .val (.int p5), .val (.int (p1 &&& (3 : Int32))), .val (.ref a), .val (.int (Int32.ofNat cs.length)), .val (.int (5 : Int32)), .val (.int q), .val (.ref b44), .unset, .unset] [(.int (7 : Int32)), (.int (5 : Int32))]))
          refine GoV.st (fun _ kq_ => XS.icmpYes X54.here hx rfl (pc0 := 239) (pc' := 259) rfl (hb hby at_239) rfl (by decide) (by decide) (by decide) kq_) ?_
          show GoV p e below s _ _ _ (T54.setTop (mkF m 259 #[.val (.int p0), .val (.int p1), .val (.int p2), .val (.int p3), .val (.int p4), .val (.int p5), .val (.int (p1 &&& (3 : Int32))), .val (.ref a), .val (.int (Int32.ofNat cs.length)), .val (.int (5 : Int32)), .val (.int q), .val (.ref b44), .unset, .unset] []))
          obtain ⟨T55, h55, X55, e55, E55, A55, D55, -, st55⟩ := newO X54 hx hZ3 hown3 (own_w hw 23 rfl) (own_w hw 2 rfl) (own_w hw 1 rfl) e54 (g := (mkF m 259 #[.val (.int p0), .val (.int p1), .val (.int p2), .val (.int p3), .val (.int p4), .val (.int p5), .val (.int (p1 &&& (3 : Int32))), .val (.ref a), .val (.int (Int32.ofNat cs.length)), .val (.int (5 : Int32)), .val (.int q), .val (.ref b44), .unset, .unset] [])) rfl (hb hby at_259) (by decide) (by decide)
          obtain ⟨a55, g55⟩ : ∃ z, z = h54.size := ⟨_, rfl⟩
          rw [← g55] at A55 D55 st55
          have g_a55 : n0 ≤ a55 := Nat.le_trans (own_old O54) (Nat.le_of_eq g55.symm)
          have ne_a_a55 : a ≠ a55 := by rw [g55]; exact Nat.ne_of_lt E_a.lt
          have ne_b_a55 : b ≠ a55 := by rw [g55]; exact Nat.ne_of_lt V_b.lt
          have ne_b44_a55 : b44 ≠ a55 := by rw [g55]; exact Nat.ne_of_lt V_b44.lt
          have E_a := E_a.ext E55
          have F_a_coder := F_a_coder.ext E55
          have F_a_value := F_a_value.ext E55
          have V_b := V_b.ext E55
          have C_a := C_a.ext E55
          have C_b := C_b.ext E55
          have V_b44 := V_b44.ext E55
          have hk55 := Nat.le_trans hk54 E55.1
          have O55 := O54.ext E55
          have E_a55 : Exa Z h55 a55 "java/lang/String" := A55
          have F_a55_value : Fld Z h55 a55 "java/lang/String" "value" "[B" .null := D55 (Or.inr (own_w hw 4 rfl)) (ty := (.array .byte)) (by decide)
          have F_a55_coder : Fld Z h55 a55 "java/lang/String" "coder" "B" (.int (0 : Int32)) := D55 (Or.inr (own_w hw 5 rfl)) (ty := .byte) (by decide)
          refine GoV.st st55 ?_
          show GoV p e below s _ _ _ (T55.setTop (mkF m 262 #[.val (.int p0), .val (.int p1), .val (.int p2), .val (.int p3), .val (.int p4), .val (.int p5), .val (.int (p1 &&& (3 : Int32))), .val (.ref a), .val (.int (Int32.ofNat cs.length)), .val (.int (5 : Int32)), .val (.int q), .val (.ref b44), .unset, .unset] [(.ref a55)]))
          refine GoV.st (fun _ kq_ => XS.dup X55.here hx rfl (hb hby at_262) rfl rfl kq_) ?_
          show GoV p e below s _ _ _ (T55.setTop (mkF m 263 #[.val (.int p0), .val (.int p1), .val (.int p2), .val (.int p3), .val (.int p4), .val (.int p5), .val (.int (p1 &&& (3 : Int32))), .val (.ref a), .val (.int (Int32.ofNat cs.length)), .val (.int (5 : Int32)), .val (.int q), .val (.ref b44), .unset, .unset] [(.ref a55), (.ref a55)]))
          refine GoV.st (fun _ kq_ => XS.aload X55.here hx rfl (hb hby at_263) rfl rfl kq_) ?_
          show GoV p e below s _ _ _ (T55.setTop (mkF m 265 #[.val (.int p0), .val (.int p1), .val (.int p2), .val (.int p3), .val (.int p4), .val (.int p5), .val (.int (p1 &&& (3 : Int32))), .val (.ref a), .val (.int (Int32.ofNat cs.length)), .val (.int (5 : Int32)), .val (.int q), .val (.ref b44), .unset, .unset] [(.ref b44), (.ref a55), (.ref a55)]))
          have hp : ∀ z ∈ ([(nar .char r45), (nar .char r47), (nar .char r49), (nar .char r51), (nar .char r53)] : List Int32), ¬ z < 0 ∧ ¬ (255 : Int32) < z := by
            intro z hz
            simp only [List.mem_cons, List.not_mem_nil, or_false] at hz
            rcases hz with rfl | rfl | rfl | rfl | rfl
            · exact (by rw [own_nc hr45]; exact hr45)
            · exact (by rw [own_nc hr47]; exact hr47)
            · exact (by rw [own_nc hr49]; exact hr49)
            · exact (by rw [own_nc hr51]; exact hr51)
            · exact (by rw [own_nc hr53]; exact hr53)
          obtain ⟨_, _, ⟨T56, L56, k56, n56⟩, -, X56, ⟨Lc56, hQ56, l56, y56, z56⟩, st56⟩ := X55.specialBack hx (y := (⟨"java/lang/String", "<init>", "([C)V"⟩ : MethodName)) rfl hown3 (mvT hZ3 (own_w hw 24 rfl)) (mvT hZ3 (own_w hw 25 rfl)) (mvT hZ3 (own_w hw 26 rfl)) (by decide) (StrChars.Road.backV (W := 1) hZ3 hws (kI := 4) (own_w hw 2 rfl) (cs := ([(nar .char r45), (nar .char r47), (nar .char r49), (nar .char r51), (nar .char r53)] : List Int32)) (bs := ([(nar .char r45), (nar .char r47), (nar .char r49), (nar .char r51), (nar .char r53)] : List Int32).map (fun c => c.toInt8.toInt32)) (n := 5) g_a55 (own_old O55) E_a55 F_a55_value F_a55_coder V_b44 (SC.ext O55.2) hcs rfl rfl (by decide) (by decide) hp rfl (by decide) (by decide)) (g := (mkF m 265 #[.val (.int p0), .val (.int p1), .val (.int p2), .val (.int p3), .val (.int p4), .val (.int p5), .val (.int (p1 &&& (3 : Int32))), .val (.ref a), .val (.int (Int32.ofNat cs.length)), .val (.int (5 : Int32)), .val (.int q), .val (.ref b44), .unset, .unset] [(.ref b44), (.ref a55), (.ref a55)])) rfl (by rw [hml]; rfl) (Steps.refl _) (a := a55) (argsL := [(.ref b44)]) (rest := [(.ref a55)]) (lenOf pd0_2 rfl) rfl (by show 2 * 0 + _ ≤ _; exact Nat.le_of_eq rfl) (hb hby at_265) (fun _ _ => ⟨rfl, e55, (by decide : 4 + 1 ≤ _), (by decide : 41 + 5 ≤ _)⟩)
          dsimp only [Pt.U, Pt.locs, Pt.cells, Pt.slots] at X56 l56 y56 z56 st56 hQ56
          subst y56 z56
          obtain ⟨rfl, Nc56, Kc56, NE, NC, t56, kt56, gt56, szt56, -, NV, NB⟩ := hQ56
          have N56 : Fr n0 L56 := by rw [l56]; exact Fr.app N54 Nc56
          have E_a := E_a.keep Kc56
          have F_a_coder := F_a_coder.keep Kc56 (ninS ne_a_a55 nin0)
          have F_a_value := F_a_value.keep Kc56 (ninS ne_a_a55 nin0)
          have V_b := V_b.keep Kc56 (ninS ne_b_a55 nin0)
          have C_a := C_a.keep Kc56 (ninS ne_a_a55 nin0)
          have C_b := C_b.keep Kc56 (ninS ne_b_a55 nin0)
          have V_b44 := V_b44.keep Kc56 (ninS ne_b44_a55 nin0)
          have hk56 := Nat.le_trans hk55 Kc56.1
          have O56 := O55.keep Kc56 (allS g_a55 all0)
          have E_a55 : Exa Z T56.heap a55 "java/lang/String" := NE
          have F_a55_coder : Fld Z T56.heap a55 "java/lang/String" "coder" "B" (.int (0 : Int32)) := NC
          have F_a55_value : Fld Z T56.heap a55 "java/lang/String" "value" "[B" (.ref t56) := NV
          have V_t56 : Arv Z T56.heap t56 kt56 .byte (5 : Int32) ((([(nar .char r45), (nar .char r47), (nar .char r49), (nar .char r51), (nar .char r53)] : List Int32).map (fun c => c.toInt8.toInt32)).map Value.int) (.int (0 : Int32)) := NB
          refine GoV.tr st56 ?_
          show GoV p e below s _ _ _ (T56.setTop (mkF m 268 #[.val (.int p0), .val (.int p1), .val (.int p2), .val (.int p3), .val (.int p4), .val (.int p5), .val (.int (p1 &&& (3 : Int32))), .val (.ref a), .val (.int (Int32.ofNat cs.length)), .val (.int (5 : Int32)), .val (.int q), .val (.ref b44), .unset, .unset] [(.ref a55)]))
          exact JX a55 t56 _ _ _ ([(nar .char r45), (nar .char r47), (nar .char r49), (nar .char r51), (nar .char r53)] : List Int32) (5 : Int32) b44 _ (vm3) _ _ _ _ (X56.mono (by decide) (by decide)) rfl N56 O56 hS3 hk56 hZ3 hown3 I3 E_a F_a_coder F_a_value V_b C_a C_b E_a55 F_a55_coder F_a55_value V_t56 (StrChars.Road.codOf (n := 5) rfl (fun c hc => (hp c hc).2)) (own_up hp) (Nat.le_of_ble_eq_true rfl) (fun q hq => Or.inl (List.mem_singleton.mp hq))
        · show GoV p e below s _ _ _ (T3.setTop (mkF m 80 #[.val (.int p0), .val (.int p1), .val (.int p2), .val (.int p3), .val (.int p4), .val (.int p5), .val (.int (p1 &&& (3 : Int32))), .val (.ref a), .val (.int (Int32.ofNat cs.length)), .val (.int (6 : Int32)), .val (.int q), .unset, .unset, .unset] []))
          refine GoV.st (fun _ kq_ => XS.iload X3.here hx rfl (hb hby at_80) rfl kq_) ?_
          show GoV p e below s _ _ _ (T3.setTop (mkF m 82 #[.val (.int p0), .val (.int p1), .val (.int p2), .val (.int p3), .val (.int p4), .val (.int p5), .val (.int (p1 &&& (3 : Int32))), .val (.ref a), .val (.int (Int32.ofNat cs.length)), .val (.int (6 : Int32)), .val (.int q), .unset, .unset, .unset] [(.int (6 : Int32))]))
          obtain ⟨T57, h57, k57, X57, e57, E57, A57, st57⟩ := newP X3 hx hZ3 (own_w hw 22 rfl) e3 (g := (mkF m 82 #[.val (.int p0), .val (.int p1), .val (.int p2), .val (.int p3), .val (.int p4), .val (.int p5), .val (.int (p1 &&& (3 : Int32))), .val (.ref a), .val (.int (Int32.ofNat cs.length)), .val (.int (6 : Int32)), .val (.int q), .unset, .unset, .unset] [(.int (6 : Int32))])) rfl (hb hby at_82) rfl (by decide) (cap := 6) (by decide) (by decide) (by decide) (by decide)
          obtain ⟨b57, g57⟩ : ∃ z, z = h3.size := ⟨_, rfl⟩
          rw [← g57] at A57 st57
          have g_b57 : n0 ≤ b57 := Nat.le_trans (own_old O3) (Nat.le_of_eq g57.symm)
          have ne_a_b57 : a ≠ b57 := by rw [g57]; exact Nat.ne_of_lt E_a.lt
          have ne_b_b57 : b ≠ b57 := by rw [g57]; exact Nat.ne_of_lt V_b.lt
          have E_a := E_a.ext E57
          have F_a_coder := F_a_coder.ext E57
          have F_a_value := F_a_value.ext E57
          have V_b := V_b.ext E57
          have C_a := C_a.ext E57
          have C_b := C_b.ext E57
          have hk57 := Nat.le_trans hk3 E57.1
          have O57 := O3.ext E57
          have V_b57 : Arv Z h57 b57 k57 .char (6 : Int32) [(.int (0 : Int32)), (.int (0 : Int32)), (.int (0 : Int32)), (.int (0 : Int32)), (.int (0 : Int32)), (.int (0 : Int32))] (.int (0 : Int32)) := (Arv.new A57 (by decide)).pad (pad_rep [] (.int (0 : Int32)) 6)
          refine GoV.st st57 ?_
          show GoV p e below s _ _ _ (T57.setTop (mkF m 84 #[.val (.int p0), .val (.int p1), .val (.int p2), .val (.int p3), .val (.int p4), .val (.int p5), .val (.int (p1 &&& (3 : Int32))), .val (.ref a), .val (.int (Int32.ofNat cs.length)), .val (.int (6 : Int32)), .val (.int q), .unset, .unset, .unset] [(.ref b57)]))
          refine GoV.st (fun _ kq_ => XS.astore X57.here hx rfl (hb hby at_84) rfl rfl (l' := #[.val (.int p0), .val (.int p1), .val (.int p2), .val (.int p3), .val (.int p4), .val (.int p5), .val (.int (p1 &&& (3 : Int32))), .val (.ref a), .val (.int (Int32.ofNat cs.length)), .val (.int (6 : Int32)), .val (.int q), .val (.ref b57), .unset, .unset]) rfl kq_) ?_
          show GoV p e below s _ _ _ (T57.setTop (mkF m 86 #[.val (.int p0), .val (.int p1), .val (.int p2), .val (.int p3), .val (.int p4), .val (.int p5), .val (.int (p1 &&& (3 : Int32))), .val (.ref a), .val (.int (Int32.ofNat cs.length)), .val (.int (6 : Int32)), .val (.int q), .val (.ref b57), .unset, .unset] []))
          refine GoV.st (fun _ kq_ => XS.iload X57.here hx rfl (hb hby at_86) rfl kq_) ?_
          show GoV p e below s _ _ _ (T57.setTop (mkF m 88 #[.val (.int p0), .val (.int p1), .val (.int p2), .val (.int p3), .val (.int p4), .val (.int p5), .val (.int (p1 &&& (3 : Int32))), .val (.ref a), .val (.int (Int32.ofNat cs.length)), .val (.int (6 : Int32)), .val (.int q), .val (.ref b57), .unset, .unset] [(.int (6 : Int32))]))
          refine GoV.st (fun _ kq_ => XS.ifNo X57.here hx rfl (hb hby at_88) rfl (by decide) kq_) ?_
          show GoV p e below s _ _ _ (T57.setTop (mkF m 91 #[.val (.int p0), .val (.int p1), .val (.int p2), .val (.int p3), .val (.int p4), .val (.int p5), .val (.int (p1 &&& (3 : Int32))), .val (.ref a), .val (.int (Int32.ofNat cs.length)), .val (.int (6 : Int32)), .val (.int q), .val (.ref b57), .unset, .unset] []))
          refine GoV.st (fun _ kq_ => XS.aload X57.here hx rfl (hb hby at_91) rfl rfl kq_) ?_
          show GoV p e below s _ _ _ (T57.setTop (mkF m 93 #[.val (.int p0), .val (.int p1), .val (.int p2), .val (.int p3), .val (.int p4), .val (.int p5), .val (.int (p1 &&& (3 : Int32))), .val (.ref a), .val (.int (Int32.ofNat cs.length)), .val (.int (6 : Int32)), .val (.int q), .val (.ref b57), .unset, .unset] [(.ref b57)]))
          refine GoV.st (fun _ kq_ => XS.iconst X57.here hx rfl (hb hby at_93) kq_) ?_
          show GoV p e below s _ _ _ (T57.setTop (mkF m 94 #[.val (.int p0), .val (.int p1), .val (.int p2), .val (.int p3), .val (.int p4), .val (.int p5), .val (.int (p1 &&& (3 : Int32))), .val (.ref a), .val (.int (Int32.ofNat cs.length)), .val (.int (6 : Int32)), .val (.int q), .val (.ref b57), .unset, .unset] [(.int (0 : Int32)), (.ref b57)]))
          refine GoV.st (fun _ kq_ => XS.aload X57.here hx rfl (hb hby at_94) rfl rfl kq_) ?_
          show GoV p e below s _ _ _ (T57.setTop (mkF m 96 #[.val (.int p0), .val (.int p1), .val (.int p2), .val (.int p3), .val (.int p4), .val (.int p5), .val (.int (p1 &&& (3 : Int32))), .val (.ref a), .val (.int (Int32.ofNat cs.length)), .val (.int (6 : Int32)), .val (.int q), .val (.ref b57), .unset, .unset] [(.ref a), (.int (0 : Int32)), (.ref b57)]))
          refine GoV.st (fun _ kq_ => XS.iconst X57.here hx rfl (hb hby at_96) kq_) ?_
          show GoV p e below s _ _ _ (T57.setTop (mkF m 97 #[.val (.int p0), .val (.int p1), .val (.int p2), .val (.int p3), .val (.int p4), .val (.int p5), .val (.int (p1 &&& (3 : Int32))), .val (.ref a), .val (.int (Int32.ofNat cs.length)), .val (.int (6 : Int32)), .val (.int q), .val (.ref b57), .unset, .unset] [(.int (0 : Int32)), (.ref a), (.int (0 : Int32)), (.ref b57)]))
          refine GoV.st (fun _ kq_ => XS.iload X57.here hx rfl (hb hby at_97) rfl kq_) ?_
          show GoV p e below s _ _ _ (T57.setTop (mkF m 99 #[.val (.int p0), .val (.int p1), .val (.int p2), .val (.int p3), .val (.int p4), .val (.int p5), .val (.int (p1 &&& (3 : Int32))), .val (.ref a), .val (.int (Int32.ofNat cs.length)), .val (.int (6 : Int32)), .val (.int q), .val (.ref b57), .unset, .unset] [(.int q), (.int (0 : Int32)), (.ref a), (.int (0 : Int32)), (.ref b57)]))
          refine GoV.st (fun _ kq_ => XS.iloadN X57.here hx rfl (hb hby at_99) rfl kq_) ?_
          show GoV p e below s _ _ _ (T57.setTop (mkF m 100 #[.val (.int p0), .val (.int p1), .val (.int p2), .val (.int p3), .val (.int p4), .val (.int p5), .val (.int (p1 &&& (3 : Int32))), .val (.ref a), .val (.int (Int32.ofNat cs.length)), .val (.int (6 : Int32)), .val (.int q), .val (.ref b57), .unset, .unset] [(.int p3), (.int q), (.int (0 : Int32)), (.ref a), (.int (0 : Int32)), (.ref b57)]))
          refine GoV.st (fun _ kq_ => XS.iload X57.here hx rfl (hb hby at_100) rfl kq_) ?_
          show GoV p e below s _ _ _ (T57.setTop (mkF m 102 #[.val (.int p0), .val (.int p1), .val (.int p2), .val (.int p3), .val (.int p4), .val (.int p5), .val (.int (p1 &&& (3 : Int32))), .val (.ref a), .val (.int (Int32.ofNat cs.length)), .val (.int (6 : Int32)), .val (.int q), .val (.ref b57), .unset, .unset] [(.int p5), (.int p3), (.int q), (.int (0 : Int32)), (.ref a), (.int (0 : Int32)), (.ref b57)]))
          obtain ⟨_, _, ⟨T58, L58, k58, n58⟩, -, X58, ⟨Lc58, hQ58, l58, y58, z58⟩, st58⟩ := Jvm.LawKit.callS X57 hx (y := (⟨"com/example/pemmican/pemmican/DataTypeNamedPinLaw", "ch", "(Ljava/lang/String;IIII)C"⟩ : MethodName)) hown3 (mvT hZ3 (own_w hw 84 rfl)) (mvT hZ3 (own_w hw 85 rfl)) (mvT hZ3 (own_w hw 73 rfl)) (mvT hZ3 (own_w hw 86 rfl)) (by decide) (backOf (W := 2) (rmc l Z a0 hw [] a b kb N vs cs (0 : Int32) q p3 p5 zc fm h57 n0 O57 E_a F_a_coder F_a_value V_b hcB hbB hlB (by decide) SC hcs SF rf) hZ3 (own_w hw 86 rfl) (own_w hw 73 rfl) (by decide) (by decide)) (g := (mkF m 102 #[.val (.int p0), .val (.int p1), .val (.int p2), .val (.int p3), .val (.int p4), .val (.int p5), .val (.int (p1 &&& (3 : Int32))), .val (.ref a), .val (.int (Int32.ofNat cs.length)), .val (.int (6 : Int32)), .val (.int q), .val (.ref b57), .unset, .unset] [(.int p5), (.int p3), (.int q), (.int (0 : Int32)), (.ref a), (.int (0 : Int32)), (.ref b57)])) rfl (by rw [hml]; rfl) (argsL := [(.ref a), (.int (0 : Int32)), (.int q), (.int p3), (.int p5)]) (rest := [(.int (0 : Int32)), (.ref b57)]) (lenOf pd0_3 rfl) rfl (by show 2 * 0 + _ ≤ _; exact Nat.le_of_eq rfl) (hb hby at_102) (fun _ _ => ⟨rfl, e57, (by decide : 3 + 0 ≤ _), (by decide : 38 + 0 ≤ _)⟩)
          dsimp only [Pt.U, Pt.locs, Pt.cells, Pt.slots] at X58 l58 y58 z58 st58 hQ58
          subst y58 z58
          obtain ⟨r58, rfl, hr58, Nc58, e58⟩ := hQ58
          have N58 : Fr n0 L58 := by rw [l58]; exact Fr.app N3 Nc58
          refine GoV.st st58 ?_
          show GoV p e below s _ _ _ (T58.setTop (mkF m 105 #[.val (.int p0), .val (.int p1), .val (.int p2), .val (.int p3), .val (.int p4), .val (.int p5), .val (.int (p1 &&& (3 : Int32))), .val (.ref a), .val (.int (Int32.ofNat cs.length)), .val (.int (6 : Int32)), .val (.int q), .val (.ref b57), .unset, .unset] [(.int r58), (.int (0 : Int32)), (.ref b57)]))
          obtain ⟨T59, h59, X59, e59, W59, V59, st59⟩ := own_stC X58 hx hZ3 e58 V_b57 (j := (0 : Int32)) (by decide) (by decide) 0 rfl (Nat.le_of_ble_eq_true rfl) (g := (mkF m 105 #[.val (.int p0), .val (.int p1), .val (.int p2), .val (.int p3), .val (.int p4), .val (.int p5), .val (.int (p1 &&& (3 : Int32))), .val (.ref a), .val (.int (Int32.ofNat cs.length)), .val (.int (6 : Int32)), .val (.int q), .val (.ref b57), .unset, .unset] [(.int r58), (.int (0 : Int32)), (.ref b57)])) rfl rfl (hb hby at_105)
          obtain ⟨lc59, X59, N59⟩ := own_gen X59 (Fr.snoc X59 N58 g_b57)
          have O59 := O57.wr W59 g_b57
          have E_a := E_a.wr W59
          have F_a_coder := F_a_coder.other W59 (Or.inl ne_a_b57)
          have F_a_value := F_a_value.other W59 (Or.inl ne_a_b57)
          have V_b := V_b.other W59 ne_b_b57
          have C_a := C_a.other W59 ne_a_b57
          have C_b := C_b.other W59 ne_b_b57
          have hk59 := Nat.le_trans hk57 (Nat.le_of_eq W59.size.symm)
          have V_b57 : Arv Z h59 b57 k57 .char (6 : Int32) [(.int (nar .char r58)), (.int (0 : Int32)), (.int (0 : Int32)), (.int (0 : Int32)), (.int (0 : Int32)), (.int (0 : Int32))] (.int (0 : Int32)) := V59
          refine GoV.st st59 ?_
          show GoV p e below s _ _ _ (T59.setTop (mkF m 106 #[.val (.int p0), .val (.int p1), .val (.int p2), .val (.int p3), .val (.int p4), .val (.int p5), .val (.int (p1 &&& (3 : Int32))), .val (.ref a), .val (.int (Int32.ofNat cs.length)), .val (.int (6 : Int32)), .val (.int q), .val (.ref b57), .unset, .unset] []))
          refine GoV.st (fun _ kq_ => XS.iload X59.here hx rfl (hb hby at_106) rfl kq_) ?_
          show GoV p e below s _ _ _ (T59.setTop (mkF m 108 #[.val (.int p0), .val (.int p1), .val (.int p2), .val (.int p3), .val (.int p4), .val (.int p5), .val (.int (p1 &&& (3 : Int32))), .val (.ref a), .val (.int (Int32.ofNat cs.length)), .val (.int (6 : Int32)), .val (.int q), .val (.ref b57), .unset, .unset] [(.int (6 : Int32))]))
          refine GoV.st (fun _ kq_ => XS.iconst X59.here hx rfl (hb hby at_108) kq_) ?_
          show GoV p e below s _ _ _ (T59.setTop (mkF m 109 #[.val (.int p0), .val (.int p1), .val (.int p2), .val (.int p3), .val (.int p4), .val (.int p5), .val (.int (p1 &&& (3 : Int32))), .val (.ref a), .val (.int (Int32.ofNat cs.length)), .val (.int (6 : Int32)), .val (.int q), .val (.ref b57), .unset, .unset] [(.int (1 : Int32)), (.int (6 : Int32))]))
          refine GoV.st (fun _ kq_ => XS.icmpNo X59.here hx rfl (hb hby at_109) rfl (by decide) kq_) ?_
          show GoV p e below s _ _ _ (T59.setTop (mkF m 112 #[.val (.int p0), .val (.int p1), .val (.int p2), .val (.int p3), .val (.int p4), .val (.int p5), .val (.int (p1 &&& (3 : Int32))), .val (.ref a), .val (.int (Int32.ofNat cs.length)), .val (.int (6 : Int32)), .val (.int q), .val (.ref b57), .unset, .unset] []))
          refine GoV.st (fun _ kq_ => XS.aload X59.here hx rfl (hb hby at_112) rfl rfl kq_) ?_
          show GoV p e below s _ _ _ (T59.setTop (mkF m 114 #[.val (.int p0), .val (.int p1), .val (.int p2), .val (.int p3), .val (.int p4), .val (.int p5), .val (.int (p1 &&& (3 : Int32))), .val (.ref a), .val (.int (Int32.ofNat cs.length)), .val (.int (6 : Int32)), .val (.int q), .val (.ref b57), .unset, .unset] [(.ref b57)]))
          refine GoV.st (fun _ kq_ => XS.iconst X59.here hx rfl (hb hby at_114) kq_) ?_
          show GoV p e below s _ _ _ (T59.setTop (mkF m 115 #[.val (.int p0), .val (.int p1), .val (.int p2), .val (.int p3), .val (.int p4), .val (.int p5), .val (.int (p1 &&& (3 : Int32))), .val (.ref a), .val (.int (Int32.ofNat cs.length)), .val (.int (6 : Int32)), .val (.int q), .val (.ref b57), .unset, .unset] [(.int (1 : Int32)), (.ref b57)]))
          refine GoV.st (fun _ kq_ => XS.aload X59.here hx rfl (hb hby at_115) rfl rfl kq_) ?_
          show GoV p e below s _ _ _ (T59.setTop (mkF m 117 #[.val (.int p0), .val (.int p1), .val (.int p2), .val (.int p3), .val (.int p4), .val (.int p5), .val (.int (p1 &&& (3 : Int32))), .val (.ref a), .val (.int (Int32.ofNat cs.length)), .val (.int (6 : Int32)), .val (.int q), .val (.ref b57), .unset, .unset] [(.ref a), (.int (1 : Int32)), (.ref b57)]))
          refine GoV.st (fun _ kq_ => XS.iconst X59.here hx rfl (hb hby at_117) kq_) ?_
          show GoV p e below s _ _ _ (T59.setTop (mkF m 118 #[.val (.int p0), .val (.int p1), .val (.int p2), .val (.int p3), .val (.int p4), .val (.int p5), .val (.int (p1 &&& (3 : Int32))), .val (.ref a), .val (.int (Int32.ofNat cs.length)), .val (.int (6 : Int32)), .val (.int q), .val (.ref b57), .unset, .unset] [(.int (1 : Int32)), (.ref a), (.int (1 : Int32)), (.ref b57)]))
          refine GoV.st (fun _ kq_ => XS.iload X59.here hx rfl (hb hby at_118) rfl kq_) ?_
          show GoV p e below s _ _ _ (T59.setTop (mkF m 120 #[.val (.int p0), .val (.int p1), .val (.int p2), .val (.int p3), .val (.int p4), .val (.int p5), .val (.int (p1 &&& (3 : Int32))), .val (.ref a), .val (.int (Int32.ofNat cs.length)), .val (.int (6 : Int32)), .val (.int q), .val (.ref b57), .unset, .unset] [(.int q), (.int (1 : Int32)), (.ref a), (.int (1 : Int32)), (.ref b57)]))
          refine GoV.st (fun _ kq_ => XS.iloadN X59.here hx rfl (hb hby at_120) rfl kq_) ?_
          show GoV p e below s _ _ _ (T59.setTop (mkF m 121 #[.val (.int p0), .val (.int p1), .val (.int p2), .val (.int p3), .val (.int p4), .val (.int p5), .val (.int (p1 &&& (3 : Int32))), .val (.ref a), .val (.int (Int32.ofNat cs.length)), .val (.int (6 : Int32)), .val (.int q), .val (.ref b57), .unset, .unset] [(.int p3), (.int q), (.int (1 : Int32)), (.ref a), (.int (1 : Int32)), (.ref b57)]))
          refine GoV.st (fun _ kq_ => XS.iload X59.here hx rfl (hb hby at_121) rfl kq_) ?_
          show GoV p e below s _ _ _ (T59.setTop (mkF m 123 #[.val (.int p0), .val (.int p1), .val (.int p2), .val (.int p3), .val (.int p4), .val (.int p5), .val (.int (p1 &&& (3 : Int32))), .val (.ref a), .val (.int (Int32.ofNat cs.length)), .val (.int (6 : Int32)), .val (.int q), .val (.ref b57), .unset, .unset] [(.int p5), (.int p3), (.int q), (.int (1 : Int32)), (.ref a), (.int (1 : Int32)), (.ref b57)]))
          obtain ⟨_, _, ⟨T60, L60, k60, n60⟩, -, X60, ⟨Lc60, hQ60, l60, y60, z60⟩, st60⟩ := Jvm.LawKit.callS X59 hx (y := (⟨"com/example/pemmican/pemmican/DataTypeNamedPinLaw", "ch", "(Ljava/lang/String;IIII)C"⟩ : MethodName)) hown3 (mvT hZ3 (own_w hw 84 rfl)) (mvT hZ3 (own_w hw 85 rfl)) (mvT hZ3 (own_w hw 73 rfl)) (mvT hZ3 (own_w hw 86 rfl)) (by decide) (backOf (W := 2) (rmc l Z a0 hw [] a b kb N vs cs (1 : Int32) q p3 p5 zc fm h59 n0 O59 E_a F_a_coder F_a_value V_b hcB hbB hlB (by decide) SC hcs SF rf) hZ3 (own_w hw 86 rfl) (own_w hw 73 rfl) (by decide) (by decide)) (g := (mkF m 123 #[.val (.int p0), .val (.int p1), .val (.int p2), .val (.int p3), .val (.int p4), .val (.int p5), .val (.int (p1 &&& (3 : Int32))), .val (.ref a), .val (.int (Int32.ofNat cs.length)), .val (.int (6 : Int32)), .val (.int q), .val (.ref b57), .unset, .unset] [(.int p5), (.int p3), (.int q), (.int (1 : Int32)), (.ref a), (.int (1 : Int32)), (.ref b57)])) rfl (by rw [hml]; rfl) (argsL := [(.ref a), (.int (1 : Int32)), (.int q), (.int p3), (.int p5)]) (rest := [(.int (1 : Int32)), (.ref b57)]) (lenOf pd0_3 rfl) rfl (by show 2 * 0 + _ ≤ _; exact Nat.le_of_eq rfl) (hb hby at_123) (fun _ _ => ⟨rfl, e59, (by decide : 3 + 0 ≤ _), (by decide : 38 + 0 ≤ _)⟩)
          dsimp only [Pt.U, Pt.locs, Pt.cells, Pt.slots] at X60 l60 y60 z60 st60 hQ60
          subst y60 z60
          obtain ⟨r60, rfl, hr60, Nc60, e60⟩ := hQ60
          have N60 : Fr n0 L60 := by rw [l60]; exact Fr.app N59 Nc60
          refine GoV.st st60 ?_
          show GoV p e below s _ _ _ (T60.setTop (mkF m 126 #[.val (.int p0), .val (.int p1), .val (.int p2), .val (.int p3), .val (.int p4), .val (.int p5), .val (.int (p1 &&& (3 : Int32))), .val (.ref a), .val (.int (Int32.ofNat cs.length)), .val (.int (6 : Int32)), .val (.int q), .val (.ref b57), .unset, .unset] [(.int r60), (.int (1 : Int32)), (.ref b57)]))
          obtain ⟨T61, h61, X61, e61, W61, V61, st61⟩ := own_stC X60 hx hZ3 e60 V_b57 (j := (1 : Int32)) (by decide) (by decide) 1 rfl (Nat.le_of_ble_eq_true rfl) (g := (mkF m 126 #[.val (.int p0), .val (.int p1), .val (.int p2), .val (.int p3), .val (.int p4), .val (.int p5), .val (.int (p1 &&& (3 : Int32))), .val (.ref a), .val (.int (Int32.ofNat cs.length)), .val (.int (6 : Int32)), .val (.int q), .val (.ref b57), .unset, .unset] [(.int r60), (.int (1 : Int32)), (.ref b57)])) rfl rfl (hb hby at_126)
          obtain ⟨lc61, X61, N61⟩ := own_gen X61 (Fr.snoc X61 N60 g_b57)
          have O61 := O59.wr W61 g_b57
          have E_a := E_a.wr W61
          have F_a_coder := F_a_coder.other W61 (Or.inl ne_a_b57)
          have F_a_value := F_a_value.other W61 (Or.inl ne_a_b57)
          have V_b := V_b.other W61 ne_b_b57
          have C_a := C_a.other W61 ne_a_b57
          have C_b := C_b.other W61 ne_b_b57
          have hk61 := Nat.le_trans hk59 (Nat.le_of_eq W61.size.symm)
          have V_b57 : Arv Z h61 b57 k57 .char (6 : Int32) [(.int (nar .char r58)), (.int (nar .char r60)), (.int (0 : Int32)), (.int (0 : Int32)), (.int (0 : Int32)), (.int (0 : Int32))] (.int (0 : Int32)) := V61
          refine GoV.st st61 ?_
          show GoV p e below s _ _ _ (T61.setTop (mkF m 127 #[.val (.int p0), .val (.int p1), .val (.int p2), .val (.int p3), .val (.int p4), .val (.int p5), .val (.int (p1 &&& (3 : Int32))), .val (.ref a), .val (.int (Int32.ofNat cs.length)), .val (.int (6 : Int32)), .val (.int q), .val (.ref b57), .unset, .unset] []))
          refine GoV.st (fun _ kq_ => XS.iload X61.here hx rfl (hb hby at_127) rfl kq_) ?_
          show GoV p e below s _ _ _ (T61.setTop (mkF m 129 #[.val (.int p0), .val (.int p1), .val (.int p2), .val (.int p3), .val (.int p4), .val (.int p5), .val (.int (p1 &&& (3 : Int32))), .val (.ref a), .val (.int (Int32.ofNat cs.length)), .val (.int (6 : Int32)), .val (.int q), .val (.ref b57), .unset, .unset] [(.int (6 : Int32))]))
          refine GoV.st (fun _ kq_ => XS.iconst X61.here hx rfl (hb hby at_129) kq_) ?_
          show GoV p e below s _ _ _ (T61.setTop (mkF m 130 #[.val (.int p0), .val (.int p1), .val (.int p2), .val (.int p3), .val (.int p4), .val (.int p5), .val (.int (p1 &&& (3 : Int32))), .val (.ref a), .val (.int (Int32.ofNat cs.length)), .val (.int (6 : Int32)), .val (.int q), .val (.ref b57), .unset, .unset] [(.int (2 : Int32)), (.int (6 : Int32))]))
          refine GoV.st (fun _ kq_ => XS.icmpNo X61.here hx rfl (hb hby at_130) rfl (by decide) kq_) ?_
          show GoV p e below s _ _ _ (T61.setTop (mkF m 133 #[.val (.int p0), .val (.int p1), .val (.int p2), .val (.int p3), .val (.int p4), .val (.int p5), .val (.int (p1 &&& (3 : Int32))), .val (.ref a), .val (.int (Int32.ofNat cs.length)), .val (.int (6 : Int32)), .val (.int q), .val (.ref b57), .unset, .unset] []))
          refine GoV.st (fun _ kq_ => XS.aload X61.here hx rfl (hb hby at_133) rfl rfl kq_) ?_
          show GoV p e below s _ _ _ (T61.setTop (mkF m 135 #[.val (.int p0), .val (.int p1), .val (.int p2), .val (.int p3), .val (.int p4), .val (.int p5), .val (.int (p1 &&& (3 : Int32))), .val (.ref a), .val (.int (Int32.ofNat cs.length)), .val (.int (6 : Int32)), .val (.int q), .val (.ref b57), .unset, .unset] [(.ref b57)]))
          refine GoV.st (fun _ kq_ => XS.iconst X61.here hx rfl (hb hby at_135) kq_) ?_
          show GoV p e below s _ _ _ (T61.setTop (mkF m 136 #[.val (.int p0), .val (.int p1), .val (.int p2), .val (.int p3), .val (.int p4), .val (.int p5), .val (.int (p1 &&& (3 : Int32))), .val (.ref a), .val (.int (Int32.ofNat cs.length)), .val (.int (6 : Int32)), .val (.int q), .val (.ref b57), .unset, .unset] [(.int (2 : Int32)), (.ref b57)]))
          refine GoV.st (fun _ kq_ => XS.aload X61.here hx rfl (hb hby at_136) rfl rfl kq_) ?_
          show GoV p e below s _ _ _ (T61.setTop (mkF m 138 #[.val (.int p0), .val (.int p1), .val (.int p2), .val (.int p3), .val (.int p4), .val (.int p5), .val (.int (p1 &&& (3 : Int32))), .val (.ref a), .val (.int (Int32.ofNat cs.length)), .val (.int (6 : Int32)), .val (.int q), .val (.ref b57), .unset, .unset] [(.ref a), (.int (2 : Int32)), (.ref b57)]))
          refine GoV.st (fun _ kq_ => XS.iconst X61.here hx rfl (hb hby at_138) kq_) ?_
          show GoV p e below s _ _ _ (T61.setTop (mkF m 139 #[.val (.int p0), .val (.int p1), .val (.int p2), .val (.int p3), .val (.int p4), .val (.int p5), .val (.int (p1 &&& (3 : Int32))), .val (.ref a), .val (.int (Int32.ofNat cs.length)), .val (.int (6 : Int32)), .val (.int q), .val (.ref b57), .unset, .unset] [(.int (2 : Int32)), (.ref a), (.int (2 : Int32)), (.ref b57)]))
          refine GoV.st (fun _ kq_ => XS.iload X61.here hx rfl (hb hby at_139) rfl kq_) ?_
          show GoV p e below s _ _ _ (T61.setTop (mkF m 141 #[.val (.int p0), .val (.int p1), .val (.int p2), .val (.int p3), .val (.int p4), .val (.int p5), .val (.int (p1 &&& (3 : Int32))), .val (.ref a), .val (.int (Int32.ofNat cs.length)), .val (.int (6 : Int32)), .val (.int q), .val (.ref b57), .unset, .unset] [(.int q), (.int (2 : Int32)), (.ref a), (.int (2 : Int32)), (.ref b57)]))
          refine GoV.st (fun _ kq_ => XS.iloadN X61.here hx rfl (hb hby at_141) rfl kq_) ?_
          show GoV p e below s _ _ _ (T61.setTop (mkF m 142 #[.val (.int p0), .val (.int p1), .val (.int p2), .val (.int p3), .val (.int p4), .val (.int p5), .val (.int (p1 &&& (3 : Int32))), .val (.ref a), .val (.int (Int32.ofNat cs.length)), .val (.int (6 : Int32)), .val (.int q), .val (.ref b57), .unset, .unset] [(.int p3), (.int q), (.int (2 : Int32)), (.ref a), (.int (2 : Int32)), (.ref b57)]))
          refine GoV.st (fun _ kq_ => XS.iload X61.here hx rfl (hb hby at_142) rfl kq_) ?_
          show GoV p e below s _ _ _ (T61.setTop (mkF m 144 #[.val (.int p0), .val (.int p1), .val (.int p2), .val (.int p3), .val (.int p4), .val (.int p5), .val (.int (p1 &&& (3 : Int32))), .val (.ref a), .val (.int (Int32.ofNat cs.length)), .val (.int (6 : Int32)), .val (.int q), .val (.ref b57), .unset, .unset] [(.int p5), (.int p3), (.int q), (.int (2 : Int32)), (.ref a), (.int (2 : Int32)), (.ref b57)]))
          obtain ⟨_, _, ⟨T62, L62, k62, n62⟩, -, X62, ⟨Lc62, hQ62, l62, y62, z62⟩, st62⟩ := Jvm.LawKit.callS X61 hx (y := (⟨"com/example/pemmican/pemmican/DataTypeNamedPinLaw", "ch", "(Ljava/lang/String;IIII)C"⟩ : MethodName)) hown3 (mvT hZ3 (own_w hw 84 rfl)) (mvT hZ3 (own_w hw 85 rfl)) (mvT hZ3 (own_w hw 73 rfl)) (mvT hZ3 (own_w hw 86 rfl)) (by decide) (backOf (W := 2) (rmc l Z a0 hw [] a b kb N vs cs (2 : Int32) q p3 p5 zc fm h61 n0 O61 E_a F_a_coder F_a_value V_b hcB hbB hlB (by decide) SC hcs SF rf) hZ3 (own_w hw 86 rfl) (own_w hw 73 rfl) (by decide) (by decide)) (g := (mkF m 144 #[.val (.int p0), .val (.int p1), .val (.int p2), .val (.int p3), .val (.int p4), .val (.int p5), .val (.int (p1 &&& (3 : Int32))), .val (.ref a), .val (.int (Int32.ofNat cs.length)), .val (.int (6 : Int32)), .val (.int q), .val (.ref b57), .unset, .unset] [(.int p5), (.int p3), (.int q), (.int (2 : Int32)), (.ref a), (.int (2 : Int32)), (.ref b57)])) rfl (by rw [hml]; rfl) (argsL := [(.ref a), (.int (2 : Int32)), (.int q), (.int p3), (.int p5)]) (rest := [(.int (2 : Int32)), (.ref b57)]) (lenOf pd0_3 rfl) rfl (by show 2 * 0 + _ ≤ _; exact Nat.le_of_eq rfl) (hb hby at_144) (fun _ _ => ⟨rfl, e61, (by decide : 3 + 0 ≤ _), (by decide : 38 + 0 ≤ _)⟩)
          dsimp only [Pt.U, Pt.locs, Pt.cells, Pt.slots] at X62 l62 y62 z62 st62 hQ62
          subst y62 z62
          obtain ⟨r62, rfl, hr62, Nc62, e62⟩ := hQ62
          have N62 : Fr n0 L62 := by rw [l62]; exact Fr.app N61 Nc62
          refine GoV.st st62 ?_
          show GoV p e below s _ _ _ (T62.setTop (mkF m 147 #[.val (.int p0), .val (.int p1), .val (.int p2), .val (.int p3), .val (.int p4), .val (.int p5), .val (.int (p1 &&& (3 : Int32))), .val (.ref a), .val (.int (Int32.ofNat cs.length)), .val (.int (6 : Int32)), .val (.int q), .val (.ref b57), .unset, .unset] [(.int r62), (.int (2 : Int32)), (.ref b57)]))
          obtain ⟨T63, h63, X63, e63, W63, V63, st63⟩ := own_stC X62 hx hZ3 e62 V_b57 (j := (2 : Int32)) (by decide) (by decide) 2 rfl (Nat.le_of_ble_eq_true rfl) (g := (mkF m 147 #[.val (.int p0), .val (.int p1), .val (.int p2), .val (.int p3), .val (.int p4), .val (.int p5), .val (.int (p1 &&& (3 : Int32))), .val (.ref a), .val (.int (Int32.ofNat cs.length)), .val (.int (6 : Int32)), .val (.int q), .val (.ref b57), .unset, .unset] [(.int r62), (.int (2 : Int32)), (.ref b57)])) rfl rfl (hb hby at_147)
          obtain ⟨lc63, X63, N63⟩ := own_gen X63 (Fr.snoc X63 N62 g_b57)
          have O63 := O61.wr W63 g_b57
          have E_a := E_a.wr W63
          have F_a_coder := F_a_coder.other W63 (Or.inl ne_a_b57)
          have F_a_value := F_a_value.other W63 (Or.inl ne_a_b57)
          have V_b := V_b.other W63 ne_b_b57
          have C_a := C_a.other W63 ne_a_b57
          have C_b := C_b.other W63 ne_b_b57
          have hk63 := Nat.le_trans hk61 (Nat.le_of_eq W63.size.symm)
          have V_b57 : Arv Z h63 b57 k57 .char (6 : Int32) [(.int (nar .char r58)), (.int (nar .char r60)), (.int (nar .char r62)), (.int (0 : Int32)), (.int (0 : Int32)), (.int (0 : Int32))] (.int (0 : Int32)) := V63
          refine GoV.st st63 ?_
          show GoV p e below s _ _ _ (T63.setTop (mkF m 148 #[.val (.int p0), .val (.int p1), .val (.int p2), .val (.int p3), .val (.int p4), .val (.int p5), .val (.int (p1 &&& (3 : Int32))), .val (.ref a), .val (.int (Int32.ofNat cs.length)), .val (.int (6 : Int32)), .val (.int q), .val (.ref b57), .unset, .unset] []))
          refine GoV.st (fun _ kq_ => XS.iload X63.here hx rfl (hb hby at_148) rfl kq_) ?_
          show GoV p e below s _ _ _ (T63.setTop (mkF m 150 #[.val (.int p0), .val (.int p1), .val (.int p2), .val (.int p3), .val (.int p4), .val (.int p5), .val (.int (p1 &&& (3 : Int32))), .val (.ref a), .val (.int (Int32.ofNat cs.length)), .val (.int (6 : Int32)), .val (.int q), .val (.ref b57), .unset, .unset] [(.int (6 : Int32))]))
          refine GoV.st (fun _ kq_ => XS.iconst X63.here hx rfl (hb hby at_150) kq_) ?_
          show GoV p e below s _ _ _ (T63.setTop (mkF m 151 #[.val (.int p0), .val (.int p1), .val (.int p2), .val (.int p3), .val (.int p4), .val (.int p5), .val (.int (p1 &&& (3 : Int32))), .val (.ref a), .val (.int (Int32.ofNat cs.length)), .val (.int (6 : Int32)), .val (.int q), .val (.ref b57), .unset, .unset] [(.int (3 : Int32)), (.int (6 : Int32))]))
          refine GoV.st (fun _ kq_ => XS.icmpNo X63.here hx rfl (hb hby at_151) rfl (by decide) kq_) ?_
          show GoV p e below s _ _ _ (T63.setTop (mkF m 154 #[.val (.int p0), .val (.int p1), .val (.int p2), .val (.int p3), .val (.int p4), .val (.int p5), .val (.int (p1 &&& (3 : Int32))), .val (.ref a), .val (.int (Int32.ofNat cs.length)), .val (.int (6 : Int32)), .val (.int q), .val (.ref b57), .unset, .unset] []))
          refine GoV.st (fun _ kq_ => XS.aload X63.here hx rfl (hb hby at_154) rfl rfl kq_) ?_
          show GoV p e below s _ _ _ (T63.setTop (mkF m 156 #[.val (.int p0), .val (.int p1), .val (.int p2), .val (.int p3), .val (.int p4), .val (.int p5), .val (.int (p1 &&& (3 : Int32))), .val (.ref a), .val (.int (Int32.ofNat cs.length)), .val (.int (6 : Int32)), .val (.int q), .val (.ref b57), .unset, .unset] [(.ref b57)]))
          refine GoV.st (fun _ kq_ => XS.iconst X63.here hx rfl (hb hby at_156) kq_) ?_
          show GoV p e below s _ _ _ (T63.setTop (mkF m 157 #[.val (.int p0), .val (.int p1), .val (.int p2), .val (.int p3), .val (.int p4), .val (.int p5), .val (.int (p1 &&& (3 : Int32))), .val (.ref a), .val (.int (Int32.ofNat cs.length)), .val (.int (6 : Int32)), .val (.int q), .val (.ref b57), .unset, .unset] [(.int (3 : Int32)), (.ref b57)]))
          refine GoV.st (fun _ kq_ => XS.aload X63.here hx rfl (hb hby at_157) rfl rfl kq_) ?_
          show GoV p e below s _ _ _ (T63.setTop (mkF m 159 #[.val (.int p0), .val (.int p1), .val (.int p2), .val (.int p3), .val (.int p4), .val (.int p5), .val (.int (p1 &&& (3 : Int32))), .val (.ref a), .val (.int (Int32.ofNat cs.length)), .val (.int (6 : Int32)), .val (.int q), .val (.ref b57), .unset, .unset] [(.ref a), (.int (3 : Int32)), (.ref b57)]))
          refine GoV.st (fun _ kq_ => XS.iconst X63.here hx rfl (hb hby at_159) kq_) ?_
          show GoV p e below s _ _ _ (T63.setTop (mkF m 160 #[.val (.int p0), .val (.int p1), .val (.int p2), .val (.int p3), .val (.int p4), .val (.int p5), .val (.int (p1 &&& (3 : Int32))), .val (.ref a), .val (.int (Int32.ofNat cs.length)), .val (.int (6 : Int32)), .val (.int q), .val (.ref b57), .unset, .unset] [(.int (3 : Int32)), (.ref a), (.int (3 : Int32)), (.ref b57)]))
          refine GoV.st (fun _ kq_ => XS.iload X63.here hx rfl (hb hby at_160) rfl kq_) ?_
          show GoV p e below s _ _ _ (T63.setTop (mkF m 162 #[.val (.int p0), .val (.int p1), .val (.int p2), .val (.int p3), .val (.int p4), .val (.int p5), .val (.int (p1 &&& (3 : Int32))), .val (.ref a), .val (.int (Int32.ofNat cs.length)), .val (.int (6 : Int32)), .val (.int q), .val (.ref b57), .unset, .unset] [(.int q), (.int (3 : Int32)), (.ref a), (.int (3 : Int32)), (.ref b57)]))
          refine GoV.st (fun _ kq_ => XS.iloadN X63.here hx rfl (hb hby at_162) rfl kq_) ?_
          show GoV p e below s _ _ _ (T63.setTop (mkF m 163 #[.val (.int p0), .val (.int p1), .val (.int p2), .val (.int p3), .val (.int p4), .val (.int p5), .val (.int (p1 &&& (3 : Int32))), .val (.ref a), .val (.int (Int32.ofNat cs.length)), .val (.int (6 : Int32)), .val (.int q), .val (.ref b57), .unset, .unset] [(.int p3), (.int q), (.int (3 : Int32)), (.ref a), (.int (3 : Int32)), (.ref b57)]))
          refine GoV.st (fun _ kq_ => XS.iload X63.here hx rfl (hb hby at_163) rfl kq_) ?_
          show GoV p e below s _ _ _ (T63.setTop (mkF m 165 #[.val (.int p0), .val (.int p1), .val (.int p2), .val (.int p3), .val (.int p4), .val (.int p5), .val (.int (p1 &&& (3 : Int32))), .val (.ref a), .val (.int (Int32.ofNat cs.length)), .val (.int (6 : Int32)), .val (.int q), .val (.ref b57), .unset, .unset] [(.int p5), (.int p3), (.int q), (.int (3 : Int32)), (.ref a), (.int (3 : Int32)), (.ref b57)]))
          obtain ⟨_, _, ⟨T64, L64, k64, n64⟩, -, X64, ⟨Lc64, hQ64, l64, y64, z64⟩, st64⟩ := Jvm.LawKit.callS X63 hx (y := (⟨"com/example/pemmican/pemmican/DataTypeNamedPinLaw", "ch", "(Ljava/lang/String;IIII)C"⟩ : MethodName)) hown3 (mvT hZ3 (own_w hw 84 rfl)) (mvT hZ3 (own_w hw 85 rfl)) (mvT hZ3 (own_w hw 73 rfl)) (mvT hZ3 (own_w hw 86 rfl)) (by decide) (backOf (W := 2) (rmc l Z a0 hw [] a b kb N vs cs (3 : Int32) q p3 p5 zc fm h63 n0 O63 E_a F_a_coder F_a_value V_b hcB hbB hlB (by decide) SC hcs SF rf) hZ3 (own_w hw 86 rfl) (own_w hw 73 rfl) (by decide) (by decide)) (g := (mkF m 165 #[.val (.int p0), .val (.int p1), .val (.int p2), .val (.int p3), .val (.int p4), .val (.int p5), .val (.int (p1 &&& (3 : Int32))), .val (.ref a), .val (.int (Int32.ofNat cs.length)), .val (.int (6 : Int32)), .val (.int q), .val (.ref b57), .unset, .unset] [(.int p5), (.int p3), (.int q), (.int (3 : Int32)), (.ref a), (.int (3 : Int32)), (.ref b57)])) rfl (by rw [hml]; rfl) (argsL := [(.ref a), (.int (3 : Int32)), (.int q), (.int p3), (.int p5)]) (rest := [(.int (3 : Int32)), (.ref b57)]) (lenOf pd0_3 rfl) rfl (by show 2 * 0 + _ ≤ _; exact Nat.le_of_eq rfl) (hb hby at_165) (fun _ _ => ⟨rfl, e63, (by decide : 3 + 0 ≤ _), (by decide : 38 + 0 ≤ _)⟩)
          dsimp only [Pt.U, Pt.locs, Pt.cells, Pt.slots] at X64 l64 y64 z64 st64 hQ64
          subst y64 z64
          obtain ⟨r64, rfl, hr64, Nc64, e64⟩ := hQ64
          have N64 : Fr n0 L64 := by rw [l64]; exact Fr.app N63 Nc64
          refine GoV.st st64 ?_
          show GoV p e below s _ _ _ (T64.setTop (mkF m 168 #[.val (.int p0), .val (.int p1), .val (.int p2), .val (.int p3), .val (.int p4), .val (.int p5), .val (.int (p1 &&& (3 : Int32))), .val (.ref a), .val (.int (Int32.ofNat cs.length)), .val (.int (6 : Int32)), .val (.int q), .val (.ref b57), .unset, .unset] [(.int r64), (.int (3 : Int32)), (.ref b57)]))
          obtain ⟨T65, h65, X65, e65, W65, V65, st65⟩ := own_stC X64 hx hZ3 e64 V_b57 (j := (3 : Int32)) (by decide) (by decide) 3 rfl (Nat.le_of_ble_eq_true rfl) (g := (mkF m 168 #[.val (.int p0), .val (.int p1), .val (.int p2), .val (.int p3), .val (.int p4), .val (.int p5), .val (.int (p1 &&& (3 : Int32))), .val (.ref a), .val (.int (Int32.ofNat cs.length)), .val (.int (6 : Int32)), .val (.int q), .val (.ref b57), .unset, .unset] [(.int r64), (.int (3 : Int32)), (.ref b57)])) rfl rfl (hb hby at_168)
          obtain ⟨lc65, X65, N65⟩ := own_gen X65 (Fr.snoc X65 N64 g_b57)
          have O65 := O63.wr W65 g_b57
          have E_a := E_a.wr W65
          have F_a_coder := F_a_coder.other W65 (Or.inl ne_a_b57)
          have F_a_value := F_a_value.other W65 (Or.inl ne_a_b57)
          have V_b := V_b.other W65 ne_b_b57
          have C_a := C_a.other W65 ne_a_b57
          have C_b := C_b.other W65 ne_b_b57
          have hk65 := Nat.le_trans hk63 (Nat.le_of_eq W65.size.symm)
          have V_b57 : Arv Z h65 b57 k57 .char (6 : Int32) [(.int (nar .char r58)), (.int (nar .char r60)), (.int (nar .char r62)), (.int (nar .char r64)), (.int (0 : Int32)), (.int (0 : Int32))] (.int (0 : Int32)) := V65
          refine GoV.st st65 ?_
          show GoV p e below s _ _ _ (T65.setTop (mkF m 169 #[.val (.int p0), .val (.int p1), .val (.int p2), .val (.int p3), .val (.int p4), .val (.int p5), .val (.int (p1 &&& (3 : Int32))), .val (.ref a), .val (.int (Int32.ofNat cs.length)), .val (.int (6 : Int32)), .val (.int q), .val (.ref b57), .unset, .unset] []))
          refine GoV.st (fun _ kq_ => XS.iload X65.here hx rfl (hb hby at_169) rfl kq_) ?_
          show GoV p e below s _ _ _ (T65.setTop (mkF m 171 #[.val (.int p0), .val (.int p1), .val (.int p2), .val (.int p3), .val (.int p4), .val (.int p5), .val (.int (p1 &&& (3 : Int32))), .val (.ref a), .val (.int (Int32.ofNat cs.length)), .val (.int (6 : Int32)), .val (.int q), .val (.ref b57), .unset, .unset] [(.int (6 : Int32))]))
          refine GoV.st (fun _ kq_ => XS.iconst X65.here hx rfl (hb hby at_171) kq_) ?_
          show GoV p e below s _ _ _ (T65.setTop (mkF m 172 #[.val (.int p0), .val (.int p1), .val (.int p2), .val (.int p3), .val (.int p4), .val (.int p5), .val (.int (p1 &&& (3 : Int32))), .val (.ref a), .val (.int (Int32.ofNat cs.length)), .val (.int (6 : Int32)), .val (.int q), .val (.ref b57), .unset, .unset] [(.int (4 : Int32)), (.int (6 : Int32))]))
          refine GoV.st (fun _ kq_ => XS.icmpNo X65.here hx rfl (hb hby at_172) rfl (by decide) kq_) ?_
          show GoV p e below s _ _ _ (T65.setTop (mkF m 175 #[.val (.int p0), .val (.int p1), .val (.int p2), .val (.int p3), .val (.int p4), .val (.int p5), .val (.int (p1 &&& (3 : Int32))), .val (.ref a), .val (.int (Int32.ofNat cs.length)), .val (.int (6 : Int32)), .val (.int q), .val (.ref b57), .unset, .unset] []))
          refine GoV.st (fun _ kq_ => XS.aload X65.here hx rfl (hb hby at_175) rfl rfl kq_) ?_
          show GoV p e below s _ _ _ (T65.setTop (mkF m 177 #[.val (.int p0), .val (.int p1), .val (.int p2), .val (.int p3), .val (.int p4), .val (.int p5), .val (.int (p1 &&& (3 : Int32))), .val (.ref a), .val (.int (Int32.ofNat cs.length)), .val (.int (6 : Int32)), .val (.int q), .val (.ref b57), .unset, .unset] [(.ref b57)]))
          refine GoV.st (fun _ kq_ => XS.iconst X65.here hx rfl (hb hby at_177) kq_) ?_
          show GoV p e below s _ _ _ (T65.setTop (mkF m 178 #[.val (.int p0), .val (.int p1), .val (.int p2), .val (.int p3), .val (.int p4), .val (.int p5), .val (.int (p1 &&& (3 : Int32))), .val (.ref a), .val (.int (Int32.ofNat cs.length)), .val (.int (6 : Int32)), .val (.int q), .val (.ref b57), .unset, .unset] [(.int (4 : Int32)), (.ref b57)]))
          refine GoV.st (fun _ kq_ => XS.aload X65.here hx rfl (hb hby at_178) rfl rfl kq_) ?_
          show GoV p e below s _ _ _ (T65.setTop (mkF m 180 #[.val (.int p0), .val (.int p1), .val (.int p2), .val (.int p3), .val (.int p4), .val (.int p5), .val (.int (p1 &&& (3 : Int32))), .val (.ref a), .val (.int (Int32.ofNat cs.length)), .val (.int (6 : Int32)), .val (.int q), .val (.ref b57), .unset, .unset] [(.ref a), (.int (4 : Int32)), (.ref b57)]))
          refine GoV.st (fun _ kq_ => XS.iconst X65.here hx rfl (hb hby at_180) kq_) ?_
          show GoV p e below s _ _ _ (T65.setTop (mkF m 181 #[.val (.int p0), .val (.int p1), .val (.int p2), .val (.int p3), .val (.int p4), .val (.int p5), .val (.int (p1 &&& (3 : Int32))), .val (.ref a), .val (.int (Int32.ofNat cs.length)), .val (.int (6 : Int32)), .val (.int q), .val (.ref b57), .unset, .unset] [(.int (4 : Int32)), (.ref a), (.int (4 : Int32)), (.ref b57)]))
          refine GoV.st (fun _ kq_ => XS.iload X65.here hx rfl (hb hby at_181) rfl kq_) ?_
          show GoV p e below s _ _ _ (T65.setTop (mkF m 183 #[.val (.int p0), .val (.int p1), .val (.int p2), .val (.int p3), .val (.int p4), .val (.int p5), .val (.int (p1 &&& (3 : Int32))), .val (.ref a), .val (.int (Int32.ofNat cs.length)), .val (.int (6 : Int32)), .val (.int q), .val (.ref b57), .unset, .unset] [(.int q), (.int (4 : Int32)), (.ref a), (.int (4 : Int32)), (.ref b57)]))
          refine GoV.st (fun _ kq_ => XS.iloadN X65.here hx rfl (hb hby at_183) rfl kq_) ?_
          show GoV p e below s _ _ _ (T65.setTop (mkF m 184 #[.val (.int p0), .val (.int p1), .val (.int p2), .val (.int p3), .val (.int p4), .val (.int p5), .val (.int (p1 &&& (3 : Int32))), .val (.ref a), .val (.int (Int32.ofNat cs.length)), .val (.int (6 : Int32)), .val (.int q), .val (.ref b57), .unset, .unset] [(.int p3), (.int q), (.int (4 : Int32)), (.ref a), (.int (4 : Int32)), (.ref b57)]))
          refine GoV.st (fun _ kq_ => XS.iload X65.here hx rfl (hb hby at_184) rfl kq_) ?_
          show GoV p e below s _ _ _ (T65.setTop (mkF m 186 #[.val (.int p0), .val (.int p1), .val (.int p2), .val (.int p3), .val (.int p4), .val (.int p5), .val (.int (p1 &&& (3 : Int32))), .val (.ref a), .val (.int (Int32.ofNat cs.length)), .val (.int (6 : Int32)), .val (.int q), .val (.ref b57), .unset, .unset] [(.int p5), (.int p3), (.int q), (.int (4 : Int32)), (.ref a), (.int (4 : Int32)), (.ref b57)]))
          obtain ⟨_, _, ⟨T66, L66, k66, n66⟩, -, X66, ⟨Lc66, hQ66, l66, y66, z66⟩, st66⟩ := Jvm.LawKit.callS X65 hx (y := (⟨"com/example/pemmican/pemmican/DataTypeNamedPinLaw", "ch", "(Ljava/lang/String;IIII)C"⟩ : MethodName)) hown3 (mvT hZ3 (own_w hw 84 rfl)) (mvT hZ3 (own_w hw 85 rfl)) (mvT hZ3 (own_w hw 73 rfl)) (mvT hZ3 (own_w hw 86 rfl)) (by decide) (backOf (W := 2) (rmc l Z a0 hw [] a b kb N vs cs (4 : Int32) q p3 p5 zc fm h65 n0 O65 E_a F_a_coder F_a_value V_b hcB hbB hlB (by decide) SC hcs SF rf) hZ3 (own_w hw 86 rfl) (own_w hw 73 rfl) (by decide) (by decide)) (g := (mkF m 186 #[.val (.int p0), .val (.int p1), .val (.int p2), .val (.int p3), .val (.int p4), .val (.int p5), .val (.int (p1 &&& (3 : Int32))), .val (.ref a), .val (.int (Int32.ofNat cs.length)), .val (.int (6 : Int32)), .val (.int q), .val (.ref b57), .unset, .unset] [(.int p5), (.int p3), (.int q), (.int (4 : Int32)), (.ref a), (.int (4 : Int32)), (.ref b57)])) rfl (by rw [hml]; rfl) (argsL := [(.ref a), (.int (4 : Int32)), (.int q), (.int p3), (.int p5)]) (rest := [(.int (4 : Int32)), (.ref b57)]) (lenOf pd0_3 rfl) rfl (by show 2 * 0 + _ ≤ _; exact Nat.le_of_eq rfl) (hb hby at_186) (fun _ _ => ⟨rfl, e65, (by decide : 3 + 0 ≤ _), (by decide : 38 + 0 ≤ _)⟩)
          dsimp only [Pt.U, Pt.locs, Pt.cells, Pt.slots] at X66 l66 y66 z66 st66 hQ66
          subst y66 z66
          obtain ⟨r66, rfl, hr66, Nc66, e66⟩ := hQ66
          have N66 : Fr n0 L66 := by rw [l66]; exact Fr.app N65 Nc66
          refine GoV.st st66 ?_
          show GoV p e below s _ _ _ (T66.setTop (mkF m 189 #[.val (.int p0), .val (.int p1), .val (.int p2), .val (.int p3), .val (.int p4), .val (.int p5), .val (.int (p1 &&& (3 : Int32))), .val (.ref a), .val (.int (Int32.ofNat cs.length)), .val (.int (6 : Int32)), .val (.int q), .val (.ref b57), .unset, .unset] [(.int r66), (.int (4 : Int32)), (.ref b57)]))
          obtain ⟨T67, h67, X67, e67, W67, V67, st67⟩ := own_stC X66 hx hZ3 e66 V_b57 (j := (4 : Int32)) (by decide) (by decide) 4 rfl (Nat.le_of_ble_eq_true rfl) (g := (mkF m 189 #[.val (.int p0), .val (.int p1), .val (.int p2), .val (.int p3), .val (.int p4), .val (.int p5), .val (.int (p1 &&& (3 : Int32))), .val (.ref a), .val (.int (Int32.ofNat cs.length)), .val (.int (6 : Int32)), .val (.int q), .val (.ref b57), .unset, .unset] [(.int r66), (.int (4 : Int32)), (.ref b57)])) rfl rfl (hb hby at_189)
          obtain ⟨lc67, X67, N67⟩ := own_gen X67 (Fr.snoc X67 N66 g_b57)
          have O67 := O65.wr W67 g_b57
          have E_a := E_a.wr W67
          have F_a_coder := F_a_coder.other W67 (Or.inl ne_a_b57)
          have F_a_value := F_a_value.other W67 (Or.inl ne_a_b57)
          have V_b := V_b.other W67 ne_b_b57
          have C_a := C_a.other W67 ne_a_b57
          have C_b := C_b.other W67 ne_b_b57
          have hk67 := Nat.le_trans hk65 (Nat.le_of_eq W67.size.symm)
          have V_b57 : Arv Z h67 b57 k57 .char (6 : Int32) [(.int (nar .char r58)), (.int (nar .char r60)), (.int (nar .char r62)), (.int (nar .char r64)), (.int (nar .char r66)), (.int (0 : Int32))] (.int (0 : Int32)) := V67
          refine GoV.st st67 ?_
          show GoV p e below s _ _ _ (T67.setTop (mkF m 190 #[.val (.int p0), .val (.int p1), .val (.int p2), .val (.int p3), .val (.int p4), .val (.int p5), .val (.int (p1 &&& (3 : Int32))), .val (.ref a), .val (.int (Int32.ofNat cs.length)), .val (.int (6 : Int32)), .val (.int q), .val (.ref b57), .unset, .unset] []))
          refine GoV.st (fun _ kq_ => XS.iload X67.here hx rfl (hb hby at_190) rfl kq_) ?_
          show GoV p e below s _ _ _ (T67.setTop (mkF m 192 #[.val (.int p0), .val (.int p1), .val (.int p2), .val (.int p3), .val (.int p4), .val (.int p5), .val (.int (p1 &&& (3 : Int32))), .val (.ref a), .val (.int (Int32.ofNat cs.length)), .val (.int (6 : Int32)), .val (.int q), .val (.ref b57), .unset, .unset] [(.int (6 : Int32))]))
          refine GoV.st (fun _ kq_ => XS.iconst X67.here hx rfl (hb hby at_192) kq_) ?_
          show GoV p e below s _ _ _ (T67.setTop (mkF m 193 #[.val (.int p0), .val (.int p1), .val (.int p2), .val (.int p3), .val (.int p4), .val (.int p5), .val (.int (p1 &&& (3 : Int32))), .val (.ref a), .val (.int (Int32.ofNat cs.length)), .val (.int (6 : Int32)), .val (.int q), .val (.ref b57), .unset, .unset] [(.int (5 : Int32)), (.int (6 : Int32))]))
          refine GoV.st (fun _ kq_ => XS.icmpNo X67.here hx rfl (hb hby at_193) rfl (by decide) kq_) ?_
          show GoV p e below s _ _ _ (T67.setTop (mkF m 196 #[.val (.int p0), .val (.int p1), .val (.int p2), .val (.int p3), .val (.int p4), .val (.int p5), .val (.int (p1 &&& (3 : Int32))), .val (.ref a), .val (.int (Int32.ofNat cs.length)), .val (.int (6 : Int32)), .val (.int q), .val (.ref b57), .unset, .unset] []))
          refine GoV.st (fun _ kq_ => XS.aload X67.here hx rfl (hb hby at_196) rfl rfl kq_) ?_
          show GoV p e below s _ _ _ (T67.setTop (mkF m 198 #[.val (.int p0), .val (.int p1), .val (.int p2), .val (.int p3), .val (.int p4), .val (.int p5), .val (.int (p1 &&& (3 : Int32))), .val (.ref a), .val (.int (Int32.ofNat cs.length)), .val (.int (6 : Int32)), .val (.int q), .val (.ref b57), .unset, .unset] [(.ref b57)]))
          refine GoV.st (fun _ kq_ => XS.iconst X67.here hx rfl (hb hby at_198) kq_) ?_
          show GoV p e below s _ _ _ (T67.setTop (mkF m 199 #[.val (.int p0), .val (.int p1), .val (.int p2), .val (.int p3), .val (.int p4), .val (.int p5), .val (.int (p1 &&& (3 : Int32))), .val (.ref a), .val (.int (Int32.ofNat cs.length)), .val (.int (6 : Int32)), .val (.int q), .val (.ref b57), .unset, .unset] [(.int (5 : Int32)), (.ref b57)]))
          refine GoV.st (fun _ kq_ => XS.aload X67.here hx rfl (hb hby at_199) rfl rfl kq_) ?_
          show GoV p e below s _ _ _ (T67.setTop (mkF m 201 #[.val (.int p0), .val (.int p1), .val (.int p2), .val (.int p3), .val (.int p4), .val (.int p5), .val (.int (p1 &&& (3 : Int32))), .val (.ref a), .val (.int (Int32.ofNat cs.length)), .val (.int (6 : Int32)), .val (.int q), .val (.ref b57), .unset, .unset] [(.ref a), (.int (5 : Int32)), (.ref b57)]))
          refine GoV.st (fun _ kq_ => XS.iconst X67.here hx rfl (hb hby at_201) kq_) ?_
          show GoV p e below s _ _ _ (T67.setTop (mkF m 202 #[.val (.int p0), .val (.int p1), .val (.int p2), .val (.int p3), .val (.int p4), .val (.int p5), .val (.int (p1 &&& (3 : Int32))), .val (.ref a), .val (.int (Int32.ofNat cs.length)), .val (.int (6 : Int32)), .val (.int q), .val (.ref b57), .unset, .unset] [(.int (5 : Int32)), (.ref a), (.int (5 : Int32)), (.ref b57)]))
          refine GoV.st (fun _ kq_ => XS.iload X67.here hx rfl (hb hby at_202) rfl kq_) ?_
          show GoV p e below s _ _ _ (T67.setTop (mkF m 204 #[.val (.int p0), .val (.int p1), .val (.int p2), .val (.int p3), .val (.int p4), .val (.int p5), .val (.int (p1 &&& (3 : Int32))), .val (.ref a), .val (.int (Int32.ofNat cs.length)), .val (.int (6 : Int32)), .val (.int q), .val (.ref b57), .unset, .unset] [(.int q), (.int (5 : Int32)), (.ref a), (.int (5 : Int32)), (.ref b57)]))
          refine GoV.st (fun _ kq_ => XS.iloadN X67.here hx rfl (hb hby at_204) rfl kq_) ?_
          show GoV p e below s _ _ _ (T67.setTop (mkF m 205 #[.val (.int p0), .val (.int p1), .val (.int p2), .val (.int p3), .val (.int p4), .val (.int p5), .val (.int (p1 &&& (3 : Int32))), .val (.ref a), .val (.int (Int32.ofNat cs.length)), .val (.int (6 : Int32)), .val (.int q), .val (.ref b57), .unset, .unset] [(.int p3), (.int q), (.int (5 : Int32)), (.ref a), (.int (5 : Int32)), (.ref b57)]))
          refine GoV.st (fun _ kq_ => XS.iload X67.here hx rfl (hb hby at_205) rfl kq_) ?_
          show GoV p e below s _ _ _ (T67.setTop (mkF m 207 #[.val (.int p0), .val (.int p1), .val (.int p2), .val (.int p3), .val (.int p4), .val (.int p5), .val (.int (p1 &&& (3 : Int32))), .val (.ref a), .val (.int (Int32.ofNat cs.length)), .val (.int (6 : Int32)), .val (.int q), .val (.ref b57), .unset, .unset] [(.int p5), (.int p3), (.int q), (.int (5 : Int32)), (.ref a), (.int (5 : Int32)), (.ref b57)]))
          obtain ⟨_, _, ⟨T68, L68, k68, n68⟩, -, X68, ⟨Lc68, hQ68, l68, y68, z68⟩, st68⟩ := Jvm.LawKit.callS X67 hx (y := (⟨"com/example/pemmican/pemmican/DataTypeNamedPinLaw", "ch", "(Ljava/lang/String;IIII)C"⟩ : MethodName)) hown3 (mvT hZ3 (own_w hw 84 rfl)) (mvT hZ3 (own_w hw 85 rfl)) (mvT hZ3 (own_w hw 73 rfl)) (mvT hZ3 (own_w hw 86 rfl)) (by decide) (backOf (W := 2) (rmc l Z a0 hw [] a b kb N vs cs (5 : Int32) q p3 p5 zc fm h67 n0 O67 E_a F_a_coder F_a_value V_b hcB hbB hlB (by decide) SC hcs SF rf) hZ3 (own_w hw 86 rfl) (own_w hw 73 rfl) (by decide) (by decide)) (g := (mkF m 207 #[.val (.int p0), .val (.int p1), .val (.int p2), .val (.int p3), .val (.int p4), .val (.int p5), .val (.int (p1 &&& (3 : Int32))), .val (.ref a), .val (.int (Int32.ofNat cs.length)), .val (.int (6 : Int32)), .val (.int q), .val (.ref b57), .unset, .unset] [(.int p5), (.int p3), (.int q), (.int (5 : Int32)), (.ref a), (.int (5 : Int32)), (.ref b57)])) rfl (by rw [hml]; rfl) (argsL := [(.ref a), (.int (5 : Int32)), (.int q), (.int p3), (.int p5)]) (rest := [(.int (5 : Int32)), (.ref b57)]) (lenOf pd0_3 rfl) rfl (by show 2 * 0 + _ ≤ _; exact Nat.le_of_eq rfl) (hb hby at_207) (fun _ _ => ⟨rfl, e67, (by decide : 3 + 0 ≤ _), (by decide : 38 + 0 ≤ _)⟩)
          dsimp only [Pt.U, Pt.locs, Pt.cells, Pt.slots] at X68 l68 y68 z68 st68 hQ68
          subst y68 z68
          obtain ⟨r68, rfl, hr68, Nc68, e68⟩ := hQ68
          have N68 : Fr n0 L68 := by rw [l68]; exact Fr.app N67 Nc68
          refine GoV.st st68 ?_
          show GoV p e below s _ _ _ (T68.setTop (mkF m 210 #[.val (.int p0), .val (.int p1), .val (.int p2), .val (.int p3), .val (.int p4), .val (.int p5), .val (.int (p1 &&& (3 : Int32))), .val (.ref a), .val (.int (Int32.ofNat cs.length)), .val (.int (6 : Int32)), .val (.int q), .val (.ref b57), .unset, .unset] [(.int r68), (.int (5 : Int32)), (.ref b57)]))
          obtain ⟨T69, h69, X69, e69, W69, V69, st69⟩ := own_stC X68 hx hZ3 e68 V_b57 (j := (5 : Int32)) (by decide) (by decide) 5 rfl (Nat.le_of_ble_eq_true rfl) (g := (mkF m 210 #[.val (.int p0), .val (.int p1), .val (.int p2), .val (.int p3), .val (.int p4), .val (.int p5), .val (.int (p1 &&& (3 : Int32))), .val (.ref a), .val (.int (Int32.ofNat cs.length)), .val (.int (6 : Int32)), .val (.int q), .val (.ref b57), .unset, .unset] [(.int r68), (.int (5 : Int32)), (.ref b57)])) rfl rfl (hb hby at_210)
          obtain ⟨lc69, X69, N69⟩ := own_gen X69 (Fr.snoc X69 N68 g_b57)
          have O69 := O67.wr W69 g_b57
          have E_a := E_a.wr W69
          have F_a_coder := F_a_coder.other W69 (Or.inl ne_a_b57)
          have F_a_value := F_a_value.other W69 (Or.inl ne_a_b57)
          have V_b := V_b.other W69 ne_b_b57
          have C_a := C_a.other W69 ne_a_b57
          have C_b := C_b.other W69 ne_b_b57
          have hk69 := Nat.le_trans hk67 (Nat.le_of_eq W69.size.symm)
          have V_b57 : Arv Z h69 b57 k57 .char (6 : Int32) [(.int (nar .char r58)), (.int (nar .char r60)), (.int (nar .char r62)), (.int (nar .char r64)), (.int (nar .char r66)), (.int (nar .char r68))] (.int (0 : Int32)) := V69
          refine GoV.st st69 ?_
          show GoV p e below s _ _ _ (T69.setTop (mkF m 211 #[.val (.int p0), .val (.int p1), .val (.int p2), .val (.int p3), .val (.int p4), .val (.int p5), .val (.int (p1 &&& (3 : Int32))), .val (.ref a), .val (.int (Int32.ofNat cs.length)), .val (.int (6 : Int32)), .val (.int q), .val (.ref b57), .unset, .unset] []))
          refine GoV.st (fun _ kq_ => XS.iload X69.here hx rfl (hb hby at_211) rfl kq_) ?_
          show GoV p e below s _ _ _ (T69.setTop (mkF m 213 #[.val (.int p0), .val (.int p1), .val (.int p2), .val (.int p3), .val (.int p4), .val (.int p5), .val (.int (p1 &&& (3 : Int32))), .val (.ref a), .val (.int (Int32.ofNat cs.length)), .val (.int (6 : Int32)), .val (.int q), .val (.ref b57), .unset, .unset] [(.int (6 : Int32))]))
          refine GoV.st (fun _ kq_ => XS.bipush X69.here hx rfl (hb hby at_213) kq_) ?_
          show GoV p e below s _ _ _ (T69.setTop (mkF m 215 #[.val (.int p0), .val (.int p1), .val (.int p2), .val (.int p3), .val (.int p4), .val (.int p5), .val (.int (p1 &&& (3 : Int32))), .val (.ref a), .val (.int (Int32.ofNat cs.length)), .val (.int (6 : Int32)), .val (.int q), .val (.ref b57), .unset, .unset] [(.int (6 : Int32)), (.int (6 : Int32))]))
          refine GoV.st (fun _ kq_ => XS.icmpYes X69.here hx rfl (pc0 := 215) (pc' := 235) rfl (hb hby at_215) rfl (by decide) (by decide) (by decide) kq_) ?_
          show GoV p e below s _ _ _ (T69.setTop (mkF m 235 #[.val (.int p0), .val (.int p1), .val (.int p2), .val (.int p3), .val (.int p4), .val (.int p5), .val (.int (p1 &&& (3 : Int32))), .val (.ref a), .val (.int (Int32.ofNat cs.length)), .val (.int (6 : Int32)), .val (.int q), .val (.ref b57), .unset, .unset] []))
          refine GoV.st (fun _ kq_ => XS.iload X69.here hx rfl (hb hby at_235) rfl kq_) ?_
          show GoV p e below s _ _ _ (T69.setTop (mkF m 237 #[.val (.int p0), .val (.int p1), .val (.int p2), .val (.int p3), .val (.int p4), .val (.int p5), .val (.int (p1 &&& (3 : Int32))), .val (.ref a), .val (.int (Int32.ofNat cs.length)), .val (.int (6 : Int32)), .val (.int q), .val (.ref b57), .unset, .unset] [(.int (6 : Int32))]))
          refine GoV.st (fun _ kq_ => XS.bipush X69.here hx rfl (hb hby at_237) kq_) ?_
          show GoV p e below s _ _ _ (T69.setTop (mkF m 239 #[.val (.int p0), .val (.int p1), .val (.int p2), .val (.int p3), .val (.int p4), .val (.int p5), .val (.int (p1 &&& (3 : Int32))), .val (.ref a), .val (.int (Int32.ofNat cs.length)), .val (.int (6 : Int32)), .val (.int q), .val (.ref b57), .unset, .unset] [(.int (7 : Int32)), (.int (6 : Int32))]))
          refine GoV.st (fun _ kq_ => XS.icmpYes X69.here hx rfl (pc0 := 239) (pc' := 259) rfl (hb hby at_239) rfl (by decide) (by decide) (by decide) kq_) ?_
          show GoV p e below s _ _ _ (T69.setTop (mkF m 259 #[.val (.int p0), .val (.int p1), .val (.int p2), .val (.int p3), .val (.int p4), .val (.int p5), .val (.int (p1 &&& (3 : Int32))), .val (.ref a), .val (.int (Int32.ofNat cs.length)), .val (.int (6 : Int32)), .val (.int q), .val (.ref b57), .unset, .unset] []))
          obtain ⟨T70, h70, X70, e70, E70, A70, D70, -, st70⟩ := newO X69 hx hZ3 hown3 (own_w hw 23 rfl) (own_w hw 2 rfl) (own_w hw 1 rfl) e69 (g := (mkF m 259 #[.val (.int p0), .val (.int p1), .val (.int p2), .val (.int p3), .val (.int p4), .val (.int p5), .val (.int (p1 &&& (3 : Int32))), .val (.ref a), .val (.int (Int32.ofNat cs.length)), .val (.int (6 : Int32)), .val (.int q), .val (.ref b57), .unset, .unset] [])) rfl (hb hby at_259) (by decide) (by decide)
          obtain ⟨a70, g70⟩ : ∃ z, z = h69.size := ⟨_, rfl⟩
          rw [← g70] at A70 D70 st70
          have g_a70 : n0 ≤ a70 := Nat.le_trans (own_old O69) (Nat.le_of_eq g70.symm)
          have ne_a_a70 : a ≠ a70 := by rw [g70]; exact Nat.ne_of_lt E_a.lt
          have ne_b_a70 : b ≠ a70 := by rw [g70]; exact Nat.ne_of_lt V_b.lt
          have ne_b57_a70 : b57 ≠ a70 := by rw [g70]; exact Nat.ne_of_lt V_b57.lt
          have E_a := E_a.ext E70
          have F_a_coder := F_a_coder.ext E70
          have F_a_value := F_a_value.ext E70
          have V_b := V_b.ext E70
          have C_a := C_a.ext E70
          have C_b := C_b.ext E70
          have V_b57 := V_b57.ext E70
          have hk70 := Nat.le_trans hk69 E70.1
          have O70 := O69.ext E70
          have E_a70 : Exa Z h70 a70 "java/lang/String" := A70
          have F_a70_value : Fld Z h70 a70 "java/lang/String" "value" "[B" .null := D70 (Or.inr (own_w hw 4 rfl)) (ty := (.array .byte)) (by decide)
          have F_a70_coder : Fld Z h70 a70 "java/lang/String" "coder" "B" (.int (0 : Int32)) := D70 (Or.inr (own_w hw 5 rfl)) (ty := .byte) (by decide)
          refine GoV.st st70 ?_
          show GoV p e below s _ _ _ (T70.setTop (mkF m 262 #[.val (.int p0), .val (.int p1), .val (.int p2), .val (.int p3), .val (.int p4), .val (.int p5), .val (.int (p1 &&& (3 : Int32))), .val (.ref a), .val (.int (Int32.ofNat cs.length)), .val (.int (6 : Int32)), .val (.int q), .val (.ref b57), .unset, .unset] [(.ref a70)]))
          refine GoV.st (fun _ kq_ => XS.dup X70.here hx rfl (hb hby at_262) rfl rfl kq_) ?_
          show GoV p e below s _ _ _ (T70.setTop (mkF m 263 #[.val (.int p0), .val (.int p1), .val (.int p2), .val (.int p3), .val (.int p4), .val (.int p5), .val (.int (p1 &&& (3 : Int32))), .val (.ref a), .val (.int (Int32.ofNat cs.length)), .val (.int (6 : Int32)), .val (.int q), .val (.ref b57), .unset, .unset] [(.ref a70), (.ref a70)]))
          refine GoV.st (fun _ kq_ => XS.aload X70.here hx rfl (hb hby at_263) rfl rfl kq_) ?_
          show GoV p e below s _ _ _ (T70.setTop (mkF m 265 #[.val (.int p0), .val (.int p1), .val (.int p2), .val (.int p3), .val (.int p4), .val (.int p5), .val (.int (p1 &&& (3 : Int32))), .val (.ref a), .val (.int (Int32.ofNat cs.length)), .val (.int (6 : Int32)), .val (.int q), .val (.ref b57), .unset, .unset] [(.ref b57), (.ref a70), (.ref a70)]))
          have hp : ∀ z ∈ ([(nar .char r58), (nar .char r60), (nar .char r62), (nar .char r64), (nar .char r66), (nar .char r68)] : List Int32), ¬ z < 0 ∧ ¬ (255 : Int32) < z := by
            intro z hz
            simp only [List.mem_cons, List.not_mem_nil, or_false] at hz
            rcases hz with rfl | rfl | rfl | rfl | rfl | rfl
            · exact (by rw [own_nc hr58]; exact hr58)
            · exact (by rw [own_nc hr60]; exact hr60)
            · exact (by rw [own_nc hr62]; exact hr62)
            · exact (by rw [own_nc hr64]; exact hr64)
            · exact (by rw [own_nc hr66]; exact hr66)
            · exact (by rw [own_nc hr68]; exact hr68)
          obtain ⟨_, _, ⟨T71, L71, k71, n71⟩, -, X71, ⟨Lc71, hQ71, l71, y71, z71⟩, st71⟩ := X70.specialBack hx (y := (⟨"java/lang/String", "<init>", "([C)V"⟩ : MethodName)) rfl hown3 (mvT hZ3 (own_w hw 24 rfl)) (mvT hZ3 (own_w hw 25 rfl)) (mvT hZ3 (own_w hw 26 rfl)) (by decide) (StrChars.Road.backV (W := 1) hZ3 hws (kI := 4) (own_w hw 2 rfl) (cs := ([(nar .char r58), (nar .char r60), (nar .char r62), (nar .char r64), (nar .char r66), (nar .char r68)] : List Int32)) (bs := ([(nar .char r58), (nar .char r60), (nar .char r62), (nar .char r64), (nar .char r66), (nar .char r68)] : List Int32).map (fun c => c.toInt8.toInt32)) (n := 6) g_a70 (own_old O70) E_a70 F_a70_value F_a70_coder V_b57 (SC.ext O70.2) hcs rfl rfl (by decide) (by decide) hp rfl (by decide) (by decide)) (g := (mkF m 265 #[.val (.int p0), .val (.int p1), .val (.int p2), .val (.int p3), .val (.int p4), .val (.int p5), .val (.int (p1 &&& (3 : Int32))), .val (.ref a), .val (.int (Int32.ofNat cs.length)), .val (.int (6 : Int32)), .val (.int q), .val (.ref b57), .unset, .unset] [(.ref b57), (.ref a70), (.ref a70)])) rfl (by rw [hml]; rfl) (Steps.refl _) (a := a70) (argsL := [(.ref b57)]) (rest := [(.ref a70)]) (lenOf pd0_2 rfl) rfl (by show 2 * 0 + _ ≤ _; exact Nat.le_of_eq rfl) (hb hby at_265) (fun _ _ => ⟨rfl, e70, (by decide : 4 + 1 ≤ _), (by decide : 42 + 6 ≤ _)⟩)
          dsimp only [Pt.U, Pt.locs, Pt.cells, Pt.slots] at X71 l71 y71 z71 st71 hQ71
          subst y71 z71
          obtain ⟨rfl, Nc71, Kc71, NE, NC, t71, kt71, gt71, szt71, -, NV, NB⟩ := hQ71
          have N71 : Fr n0 L71 := by rw [l71]; exact Fr.app N69 Nc71
          have E_a := E_a.keep Kc71
          have F_a_coder := F_a_coder.keep Kc71 (ninS ne_a_a70 nin0)
          have F_a_value := F_a_value.keep Kc71 (ninS ne_a_a70 nin0)
          have V_b := V_b.keep Kc71 (ninS ne_b_a70 nin0)
          have C_a := C_a.keep Kc71 (ninS ne_a_a70 nin0)
          have C_b := C_b.keep Kc71 (ninS ne_b_a70 nin0)
          have V_b57 := V_b57.keep Kc71 (ninS ne_b57_a70 nin0)
          have hk71 := Nat.le_trans hk70 Kc71.1
          have O71 := O70.keep Kc71 (allS g_a70 all0)
          have E_a70 : Exa Z T71.heap a70 "java/lang/String" := NE
          have F_a70_coder : Fld Z T71.heap a70 "java/lang/String" "coder" "B" (.int (0 : Int32)) := NC
          have F_a70_value : Fld Z T71.heap a70 "java/lang/String" "value" "[B" (.ref t71) := NV
          have V_t71 : Arv Z T71.heap t71 kt71 .byte (6 : Int32) ((([(nar .char r58), (nar .char r60), (nar .char r62), (nar .char r64), (nar .char r66), (nar .char r68)] : List Int32).map (fun c => c.toInt8.toInt32)).map Value.int) (.int (0 : Int32)) := NB
          refine GoV.tr st71 ?_
          show GoV p e below s _ _ _ (T71.setTop (mkF m 268 #[.val (.int p0), .val (.int p1), .val (.int p2), .val (.int p3), .val (.int p4), .val (.int p5), .val (.int (p1 &&& (3 : Int32))), .val (.ref a), .val (.int (Int32.ofNat cs.length)), .val (.int (6 : Int32)), .val (.int q), .val (.ref b57), .unset, .unset] [(.ref a70)]))
          exact JX a70 t71 _ _ _ ([(nar .char r58), (nar .char r60), (nar .char r62), (nar .char r64), (nar .char r66), (nar .char r68)] : List Int32) (6 : Int32) b57 _ (vm3) _ _ _ _ (X71.mono (by decide) (by decide)) rfl N71 O71 hS3 hk71 hZ3 hown3 I3 E_a F_a_coder F_a_value V_b C_a C_b E_a70 F_a70_coder F_a70_value V_t71 (StrChars.Road.codOf (n := 6) rfl (fun c hc => (hp c hc).2)) (own_up hp) (Nat.le_of_ble_eq_true rfl) (fun q hq => Or.inl (List.mem_singleton.mp hq))
        · show GoV p e below s _ _ _ (T3.setTop (mkF m 80 #[.val (.int p0), .val (.int p1), .val (.int p2), .val (.int p3), .val (.int p4), .val (.int p5), .val (.int (p1 &&& (3 : Int32))), .val (.ref a), .val (.int (Int32.ofNat cs.length)), .val (.int (7 : Int32)), .val (.int q), .unset, .unset, .unset] []))
          refine GoV.st (fun _ kq_ => XS.iload X3.here hx rfl (hb hby at_80) rfl kq_) ?_
          show GoV p e below s _ _ _ (T3.setTop (mkF m 82 #[.val (.int p0), .val (.int p1), .val (.int p2), .val (.int p3), .val (.int p4), .val (.int p5), .val (.int (p1 &&& (3 : Int32))), .val (.ref a), .val (.int (Int32.ofNat cs.length)), .val (.int (7 : Int32)), .val (.int q), .unset, .unset, .unset] [(.int (7 : Int32))]))
          obtain ⟨T72, h72, k72, X72, e72, E72, A72, st72⟩ := newP X3 hx hZ3 (own_w hw 22 rfl) e3 (g := (mkF m 82 #[.val (.int p0), .val (.int p1), .val (.int p2), .val (.int p3), .val (.int p4), .val (.int p5), .val (.int (p1 &&& (3 : Int32))), .val (.ref a), .val (.int (Int32.ofNat cs.length)), .val (.int (7 : Int32)), .val (.int q), .unset, .unset, .unset] [(.int (7 : Int32))])) rfl (hb hby at_82) rfl (by decide) (cap := 7) (by decide) (by decide) (by decide) (by decide)
          obtain ⟨b72, g72⟩ : ∃ z, z = h3.size := ⟨_, rfl⟩
          rw [← g72] at A72 st72
          have g_b72 : n0 ≤ b72 := Nat.le_trans (own_old O3) (Nat.le_of_eq g72.symm)
          have ne_a_b72 : a ≠ b72 := by rw [g72]; exact Nat.ne_of_lt E_a.lt
          have ne_b_b72 : b ≠ b72 := by rw [g72]; exact Nat.ne_of_lt V_b.lt
          have E_a := E_a.ext E72
          have F_a_coder := F_a_coder.ext E72
          have F_a_value := F_a_value.ext E72
          have V_b := V_b.ext E72
          have C_a := C_a.ext E72
          have C_b := C_b.ext E72
          have hk72 := Nat.le_trans hk3 E72.1
          have O72 := O3.ext E72
          have V_b72 : Arv Z h72 b72 k72 .char (7 : Int32) [(.int (0 : Int32)), (.int (0 : Int32)), (.int (0 : Int32)), (.int (0 : Int32)), (.int (0 : Int32)), (.int (0 : Int32)), (.int (0 : Int32))] (.int (0 : Int32)) := (Arv.new A72 (by decide)).pad (pad_rep [] (.int (0 : Int32)) 7)
          refine GoV.st st72 ?_
          show GoV p e below s _ _ _ (T72.setTop (mkF m 84 #[.val (.int p0), .val (.int p1), .val (.int p2), .val (.int p3), .val (.int p4), .val (.int p5), .val (.int (p1 &&& (3 : Int32))), .val (.ref a), .val (.int (Int32.ofNat cs.length)), .val (.int (7 : Int32)), .val (.int q), .unset, .unset, .unset] [(.ref b72)]))
          refine GoV.st (fun _ kq_ => XS.astore X72.here hx rfl (hb hby at_84) rfl rfl (l' := #[.val (.int p0), .val (.int p1), .val (.int p2), .val (.int p3), .val (.int p4), .val (.int p5), .val (.int (p1 &&& (3 : Int32))), .val (.ref a), .val (.int (Int32.ofNat cs.length)), .val (.int (7 : Int32)), .val (.int q), .val (.ref b72), .unset, .unset]) rfl kq_) ?_
          show GoV p e below s _ _ _ (T72.setTop (mkF m 86 #[.val (.int p0), .val (.int p1), .val (.int p2), .val (.int p3), .val (.int p4), .val (.int p5), .val (.int (p1 &&& (3 : Int32))), .val (.ref a), .val (.int (Int32.ofNat cs.length)), .val (.int (7 : Int32)), .val (.int q), .val (.ref b72), .unset, .unset] []))
          refine GoV.st (fun _ kq_ => XS.iload X72.here hx rfl (hb hby at_86) rfl kq_) ?_
          show GoV p e below s _ _ _ (T72.setTop (mkF m 88 #[.val (.int p0), .val (.int p1), .val (.int p2), .val (.int p3), .val (.int p4), .val (.int p5), .val (.int (p1 &&& (3 : Int32))), .val (.ref a), .val (.int (Int32.ofNat cs.length)), .val (.int (7 : Int32)), .val (.int q), .val (.ref b72), .unset, .unset] [(.int (7 : Int32))]))
          refine GoV.st (fun _ kq_ => XS.ifNo X72.here hx rfl (hb hby at_88) rfl (by decide) kq_) ?_
          show GoV p e below s _ _ _ (T72.setTop (mkF m 91 #[.val (.int p0), .val (.int p1), .val (.int p2), .val (.int p3), .val (.int p4), .val (.int p5), .val (.int (p1 &&& (3 : Int32))), .val (.ref a), .val (.int (Int32.ofNat cs.length)), .val (.int (7 : Int32)), .val (.int q), .val (.ref b72), .unset, .unset] []))
          refine GoV.st (fun _ kq_ => XS.aload X72.here hx rfl (hb hby at_91) rfl rfl kq_) ?_
          show GoV p e below s _ _ _ (T72.setTop (mkF m 93 #[.val (.int p0), .val (.int p1), .val (.int p2), .val (.int p3), .val (.int p4), .val (.int p5), .val (.int (p1 &&& (3 : Int32))), .val (.ref a), .val (.int (Int32.ofNat cs.length)), .val (.int (7 : Int32)), .val (.int q), .val (.ref b72), .unset, .unset] [(.ref b72)]))
          refine GoV.st (fun _ kq_ => XS.iconst X72.here hx rfl (hb hby at_93) kq_) ?_
          show GoV p e below s _ _ _ (T72.setTop (mkF m 94 #[.val (.int p0), .val (.int p1), .val (.int p2), .val (.int p3), .val (.int p4), .val (.int p5), .val (.int (p1 &&& (3 : Int32))), .val (.ref a), .val (.int (Int32.ofNat cs.length)), .val (.int (7 : Int32)), .val (.int q), .val (.ref b72), .unset, .unset] [(.int (0 : Int32)), (.ref b72)]))
          refine GoV.st (fun _ kq_ => XS.aload X72.here hx rfl (hb hby at_94) rfl rfl kq_) ?_
          show GoV p e below s _ _ _ (T72.setTop (mkF m 96 #[.val (.int p0), .val (.int p1), .val (.int p2), .val (.int p3), .val (.int p4), .val (.int p5), .val (.int (p1 &&& (3 : Int32))), .val (.ref a), .val (.int (Int32.ofNat cs.length)), .val (.int (7 : Int32)), .val (.int q), .val (.ref b72), .unset, .unset] [(.ref a), (.int (0 : Int32)), (.ref b72)]))
          refine GoV.st (fun _ kq_ => XS.iconst X72.here hx rfl (hb hby at_96) kq_) ?_
          show GoV p e below s _ _ _ (T72.setTop (mkF m 97 #[.val (.int p0), .val (.int p1), .val (.int p2), .val (.int p3), .val (.int p4), .val (.int p5), .val (.int (p1 &&& (3 : Int32))), .val (.ref a), .val (.int (Int32.ofNat cs.length)), .val (.int (7 : Int32)), .val (.int q), .val (.ref b72), .unset, .unset] [(.int (0 : Int32)), (.ref a), (.int (0 : Int32)), (.ref b72)]))
          refine GoV.st (fun _ kq_ => XS.iload X72.here hx rfl (hb hby at_97) rfl kq_) ?_
          show GoV p e below s _ _ _ (T72.setTop (mkF m 99 #[.val (.int p0), .val (.int p1), .val (.int p2), .val (.int p3), .val (.int p4), .val (.int p5), .val (.int (p1 &&& (3 : Int32))), .val (.ref a), .val (.int (Int32.ofNat cs.length)), .val (.int (7 : Int32)), .val (.int q), .val (.ref b72), .unset, .unset] [(.int q), (.int (0 : Int32)), (.ref a), (.int (0 : Int32)), (.ref b72)]))
          refine GoV.st (fun _ kq_ => XS.iloadN X72.here hx rfl (hb hby at_99) rfl kq_) ?_
          show GoV p e below s _ _ _ (T72.setTop (mkF m 100 #[.val (.int p0), .val (.int p1), .val (.int p2), .val (.int p3), .val (.int p4), .val (.int p5), .val (.int (p1 &&& (3 : Int32))), .val (.ref a), .val (.int (Int32.ofNat cs.length)), .val (.int (7 : Int32)), .val (.int q), .val (.ref b72), .unset, .unset] [(.int p3), (.int q), (.int (0 : Int32)), (.ref a), (.int (0 : Int32)), (.ref b72)]))
          refine GoV.st (fun _ kq_ => XS.iload X72.here hx rfl (hb hby at_100) rfl kq_) ?_
          show GoV p e below s _ _ _ (T72.setTop (mkF m 102 #[.val (.int p0), .val (.int p1), .val (.int p2), .val (.int p3), .val (.int p4), .val (.int p5), .val (.int (p1 &&& (3 : Int32))), .val (.ref a), .val (.int (Int32.ofNat cs.length)), .val (.int (7 : Int32)), .val (.int q), .val (.ref b72), .unset, .unset] [(.int p5), (.int p3), (.int q), (.int (0 : Int32)), (.ref a), (.int (0 : Int32)), (.ref b72)]))
          obtain ⟨_, _, ⟨T73, L73, k73, n73⟩, -, X73, ⟨Lc73, hQ73, l73, y73, z73⟩, st73⟩ := Jvm.LawKit.callS X72 hx (y := (⟨"com/example/pemmican/pemmican/DataTypeNamedPinLaw", "ch", "(Ljava/lang/String;IIII)C"⟩ : MethodName)) hown3 (mvT hZ3 (own_w hw 84 rfl)) (mvT hZ3 (own_w hw 85 rfl)) (mvT hZ3 (own_w hw 73 rfl)) (mvT hZ3 (own_w hw 86 rfl)) (by decide) (backOf (W := 2) (rmc l Z a0 hw [] a b kb N vs cs (0 : Int32) q p3 p5 zc fm h72 n0 O72 E_a F_a_coder F_a_value V_b hcB hbB hlB (by decide) SC hcs SF rf) hZ3 (own_w hw 86 rfl) (own_w hw 73 rfl) (by decide) (by decide)) (g := (mkF m 102 #[.val (.int p0), .val (.int p1), .val (.int p2), .val (.int p3), .val (.int p4), .val (.int p5), .val (.int (p1 &&& (3 : Int32))), .val (.ref a), .val (.int (Int32.ofNat cs.length)), .val (.int (7 : Int32)), .val (.int q), .val (.ref b72), .unset, .unset] [(.int p5), (.int p3), (.int q), (.int (0 : Int32)), (.ref a), (.int (0 : Int32)), (.ref b72)])) rfl (by rw [hml]; rfl) (argsL := [(.ref a), (.int (0 : Int32)), (.int q), (.int p3), (.int p5)]) (rest := [(.int (0 : Int32)), (.ref b72)]) (lenOf pd0_3 rfl) rfl (by show 2 * 0 + _ ≤ _; exact Nat.le_of_eq rfl) (hb hby at_102) (fun _ _ => ⟨rfl, e72, (by decide : 3 + 0 ≤ _), (by decide : 39 + 0 ≤ _)⟩)
          dsimp only [Pt.U, Pt.locs, Pt.cells, Pt.slots] at X73 l73 y73 z73 st73 hQ73
          subst y73 z73
          obtain ⟨r73, rfl, hr73, Nc73, e73⟩ := hQ73
          have N73 : Fr n0 L73 := by rw [l73]; exact Fr.app N3 Nc73
          refine GoV.st st73 ?_
          show GoV p e below s _ _ _ (T73.setTop (mkF m 105 #[.val (.int p0), .val (.int p1), .val (.int p2), .val (.int p3), .val (.int p4), .val (.int p5), .val (.int (p1 &&& (3 : Int32))), .val (.ref a), .val (.int (Int32.ofNat cs.length)), .val (.int (7 : Int32)), .val (.int q), .val (.ref b72), .unset, .unset] [(.int r73), (.int (0 : Int32)), (.ref b72)]))
          obtain ⟨T74, h74, X74, e74, W74, V74, st74⟩ := own_stC X73 hx hZ3 e73 V_b72 (j := (0 : Int32)) (by decide) (by decide) 0 rfl (Nat.le_of_ble_eq_true rfl) (g := (mkF m 105 #[.val (.int p0), .val (.int p1), .val (.int p2), .val (.int p3), .val (.int p4), .val (.int p5), .val (.int (p1 &&& (3 : Int32))), .val (.ref a), .val (.int (Int32.ofNat cs.length)), .val (.int (7 : Int32)), .val (.int q), .val (.ref b72), .unset, .unset] [(.int r73), (.int (0 : Int32)), (.ref b72)])) rfl rfl (hb hby at_105)
          obtain ⟨lc74, X74, N74⟩ := own_gen X74 (Fr.snoc X74 N73 g_b72)
          have O74 := O72.wr W74 g_b72
          have E_a := E_a.wr W74
          have F_a_coder := F_a_coder.other W74 (Or.inl ne_a_b72)
          have F_a_value := F_a_value.other W74 (Or.inl ne_a_b72)
          have V_b := V_b.other W74 ne_b_b72
          have C_a := C_a.other W74 ne_a_b72
          have C_b := C_b.other W74 ne_b_b72
          have hk74 := Nat.le_trans hk72 (Nat.le_of_eq W74.size.symm)
          have V_b72 : Arv Z h74 b72 k72 .char (7 : Int32) [(.int (nar .char r73)), (.int (0 : Int32)), (.int (0 : Int32)), (.int (0 : Int32)), (.int (0 : Int32)), (.int (0 : Int32)), (.int (0 : Int32))] (.int (0 : Int32)) := V74
          refine GoV.st st74 ?_
          show GoV p e below s _ _ _ (T74.setTop (mkF m 106 #[.val (.int p0), .val (.int p1), .val (.int p2), .val (.int p3), .val (.int p4), .val (.int p5), .val (.int (p1 &&& (3 : Int32))), .val (.ref a), .val (.int (Int32.ofNat cs.length)), .val (.int (7 : Int32)), .val (.int q), .val (.ref b72), .unset, .unset] []))
          refine GoV.st (fun _ kq_ => XS.iload X74.here hx rfl (hb hby at_106) rfl kq_) ?_
          show GoV p e below s _ _ _ (T74.setTop (mkF m 108 #[.val (.int p0), .val (.int p1), .val (.int p2), .val (.int p3), .val (.int p4), .val (.int p5), .val (.int (p1 &&& (3 : Int32))), .val (.ref a), .val (.int (Int32.ofNat cs.length)), .val (.int (7 : Int32)), .val (.int q), .val (.ref b72), .unset, .unset] [(.int (7 : Int32))]))
          refine GoV.st (fun _ kq_ => XS.iconst X74.here hx rfl (hb hby at_108) kq_) ?_
          show GoV p e below s _ _ _ (T74.setTop (mkF m 109 #[.val (.int p0), .val (.int p1), .val (.int p2), .val (.int p3), .val (.int p4), .val (.int p5), .val (.int (p1 &&& (3 : Int32))), .val (.ref a), .val (.int (Int32.ofNat cs.length)), .val (.int (7 : Int32)), .val (.int q), .val (.ref b72), .unset, .unset] [(.int (1 : Int32)), (.int (7 : Int32))]))
          refine GoV.st (fun _ kq_ => XS.icmpNo X74.here hx rfl (hb hby at_109) rfl (by decide) kq_) ?_
          show GoV p e below s _ _ _ (T74.setTop (mkF m 112 #[.val (.int p0), .val (.int p1), .val (.int p2), .val (.int p3), .val (.int p4), .val (.int p5), .val (.int (p1 &&& (3 : Int32))), .val (.ref a), .val (.int (Int32.ofNat cs.length)), .val (.int (7 : Int32)), .val (.int q), .val (.ref b72), .unset, .unset] []))
          refine GoV.st (fun _ kq_ => XS.aload X74.here hx rfl (hb hby at_112) rfl rfl kq_) ?_
          show GoV p e below s _ _ _ (T74.setTop (mkF m 114 #[.val (.int p0), .val (.int p1), .val (.int p2), .val (.int p3), .val (.int p4), .val (.int p5), .val (.int (p1 &&& (3 : Int32))), .val (.ref a), .val (.int (Int32.ofNat cs.length)), .val (.int (7 : Int32)), .val (.int q), .val (.ref b72), .unset, .unset] [(.ref b72)]))
          refine GoV.st (fun _ kq_ => XS.iconst X74.here hx rfl (hb hby at_114) kq_) ?_
          show GoV p e below s _ _ _ (T74.setTop (mkF m 115 #[.val (.int p0), .val (.int p1), .val (.int p2), .val (.int p3), .val (.int p4), .val (.int p5), .val (.int (p1 &&& (3 : Int32))), .val (.ref a), .val (.int (Int32.ofNat cs.length)), .val (.int (7 : Int32)), .val (.int q), .val (.ref b72), .unset, .unset] [(.int (1 : Int32)), (.ref b72)]))
          refine GoV.st (fun _ kq_ => XS.aload X74.here hx rfl (hb hby at_115) rfl rfl kq_) ?_
          show GoV p e below s _ _ _ (T74.setTop (mkF m 117 #[.val (.int p0), .val (.int p1), .val (.int p2), .val (.int p3), .val (.int p4), .val (.int p5), .val (.int (p1 &&& (3 : Int32))), .val (.ref a), .val (.int (Int32.ofNat cs.length)), .val (.int (7 : Int32)), .val (.int q), .val (.ref b72), .unset, .unset] [(.ref a), (.int (1 : Int32)), (.ref b72)]))
          refine GoV.st (fun _ kq_ => XS.iconst X74.here hx rfl (hb hby at_117) kq_) ?_
          show GoV p e below s _ _ _ (T74.setTop (mkF m 118 #[.val (.int p0), .val (.int p1), .val (.int p2), .val (.int p3), .val (.int p4), .val (.int p5), .val (.int (p1 &&& (3 : Int32))), .val (.ref a), .val (.int (Int32.ofNat cs.length)), .val (.int (7 : Int32)), .val (.int q), .val (.ref b72), .unset, .unset] [(.int (1 : Int32)), (.ref a), (.int (1 : Int32)), (.ref b72)]))
          refine GoV.st (fun _ kq_ => XS.iload X74.here hx rfl (hb hby at_118) rfl kq_) ?_
          show GoV p e below s _ _ _ (T74.setTop (mkF m 120 #[.val (.int p0), .val (.int p1), .val (.int p2), .val (.int p3), .val (.int p4), .val (.int p5), .val (.int (p1 &&& (3 : Int32))), .val (.ref a), .val (.int (Int32.ofNat cs.length)), .val (.int (7 : Int32)), .val (.int q), .val (.ref b72), .unset, .unset] [(.int q), (.int (1 : Int32)), (.ref a), (.int (1 : Int32)), (.ref b72)]))
          refine GoV.st (fun _ kq_ => XS.iloadN X74.here hx rfl (hb hby at_120) rfl kq_) ?_
          show GoV p e below s _ _ _ (T74.setTop (mkF m 121 #[.val (.int p0), .val (.int p1), .val (.int p2), .val (.int p3), .val (.int p4), .val (.int p5), .val (.int (p1 &&& (3 : Int32))), .val (.ref a), .val (.int (Int32.ofNat cs.length)), .val (.int (7 : Int32)), .val (.int q), .val (.ref b72), .unset, .unset] [(.int p3), (.int q), (.int (1 : Int32)), (.ref a), (.int (1 : Int32)), (.ref b72)]))
          refine GoV.st (fun _ kq_ => XS.iload X74.here hx rfl (hb hby at_121) rfl kq_) ?_
          show GoV p e below s _ _ _ (T74.setTop (mkF m 123 #[.val (.int p0), .val (.int p1), .val (.int p2), .val (.int p3), .val (.int p4), .val (.int p5), .val (.int (p1 &&& (3 : Int32))), .val (.ref a), .val (.int (Int32.ofNat cs.length)), .val (.int (7 : Int32)), .val (.int q), .val (.ref b72), .unset, .unset] [(.int p5), (.int p3), (.int q), (.int (1 : Int32)), (.ref a), (.int (1 : Int32)), (.ref b72)]))
          obtain ⟨_, _, ⟨T75, L75, k75, n75⟩, -, X75, ⟨Lc75, hQ75, l75, y75, z75⟩, st75⟩ := Jvm.LawKit.callS X74 hx (y := (⟨"com/example/pemmican/pemmican/DataTypeNamedPinLaw", "ch", "(Ljava/lang/String;IIII)C"⟩ : MethodName)) hown3 (mvT hZ3 (own_w hw 84 rfl)) (mvT hZ3 (own_w hw 85 rfl)) (mvT hZ3 (own_w hw 73 rfl)) (mvT hZ3 (own_w hw 86 rfl)) (by decide) (backOf (W := 2) (rmc l Z a0 hw [] a b kb N vs cs (1 : Int32) q p3 p5 zc fm h74 n0 O74 E_a F_a_coder F_a_value V_b hcB hbB hlB (by decide) SC hcs SF rf) hZ3 (own_w hw 86 rfl) (own_w hw 73 rfl) (by decide) (by decide)) (g := (mkF m 123 #[.val (.int p0), .val (.int p1), .val (.int p2), .val (.int p3), .val (.int p4), .val (.int p5), .val (.int (p1 &&& (3 : Int32))), .val (.ref a), .val (.int (Int32.ofNat cs.length)), .val (.int (7 : Int32)), .val (.int q), .val (.ref b72), .unset, .unset] [(.int p5), (.int p3), (.int q), (.int (1 : Int32)), (.ref a), (.int (1 : Int32)), (.ref b72)])) rfl (by rw [hml]; rfl) (argsL := [(.ref a), (.int (1 : Int32)), (.int q), (.int p3), (.int p5)]) (rest := [(.int (1 : Int32)), (.ref b72)]) (lenOf pd0_3 rfl) rfl (by show 2 * 0 + _ ≤ _; exact Nat.le_of_eq rfl) (hb hby at_123) (fun _ _ => ⟨rfl, e74, (by decide : 3 + 0 ≤ _), (by decide : 39 + 0 ≤ _)⟩)
          dsimp only [Pt.U, Pt.locs, Pt.cells, Pt.slots] at X75 l75 y75 z75 st75 hQ75
          subst y75 z75
          obtain ⟨r75, rfl, hr75, Nc75, e75⟩ := hQ75
          have N75 : Fr n0 L75 := by rw [l75]; exact Fr.app N74 Nc75
          refine GoV.st st75 ?_
          show GoV p e below s _ _ _ (T75.setTop (mkF m 126 #[.val (.int p0), .val (.int p1), .val (.int p2), .val (.int p3), .val (.int p4), .val (.int p5), .val (.int (p1 &&& (3 : Int32))), .val (.ref a), .val (.int (Int32.ofNat cs.length)), .val (.int (7 : Int32)), .val (.int q), .val (.ref b72), .unset, .unset] [(.int r75), (.int (1 : Int32)), (.ref b72)]))
          obtain ⟨T76, h76, X76, e76, W76, V76, st76⟩ := own_stC X75 hx hZ3 e75 V_b72 (j := (1 : Int32)) (by decide) (by decide) 1 rfl (Nat.le_of_ble_eq_true rfl) (g := (mkF m 126 #[.val (.int p0), .val (.int p1), .val (.int p2), .val (.int p3), .val (.int p4), .val (.int p5), .val (.int (p1 &&& (3 : Int32))), .val (.ref a), .val (.int (Int32.ofNat cs.length)), .val (.int (7 : Int32)), .val (.int q), .val (.ref b72), .unset, .unset] [(.int r75), (.int (1 : Int32)), (.ref b72)])) rfl rfl (hb hby at_126)
          obtain ⟨lc76, X76, N76⟩ := own_gen X76 (Fr.snoc X76 N75 g_b72)
          have O76 := O74.wr W76 g_b72
          have E_a := E_a.wr W76
          have F_a_coder := F_a_coder.other W76 (Or.inl ne_a_b72)
          have F_a_value := F_a_value.other W76 (Or.inl ne_a_b72)
          have V_b := V_b.other W76 ne_b_b72
          have C_a := C_a.other W76 ne_a_b72
          have C_b := C_b.other W76 ne_b_b72
          have hk76 := Nat.le_trans hk74 (Nat.le_of_eq W76.size.symm)
          have V_b72 : Arv Z h76 b72 k72 .char (7 : Int32) [(.int (nar .char r73)), (.int (nar .char r75)), (.int (0 : Int32)), (.int (0 : Int32)), (.int (0 : Int32)), (.int (0 : Int32)), (.int (0 : Int32))] (.int (0 : Int32)) := V76
          refine GoV.st st76 ?_
          show GoV p e below s _ _ _ (T76.setTop (mkF m 127 #[.val (.int p0), .val (.int p1), .val (.int p2), .val (.int p3), .val (.int p4), .val (.int p5), .val (.int (p1 &&& (3 : Int32))), .val (.ref a), .val (.int (Int32.ofNat cs.length)), .val (.int (7 : Int32)), .val (.int q), .val (.ref b72), .unset, .unset] []))
          refine GoV.st (fun _ kq_ => XS.iload X76.here hx rfl (hb hby at_127) rfl kq_) ?_
          show GoV p e below s _ _ _ (T76.setTop (mkF m 129 #[.val (.int p0), .val (.int p1), .val (.int p2), .val (.int p3), .val (.int p4), .val (.int p5), .val (.int (p1 &&& (3 : Int32))), .val (.ref a), .val (.int (Int32.ofNat cs.length)), .val (.int (7 : Int32)), .val (.int q), .val (.ref b72), .unset, .unset] [(.int (7 : Int32))]))
          refine GoV.st (fun _ kq_ => XS.iconst X76.here hx rfl (hb hby at_129) kq_) ?_
          show GoV p e below s _ _ _ (T76.setTop (mkF m 130 #[.val (.int p0), .val (.int p1), .val (.int p2), .val (.int p3), .val (.int p4), .val (.int p5), .val (.int (p1 &&& (3 : Int32))), .val (.ref a), .val (.int (Int32.ofNat cs.length)), .val (.int (7 : Int32)), .val (.int q), .val (.ref b72), .unset, .unset] [(.int (2 : Int32)), (.int (7 : Int32))]))
          refine GoV.st (fun _ kq_ => XS.icmpNo X76.here hx rfl (hb hby at_130) rfl (by decide) kq_) ?_
          show GoV p e below s _ _ _ (T76.setTop (mkF m 133 #[.val (.int p0), .val (.int p1), .val (.int p2), .val (.int p3), .val (.int p4), .val (.int p5), .val (.int (p1 &&& (3 : Int32))), .val (.ref a), .val (.int (Int32.ofNat cs.length)), .val (.int (7 : Int32)), .val (.int q), .val (.ref b72), .unset, .unset] []))
          refine GoV.st (fun _ kq_ => XS.aload X76.here hx rfl (hb hby at_133) rfl rfl kq_) ?_
          show GoV p e below s _ _ _ (T76.setTop (mkF m 135 #[.val (.int p0), .val (.int p1), .val (.int p2), .val (.int p3), .val (.int p4), .val (.int p5), .val (.int (p1 &&& (3 : Int32))), .val (.ref a), .val (.int (Int32.ofNat cs.length)), .val (.int (7 : Int32)), .val (.int q), .val (.ref b72), .unset, .unset] [(.ref b72)]))
          refine GoV.st (fun _ kq_ => XS.iconst X76.here hx rfl (hb hby at_135) kq_) ?_
          show GoV p e below s _ _ _ (T76.setTop (mkF m 136 #[.val (.int p0), .val (.int p1), .val (.int p2), .val (.int p3), .val (.int p4), .val (.int p5), .val (.int (p1 &&& (3 : Int32))), .val (.ref a), .val (.int (Int32.ofNat cs.length)), .val (.int (7 : Int32)), .val (.int q), .val (.ref b72), .unset, .unset] [(.int (2 : Int32)), (.ref b72)]))
          refine GoV.st (fun _ kq_ => XS.aload X76.here hx rfl (hb hby at_136) rfl rfl kq_) ?_
          show GoV p e below s _ _ _ (T76.setTop (mkF m 138 #[.val (.int p0), .val (.int p1), .val (.int p2), .val (.int p3), .val (.int p4), .val (.int p5), .val (.int (p1 &&& (3 : Int32))), .val (.ref a), .val (.int (Int32.ofNat cs.length)), .val (.int (7 : Int32)), .val (.int q), .val (.ref b72), .unset, .unset] [(.ref a), (.int (2 : Int32)), (.ref b72)]))
          refine GoV.st (fun _ kq_ => XS.iconst X76.here hx rfl (hb hby at_138) kq_) ?_
          show GoV p e below s _ _ _ (T76.setTop (mkF m 139 #[.val (.int p0), .val (.int p1), .val (.int p2), .val (.int p3), .val (.int p4), .val (.int p5), .val (.int (p1 &&& (3 : Int32))), .val (.ref a), .val (.int (Int32.ofNat cs.length)), .val (.int (7 : Int32)), .val (.int q), .val (.ref b72), .unset, .unset] [(.int (2 : Int32)), (.ref a), (.int (2 : Int32)), (.ref b72)]))
          refine GoV.st (fun _ kq_ => XS.iload X76.here hx rfl (hb hby at_139) rfl kq_) ?_
          show GoV p e below s _ _ _ (T76.setTop (mkF m 141 #[.val (.int p0), .val (.int p1), .val (.int p2), .val (.int p3), .val (.int p4), .val (.int p5), .val (.int (p1 &&& (3 : Int32))), .val (.ref a), .val (.int (Int32.ofNat cs.length)), .val (.int (7 : Int32)), .val (.int q), .val (.ref b72), .unset, .unset] [(.int q), (.int (2 : Int32)), (.ref a), (.int (2 : Int32)), (.ref b72)]))
          refine GoV.st (fun _ kq_ => XS.iloadN X76.here hx rfl (hb hby at_141) rfl kq_) ?_
          show GoV p e below s _ _ _ (T76.setTop (mkF m 142 #[.val (.int p0), .val (.int p1), .val (.int p2), .val (.int p3), .val (.int p4), .val (.int p5), .val (.int (p1 &&& (3 : Int32))), .val (.ref a), .val (.int (Int32.ofNat cs.length)), .val (.int (7 : Int32)), .val (.int q), .val (.ref b72), .unset, .unset] [(.int p3), (.int q), (.int (2 : Int32)), (.ref a), (.int (2 : Int32)), (.ref b72)]))
          refine GoV.st (fun _ kq_ => XS.iload X76.here hx rfl (hb hby at_142) rfl kq_) ?_
          show GoV p e below s _ _ _ (T76.setTop (mkF m 144 #[.val (.int p0), .val (.int p1), .val (.int p2), .val (.int p3), .val (.int p4), .val (.int p5), .val (.int (p1 &&& (3 : Int32))), .val (.ref a), .val (.int (Int32.ofNat cs.length)), .val (.int (7 : Int32)), .val (.int q), .val (.ref b72), .unset, .unset] [(.int p5), (.int p3), (.int q), (.int (2 : Int32)), (.ref a), (.int (2 : Int32)), (.ref b72)]))
          obtain ⟨_, _, ⟨T77, L77, k77, n77⟩, -, X77, ⟨Lc77, hQ77, l77, y77, z77⟩, st77⟩ := Jvm.LawKit.callS X76 hx (y := (⟨"com/example/pemmican/pemmican/DataTypeNamedPinLaw", "ch", "(Ljava/lang/String;IIII)C"⟩ : MethodName)) hown3 (mvT hZ3 (own_w hw 84 rfl)) (mvT hZ3 (own_w hw 85 rfl)) (mvT hZ3 (own_w hw 73 rfl)) (mvT hZ3 (own_w hw 86 rfl)) (by decide) (backOf (W := 2) (rmc l Z a0 hw [] a b kb N vs cs (2 : Int32) q p3 p5 zc fm h76 n0 O76 E_a F_a_coder F_a_value V_b hcB hbB hlB (by decide) SC hcs SF rf) hZ3 (own_w hw 86 rfl) (own_w hw 73 rfl) (by decide) (by decide)) (g := (mkF m 144 #[.val (.int p0), .val (.int p1), .val (.int p2), .val (.int p3), .val (.int p4), .val (.int p5), .val (.int (p1 &&& (3 : Int32))), .val (.ref a), .val (.int (Int32.ofNat cs.length)), .val (.int (7 : Int32)), .val (.int q), .val (.ref b72), .unset, .unset] [(.int p5), (.int p3), (.int q), (.int (2 : Int32)), (.ref a), (.int (2 : Int32)), (.ref b72)])) rfl (by rw [hml]; rfl) (argsL := [(.ref a), (.int (2 : Int32)), (.int q), (.int p3), (.int p5)]) (rest := [(.int (2 : Int32)), (.ref b72)]) (lenOf pd0_3 rfl) rfl (by show 2 * 0 + _ ≤ _; exact Nat.le_of_eq rfl) (hb hby at_144) (fun _ _ => ⟨rfl, e76, (by decide : 3 + 0 ≤ _), (by decide : 39 + 0 ≤ _)⟩)
          dsimp only [Pt.U, Pt.locs, Pt.cells, Pt.slots] at X77 l77 y77 z77 st77 hQ77
          subst y77 z77
          obtain ⟨r77, rfl, hr77, Nc77, e77⟩ := hQ77
          have N77 : Fr n0 L77 := by rw [l77]; exact Fr.app N76 Nc77
          refine GoV.st st77 ?_
          show GoV p e below s _ _ _ (T77.setTop (mkF m 147 #[.val (.int p0), .val (.int p1), .val (.int p2), .val (.int p3), .val (.int p4), .val (.int p5), .val (.int (p1 &&& (3 : Int32))), .val (.ref a), .val (.int (Int32.ofNat cs.length)), .val (.int (7 : Int32)), .val (.int q), .val (.ref b72), .unset, .unset] [(.int r77), (.int (2 : Int32)), (.ref b72)]))
          obtain ⟨T78, h78, X78, e78, W78, V78, st78⟩ := own_stC X77 hx hZ3 e77 V_b72 (j := (2 : Int32)) (by decide) (by decide) 2 rfl (Nat.le_of_ble_eq_true rfl) (g := (mkF m 147 #[.val (.int p0), .val (.int p1), .val (.int p2), .val (.int p3), .val (.int p4), .val (.int p5), .val (.int (p1 &&& (3 : Int32))), .val (.ref a), .val (.int (Int32.ofNat cs.length)), .val (.int (7 : Int32)), .val (.int q), .val (.ref b72), .unset, .unset] [(.int r77), (.int (2 : Int32)), (.ref b72)])) rfl rfl (hb hby at_147)
          obtain ⟨lc78, X78, N78⟩ := own_gen X78 (Fr.snoc X78 N77 g_b72)
          have O78 := O76.wr W78 g_b72
          have E_a := E_a.wr W78
          have F_a_coder := F_a_coder.other W78 (Or.inl ne_a_b72)
          have F_a_value := F_a_value.other W78 (Or.inl ne_a_b72)
          have V_b := V_b.other W78 ne_b_b72
          have C_a := C_a.other W78 ne_a_b72
          have C_b := C_b.other W78 ne_b_b72
          have hk78 := Nat.le_trans hk76 (Nat.le_of_eq W78.size.symm)
          have V_b72 : Arv Z h78 b72 k72 .char (7 : Int32) [(.int (nar .char r73)), (.int (nar .char r75)), (.int (nar .char r77)), (.int (0 : Int32)), (.int (0 : Int32)), (.int (0 : Int32)), (.int (0 : Int32))] (.int (0 : Int32)) := V78
          refine GoV.st st78 ?_
          show GoV p e below s _ _ _ (T78.setTop (mkF m 148 #[.val (.int p0), .val (.int p1), .val (.int p2), .val (.int p3), .val (.int p4), .val (.int p5), .val (.int (p1 &&& (3 : Int32))), .val (.ref a), .val (.int (Int32.ofNat cs.length)), .val (.int (7 : Int32)), .val (.int q), .val (.ref b72), .unset, .unset] []))
          refine GoV.st (fun _ kq_ => XS.iload X78.here hx rfl (hb hby at_148) rfl kq_) ?_
          show GoV p e below s _ _ _ (T78.setTop (mkF m 150 #[.val (.int p0), .val (.int p1), .val (.int p2), .val (.int p3), .val (.int p4), .val (.int p5), .val (.int (p1 &&& (3 : Int32))), .val (.ref a), .val (.int (Int32.ofNat cs.length)), .val (.int (7 : Int32)), .val (.int q), .val (.ref b72), .unset, .unset] [(.int (7 : Int32))]))
          refine GoV.st (fun _ kq_ => XS.iconst X78.here hx rfl (hb hby at_150) kq_) ?_
          show GoV p e below s _ _ _ (T78.setTop (mkF m 151 #[.val (.int p0), .val (.int p1), .val (.int p2), .val (.int p3), .val (.int p4), .val (.int p5), .val (.int (p1 &&& (3 : Int32))), .val (.ref a), .val (.int (Int32.ofNat cs.length)), .val (.int (7 : Int32)), .val (.int q), .val (.ref b72), .unset, .unset] [(.int (3 : Int32)), (.int (7 : Int32))]))
          refine GoV.st (fun _ kq_ => XS.icmpNo X78.here hx rfl (hb hby at_151) rfl (by decide) kq_) ?_
          show GoV p e below s _ _ _ (T78.setTop (mkF m 154 #[.val (.int p0), .val (.int p1), .val (.int p2), .val (.int p3), .val (.int p4), .val (.int p5), .val (.int (p1 &&& (3 : Int32))), .val (.ref a), .val (.int (Int32.ofNat cs.length)), .val (.int (7 : Int32)), .val (.int q), .val (.ref b72), .unset, .unset] []))
          refine GoV.st (fun _ kq_ => XS.aload X78.here hx rfl (hb hby at_154) rfl rfl kq_) ?_
          show GoV p e below s _ _ _ (T78.setTop (mkF m 156 #[.val (.int p0), .val (.int p1), .val (.int p2), .val (.int p3), .val (.int p4), .val (.int p5), .val (.int (p1 &&& (3 : Int32))), .val (.ref a), .val (.int (Int32.ofNat cs.length)), .val (.int (7 : Int32)), .val (.int q), .val (.ref b72), .unset, .unset] [(.ref b72)]))
          refine GoV.st (fun _ kq_ => XS.iconst X78.here hx rfl (hb hby at_156) kq_) ?_
          show GoV p e below s _ _ _ (T78.setTop (mkF m 157 #[.val (.int p0), .val (.int p1), .val (.int p2), .val (.int p3), .val (.int p4), .val (.int p5), .val (.int (p1 &&& (3 : Int32))), .val (.ref a), .val (.int (Int32.ofNat cs.length)), .val (.int (7 : Int32)), .val (.int q), .val (.ref b72), .unset, .unset] [(.int (3 : Int32)), (.ref b72)]))
          refine GoV.st (fun _ kq_ => XS.aload X78.here hx rfl (hb hby at_157) rfl rfl kq_) ?_
          show GoV p e below s _ _ _ (T78.setTop (mkF m 159 #[.val (.int p0), .val (.int p1), .val (.int p2), .val (.int p3), .val (.int p4), .val (.int p5), .val (.int (p1 &&& (3 : Int32))), .val (.ref a), .val (.int (Int32.ofNat cs.length)), .val (.int (7 : Int32)), .val (.int q), .val (.ref b72), .unset, .unset] [(.ref a), (.int (3 : Int32)), (.ref b72)]))
          refine GoV.st (fun _ kq_ => XS.iconst X78.here hx rfl (hb hby at_159) kq_) ?_
          show GoV p e below s _ _ _ (T78.setTop (mkF m 160 #[.val (.int p0), .val (.int p1), .val (.int p2), .val (.int p3), .val (.int p4), .val (.int p5), .val (.int (p1 &&& (3 : Int32))), .val (.ref a), .val (.int (Int32.ofNat cs.length)), .val (.int (7 : Int32)), .val (.int q), .val (.ref b72), .unset, .unset] [(.int (3 : Int32)), (.ref a), (.int (3 : Int32)), (.ref b72)]))
          refine GoV.st (fun _ kq_ => XS.iload X78.here hx rfl (hb hby at_160) rfl kq_) ?_
          show GoV p e below s _ _ _ (T78.setTop (mkF m 162 #[.val (.int p0), .val (.int p1), .val (.int p2), .val (.int p3), .val (.int p4), .val (.int p5), .val (.int (p1 &&& (3 : Int32))), .val (.ref a), .val (.int (Int32.ofNat cs.length)), .val (.int (7 : Int32)), .val (.int q), .val (.ref b72), .unset, .unset] [(.int q), (.int (3 : Int32)), (.ref a), (.int (3 : Int32)), (.ref b72)]))
          refine GoV.st (fun _ kq_ => XS.iloadN X78.here hx rfl (hb hby at_162) rfl kq_) ?_
          show GoV p e below s _ _ _ (T78.setTop (mkF m 163 #[.val (.int p0), .val (.int p1), .val (.int p2), .val (.int p3), .val (.int p4), .val (.int p5), .val (.int (p1 &&& (3 : Int32))), .val (.ref a), .val (.int (Int32.ofNat cs.length)), .val (.int (7 : Int32)), .val (.int q), .val (.ref b72), .unset, .unset] [(.int p3), (.int q), (.int (3 : Int32)), (.ref a), (.int (3 : Int32)), (.ref b72)]))
          refine GoV.st (fun _ kq_ => XS.iload X78.here hx rfl (hb hby at_163) rfl kq_) ?_
          show GoV p e below s _ _ _ (T78.setTop (mkF m 165 #[.val (.int p0), .val (.int p1), .val (.int p2), .val (.int p3), .val (.int p4), .val (.int p5), .val (.int (p1 &&& (3 : Int32))), .val (.ref a), .val (.int (Int32.ofNat cs.length)), .val (.int (7 : Int32)), .val (.int q), .val (.ref b72), .unset, .unset] [(.int p5), (.int p3), (.int q), (.int (3 : Int32)), (.ref a), (.int (3 : Int32)), (.ref b72)]))
          obtain ⟨_, _, ⟨T79, L79, k79, n79⟩, -, X79, ⟨Lc79, hQ79, l79, y79, z79⟩, st79⟩ := Jvm.LawKit.callS X78 hx (y := (⟨"com/example/pemmican/pemmican/DataTypeNamedPinLaw", "ch", "(Ljava/lang/String;IIII)C"⟩ : MethodName)) hown3 (mvT hZ3 (own_w hw 84 rfl)) (mvT hZ3 (own_w hw 85 rfl)) (mvT hZ3 (own_w hw 73 rfl)) (mvT hZ3 (own_w hw 86 rfl)) (by decide) (backOf (W := 2) (rmc l Z a0 hw [] a b kb N vs cs (3 : Int32) q p3 p5 zc fm h78 n0 O78 E_a F_a_coder F_a_value V_b hcB hbB hlB (by decide) SC hcs SF rf) hZ3 (own_w hw 86 rfl) (own_w hw 73 rfl) (by decide) (by decide)) (g := (mkF m 165 #[.val (.int p0), .val (.int p1), .val (.int p2), .val (.int p3), .val (.int p4), .val (.int p5), .val (.int (p1 &&& (3 : Int32))), .val (.ref a), .val (.int (Int32.ofNat cs.length)), .val (.int (7 : Int32)), .val (.int q), .val (.ref b72), .unset, .unset] [(.int p5), (.int p3), (.int q), (.int (3 : Int32)), (.ref a), (.int (3 : Int32)), (.ref b72)])) rfl (by rw [hml]; rfl) (argsL := [(.ref a), (.int (3 : Int32)), (.int q), (.int p3), (.int p5)]) (rest := [(.int (3 : Int32)), (.ref b72)]) (lenOf pd0_3 rfl) rfl (by show 2 * 0 + _ ≤ _; exact Nat.le_of_eq rfl) (hb hby at_165) (fun _ _ => ⟨rfl, e78, (by decide : 3 + 0 ≤ _), (by decide : 39 + 0 ≤ _)⟩)
          dsimp only [Pt.U, Pt.locs, Pt.cells, Pt.slots] at X79 l79 y79 z79 st79 hQ79
          subst y79 z79
          obtain ⟨r79, rfl, hr79, Nc79, e79⟩ := hQ79
          have N79 : Fr n0 L79 := by rw [l79]; exact Fr.app N78 Nc79
          refine GoV.st st79 ?_
          show GoV p e below s _ _ _ (T79.setTop (mkF m 168 #[.val (.int p0), .val (.int p1), .val (.int p2), .val (.int p3), .val (.int p4), .val (.int p5), .val (.int (p1 &&& (3 : Int32))), .val (.ref a), .val (.int (Int32.ofNat cs.length)), .val (.int (7 : Int32)), .val (.int q), .val (.ref b72), .unset, .unset] [(.int r79), (.int (3 : Int32)), (.ref b72)]))
          obtain ⟨T80, h80, X80, e80, W80, V80, st80⟩ := own_stC X79 hx hZ3 e79 V_b72 (j := (3 : Int32)) (by decide) (by decide) 3 rfl (Nat.le_of_ble_eq_true rfl) (g := (mkF m 168 #[.val (.int p0), .val (.int p1), .val (.int p2), .val (.int p3), .val (.int p4), .val (.int p5), .val (.int (p1 &&& (3 : Int32))), .val (.ref a), .val (.int (Int32.ofNat cs.length)), .val (.int (7 : Int32)), .val (.int q), .val (.ref b72), .unset, .unset] [(.int r79), (.int (3 : Int32)), (.ref b72)])) rfl rfl (hb hby at_168)
          obtain ⟨lc80, X80, N80⟩ := own_gen X80 (Fr.snoc X80 N79 g_b72)
          have O80 := O78.wr W80 g_b72
          have E_a := E_a.wr W80
          have F_a_coder := F_a_coder.other W80 (Or.inl ne_a_b72)
          have F_a_value := F_a_value.other W80 (Or.inl ne_a_b72)
          have V_b := V_b.other W80 ne_b_b72
          have C_a := C_a.other W80 ne_a_b72
          have C_b := C_b.other W80 ne_b_b72
          have hk80 := Nat.le_trans hk78 (Nat.le_of_eq W80.size.symm)
          have V_b72 : Arv Z h80 b72 k72 .char (7 : Int32) [(.int (nar .char r73)), (.int (nar .char r75)), (.int (nar .char r77)), (.int (nar .char r79)), (.int (0 : Int32)), (.int (0 : Int32)), (.int (0 : Int32))] (.int (0 : Int32)) := V80
          refine GoV.st st80 ?_
          show GoV p e below s _ _ _ (T80.setTop (mkF m 169 #[.val (.int p0), .val (.int p1), .val (.int p2), .val (.int p3), .val (.int p4), .val (.int p5), .val (.int (p1 &&& (3 : Int32))), .val (.ref a), .val (.int (Int32.ofNat cs.length)), .val (.int (7 : Int32)), .val (.int q), .val (.ref b72), .unset, .unset] []))
          refine GoV.st (fun _ kq_ => XS.iload X80.here hx rfl (hb hby at_169) rfl kq_) ?_
          show GoV p e below s _ _ _ (T80.setTop (mkF m 171 #[.val (.int p0), .val (.int p1), .val (.int p2), .val (.int p3), .val (.int p4), .val (.int p5), .val (.int (p1 &&& (3 : Int32))), .val (.ref a), .val (.int (Int32.ofNat cs.length)), .val (.int (7 : Int32)), .val (.int q), .val (.ref b72), .unset, .unset] [(.int (7 : Int32))]))
          refine GoV.st (fun _ kq_ => XS.iconst X80.here hx rfl (hb hby at_171) kq_) ?_
          show GoV p e below s _ _ _ (T80.setTop (mkF m 172 #[.val (.int p0), .val (.int p1), .val (.int p2), .val (.int p3), .val (.int p4), .val (.int p5), .val (.int (p1 &&& (3 : Int32))), .val (.ref a), .val (.int (Int32.ofNat cs.length)), .val (.int (7 : Int32)), .val (.int q), .val (.ref b72), .unset, .unset] [(.int (4 : Int32)), (.int (7 : Int32))]))
          refine GoV.st (fun _ kq_ => XS.icmpNo X80.here hx rfl (hb hby at_172) rfl (by decide) kq_) ?_
          show GoV p e below s _ _ _ (T80.setTop (mkF m 175 #[.val (.int p0), .val (.int p1), .val (.int p2), .val (.int p3), .val (.int p4), .val (.int p5), .val (.int (p1 &&& (3 : Int32))), .val (.ref a), .val (.int (Int32.ofNat cs.length)), .val (.int (7 : Int32)), .val (.int q), .val (.ref b72), .unset, .unset] []))
          refine GoV.st (fun _ kq_ => XS.aload X80.here hx rfl (hb hby at_175) rfl rfl kq_) ?_
          show GoV p e below s _ _ _ (T80.setTop (mkF m 177 #[.val (.int p0), .val (.int p1), .val (.int p2), .val (.int p3), .val (.int p4), .val (.int p5), .val (.int (p1 &&& (3 : Int32))), .val (.ref a), .val (.int (Int32.ofNat cs.length)), .val (.int (7 : Int32)), .val (.int q), .val (.ref b72), .unset, .unset] [(.ref b72)]))
          refine GoV.st (fun _ kq_ => XS.iconst X80.here hx rfl (hb hby at_177) kq_) ?_
          show GoV p e below s _ _ _ (T80.setTop (mkF m 178 #[.val (.int p0), .val (.int p1), .val (.int p2), .val (.int p3), .val (.int p4), .val (.int p5), .val (.int (p1 &&& (3 : Int32))), .val (.ref a), .val (.int (Int32.ofNat cs.length)), .val (.int (7 : Int32)), .val (.int q), .val (.ref b72), .unset, .unset] [(.int (4 : Int32)), (.ref b72)]))
          refine GoV.st (fun _ kq_ => XS.aload X80.here hx rfl (hb hby at_178) rfl rfl kq_) ?_
          show GoV p e below s _ _ _ (T80.setTop (mkF m 180 #[.val (.int p0), .val (.int p1), .val (.int p2), .val (.int p3), .val (.int p4), .val (.int p5), .val (.int (p1 &&& (3 : Int32))), .val (.ref a), .val (.int (Int32.ofNat cs.length)), .val (.int (7 : Int32)), .val (.int q), .val (.ref b72), .unset, .unset] [(.ref a), (.int (4 : Int32)), (.ref b72)]))
          refine GoV.st (fun _ kq_ => XS.iconst X80.here hx rfl (hb hby at_180) kq_) ?_
          show GoV p e below s _ _ _ (T80.setTop (mkF m 181 #[.val (.int p0), .val (.int p1), .val (.int p2), .val (.int p3), .val (.int p4), .val (.int p5), .val (.int (p1 &&& (3 : Int32))), .val (.ref a), .val (.int (Int32.ofNat cs.length)), .val (.int (7 : Int32)), .val (.int q), .val (.ref b72), .unset, .unset] [(.int (4 : Int32)), (.ref a), (.int (4 : Int32)), (.ref b72)]))
          refine GoV.st (fun _ kq_ => XS.iload X80.here hx rfl (hb hby at_181) rfl kq_) ?_
          show GoV p e below s _ _ _ (T80.setTop (mkF m 183 #[.val (.int p0), .val (.int p1), .val (.int p2), .val (.int p3), .val (.int p4), .val (.int p5), .val (.int (p1 &&& (3 : Int32))), .val (.ref a), .val (.int (Int32.ofNat cs.length)), .val (.int (7 : Int32)), .val (.int q), .val (.ref b72), .unset, .unset] [(.int q), (.int (4 : Int32)), (.ref a), (.int (4 : Int32)), (.ref b72)]))
          refine GoV.st (fun _ kq_ => XS.iloadN X80.here hx rfl (hb hby at_183) rfl kq_) ?_
          show GoV p e below s _ _ _ (T80.setTop (mkF m 184 #[.val (.int p0), .val (.int p1), .val (.int p2), .val (.int p3), .val (.int p4), .val (.int p5), .val (.int (p1 &&& (3 : Int32))), .val (.ref a), .val (.int (Int32.ofNat cs.length)), .val (.int (7 : Int32)), .val (.int q), .val (.ref b72), .unset, .unset] [(.int p3), (.int q), (.int (4 : Int32)), (.ref a), (.int (4 : Int32)), (.ref b72)]))
          refine GoV.st (fun _ kq_ => XS.iload X80.here hx rfl (hb hby at_184) rfl kq_) ?_
          show GoV p e below s _ _ _ (T80.setTop (mkF m 186 #[.val (.int p0), .val (.int p1), .val (.int p2), .val (.int p3), .val (.int p4), .val (.int p5), .val (.int (p1 &&& (3 : Int32))), .val (.ref a), .val (.int (Int32.ofNat cs.length)), .val (.int (7 : Int32)), .val (.int q), .val (.ref b72), .unset, .unset] [(.int p5), (.int p3), (.int q), (.int (4 : Int32)), (.ref a), (.int (4 : Int32)), (.ref b72)]))
          obtain ⟨_, _, ⟨T81, L81, k81, n81⟩, -, X81, ⟨Lc81, hQ81, l81, y81, z81⟩, st81⟩ := Jvm.LawKit.callS X80 hx (y := (⟨"com/example/pemmican/pemmican/DataTypeNamedPinLaw", "ch", "(Ljava/lang/String;IIII)C"⟩ : MethodName)) hown3 (mvT hZ3 (own_w hw 84 rfl)) (mvT hZ3 (own_w hw 85 rfl)) (mvT hZ3 (own_w hw 73 rfl)) (mvT hZ3 (own_w hw 86 rfl)) (by decide) (backOf (W := 2) (rmc l Z a0 hw [] a b kb N vs cs (4 : Int32) q p3 p5 zc fm h80 n0 O80 E_a F_a_coder F_a_value V_b hcB hbB hlB (by decide) SC hcs SF rf) hZ3 (own_w hw 86 rfl) (own_w hw 73 rfl) (by decide) (by decide)) (g := (mkF m 186 #[.val (.int p0), .val (.int p1), .val (.int p2), .val (.int p3), .val (.int p4), .val (.int p5), .val (.int (p1 &&& (3 : Int32))), .val (.ref a), .val (.int (Int32.ofNat cs.length)), .val (.int (7 : Int32)), .val (.int q), .val (.ref b72), .unset, .unset] [(.int p5), (.int p3), (.int q), (.int (4 : Int32)), (.ref a), (.int (4 : Int32)), (.ref b72)])) rfl (by rw [hml]; rfl) (argsL := [(.ref a), (.int (4 : Int32)), (.int q), (.int p3), (.int p5)]) (rest := [(.int (4 : Int32)), (.ref b72)]) (lenOf pd0_3 rfl) rfl (by show 2 * 0 + _ ≤ _; exact Nat.le_of_eq rfl) (hb hby at_186) (fun _ _ => ⟨rfl, e80, (by decide : 3 + 0 ≤ _), (by decide : 39 + 0 ≤ _)⟩)
          dsimp only [Pt.U, Pt.locs, Pt.cells, Pt.slots] at X81 l81 y81 z81 st81 hQ81
          subst y81 z81
          obtain ⟨r81, rfl, hr81, Nc81, e81⟩ := hQ81
          have N81 : Fr n0 L81 := by rw [l81]; exact Fr.app N80 Nc81
          refine GoV.st st81 ?_
          show GoV p e below s _ _ _ (T81.setTop (mkF m 189 #[.val (.int p0), .val (.int p1), .val (.int p2), .val (.int p3), .val (.int p4), .val (.int p5), .val (.int (p1 &&& (3 : Int32))), .val (.ref a), .val (.int (Int32.ofNat cs.length)), .val (.int (7 : Int32)), .val (.int q), .val (.ref b72), .unset, .unset] [(.int r81), (.int (4 : Int32)), (.ref b72)]))
          obtain ⟨T82, h82, X82, e82, W82, V82, st82⟩ := own_stC X81 hx hZ3 e81 V_b72 (j := (4 : Int32)) (by decide) (by decide) 4 rfl (Nat.le_of_ble_eq_true rfl) (g := (mkF m 189 #[.val (.int p0), .val (.int p1), .val (.int p2), .val (.int p3), .val (.int p4), .val (.int p5), .val (.int (p1 &&& (3 : Int32))), .val (.ref a), .val (.int (Int32.ofNat cs.length)), .val (.int (7 : Int32)), .val (.int q), .val (.ref b72), .unset, .unset] [(.int r81), (.int (4 : Int32)), (.ref b72)])) rfl rfl (hb hby at_189)
          obtain ⟨lc82, X82, N82⟩ := own_gen X82 (Fr.snoc X82 N81 g_b72)
          have O82 := O80.wr W82 g_b72
          have E_a := E_a.wr W82
          have F_a_coder := F_a_coder.other W82 (Or.inl ne_a_b72)
          have F_a_value := F_a_value.other W82 (Or.inl ne_a_b72)
          have V_b := V_b.other W82 ne_b_b72
          have C_a := C_a.other W82 ne_a_b72
          have C_b := C_b.other W82 ne_b_b72
          have hk82 := Nat.le_trans hk80 (Nat.le_of_eq W82.size.symm)
          have V_b72 : Arv Z h82 b72 k72 .char (7 : Int32) [(.int (nar .char r73)), (.int (nar .char r75)), (.int (nar .char r77)), (.int (nar .char r79)), (.int (nar .char r81)), (.int (0 : Int32)), (.int (0 : Int32))] (.int (0 : Int32)) := V82
          refine GoV.st st82 ?_
          show GoV p e below s _ _ _ (T82.setTop (mkF m 190 #[.val (.int p0), .val (.int p1), .val (.int p2), .val (.int p3), .val (.int p4), .val (.int p5), .val (.int (p1 &&& (3 : Int32))), .val (.ref a), .val (.int (Int32.ofNat cs.length)), .val (.int (7 : Int32)), .val (.int q), .val (.ref b72), .unset, .unset] []))
          refine GoV.st (fun _ kq_ => XS.iload X82.here hx rfl (hb hby at_190) rfl kq_) ?_
          show GoV p e below s _ _ _ (T82.setTop (mkF m 192 #[.val (.int p0), .val (.int p1), .val (.int p2), .val (.int p3), .val (.int p4), .val (.int p5), .val (.int (p1 &&& (3 : Int32))), .val (.ref a), .val (.int (Int32.ofNat cs.length)), .val (.int (7 : Int32)), .val (.int q), .val (.ref b72), .unset, .unset] [(.int (7 : Int32))]))
          refine GoV.st (fun _ kq_ => XS.iconst X82.here hx rfl (hb hby at_192) kq_) ?_
          show GoV p e below s _ _ _ (T82.setTop (mkF m 193 #[.val (.int p0), .val (.int p1), .val (.int p2), .val (.int p3), .val (.int p4), .val (.int p5), .val (.int (p1 &&& (3 : Int32))), .val (.ref a), .val (.int (Int32.ofNat cs.length)), .val (.int (7 : Int32)), .val (.int q), .val (.ref b72), .unset, .unset] [(.int (5 : Int32)), (.int (7 : Int32))]))
          refine GoV.st (fun _ kq_ => XS.icmpNo X82.here hx rfl (hb hby at_193) rfl (by decide) kq_) ?_
          show GoV p e below s _ _ _ (T82.setTop (mkF m 196 #[.val (.int p0), .val (.int p1), .val (.int p2), .val (.int p3), .val (.int p4), .val (.int p5), .val (.int (p1 &&& (3 : Int32))), .val (.ref a), .val (.int (Int32.ofNat cs.length)), .val (.int (7 : Int32)), .val (.int q), .val (.ref b72), .unset, .unset] []))
          refine GoV.st (fun _ kq_ => XS.aload X82.here hx rfl (hb hby at_196) rfl rfl kq_) ?_
          show GoV p e below s _ _ _ (T82.setTop (mkF m 198 #[.val (.int p0), .val (.int p1), .val (.int p2), .val (.int p3), .val (.int p4), .val (.int p5), .val (.int (p1 &&& (3 : Int32))), .val (.ref a), .val (.int (Int32.ofNat cs.length)), .val (.int (7 : Int32)), .val (.int q), .val (.ref b72), .unset, .unset] [(.ref b72)]))
          refine GoV.st (fun _ kq_ => XS.iconst X82.here hx rfl (hb hby at_198) kq_) ?_
          show GoV p e below s _ _ _ (T82.setTop (mkF m 199 #[.val (.int p0), .val (.int p1), .val (.int p2), .val (.int p3), .val (.int p4), .val (.int p5), .val (.int (p1 &&& (3 : Int32))), .val (.ref a), .val (.int (Int32.ofNat cs.length)), .val (.int (7 : Int32)), .val (.int q), .val (.ref b72), .unset, .unset] [(.int (5 : Int32)), (.ref b72)]))
          refine GoV.st (fun _ kq_ => XS.aload X82.here hx rfl (hb hby at_199) rfl rfl kq_) ?_
          show GoV p e below s _ _ _ (T82.setTop (mkF m 201 #[.val (.int p0), .val (.int p1), .val (.int p2), .val (.int p3), .val (.int p4), .val (.int p5), .val (.int (p1 &&& (3 : Int32))), .val (.ref a), .val (.int (Int32.ofNat cs.length)), .val (.int (7 : Int32)), .val (.int q), .val (.ref b72), .unset, .unset] [(.ref a), (.int (5 : Int32)), (.ref b72)]))
          refine GoV.st (fun _ kq_ => XS.iconst X82.here hx rfl (hb hby at_201) kq_) ?_
          show GoV p e below s _ _ _ (T82.setTop (mkF m 202 #[.val (.int p0), .val (.int p1), .val (.int p2), .val (.int p3), .val (.int p4), .val (.int p5), .val (.int (p1 &&& (3 : Int32))), .val (.ref a), .val (.int (Int32.ofNat cs.length)), .val (.int (7 : Int32)), .val (.int q), .val (.ref b72), .unset, .unset] [(.int (5 : Int32)), (.ref a), (.int (5 : Int32)), (.ref b72)]))
          refine GoV.st (fun _ kq_ => XS.iload X82.here hx rfl (hb hby at_202) rfl kq_) ?_
          show GoV p e below s _ _ _ (T82.setTop (mkF m 204 #[.val (.int p0), .val (.int p1), .val (.int p2), .val (.int p3), .val (.int p4), .val (.int p5), .val (.int (p1 &&& (3 : Int32))), .val (.ref a), .val (.int (Int32.ofNat cs.length)), .val (.int (7 : Int32)), .val (.int q), .val (.ref b72), .unset, .unset] [(.int q), (.int (5 : Int32)), (.ref a), (.int (5 : Int32)), (.ref b72)]))
          refine GoV.st (fun _ kq_ => XS.iloadN X82.here hx rfl (hb hby at_204) rfl kq_) ?_
          show GoV p e below s _ _ _ (T82.setTop (mkF m 205 #[.val (.int p0), .val (.int p1), .val (.int p2), .val (.int p3), .val (.int p4), .val (.int p5), .val (.int (p1 &&& (3 : Int32))), .val (.ref a), .val (.int (Int32.ofNat cs.length)), .val (.int (7 : Int32)), .val (.int q), .val (.ref b72), .unset, .unset] [(.int p3), (.int q), (.int (5 : Int32)), (.ref a), (.int (5 : Int32)), (.ref b72)]))
          refine GoV.st (fun _ kq_ => XS.iload X82.here hx rfl (hb hby at_205) rfl kq_) ?_
          show GoV p e below s _ _ _ (T82.setTop (mkF m 207 #[.val (.int p0), .val (.int p1), .val (.int p2), .val (.int p3), .val (.int p4), .val (.int p5), .val (.int (p1 &&& (3 : Int32))), .val (.ref a), .val (.int (Int32.ofNat cs.length)), .val (.int (7 : Int32)), .val (.int q), .val (.ref b72), .unset, .unset] [(.int p5), (.int p3), (.int q), (.int (5 : Int32)), (.ref a), (.int (5 : Int32)), (.ref b72)]))
          obtain ⟨_, _, ⟨T83, L83, k83, n83⟩, -, X83, ⟨Lc83, hQ83, l83, y83, z83⟩, st83⟩ := Jvm.LawKit.callS X82 hx (y := (⟨"com/example/pemmican/pemmican/DataTypeNamedPinLaw", "ch", "(Ljava/lang/String;IIII)C"⟩ : MethodName)) hown3 (mvT hZ3 (own_w hw 84 rfl)) (mvT hZ3 (own_w hw 85 rfl)) (mvT hZ3 (own_w hw 73 rfl)) (mvT hZ3 (own_w hw 86 rfl)) (by decide) (backOf (W := 2) (rmc l Z a0 hw [] a b kb N vs cs (5 : Int32) q p3 p5 zc fm h82 n0 O82 E_a F_a_coder F_a_value V_b hcB hbB hlB (by decide) SC hcs SF rf) hZ3 (own_w hw 86 rfl) (own_w hw 73 rfl) (by decide) (by decide)) (g := (mkF m 207 #[.val (.int p0), .val (.int p1), .val (.int p2), .val (.int p3), .val (.int p4), .val (.int p5), .val (.int (p1 &&& (3 : Int32))), .val (.ref a), .val (.int (Int32.ofNat cs.length)), .val (.int (7 : Int32)), .val (.int q), .val (.ref b72), .unset, .unset] [(.int p5), (.int p3), (.int q), (.int (5 : Int32)), (.ref a), (.int (5 : Int32)), (.ref b72)])) rfl (by rw [hml]; rfl) (argsL := [(.ref a), (.int (5 : Int32)), (.int q), (.int p3), (.int p5)]) (rest := [(.int (5 : Int32)), (.ref b72)]) (lenOf pd0_3 rfl) rfl (by show 2 * 0 + _ ≤ _; exact Nat.le_of_eq rfl) (hb hby at_207) (fun _ _ => ⟨rfl, e82, (by decide : 3 + 0 ≤ _), (by decide : 39 + 0 ≤ _)⟩)
          dsimp only [Pt.U, Pt.locs, Pt.cells, Pt.slots] at X83 l83 y83 z83 st83 hQ83
          subst y83 z83
          obtain ⟨r83, rfl, hr83, Nc83, e83⟩ := hQ83
          have N83 : Fr n0 L83 := by rw [l83]; exact Fr.app N82 Nc83
          refine GoV.st st83 ?_
          show GoV p e below s _ _ _ (T83.setTop (mkF m 210 #[.val (.int p0), .val (.int p1), .val (.int p2), .val (.int p3), .val (.int p4), .val (.int p5), .val (.int (p1 &&& (3 : Int32))), .val (.ref a), .val (.int (Int32.ofNat cs.length)), .val (.int (7 : Int32)), .val (.int q), .val (.ref b72), .unset, .unset] [(.int r83), (.int (5 : Int32)), (.ref b72)]))
          obtain ⟨T84, h84, X84, e84, W84, V84, st84⟩ := own_stC X83 hx hZ3 e83 V_b72 (j := (5 : Int32)) (by decide) (by decide) 5 rfl (Nat.le_of_ble_eq_true rfl) (g := (mkF m 210 #[.val (.int p0), .val (.int p1), .val (.int p2), .val (.int p3), .val (.int p4), .val (.int p5), .val (.int (p1 &&& (3 : Int32))), .val (.ref a), .val (.int (Int32.ofNat cs.length)), .val (.int (7 : Int32)), .val (.int q), .val (.ref b72), .unset, .unset] [(.int r83), (.int (5 : Int32)), (.ref b72)])) rfl rfl (hb hby at_210)
          obtain ⟨lc84, X84, N84⟩ := own_gen X84 (Fr.snoc X84 N83 g_b72)
          have O84 := O82.wr W84 g_b72
          have E_a := E_a.wr W84
          have F_a_coder := F_a_coder.other W84 (Or.inl ne_a_b72)
          have F_a_value := F_a_value.other W84 (Or.inl ne_a_b72)
          have V_b := V_b.other W84 ne_b_b72
          have C_a := C_a.other W84 ne_a_b72
          have C_b := C_b.other W84 ne_b_b72
          have hk84 := Nat.le_trans hk82 (Nat.le_of_eq W84.size.symm)
          have V_b72 : Arv Z h84 b72 k72 .char (7 : Int32) [(.int (nar .char r73)), (.int (nar .char r75)), (.int (nar .char r77)), (.int (nar .char r79)), (.int (nar .char r81)), (.int (nar .char r83)), (.int (0 : Int32))] (.int (0 : Int32)) := V84
          refine GoV.st st84 ?_
          show GoV p e below s _ _ _ (T84.setTop (mkF m 211 #[.val (.int p0), .val (.int p1), .val (.int p2), .val (.int p3), .val (.int p4), .val (.int p5), .val (.int (p1 &&& (3 : Int32))), .val (.ref a), .val (.int (Int32.ofNat cs.length)), .val (.int (7 : Int32)), .val (.int q), .val (.ref b72), .unset, .unset] []))
          refine GoV.st (fun _ kq_ => XS.iload X84.here hx rfl (hb hby at_211) rfl kq_) ?_
          show GoV p e below s _ _ _ (T84.setTop (mkF m 213 #[.val (.int p0), .val (.int p1), .val (.int p2), .val (.int p3), .val (.int p4), .val (.int p5), .val (.int (p1 &&& (3 : Int32))), .val (.ref a), .val (.int (Int32.ofNat cs.length)), .val (.int (7 : Int32)), .val (.int q), .val (.ref b72), .unset, .unset] [(.int (7 : Int32))]))
          refine GoV.st (fun _ kq_ => XS.bipush X84.here hx rfl (hb hby at_213) kq_) ?_
          show GoV p e below s _ _ _ (T84.setTop (mkF m 215 #[.val (.int p0), .val (.int p1), .val (.int p2), .val (.int p3), .val (.int p4), .val (.int p5), .val (.int (p1 &&& (3 : Int32))), .val (.ref a), .val (.int (Int32.ofNat cs.length)), .val (.int (7 : Int32)), .val (.int q), .val (.ref b72), .unset, .unset] [(.int (6 : Int32)), (.int (7 : Int32))]))
          refine GoV.st (fun _ kq_ => XS.icmpNo X84.here hx rfl (hb hby at_215) rfl (by decide) kq_) ?_
          show GoV p e below s _ _ _ (T84.setTop (mkF m 218 #[.val (.int p0), .val (.int p1), .val (.int p2), .val (.int p3), .val (.int p4), .val (.int p5), .val (.int (p1 &&& (3 : Int32))), .val (.ref a), .val (.int (Int32.ofNat cs.length)), .val (.int (7 : Int32)), .val (.int q), .val (.ref b72), .unset, .unset] []))
          refine GoV.st (fun _ kq_ => XS.aload X84.here hx rfl (hb hby at_218) rfl rfl kq_) ?_
          show GoV p e below s _ _ _ (T84.setTop (mkF m 220 #[.val (.int p0), .val (.int p1), .val (.int p2), .val (.int p3), .val (.int p4), .val (.int p5), .val (.int (p1 &&& (3 : Int32))), .val (.ref a), .val (.int (Int32.ofNat cs.length)), .val (.int (7 : Int32)), .val (.int q), .val (.ref b72), .unset, .unset] [(.ref b72)]))
          refine GoV.st (fun _ kq_ => XS.bipush X84.here hx rfl (hb hby at_220) kq_) ?_
          show GoV p e below s _ _ _ (T84.setTop (mkF m 222 #[.val (.int p0), .val (.int p1), .val (.int p2), .val (.int p3), .val (.int p4), .val (.int p5), .val (.int (p1 &&& (3 : Int32))), .val (.ref a), .val (.int (Int32.ofNat cs.length)), .val (.int (7 : Int32)), .val (.int q), .val (.ref b72), .unset, .unset] [(.int (6 : Int32)), (.ref b72)]))
          refine GoV.st (fun _ kq_ => XS.aload X84.here hx rfl (hb hby at_222) rfl rfl kq_) ?_
          show GoV p e below s _ _ _ (T84.setTop (mkF m 224 #[.val (.int p0), .val (.int p1), .val (.int p2), .val (.int p3), .val (.int p4), .val (.int p5), .val (.int (p1 &&& (3 : Int32))), .val (.ref a), .val (.int (Int32.ofNat cs.length)), .val (.int (7 : Int32)), .val (.int q), .val (.ref b72), .unset, .unset] [(.ref a), (.int (6 : Int32)), (.ref b72)]))
          refine GoV.st (fun _ kq_ => XS.bipush X84.here hx rfl (hb hby at_224) kq_) ?_
          show GoV p e below s _ _ _ (T84.setTop (mkF m 226 #[.val (.int p0), .val (.int p1), .val (.int p2), .val (.int p3), .val (.int p4), .val (.int p5), .val (.int (p1 &&& (3 : Int32))), .val (.ref a), .val (.int (Int32.ofNat cs.length)), .val (.int (7 : Int32)), .val (.int q), .val (.ref b72), .unset, .unset] [(.int (6 : Int32)), (.ref a), (.int (6 : Int32)), (.ref b72)]))
          refine GoV.st (fun _ kq_ => XS.iload X84.here hx rfl (hb hby at_226) rfl kq_) ?_
          show GoV p e below s _ _ _ (T84.setTop (mkF m 228 #[.val (.int p0), .val (.int p1), .val (.int p2), .val (.int p3), .val (.int p4), .val (.int p5), .val (.int (p1 &&& (3 : Int32))), .val (.ref a), .val (.int (Int32.ofNat cs.length)), .val (.int (7 : Int32)), .val (.int q), .val (.ref b72), .unset, .unset] [(.int q), (.int (6 : Int32)), (.ref a), (.int (6 : Int32)), (.ref b72)]))
          refine GoV.st (fun _ kq_ => XS.iloadN X84.here hx rfl (hb hby at_228) rfl kq_) ?_
          show GoV p e below s _ _ _ (T84.setTop (mkF m 229 #[.val (.int p0), .val (.int p1), .val (.int p2), .val (.int p3), .val (.int p4), .val (.int p5), .val (.int (p1 &&& (3 : Int32))), .val (.ref a), .val (.int (Int32.ofNat cs.length)), .val (.int (7 : Int32)), .val (.int q), .val (.ref b72), .unset, .unset] [(.int p3), (.int q), (.int (6 : Int32)), (.ref a), (.int (6 : Int32)), (.ref b72)]))
          refine GoV.st (fun _ kq_ => XS.iload X84.here hx rfl (hb hby at_229) rfl kq_) ?_
          show GoV p e below s _ _ _ (T84.setTop (mkF m 231 #[.val (.int p0), .val (.int p1), .val (.int p2), .val (.int p3), .val (.int p4), .val (.int p5), .val (.int (p1 &&& (3 : Int32))), .val (.ref a), .val (.int (Int32.ofNat cs.length)), .val (.int (7 : Int32)), .val (.int q), .val (.ref b72), .unset, .unset] [(.int p5), (.int p3), (.int q), (.int (6 : Int32)), (.ref a), (.int (6 : Int32)), (.ref b72)]))
          obtain ⟨_, _, ⟨T85, L85, k85, n85⟩, -, X85, ⟨Lc85, hQ85, l85, y85, z85⟩, st85⟩ := Jvm.LawKit.callS X84 hx (y := (⟨"com/example/pemmican/pemmican/DataTypeNamedPinLaw", "ch", "(Ljava/lang/String;IIII)C"⟩ : MethodName)) hown3 (mvT hZ3 (own_w hw 84 rfl)) (mvT hZ3 (own_w hw 85 rfl)) (mvT hZ3 (own_w hw 73 rfl)) (mvT hZ3 (own_w hw 86 rfl)) (by decide) (backOf (W := 2) (rmc l Z a0 hw [] a b kb N vs cs (6 : Int32) q p3 p5 zc fm h84 n0 O84 E_a F_a_coder F_a_value V_b hcB hbB hlB (by decide) SC hcs SF rf) hZ3 (own_w hw 86 rfl) (own_w hw 73 rfl) (by decide) (by decide)) (g := (mkF m 231 #[.val (.int p0), .val (.int p1), .val (.int p2), .val (.int p3), .val (.int p4), .val (.int p5), .val (.int (p1 &&& (3 : Int32))), .val (.ref a), .val (.int (Int32.ofNat cs.length)), .val (.int (7 : Int32)), .val (.int q), .val (.ref b72), .unset, .unset] [(.int p5), (.int p3), (.int q), (.int (6 : Int32)), (.ref a), (.int (6 : Int32)), (.ref b72)])) rfl (by rw [hml]; rfl) (argsL := [(.ref a), (.int (6 : Int32)), (.int q), (.int p3), (.int p5)]) (rest := [(.int (6 : Int32)), (.ref b72)]) (lenOf pd0_3 rfl) rfl (by show 2 * 0 + _ ≤ _; exact Nat.le_of_eq rfl) (hb hby at_231) (fun _ _ => ⟨rfl, e84, (by decide : 3 + 0 ≤ _), (by decide : 39 + 0 ≤ _)⟩)
          dsimp only [Pt.U, Pt.locs, Pt.cells, Pt.slots] at X85 l85 y85 z85 st85 hQ85
          subst y85 z85
          obtain ⟨r85, rfl, hr85, Nc85, e85⟩ := hQ85
          have N85 : Fr n0 L85 := by rw [l85]; exact Fr.app N84 Nc85
          refine GoV.st st85 ?_
          show GoV p e below s _ _ _ (T85.setTop (mkF m 234 #[.val (.int p0), .val (.int p1), .val (.int p2), .val (.int p3), .val (.int p4), .val (.int p5), .val (.int (p1 &&& (3 : Int32))), .val (.ref a), .val (.int (Int32.ofNat cs.length)), .val (.int (7 : Int32)), .val (.int q), .val (.ref b72), .unset, .unset] [(.int r85), (.int (6 : Int32)), (.ref b72)]))
          obtain ⟨T86, h86, X86, e86, W86, V86, st86⟩ := own_stC X85 hx hZ3 e85 V_b72 (j := (6 : Int32)) (by decide) (by decide) 6 rfl (Nat.le_of_ble_eq_true rfl) (g := (mkF m 234 #[.val (.int p0), .val (.int p1), .val (.int p2), .val (.int p3), .val (.int p4), .val (.int p5), .val (.int (p1 &&& (3 : Int32))), .val (.ref a), .val (.int (Int32.ofNat cs.length)), .val (.int (7 : Int32)), .val (.int q), .val (.ref b72), .unset, .unset] [(.int r85), (.int (6 : Int32)), (.ref b72)])) rfl rfl (hb hby at_234)
          obtain ⟨lc86, X86, N86⟩ := own_gen X86 (Fr.snoc X86 N85 g_b72)
          have O86 := O84.wr W86 g_b72
          have E_a := E_a.wr W86
          have F_a_coder := F_a_coder.other W86 (Or.inl ne_a_b72)
          have F_a_value := F_a_value.other W86 (Or.inl ne_a_b72)
          have V_b := V_b.other W86 ne_b_b72
          have C_a := C_a.other W86 ne_a_b72
          have C_b := C_b.other W86 ne_b_b72
          have hk86 := Nat.le_trans hk84 (Nat.le_of_eq W86.size.symm)
          have V_b72 : Arv Z h86 b72 k72 .char (7 : Int32) [(.int (nar .char r73)), (.int (nar .char r75)), (.int (nar .char r77)), (.int (nar .char r79)), (.int (nar .char r81)), (.int (nar .char r83)), (.int (nar .char r85))] (.int (0 : Int32)) := V86
          refine GoV.st st86 ?_
          show GoV p e below s _ _ _ (T86.setTop (mkF m 235 #[.val (.int p0), .val (.int p1), .val (.int p2), .val (.int p3), .val (.int p4), .val (.int p5), .val (.int (p1 &&& (3 : Int32))), .val (.ref a), .val (.int (Int32.ofNat cs.length)), .val (.int (7 : Int32)), .val (.int q), .val (.ref b72), .unset, .unset] []))
          refine GoV.st (fun _ kq_ => XS.iload X86.here hx rfl (hb hby at_235) rfl kq_) ?_
          show GoV p e below s _ _ _ (T86.setTop (mkF m 237 #[.val (.int p0), .val (.int p1), .val (.int p2), .val (.int p3), .val (.int p4), .val (.int p5), .val (.int (p1 &&& (3 : Int32))), .val (.ref a), .val (.int (Int32.ofNat cs.length)), .val (.int (7 : Int32)), .val (.int q), .val (.ref b72), .unset, .unset] [(.int (7 : Int32))]))
          refine GoV.st (fun _ kq_ => XS.bipush X86.here hx rfl (hb hby at_237) kq_) ?_
          show GoV p e below s _ _ _ (T86.setTop (mkF m 239 #[.val (.int p0), .val (.int p1), .val (.int p2), .val (.int p3), .val (.int p4), .val (.int p5), .val (.int (p1 &&& (3 : Int32))), .val (.ref a), .val (.int (Int32.ofNat cs.length)), .val (.int (7 : Int32)), .val (.int q), .val (.ref b72), .unset, .unset] [(.int (7 : Int32)), (.int (7 : Int32))]))
          refine GoV.st (fun _ kq_ => XS.icmpYes X86.here hx rfl (pc0 := 239) (pc' := 259) rfl (hb hby at_239) rfl (by decide) (by decide) (by decide) kq_) ?_
          show GoV p e below s _ _ _ (T86.setTop (mkF m 259 #[.val (.int p0), .val (.int p1), .val (.int p2), .val (.int p3), .val (.int p4), .val (.int p5), .val (.int (p1 &&& (3 : Int32))), .val (.ref a), .val (.int (Int32.ofNat cs.length)), .val (.int (7 : Int32)), .val (.int q), .val (.ref b72), .unset, .unset] []))
          obtain ⟨T87, h87, X87, e87, E87, A87, D87, -, st87⟩ := newO X86 hx hZ3 hown3 (own_w hw 23 rfl) (own_w hw 2 rfl) (own_w hw 1 rfl) e86 (g := (mkF m 259 #[.val (.int p0), .val (.int p1), .val (.int p2), .val (.int p3), .val (.int p4), .val (.int p5), .val (.int (p1 &&& (3 : Int32))), .val (.ref a), .val (.int (Int32.ofNat cs.length)), .val (.int (7 : Int32)), .val (.int q), .val (.ref b72), .unset, .unset] [])) rfl (hb hby at_259) (by decide) (by decide)
          obtain ⟨a87, g87⟩ : ∃ z, z = h86.size := ⟨_, rfl⟩
          rw [← g87] at A87 D87 st87
          have g_a87 : n0 ≤ a87 := Nat.le_trans (own_old O86) (Nat.le_of_eq g87.symm)
          have ne_a_a87 : a ≠ a87 := by rw [g87]; exact Nat.ne_of_lt E_a.lt
          have ne_b_a87 : b ≠ a87 := by rw [g87]; exact Nat.ne_of_lt V_b.lt
          have ne_b72_a87 : b72 ≠ a87 := by rw [g87]; exact Nat.ne_of_lt V_b72.lt
          have E_a := E_a.ext E87
          have F_a_coder := F_a_coder.ext E87
          have F_a_value := F_a_value.ext E87
          have V_b := V_b.ext E87
          have C_a := C_a.ext E87
          have C_b := C_b.ext E87
          have V_b72 := V_b72.ext E87
          have hk87 := Nat.le_trans hk86 E87.1
          have O87 := O86.ext E87
          have E_a87 : Exa Z h87 a87 "java/lang/String" := A87
          have F_a87_value : Fld Z h87 a87 "java/lang/String" "value" "[B" .null := D87 (Or.inr (own_w hw 4 rfl)) (ty := (.array .byte)) (by decide)
          have F_a87_coder : Fld Z h87 a87 "java/lang/String" "coder" "B" (.int (0 : Int32)) := D87 (Or.inr (own_w hw 5 rfl)) (ty := .byte) (by decide)
          refine GoV.st st87 ?_
          show GoV p e below s _ _ _ (T87.setTop (mkF m 262 #[.val (.int p0), .val (.int p1), .val (.int p2), .val (.int p3), .val (.int p4), .val (.int p5), .val (.int (p1 &&& (3 : Int32))), .val (.ref a), .val (.int (Int32.ofNat cs.length)), .val (.int (7 : Int32)), .val (.int q), .val (.ref b72), .unset, .unset] [(.ref a87)]))
          refine GoV.st (fun _ kq_ => XS.dup X87.here hx rfl (hb hby at_262) rfl rfl kq_) ?_
          show GoV p e below s _ _ _ (T87.setTop (mkF m 263 #[.val (.int p0), .val (.int p1), .val (.int p2), .val (.int p3), .val (.int p4), .val (.int p5), .val (.int (p1 &&& (3 : Int32))), .val (.ref a), .val (.int (Int32.ofNat cs.length)), .val (.int (7 : Int32)), .val (.int q), .val (.ref b72), .unset, .unset] [(.ref a87), (.ref a87)]))
          refine GoV.st (fun _ kq_ => XS.aload X87.here hx rfl (hb hby at_263) rfl rfl kq_) ?_
          show GoV p e below s _ _ _ (T87.setTop (mkF m 265 #[.val (.int p0), .val (.int p1), .val (.int p2), .val (.int p3), .val (.int p4), .val (.int p5), .val (.int (p1 &&& (3 : Int32))), .val (.ref a), .val (.int (Int32.ofNat cs.length)), .val (.int (7 : Int32)), .val (.int q), .val (.ref b72), .unset, .unset] [(.ref b72), (.ref a87), (.ref a87)]))
          have hp : ∀ z ∈ ([(nar .char r73), (nar .char r75), (nar .char r77), (nar .char r79), (nar .char r81), (nar .char r83), (nar .char r85)] : List Int32), ¬ z < 0 ∧ ¬ (255 : Int32) < z := by
            intro z hz
            simp only [List.mem_cons, List.not_mem_nil, or_false] at hz
            rcases hz with rfl | rfl | rfl | rfl | rfl | rfl | rfl
            · exact (by rw [own_nc hr73]; exact hr73)
            · exact (by rw [own_nc hr75]; exact hr75)
            · exact (by rw [own_nc hr77]; exact hr77)
            · exact (by rw [own_nc hr79]; exact hr79)
            · exact (by rw [own_nc hr81]; exact hr81)
            · exact (by rw [own_nc hr83]; exact hr83)
            · exact (by rw [own_nc hr85]; exact hr85)
          obtain ⟨_, _, ⟨T88, L88, k88, n88⟩, -, X88, ⟨Lc88, hQ88, l88, y88, z88⟩, st88⟩ := X87.specialBack hx (y := (⟨"java/lang/String", "<init>", "([C)V"⟩ : MethodName)) rfl hown3 (mvT hZ3 (own_w hw 24 rfl)) (mvT hZ3 (own_w hw 25 rfl)) (mvT hZ3 (own_w hw 26 rfl)) (by decide) (StrChars.Road.backV (W := 1) hZ3 hws (kI := 4) (own_w hw 2 rfl) (cs := ([(nar .char r73), (nar .char r75), (nar .char r77), (nar .char r79), (nar .char r81), (nar .char r83), (nar .char r85)] : List Int32)) (bs := ([(nar .char r73), (nar .char r75), (nar .char r77), (nar .char r79), (nar .char r81), (nar .char r83), (nar .char r85)] : List Int32).map (fun c => c.toInt8.toInt32)) (n := 7) g_a87 (own_old O87) E_a87 F_a87_value F_a87_coder V_b72 (SC.ext O87.2) hcs rfl rfl (by decide) (by decide) hp rfl (by decide) (by decide)) (g := (mkF m 265 #[.val (.int p0), .val (.int p1), .val (.int p2), .val (.int p3), .val (.int p4), .val (.int p5), .val (.int (p1 &&& (3 : Int32))), .val (.ref a), .val (.int (Int32.ofNat cs.length)), .val (.int (7 : Int32)), .val (.int q), .val (.ref b72), .unset, .unset] [(.ref b72), (.ref a87), (.ref a87)])) rfl (by rw [hml]; rfl) (Steps.refl _) (a := a87) (argsL := [(.ref b72)]) (rest := [(.ref a87)]) (lenOf pd0_2 rfl) rfl (by show 2 * 0 + _ ≤ _; exact Nat.le_of_eq rfl) (hb hby at_265) (fun _ _ => ⟨rfl, e87, (by decide : 4 + 1 ≤ _), (by decide : 43 + 7 ≤ _)⟩)
          dsimp only [Pt.U, Pt.locs, Pt.cells, Pt.slots] at X88 l88 y88 z88 st88 hQ88
          subst y88 z88
          obtain ⟨rfl, Nc88, Kc88, NE, NC, t88, kt88, gt88, szt88, -, NV, NB⟩ := hQ88
          have N88 : Fr n0 L88 := by rw [l88]; exact Fr.app N86 Nc88
          have E_a := E_a.keep Kc88
          have F_a_coder := F_a_coder.keep Kc88 (ninS ne_a_a87 nin0)
          have F_a_value := F_a_value.keep Kc88 (ninS ne_a_a87 nin0)
          have V_b := V_b.keep Kc88 (ninS ne_b_a87 nin0)
          have C_a := C_a.keep Kc88 (ninS ne_a_a87 nin0)
          have C_b := C_b.keep Kc88 (ninS ne_b_a87 nin0)
          have V_b72 := V_b72.keep Kc88 (ninS ne_b72_a87 nin0)
          have hk88 := Nat.le_trans hk87 Kc88.1
          have O88 := O87.keep Kc88 (allS g_a87 all0)
          have E_a87 : Exa Z T88.heap a87 "java/lang/String" := NE
          have F_a87_coder : Fld Z T88.heap a87 "java/lang/String" "coder" "B" (.int (0 : Int32)) := NC
          have F_a87_value : Fld Z T88.heap a87 "java/lang/String" "value" "[B" (.ref t88) := NV
          have V_t88 : Arv Z T88.heap t88 kt88 .byte (7 : Int32) ((([(nar .char r73), (nar .char r75), (nar .char r77), (nar .char r79), (nar .char r81), (nar .char r83), (nar .char r85)] : List Int32).map (fun c => c.toInt8.toInt32)).map Value.int) (.int (0 : Int32)) := NB
          refine GoV.tr st88 ?_
          show GoV p e below s _ _ _ (T88.setTop (mkF m 268 #[.val (.int p0), .val (.int p1), .val (.int p2), .val (.int p3), .val (.int p4), .val (.int p5), .val (.int (p1 &&& (3 : Int32))), .val (.ref a), .val (.int (Int32.ofNat cs.length)), .val (.int (7 : Int32)), .val (.int q), .val (.ref b72), .unset, .unset] [(.ref a87)]))
          exact JX a87 t88 _ _ _ ([(nar .char r73), (nar .char r75), (nar .char r77), (nar .char r79), (nar .char r81), (nar .char r83), (nar .char r85)] : List Int32) (7 : Int32) b72 _ (vm3) _ _ _ _ (X88.mono (by decide) (by decide)) rfl N88 O88 hS3 hk88 hZ3 hown3 I3 E_a F_a_coder F_a_value V_b C_a C_b E_a87 F_a87_coder F_a87_value V_t88 (StrChars.Road.codOf (n := 7) rfl (fun c hc => (hp c hc).2)) (own_up hp) (Nat.le_of_ble_eq_true rfl) (fun q hq => Or.inl (List.mem_singleton.mp hq))
        · show GoV p e below s _ _ _ (T3.setTop (mkF m 80 #[.val (.int p0), .val (.int p1), .val (.int p2), .val (.int p3), .val (.int p4), .val (.int p5), .val (.int (p1 &&& (3 : Int32))), .val (.ref a), .val (.int (Int32.ofNat cs.length)), .val (.int (8 : Int32)), .val (.int q), .unset, .unset, .unset] []))
          refine GoV.st (fun _ kq_ => XS.iload X3.here hx rfl (hb hby at_80) rfl kq_) ?_
          show GoV p e below s _ _ _ (T3.setTop (mkF m 82 #[.val (.int p0), .val (.int p1), .val (.int p2), .val (.int p3), .val (.int p4), .val (.int p5), .val (.int (p1 &&& (3 : Int32))), .val (.ref a), .val (.int (Int32.ofNat cs.length)), .val (.int (8 : Int32)), .val (.int q), .unset, .unset, .unset] [(.int (8 : Int32))]))
          obtain ⟨T89, h89, k89, X89, e89, E89, A89, st89⟩ := newP X3 hx hZ3 (own_w hw 22 rfl) e3 (g := (mkF m 82 #[.val (.int p0), .val (.int p1), .val (.int p2), .val (.int p3), .val (.int p4), .val (.int p5), .val (.int (p1 &&& (3 : Int32))), .val (.ref a), .val (.int (Int32.ofNat cs.length)), .val (.int (8 : Int32)), .val (.int q), .unset, .unset, .unset] [(.int (8 : Int32))])) rfl (hb hby at_82) rfl (by decide) (cap := 8) (by decide) (by decide) (by decide) (by decide)
          obtain ⟨b89, g89⟩ : ∃ z, z = h3.size := ⟨_, rfl⟩
          rw [← g89] at A89 st89
          have g_b89 : n0 ≤ b89 := Nat.le_trans (own_old O3) (Nat.le_of_eq g89.symm)
          have ne_a_b89 : a ≠ b89 := by rw [g89]; exact Nat.ne_of_lt E_a.lt
          have ne_b_b89 : b ≠ b89 := by rw [g89]; exact Nat.ne_of_lt V_b.lt
          have E_a := E_a.ext E89
          have F_a_coder := F_a_coder.ext E89
          have F_a_value := F_a_value.ext E89
          have V_b := V_b.ext E89
          have C_a := C_a.ext E89
          have C_b := C_b.ext E89
          have hk89 := Nat.le_trans hk3 E89.1
          have O89 := O3.ext E89
          have V_b89 : Arv Z h89 b89 k89 .char (8 : Int32) [(.int (0 : Int32)), (.int (0 : Int32)), (.int (0 : Int32)), (.int (0 : Int32)), (.int (0 : Int32)), (.int (0 : Int32)), (.int (0 : Int32)), (.int (0 : Int32))] (.int (0 : Int32)) := (Arv.new A89 (by decide)).pad (pad_rep [] (.int (0 : Int32)) 8)
          refine GoV.st st89 ?_
          show GoV p e below s _ _ _ (T89.setTop (mkF m 84 #[.val (.int p0), .val (.int p1), .val (.int p2), .val (.int p3), .val (.int p4), .val (.int p5), .val (.int (p1 &&& (3 : Int32))), .val (.ref a), .val (.int (Int32.ofNat cs.length)), .val (.int (8 : Int32)), .val (.int q), .unset, .unset, .unset] [(.ref b89)]))
          refine GoV.st (fun _ kq_ => XS.astore X89.here hx rfl (hb hby at_84) rfl rfl (l' := #[.val (.int p0), .val (.int p1), .val (.int p2), .val (.int p3), .val (.int p4), .val (.int p5), .val (.int (p1 &&& (3 : Int32))), .val (.ref a), .val (.int (Int32.ofNat cs.length)), .val (.int (8 : Int32)), .val (.int q), .val (.ref b89), .unset, .unset]) rfl kq_) ?_
          show GoV p e below s _ _ _ (T89.setTop (mkF m 86 #[.val (.int p0), .val (.int p1), .val (.int p2), .val (.int p3), .val (.int p4), .val (.int p5), .val (.int (p1 &&& (3 : Int32))), .val (.ref a), .val (.int (Int32.ofNat cs.length)), .val (.int (8 : Int32)), .val (.int q), .val (.ref b89), .unset, .unset] []))
          refine GoV.st (fun _ kq_ => XS.iload X89.here hx rfl (hb hby at_86) rfl kq_) ?_
          show GoV p e below s _ _ _ (T89.setTop (mkF m 88 #[.val (.int p0), .val (.int p1), .val (.int p2), .val (.int p3), .val (.int p4), .val (.int p5), .val (.int (p1 &&& (3 : Int32))), .val (.ref a), .val (.int (Int32.ofNat cs.length)), .val (.int (8 : Int32)), .val (.int q), .val (.ref b89), .unset, .unset] [(.int (8 : Int32))]))
          refine GoV.st (fun _ kq_ => XS.ifNo X89.here hx rfl (hb hby at_88) rfl (by decide) kq_) ?_
          show GoV p e below s _ _ _ (T89.setTop (mkF m 91 #[.val (.int p0), .val (.int p1), .val (.int p2), .val (.int p3), .val (.int p4), .val (.int p5), .val (.int (p1 &&& (3 : Int32))), .val (.ref a), .val (.int (Int32.ofNat cs.length)), .val (.int (8 : Int32)), .val (.int q), .val (.ref b89), .unset, .unset] []))
          refine GoV.st (fun _ kq_ => XS.aload X89.here hx rfl (hb hby at_91) rfl rfl kq_) ?_
          show GoV p e below s _ _ _ (T89.setTop (mkF m 93 #[.val (.int p0), .val (.int p1), .val (.int p2), .val (.int p3), .val (.int p4), .val (.int p5), .val (.int (p1 &&& (3 : Int32))), .val (.ref a), .val (.int (Int32.ofNat cs.length)), .val (.int (8 : Int32)), .val (.int q), .val (.ref b89), .unset, .unset] [(.ref b89)]))
          refine GoV.st (fun _ kq_ => XS.iconst X89.here hx rfl (hb hby at_93) kq_) ?_
          show GoV p e below s _ _ _ (T89.setTop (mkF m 94 #[.val (.int p0), .val (.int p1), .val (.int p2), .val (.int p3), .val (.int p4), .val (.int p5), .val (.int (p1 &&& (3 : Int32))), .val (.ref a), .val (.int (Int32.ofNat cs.length)), .val (.int (8 : Int32)), .val (.int q), .val (.ref b89), .unset, .unset] [(.int (0 : Int32)), (.ref b89)]))
          refine GoV.st (fun _ kq_ => XS.aload X89.here hx rfl (hb hby at_94) rfl rfl kq_) ?_
          show GoV p e below s _ _ _ (T89.setTop (mkF m 96 #[.val (.int p0), .val (.int p1), .val (.int p2), .val (.int p3), .val (.int p4), .val (.int p5), .val (.int (p1 &&& (3 : Int32))), .val (.ref a), .val (.int (Int32.ofNat cs.length)), .val (.int (8 : Int32)), .val (.int q), .val (.ref b89), .unset, .unset] [(.ref a), (.int (0 : Int32)), (.ref b89)]))
          refine GoV.st (fun _ kq_ => XS.iconst X89.here hx rfl (hb hby at_96) kq_) ?_
          show GoV p e below s _ _ _ (T89.setTop (mkF m 97 #[.val (.int p0), .val (.int p1), .val (.int p2), .val (.int p3), .val (.int p4), .val (.int p5), .val (.int (p1 &&& (3 : Int32))), .val (.ref a), .val (.int (Int32.ofNat cs.length)), .val (.int (8 : Int32)), .val (.int q), .val (.ref b89), .unset, .unset] [(.int (0 : Int32)), (.ref a), (.int (0 : Int32)), (.ref b89)]))
          refine GoV.st (fun _ kq_ => XS.iload X89.here hx rfl (hb hby at_97) rfl kq_) ?_
          show GoV p e below s _ _ _ (T89.setTop (mkF m 99 #[.val (.int p0), .val (.int p1), .val (.int p2), .val (.int p3), .val (.int p4), .val (.int p5), .val (.int (p1 &&& (3 : Int32))), .val (.ref a), .val (.int (Int32.ofNat cs.length)), .val (.int (8 : Int32)), .val (.int q), .val (.ref b89), .unset, .unset] [(.int q), (.int (0 : Int32)), (.ref a), (.int (0 : Int32)), (.ref b89)]))
          refine GoV.st (fun _ kq_ => XS.iloadN X89.here hx rfl (hb hby at_99) rfl kq_) ?_
          show GoV p e below s _ _ _ (T89.setTop (mkF m 100 #[.val (.int p0), .val (.int p1), .val (.int p2), .val (.int p3), .val (.int p4), .val (.int p5), .val (.int (p1 &&& (3 : Int32))), .val (.ref a), .val (.int (Int32.ofNat cs.length)), .val (.int (8 : Int32)), .val (.int q), .val (.ref b89), .unset, .unset] [(.int p3), (.int q), (.int (0 : Int32)), (.ref a), (.int (0 : Int32)), (.ref b89)]))
          refine GoV.st (fun _ kq_ => XS.iload X89.here hx rfl (hb hby at_100) rfl kq_) ?_
          show GoV p e below s _ _ _ (T89.setTop (mkF m 102 #[.val (.int p0), .val (.int p1), .val (.int p2), .val (.int p3), .val (.int p4), .val (.int p5), .val (.int (p1 &&& (3 : Int32))), .val (.ref a), .val (.int (Int32.ofNat cs.length)), .val (.int (8 : Int32)), .val (.int q), .val (.ref b89), .unset, .unset] [(.int p5), (.int p3), (.int q), (.int (0 : Int32)), (.ref a), (.int (0 : Int32)), (.ref b89)]))
          obtain ⟨_, _, ⟨T90, L90, k90, n90⟩, -, X90, ⟨Lc90, hQ90, l90, y90, z90⟩, st90⟩ := Jvm.LawKit.callS X89 hx (y := (⟨"com/example/pemmican/pemmican/DataTypeNamedPinLaw", "ch", "(Ljava/lang/String;IIII)C"⟩ : MethodName)) hown3 (mvT hZ3 (own_w hw 84 rfl)) (mvT hZ3 (own_w hw 85 rfl)) (mvT hZ3 (own_w hw 73 rfl)) (mvT hZ3 (own_w hw 86 rfl)) (by decide) (backOf (W := 2) (rmc l Z a0 hw [] a b kb N vs cs (0 : Int32) q p3 p5 zc fm h89 n0 O89 E_a F_a_coder F_a_value V_b hcB hbB hlB (by decide) SC hcs SF rf) hZ3 (own_w hw 86 rfl) (own_w hw 73 rfl) (by decide) (by decide)) (g := (mkF m 102 #[.val (.int p0), .val (.int p1), .val (.int p2), .val (.int p3), .val (.int p4), .val (.int p5), .val (.int (p1 &&& (3 : Int32))), .val (.ref a), .val (.int (Int32.ofNat cs.length)), .val (.int (8 : Int32)), .val (.int q), .val (.ref b89), .unset, .unset] [(.int p5), (.int p3), (.int q), (.int (0 : Int32)), (.ref a), (.int (0 : Int32)), (.ref b89)])) rfl (by rw [hml]; rfl) (argsL := [(.ref a), (.int (0 : Int32)), (.int q), (.int p3), (.int p5)]) (rest := [(.int (0 : Int32)), (.ref b89)]) (lenOf pd0_3 rfl) rfl (by show 2 * 0 + _ ≤ _; exact Nat.le_of_eq rfl) (hb hby at_102) (fun _ _ => ⟨rfl, e89, (by decide : 3 + 0 ≤ _), (by decide : 40 + 0 ≤ _)⟩)
          dsimp only [Pt.U, Pt.locs, Pt.cells, Pt.slots] at X90 l90 y90 z90 st90 hQ90
          subst y90 z90
          obtain ⟨r90, rfl, hr90, Nc90, e90⟩ := hQ90
          have N90 : Fr n0 L90 := by rw [l90]; exact Fr.app N3 Nc90
          refine GoV.st st90 ?_
          show GoV p e below s _ _ _ (T90.setTop (mkF m 105 #[.val (.int p0), .val (.int p1), .val (.int p2), .val (.int p3), .val (.int p4), .val (.int p5), .val (.int (p1 &&& (3 : Int32))), .val (.ref a), .val (.int (Int32.ofNat cs.length)), .val (.int (8 : Int32)), .val (.int q), .val (.ref b89), .unset, .unset] [(.int r90), (.int (0 : Int32)), (.ref b89)]))
          obtain ⟨T91, h91, X91, e91, W91, V91, st91⟩ := own_stC X90 hx hZ3 e90 V_b89 (j := (0 : Int32)) (by decide) (by decide) 0 rfl (Nat.le_of_ble_eq_true rfl) (g := (mkF m 105 #[.val (.int p0), .val (.int p1), .val (.int p2), .val (.int p3), .val (.int p4), .val (.int p5), .val (.int (p1 &&& (3 : Int32))), .val (.ref a), .val (.int (Int32.ofNat cs.length)), .val (.int (8 : Int32)), .val (.int q), .val (.ref b89), .unset, .unset] [(.int r90), (.int (0 : Int32)), (.ref b89)])) rfl rfl (hb hby at_105)
          obtain ⟨lc91, X91, N91⟩ := own_gen X91 (Fr.snoc X91 N90 g_b89)
          have O91 := O89.wr W91 g_b89
          have E_a := E_a.wr W91
          have F_a_coder := F_a_coder.other W91 (Or.inl ne_a_b89)
          have F_a_value := F_a_value.other W91 (Or.inl ne_a_b89)
          have V_b := V_b.other W91 ne_b_b89
          have C_a := C_a.other W91 ne_a_b89
          have C_b := C_b.other W91 ne_b_b89
          have hk91 := Nat.le_trans hk89 (Nat.le_of_eq W91.size.symm)
          have V_b89 : Arv Z h91 b89 k89 .char (8 : Int32) [(.int (nar .char r90)), (.int (0 : Int32)), (.int (0 : Int32)), (.int (0 : Int32)), (.int (0 : Int32)), (.int (0 : Int32)), (.int (0 : Int32)), (.int (0 : Int32))] (.int (0 : Int32)) := V91
          refine GoV.st st91 ?_
          show GoV p e below s _ _ _ (T91.setTop (mkF m 106 #[.val (.int p0), .val (.int p1), .val (.int p2), .val (.int p3), .val (.int p4), .val (.int p5), .val (.int (p1 &&& (3 : Int32))), .val (.ref a), .val (.int (Int32.ofNat cs.length)), .val (.int (8 : Int32)), .val (.int q), .val (.ref b89), .unset, .unset] []))
          refine GoV.st (fun _ kq_ => XS.iload X91.here hx rfl (hb hby at_106) rfl kq_) ?_
          show GoV p e below s _ _ _ (T91.setTop (mkF m 108 #[.val (.int p0), .val (.int p1), .val (.int p2), .val (.int p3), .val (.int p4), .val (.int p5), .val (.int (p1 &&& (3 : Int32))), .val (.ref a), .val (.int (Int32.ofNat cs.length)), .val (.int (8 : Int32)), .val (.int q), .val (.ref b89), .unset, .unset] [(.int (8 : Int32))]))
          refine GoV.st (fun _ kq_ => XS.iconst X91.here hx rfl (hb hby at_108) kq_) ?_
          show GoV p e below s _ _ _ (T91.setTop (mkF m 109 #[.val (.int p0), .val (.int p1), .val (.int p2), .val (.int p3), .val (.int p4), .val (.int p5), .val (.int (p1 &&& (3 : Int32))), .val (.ref a), .val (.int (Int32.ofNat cs.length)), .val (.int (8 : Int32)), .val (.int q), .val (.ref b89), .unset, .unset] [(.int (1 : Int32)), (.int (8 : Int32))]))
          refine GoV.st (fun _ kq_ => XS.icmpNo X91.here hx rfl (hb hby at_109) rfl (by decide) kq_) ?_
          show GoV p e below s _ _ _ (T91.setTop (mkF m 112 #[.val (.int p0), .val (.int p1), .val (.int p2), .val (.int p3), .val (.int p4), .val (.int p5), .val (.int (p1 &&& (3 : Int32))), .val (.ref a), .val (.int (Int32.ofNat cs.length)), .val (.int (8 : Int32)), .val (.int q), .val (.ref b89), .unset, .unset] []))
          refine GoV.st (fun _ kq_ => XS.aload X91.here hx rfl (hb hby at_112) rfl rfl kq_) ?_
          show GoV p e below s _ _ _ (T91.setTop (mkF m 114 #[.val (.int p0), .val (.int p1), .val (.int p2), .val (.int p3), .val (.int p4), .val (.int p5), .val (.int (p1 &&& (3 : Int32))), .val (.ref a), .val (.int (Int32.ofNat cs.length)), .val (.int (8 : Int32)), .val (.int q), .val (.ref b89), .unset, .unset] [(.ref b89)]))
          refine GoV.st (fun _ kq_ => XS.iconst X91.here hx rfl (hb hby at_114) kq_) ?_
          show GoV p e below s _ _ _ (T91.setTop (mkF m 115 #[.val (.int p0), .val (.int p1), .val (.int p2), .val (.int p3), .val (.int p4), .val (.int p5), .val (.int (p1 &&& (3 : Int32))), .val (.ref a), .val (.int (Int32.ofNat cs.length)), .val (.int (8 : Int32)), .val (.int q), .val (.ref b89), .unset, .unset] [(.int (1 : Int32)), (.ref b89)]))
          refine GoV.st (fun _ kq_ => XS.aload X91.here hx rfl (hb hby at_115) rfl rfl kq_) ?_
          show GoV p e below s _ _ _ (T91.setTop (mkF m 117 #[.val (.int p0), .val (.int p1), .val (.int p2), .val (.int p3), .val (.int p4), .val (.int p5), .val (.int (p1 &&& (3 : Int32))), .val (.ref a), .val (.int (Int32.ofNat cs.length)), .val (.int (8 : Int32)), .val (.int q), .val (.ref b89), .unset, .unset] [(.ref a), (.int (1 : Int32)), (.ref b89)]))
          refine GoV.st (fun _ kq_ => XS.iconst X91.here hx rfl (hb hby at_117) kq_) ?_
          show GoV p e below s _ _ _ (T91.setTop (mkF m 118 #[.val (.int p0), .val (.int p1), .val (.int p2), .val (.int p3), .val (.int p4), .val (.int p5), .val (.int (p1 &&& (3 : Int32))), .val (.ref a), .val (.int (Int32.ofNat cs.length)), .val (.int (8 : Int32)), .val (.int q), .val (.ref b89), .unset, .unset] [(.int (1 : Int32)), (.ref a), (.int (1 : Int32)), (.ref b89)]))
          refine GoV.st (fun _ kq_ => XS.iload X91.here hx rfl (hb hby at_118) rfl kq_) ?_
          show GoV p e below s _ _ _ (T91.setTop (mkF m 120 #[.val (.int p0), .val (.int p1), .val (.int p2), .val (.int p3), .val (.int p4), .val (.int p5), .val (.int (p1 &&& (3 : Int32))), .val (.ref a), .val (.int (Int32.ofNat cs.length)), .val (.int (8 : Int32)), .val (.int q), .val (.ref b89), .unset, .unset] [(.int q), (.int (1 : Int32)), (.ref a), (.int (1 : Int32)), (.ref b89)]))
          refine GoV.st (fun _ kq_ => XS.iloadN X91.here hx rfl (hb hby at_120) rfl kq_) ?_
          show GoV p e below s _ _ _ (T91.setTop (mkF m 121 #[.val (.int p0), .val (.int p1), .val (.int p2), .val (.int p3), .val (.int p4), .val (.int p5), .val (.int (p1 &&& (3 : Int32))), .val (.ref a), .val (.int (Int32.ofNat cs.length)), .val (.int (8 : Int32)), .val (.int q), .val (.ref b89), .unset, .unset] [(.int p3), (.int q), (.int (1 : Int32)), (.ref a), (.int (1 : Int32)), (.ref b89)]))
          refine GoV.st (fun _ kq_ => XS.iload X91.here hx rfl (hb hby at_121) rfl kq_) ?_
          show GoV p e below s _ _ _ (T91.setTop (mkF m 123 #[.val (.int p0), .val (.int p1), .val (.int p2), .val (.int p3), .val (.int p4), .val (.int p5), .val (.int (p1 &&& (3 : Int32))), .val (.ref a), .val (.int (Int32.ofNat cs.length)), .val (.int (8 : Int32)), .val (.int q), .val (.ref b89), .unset, .unset] [(.int p5), (.int p3), (.int q), (.int (1 : Int32)), (.ref a), (.int (1 : Int32)), (.ref b89)]))
          obtain ⟨_, _, ⟨T92, L92, k92, n92⟩, -, X92, ⟨Lc92, hQ92, l92, y92, z92⟩, st92⟩ := Jvm.LawKit.callS X91 hx (y := (⟨"com/example/pemmican/pemmican/DataTypeNamedPinLaw", "ch", "(Ljava/lang/String;IIII)C"⟩ : MethodName)) hown3 (mvT hZ3 (own_w hw 84 rfl)) (mvT hZ3 (own_w hw 85 rfl)) (mvT hZ3 (own_w hw 73 rfl)) (mvT hZ3 (own_w hw 86 rfl)) (by decide) (backOf (W := 2) (rmc l Z a0 hw [] a b kb N vs cs (1 : Int32) q p3 p5 zc fm h91 n0 O91 E_a F_a_coder F_a_value V_b hcB hbB hlB (by decide) SC hcs SF rf) hZ3 (own_w hw 86 rfl) (own_w hw 73 rfl) (by decide) (by decide)) (g := (mkF m 123 #[.val (.int p0), .val (.int p1), .val (.int p2), .val (.int p3), .val (.int p4), .val (.int p5), .val (.int (p1 &&& (3 : Int32))), .val (.ref a), .val (.int (Int32.ofNat cs.length)), .val (.int (8 : Int32)), .val (.int q), .val (.ref b89), .unset, .unset] [(.int p5), (.int p3), (.int q), (.int (1 : Int32)), (.ref a), (.int (1 : Int32)), (.ref b89)])) rfl (by rw [hml]; rfl) (argsL := [(.ref a), (.int (1 : Int32)), (.int q), (.int p3), (.int p5)]) (rest := [(.int (1 : Int32)), (.ref b89)]) (lenOf pd0_3 rfl) rfl (by show 2 * 0 + _ ≤ _; exact Nat.le_of_eq rfl) (hb hby at_123) (fun _ _ => ⟨rfl, e91, (by decide : 3 + 0 ≤ _), (by decide : 40 + 0 ≤ _)⟩)
          dsimp only [Pt.U, Pt.locs, Pt.cells, Pt.slots] at X92 l92 y92 z92 st92 hQ92
          subst y92 z92
          obtain ⟨r92, rfl, hr92, Nc92, e92⟩ := hQ92
          have N92 : Fr n0 L92 := by rw [l92]; exact Fr.app N91 Nc92
          refine GoV.st st92 ?_
          show GoV p e below s _ _ _ (T92.setTop (mkF m 126 #[.val (.int p0), .val (.int p1), .val (.int p2), .val (.int p3), .val (.int p4), .val (.int p5), .val (.int (p1 &&& (3 : Int32))), .val (.ref a), .val (.int (Int32.ofNat cs.length)), .val (.int (8 : Int32)), .val (.int q), .val (.ref b89), .unset, .unset] [(.int r92), (.int (1 : Int32)), (.ref b89)]))
          obtain ⟨T93, h93, X93, e93, W93, V93, st93⟩ := own_stC X92 hx hZ3 e92 V_b89 (j := (1 : Int32)) (by decide) (by decide) 1 rfl (Nat.le_of_ble_eq_true rfl) (g := (mkF m 126 #[.val (.int p0), .val (.int p1), .val (.int p2), .val (.int p3), .val (.int p4), .val (.int p5), .val (.int (p1 &&& (3 : Int32))), .val (.ref a), .val (.int (Int32.ofNat cs.length)), .val (.int (8 : Int32)), .val (.int q), .val (.ref b89), .unset, .unset] [(.int r92), (.int (1 : Int32)), (.ref b89)])) rfl rfl (hb hby at_126)
          obtain ⟨lc93, X93, N93⟩ := own_gen X93 (Fr.snoc X93 N92 g_b89)
          have O93 := O91.wr W93 g_b89
          have E_a := E_a.wr W93
          have F_a_coder := F_a_coder.other W93 (Or.inl ne_a_b89)
          have F_a_value := F_a_value.other W93 (Or.inl ne_a_b89)
          have V_b := V_b.other W93 ne_b_b89
          have C_a := C_a.other W93 ne_a_b89
          have C_b := C_b.other W93 ne_b_b89
          have hk93 := Nat.le_trans hk91 (Nat.le_of_eq W93.size.symm)
          have V_b89 : Arv Z h93 b89 k89 .char (8 : Int32) [(.int (nar .char r90)), (.int (nar .char r92)), (.int (0 : Int32)), (.int (0 : Int32)), (.int (0 : Int32)), (.int (0 : Int32)), (.int (0 : Int32)), (.int (0 : Int32))] (.int (0 : Int32)) := V93
          refine GoV.st st93 ?_
          show GoV p e below s _ _ _ (T93.setTop (mkF m 127 #[.val (.int p0), .val (.int p1), .val (.int p2), .val (.int p3), .val (.int p4), .val (.int p5), .val (.int (p1 &&& (3 : Int32))), .val (.ref a), .val (.int (Int32.ofNat cs.length)), .val (.int (8 : Int32)), .val (.int q), .val (.ref b89), .unset, .unset] []))
          refine GoV.st (fun _ kq_ => XS.iload X93.here hx rfl (hb hby at_127) rfl kq_) ?_
          show GoV p e below s _ _ _ (T93.setTop (mkF m 129 #[.val (.int p0), .val (.int p1), .val (.int p2), .val (.int p3), .val (.int p4), .val (.int p5), .val (.int (p1 &&& (3 : Int32))), .val (.ref a), .val (.int (Int32.ofNat cs.length)), .val (.int (8 : Int32)), .val (.int q), .val (.ref b89), .unset, .unset] [(.int (8 : Int32))]))
          refine GoV.st (fun _ kq_ => XS.iconst X93.here hx rfl (hb hby at_129) kq_) ?_
          show GoV p e below s _ _ _ (T93.setTop (mkF m 130 #[.val (.int p0), .val (.int p1), .val (.int p2), .val (.int p3), .val (.int p4), .val (.int p5), .val (.int (p1 &&& (3 : Int32))), .val (.ref a), .val (.int (Int32.ofNat cs.length)), .val (.int (8 : Int32)), .val (.int q), .val (.ref b89), .unset, .unset] [(.int (2 : Int32)), (.int (8 : Int32))]))
          refine GoV.st (fun _ kq_ => XS.icmpNo X93.here hx rfl (hb hby at_130) rfl (by decide) kq_) ?_
          show GoV p e below s _ _ _ (T93.setTop (mkF m 133 #[.val (.int p0), .val (.int p1), .val (.int p2), .val (.int p3), .val (.int p4), .val (.int p5), .val (.int (p1 &&& (3 : Int32))), .val (.ref a), .val (.int (Int32.ofNat cs.length)), .val (.int (8 : Int32)), .val (.int q), .val (.ref b89), .unset, .unset] []))
          refine GoV.st (fun _ kq_ => XS.aload X93.here hx rfl (hb hby at_133) rfl rfl kq_) ?_
          show GoV p e below s _ _ _ (T93.setTop (mkF m 135 #[.val (.int p0), .val (.int p1), .val (.int p2), .val (.int p3), .val (.int p4), .val (.int p5), .val (.int (p1 &&& (3 : Int32))), .val (.ref a), .val (.int (Int32.ofNat cs.length)), .val (.int (8 : Int32)), .val (.int q), .val (.ref b89), .unset, .unset] [(.ref b89)]))
          refine GoV.st (fun _ kq_ => XS.iconst X93.here hx rfl (hb hby at_135) kq_) ?_
          show GoV p e below s _ _ _ (T93.setTop (mkF m 136 #[.val (.int p0), .val (.int p1), .val (.int p2), .val (.int p3), .val (.int p4), .val (.int p5), .val (.int (p1 &&& (3 : Int32))), .val (.ref a), .val (.int (Int32.ofNat cs.length)), .val (.int (8 : Int32)), .val (.int q), .val (.ref b89), .unset, .unset] [(.int (2 : Int32)), (.ref b89)]))
          refine GoV.st (fun _ kq_ => XS.aload X93.here hx rfl (hb hby at_136) rfl rfl kq_) ?_
          show GoV p e below s _ _ _ (T93.setTop (mkF m 138 #[.val (.int p0), .val (.int p1), .val (.int p2), .val (.int p3), .val (.int p4), .val (.int p5), .val (.int (p1 &&& (3 : Int32))), .val (.ref a), .val (.int (Int32.ofNat cs.length)), .val (.int (8 : Int32)), .val (.int q), .val (.ref b89), .unset, .unset] [(.ref a), (.int (2 : Int32)), (.ref b89)]))
          refine GoV.st (fun _ kq_ => XS.iconst X93.here hx rfl (hb hby at_138) kq_) ?_
          show GoV p e below s _ _ _ (T93.setTop (mkF m 139 #[.val (.int p0), .val (.int p1), .val (.int p2), .val (.int p3), .val (.int p4), .val (.int p5), .val (.int (p1 &&& (3 : Int32))), .val (.ref a), .val (.int (Int32.ofNat cs.length)), .val (.int (8 : Int32)), .val (.int q), .val (.ref b89), .unset, .unset] [(.int (2 : Int32)), (.ref a), (.int (2 : Int32)), (.ref b89)]))
          refine GoV.st (fun _ kq_ => XS.iload X93.here hx rfl (hb hby at_139) rfl kq_) ?_
          show GoV p e below s _ _ _ (T93.setTop (mkF m 141 #[.val (.int p0), .val (.int p1), .val (.int p2), .val (.int p3), .val (.int p4), .val (.int p5), .val (.int (p1 &&& (3 : Int32))), .val (.ref a), .val (.int (Int32.ofNat cs.length)), .val (.int (8 : Int32)), .val (.int q), .val (.ref b89), .unset, .unset] [(.int q), (.int (2 : Int32)), (.ref a), (.int (2 : Int32)), (.ref b89)]))
          refine GoV.st (fun _ kq_ => XS.iloadN X93.here hx rfl (hb hby at_141) rfl kq_) ?_
          show GoV p e below s _ _ _ (T93.setTop (mkF m 142 #[.val (.int p0), .val (.int p1), .val (.int p2), .val (.int p3), .val (.int p4), .val (.int p5), .val (.int (p1 &&& (3 : Int32))), .val (.ref a), .val (.int (Int32.ofNat cs.length)), .val (.int (8 : Int32)), .val (.int q), .val (.ref b89), .unset, .unset] [(.int p3), (.int q), (.int (2 : Int32)), (.ref a), (.int (2 : Int32)), (.ref b89)]))
          refine GoV.st (fun _ kq_ => XS.iload X93.here hx rfl (hb hby at_142) rfl kq_) ?_
          show GoV p e below s _ _ _ (T93.setTop (mkF m 144 #[.val (.int p0), .val (.int p1), .val (.int p2), .val (.int p3), .val (.int p4), .val (.int p5), .val (.int (p1 &&& (3 : Int32))), .val (.ref a), .val (.int (Int32.ofNat cs.length)), .val (.int (8 : Int32)), .val (.int q), .val (.ref b89), .unset, .unset] [(.int p5), (.int p3), (.int q), (.int (2 : Int32)), (.ref a), (.int (2 : Int32)), (.ref b89)]))
          obtain ⟨_, _, ⟨T94, L94, k94, n94⟩, -, X94, ⟨Lc94, hQ94, l94, y94, z94⟩, st94⟩ := Jvm.LawKit.callS X93 hx (y := (⟨"com/example/pemmican/pemmican/DataTypeNamedPinLaw", "ch", "(Ljava/lang/String;IIII)C"⟩ : MethodName)) hown3 (mvT hZ3 (own_w hw 84 rfl)) (mvT hZ3 (own_w hw 85 rfl)) (mvT hZ3 (own_w hw 73 rfl)) (mvT hZ3 (own_w hw 86 rfl)) (by decide) (backOf (W := 2) (rmc l Z a0 hw [] a b kb N vs cs (2 : Int32) q p3 p5 zc fm h93 n0 O93 E_a F_a_coder F_a_value V_b hcB hbB hlB (by decide) SC hcs SF rf) hZ3 (own_w hw 86 rfl) (own_w hw 73 rfl) (by decide) (by decide)) (g := (mkF m 144 #[.val (.int p0), .val (.int p1), .val (.int p2), .val (.int p3), .val (.int p4), .val (.int p5), .val (.int (p1 &&& (3 : Int32))), .val (.ref a), .val (.int (Int32.ofNat cs.length)), .val (.int (8 : Int32)), .val (.int q), .val (.ref b89), .unset, .unset] [(.int p5), (.int p3), (.int q), (.int (2 : Int32)), (.ref a), (.int (2 : Int32)), (.ref b89)])) rfl (by rw [hml]; rfl) (argsL := [(.ref a), (.int (2 : Int32)), (.int q), (.int p3), (.int p5)]) (rest := [(.int (2 : Int32)), (.ref b89)]) (lenOf pd0_3 rfl) rfl (by show 2 * 0 + _ ≤ _; exact Nat.le_of_eq rfl) (hb hby at_144) (fun _ _ => ⟨rfl, e93, (by decide : 3 + 0 ≤ _), (by decide : 40 + 0 ≤ _)⟩)
          dsimp only [Pt.U, Pt.locs, Pt.cells, Pt.slots] at X94 l94 y94 z94 st94 hQ94
          subst y94 z94
          obtain ⟨r94, rfl, hr94, Nc94, e94⟩ := hQ94
          have N94 : Fr n0 L94 := by rw [l94]; exact Fr.app N93 Nc94
          refine GoV.st st94 ?_
          show GoV p e below s _ _ _ (T94.setTop (mkF m 147 #[.val (.int p0), .val (.int p1), .val (.int p2), .val (.int p3), .val (.int p4), .val (.int p5), .val (.int (p1 &&& (3 : Int32))), .val (.ref a), .val (.int (Int32.ofNat cs.length)), .val (.int (8 : Int32)), .val (.int q), .val (.ref b89), .unset, .unset] [(.int r94), (.int (2 : Int32)), (.ref b89)]))
          obtain ⟨T95, h95, X95, e95, W95, V95, st95⟩ := own_stC X94 hx hZ3 e94 V_b89 (j := (2 : Int32)) (by decide) (by decide) 2 rfl (Nat.le_of_ble_eq_true rfl) (g := (mkF m 147 #[.val (.int p0), .val (.int p1), .val (.int p2), .val (.int p3), .val (.int p4), .val (.int p5), .val (.int (p1 &&& (3 : Int32))), .val (.ref a), .val (.int (Int32.ofNat cs.length)), .val (.int (8 : Int32)), .val (.int q), .val (.ref b89), .unset, .unset] [(.int r94), (.int (2 : Int32)), (.ref b89)])) rfl rfl (hb hby at_147)
          obtain ⟨lc95, X95, N95⟩ := own_gen X95 (Fr.snoc X95 N94 g_b89)
          have O95 := O93.wr W95 g_b89
          have E_a := E_a.wr W95
          have F_a_coder := F_a_coder.other W95 (Or.inl ne_a_b89)
          have F_a_value := F_a_value.other W95 (Or.inl ne_a_b89)
          have V_b := V_b.other W95 ne_b_b89
          have C_a := C_a.other W95 ne_a_b89
          have C_b := C_b.other W95 ne_b_b89
          have hk95 := Nat.le_trans hk93 (Nat.le_of_eq W95.size.symm)
          have V_b89 : Arv Z h95 b89 k89 .char (8 : Int32) [(.int (nar .char r90)), (.int (nar .char r92)), (.int (nar .char r94)), (.int (0 : Int32)), (.int (0 : Int32)), (.int (0 : Int32)), (.int (0 : Int32)), (.int (0 : Int32))] (.int (0 : Int32)) := V95
          refine GoV.st st95 ?_
          show GoV p e below s _ _ _ (T95.setTop (mkF m 148 #[.val (.int p0), .val (.int p1), .val (.int p2), .val (.int p3), .val (.int p4), .val (.int p5), .val (.int (p1 &&& (3 : Int32))), .val (.ref a), .val (.int (Int32.ofNat cs.length)), .val (.int (8 : Int32)), .val (.int q), .val (.ref b89), .unset, .unset] []))
          refine GoV.st (fun _ kq_ => XS.iload X95.here hx rfl (hb hby at_148) rfl kq_) ?_
          show GoV p e below s _ _ _ (T95.setTop (mkF m 150 #[.val (.int p0), .val (.int p1), .val (.int p2), .val (.int p3), .val (.int p4), .val (.int p5), .val (.int (p1 &&& (3 : Int32))), .val (.ref a), .val (.int (Int32.ofNat cs.length)), .val (.int (8 : Int32)), .val (.int q), .val (.ref b89), .unset, .unset] [(.int (8 : Int32))]))
          refine GoV.st (fun _ kq_ => XS.iconst X95.here hx rfl (hb hby at_150) kq_) ?_
          show GoV p e below s _ _ _ (T95.setTop (mkF m 151 #[.val (.int p0), .val (.int p1), .val (.int p2), .val (.int p3), .val (.int p4), .val (.int p5), .val (.int (p1 &&& (3 : Int32))), .val (.ref a), .val (.int (Int32.ofNat cs.length)), .val (.int (8 : Int32)), .val (.int q), .val (.ref b89), .unset, .unset] [(.int (3 : Int32)), (.int (8 : Int32))]))
          refine GoV.st (fun _ kq_ => XS.icmpNo X95.here hx rfl (hb hby at_151) rfl (by decide) kq_) ?_
          show GoV p e below s _ _ _ (T95.setTop (mkF m 154 #[.val (.int p0), .val (.int p1), .val (.int p2), .val (.int p3), .val (.int p4), .val (.int p5), .val (.int (p1 &&& (3 : Int32))), .val (.ref a), .val (.int (Int32.ofNat cs.length)), .val (.int (8 : Int32)), .val (.int q), .val (.ref b89), .unset, .unset] []))
          refine GoV.st (fun _ kq_ => XS.aload X95.here hx rfl (hb hby at_154) rfl rfl kq_) ?_
          show GoV p e below s _ _ _ (T95.setTop (mkF m 156 #[.val (.int p0), .val (.int p1), .val (.int p2), .val (.int p3), .val (.int p4), .val (.int p5), .val (.int (p1 &&& (3 : Int32))), .val (.ref a), .val (.int (Int32.ofNat cs.length)), .val (.int (8 : Int32)), .val (.int q), .val (.ref b89), .unset, .unset] [(.ref b89)]))
          refine GoV.st (fun _ kq_ => XS.iconst X95.here hx rfl (hb hby at_156) kq_) ?_
          show GoV p e below s _ _ _ (T95.setTop (mkF m 157 #[.val (.int p0), .val (.int p1), .val (.int p2), .val (.int p3), .val (.int p4), .val (.int p5), .val (.int (p1 &&& (3 : Int32))), .val (.ref a), .val (.int (Int32.ofNat cs.length)), .val (.int (8 : Int32)), .val (.int q), .val (.ref b89), .unset, .unset] [(.int (3 : Int32)), (.ref b89)]))
          refine GoV.st (fun _ kq_ => XS.aload X95.here hx rfl (hb hby at_157) rfl rfl kq_) ?_
          show GoV p e below s _ _ _ (T95.setTop (mkF m 159 #[.val (.int p0), .val (.int p1), .val (.int p2), .val (.int p3), .val (.int p4), .val (.int p5), .val (.int (p1 &&& (3 : Int32))), .val (.ref a), .val (.int (Int32.ofNat cs.length)), .val (.int (8 : Int32)), .val (.int q), .val (.ref b89), .unset, .unset] [(.ref a), (.int (3 : Int32)), (.ref b89)]))
          refine GoV.st (fun _ kq_ => XS.iconst X95.here hx rfl (hb hby at_159) kq_) ?_
          show GoV p e below s _ _ _ (T95.setTop (mkF m 160 #[.val (.int p0), .val (.int p1), .val (.int p2), .val (.int p3), .val (.int p4), .val (.int p5), .val (.int (p1 &&& (3 : Int32))), .val (.ref a), .val (.int (Int32.ofNat cs.length)), .val (.int (8 : Int32)), .val (.int q), .val (.ref b89), .unset, .unset] [(.int (3 : Int32)), (.ref a), (.int (3 : Int32)), (.ref b89)]))
          refine GoV.st (fun _ kq_ => XS.iload X95.here hx rfl (hb hby at_160) rfl kq_) ?_
          show GoV p e below s _ _ _ (T95.setTop (mkF m 162 #[.val (.int p0), .val (.int p1), .val (.int p2), .val (.int p3), .val (.int p4), .val (.int p5), .val (.int (p1 &&& (3 : Int32))), .val (.ref a), .val (.int (Int32.ofNat cs.length)), .val (.int (8 : Int32)), .val (.int q), .val (.ref b89), .unset, .unset] [(.int q), (.int (3 : Int32)), (.ref a), (.int (3 : Int32)), (.ref b89)]))
          refine GoV.st (fun _ kq_ => XS.iloadN X95.here hx rfl (hb hby at_162) rfl kq_) ?_
          show GoV p e below s _ _ _ (T95.setTop (mkF m 163 #[.val (.int p0), .val (.int p1), .val (.int p2), .val (.int p3), .val (.int p4), .val (.int p5), .val (.int (p1 &&& (3 : Int32))), .val (.ref a), .val (.int (Int32.ofNat cs.length)), .val (.int (8 : Int32)), .val (.int q), .val (.ref b89), .unset, .unset] [(.int p3), (.int q), (.int (3 : Int32)), (.ref a), (.int (3 : Int32)), (.ref b89)]))
          refine GoV.st (fun _ kq_ => XS.iload X95.here hx rfl (hb hby at_163) rfl kq_) ?_
          show GoV p e below s _ _ _ (T95.setTop (mkF m 165 #[.val (.int p0), .val (.int p1), .val (.int p2), .val (.int p3), .val (.int p4), .val (.int p5), .val (.int (p1 &&& (3 : Int32))), .val (.ref a), .val (.int (Int32.ofNat cs.length)), .val (.int (8 : Int32)), .val (.int q), .val (.ref b89), .unset, .unset] [(.int p5), (.int p3), (.int q), (.int (3 : Int32)), (.ref a), (.int (3 : Int32)), (.ref b89)]))
          obtain ⟨_, _, ⟨T96, L96, k96, n96⟩, -, X96, ⟨Lc96, hQ96, l96, y96, z96⟩, st96⟩ := Jvm.LawKit.callS X95 hx (y := (⟨"com/example/pemmican/pemmican/DataTypeNamedPinLaw", "ch", "(Ljava/lang/String;IIII)C"⟩ : MethodName)) hown3 (mvT hZ3 (own_w hw 84 rfl)) (mvT hZ3 (own_w hw 85 rfl)) (mvT hZ3 (own_w hw 73 rfl)) (mvT hZ3 (own_w hw 86 rfl)) (by decide) (backOf (W := 2) (rmc l Z a0 hw [] a b kb N vs cs (3 : Int32) q p3 p5 zc fm h95 n0 O95 E_a F_a_coder F_a_value V_b hcB hbB hlB (by decide) SC hcs SF rf) hZ3 (own_w hw 86 rfl) (own_w hw 73 rfl) (by decide) (by decide)) (g := (mkF m 165 #[.val (.int p0), .val (.int p1), .val (.int p2), .val (.int p3), .val (.int p4), .val (.int p5), .val (.int (p1 &&& (3 : Int32))), .val (.ref a), .val (.int (Int32.ofNat cs.length)), .val (.int (8 : Int32)), .val (.int q), .val (.ref b89), .unset, .unset] [(.int p5), (.int p3), (.int q), (.int (3 : Int32)), (.ref a), (.int (3 : Int32)), (.ref b89)])) rfl (by rw [hml]; rfl) (argsL := [(.ref a), (.int (3 : Int32)), (.int q), (.int p3), (.int p5)]) (rest := [(.int (3 : Int32)), (.ref b89)]) (lenOf pd0_3 rfl) rfl (by show 2 * 0 + _ ≤ _; exact Nat.le_of_eq rfl) (hb hby at_165) (fun _ _ => ⟨rfl, e95, (by decide : 3 + 0 ≤ _), (by decide : 40 + 0 ≤ _)⟩)
          dsimp only [Pt.U, Pt.locs, Pt.cells, Pt.slots] at X96 l96 y96 z96 st96 hQ96
          subst y96 z96
          obtain ⟨r96, rfl, hr96, Nc96, e96⟩ := hQ96
          have N96 : Fr n0 L96 := by rw [l96]; exact Fr.app N95 Nc96
          refine GoV.st st96 ?_
          show GoV p e below s _ _ _ (T96.setTop (mkF m 168 #[.val (.int p0), .val (.int p1), .val (.int p2), .val (.int p3), .val (.int p4), .val (.int p5), .val (.int (p1 &&& (3 : Int32))), .val (.ref a), .val (.int (Int32.ofNat cs.length)), .val (.int (8 : Int32)), .val (.int q), .val (.ref b89), .unset, .unset] [(.int r96), (.int (3 : Int32)), (.ref b89)]))
          obtain ⟨T97, h97, X97, e97, W97, V97, st97⟩ := own_stC X96 hx hZ3 e96 V_b89 (j := (3 : Int32)) (by decide) (by decide) 3 rfl (Nat.le_of_ble_eq_true rfl) (g := (mkF m 168 #[.val (.int p0), .val (.int p1), .val (.int p2), .val (.int p3), .val (.int p4), .val (.int p5), .val (.int (p1 &&& (3 : Int32))), .val (.ref a), .val (.int (Int32.ofNat cs.length)), .val (.int (8 : Int32)), .val (.int q), .val (.ref b89), .unset, .unset] [(.int r96), (.int (3 : Int32)), (.ref b89)])) rfl rfl (hb hby at_168)
          obtain ⟨lc97, X97, N97⟩ := own_gen X97 (Fr.snoc X97 N96 g_b89)
          have O97 := O95.wr W97 g_b89
          have E_a := E_a.wr W97
          have F_a_coder := F_a_coder.other W97 (Or.inl ne_a_b89)
          have F_a_value := F_a_value.other W97 (Or.inl ne_a_b89)
          have V_b := V_b.other W97 ne_b_b89
          have C_a := C_a.other W97 ne_a_b89
          have C_b := C_b.other W97 ne_b_b89
          have hk97 := Nat.le_trans hk95 (Nat.le_of_eq W97.size.symm)
          have V_b89 : Arv Z h97 b89 k89 .char (8 : Int32) [(.int (nar .char r90)), (.int (nar .char r92)), (.int (nar .char r94)), (.int (nar .char r96)), (.int (0 : Int32)), (.int (0 : Int32)), (.int (0 : Int32)), (.int (0 : Int32))] (.int (0 : Int32)) := V97
          refine GoV.st st97 ?_
          show GoV p e below s _ _ _ (T97.setTop (mkF m 169 #[.val (.int p0), .val (.int p1), .val (.int p2), .val (.int p3), .val (.int p4), .val (.int p5), .val (.int (p1 &&& (3 : Int32))), .val (.ref a), .val (.int (Int32.ofNat cs.length)), .val (.int (8 : Int32)), .val (.int q), .val (.ref b89), .unset, .unset] []))
          refine GoV.st (fun _ kq_ => XS.iload X97.here hx rfl (hb hby at_169) rfl kq_) ?_
          show GoV p e below s _ _ _ (T97.setTop (mkF m 171 #[.val (.int p0), .val (.int p1), .val (.int p2), .val (.int p3), .val (.int p4), .val (.int p5), .val (.int (p1 &&& (3 : Int32))), .val (.ref a), .val (.int (Int32.ofNat cs.length)), .val (.int (8 : Int32)), .val (.int q), .val (.ref b89), .unset, .unset] [(.int (8 : Int32))]))
          refine GoV.st (fun _ kq_ => XS.iconst X97.here hx rfl (hb hby at_171) kq_) ?_
          show GoV p e below s _ _ _ (T97.setTop (mkF m 172 #[.val (.int p0), .val (.int p1), .val (.int p2), .val (.int p3), .val (.int p4), .val (.int p5), .val (.int (p1 &&& (3 : Int32))), .val (.ref a), .val (.int (Int32.ofNat cs.length)), .val (.int (8 : Int32)), .val (.int q), .val (.ref b89), .unset, .unset] [(.int (4 : Int32)), (.int (8 : Int32))]))
          refine GoV.st (fun _ kq_ => XS.icmpNo X97.here hx rfl (hb hby at_172) rfl (by decide) kq_) ?_
          show GoV p e below s _ _ _ (T97.setTop (mkF m 175 #[.val (.int p0), .val (.int p1), .val (.int p2), .val (.int p3), .val (.int p4), .val (.int p5), .val (.int (p1 &&& (3 : Int32))), .val (.ref a), .val (.int (Int32.ofNat cs.length)), .val (.int (8 : Int32)), .val (.int q), .val (.ref b89), .unset, .unset] []))
          refine GoV.st (fun _ kq_ => XS.aload X97.here hx rfl (hb hby at_175) rfl rfl kq_) ?_
          show GoV p e below s _ _ _ (T97.setTop (mkF m 177 #[.val (.int p0), .val (.int p1), .val (.int p2), .val (.int p3), .val (.int p4), .val (.int p5), .val (.int (p1 &&& (3 : Int32))), .val (.ref a), .val (.int (Int32.ofNat cs.length)), .val (.int (8 : Int32)), .val (.int q), .val (.ref b89), .unset, .unset] [(.ref b89)]))
          refine GoV.st (fun _ kq_ => XS.iconst X97.here hx rfl (hb hby at_177) kq_) ?_
          show GoV p e below s _ _ _ (T97.setTop (mkF m 178 #[.val (.int p0), .val (.int p1), .val (.int p2), .val (.int p3), .val (.int p4), .val (.int p5), .val (.int (p1 &&& (3 : Int32))), .val (.ref a), .val (.int (Int32.ofNat cs.length)), .val (.int (8 : Int32)), .val (.int q), .val (.ref b89), .unset, .unset] [(.int (4 : Int32)), (.ref b89)]))
          refine GoV.st (fun _ kq_ => XS.aload X97.here hx rfl (hb hby at_178) rfl rfl kq_) ?_
          show GoV p e below s _ _ _ (T97.setTop (mkF m 180 #[.val (.int p0), .val (.int p1), .val (.int p2), .val (.int p3), .val (.int p4), .val (.int p5), .val (.int (p1 &&& (3 : Int32))), .val (.ref a), .val (.int (Int32.ofNat cs.length)), .val (.int (8 : Int32)), .val (.int q), .val (.ref b89), .unset, .unset] [(.ref a), (.int (4 : Int32)), (.ref b89)]))
          refine GoV.st (fun _ kq_ => XS.iconst X97.here hx rfl (hb hby at_180) kq_) ?_
          show GoV p e below s _ _ _ (T97.setTop (mkF m 181 #[.val (.int p0), .val (.int p1), .val (.int p2), .val (.int p3), .val (.int p4), .val (.int p5), .val (.int (p1 &&& (3 : Int32))), .val (.ref a), .val (.int (Int32.ofNat cs.length)), .val (.int (8 : Int32)), .val (.int q), .val (.ref b89), .unset, .unset] [(.int (4 : Int32)), (.ref a), (.int (4 : Int32)), (.ref b89)]))
          refine GoV.st (fun _ kq_ => XS.iload X97.here hx rfl (hb hby at_181) rfl kq_) ?_
          show GoV p e below s _ _ _ (T97.setTop (mkF m 183 #[.val (.int p0), .val (.int p1), .val (.int p2), .val (.int p3), .val (.int p4), .val (.int p5), .val (.int (p1 &&& (3 : Int32))), .val (.ref a), .val (.int (Int32.ofNat cs.length)), .val (.int (8 : Int32)), .val (.int q), .val (.ref b89), .unset, .unset] [(.int q), (.int (4 : Int32)), (.ref a), (.int (4 : Int32)), (.ref b89)]))
          refine GoV.st (fun _ kq_ => XS.iloadN X97.here hx rfl (hb hby at_183) rfl kq_) ?_
          show GoV p e below s _ _ _ (T97.setTop (mkF m 184 #[.val (.int p0), .val (.int p1), .val (.int p2), .val (.int p3), .val (.int p4), .val (.int p5), .val (.int (p1 &&& (3 : Int32))), .val (.ref a), .val (.int (Int32.ofNat cs.length)), .val (.int (8 : Int32)), .val (.int q), .val (.ref b89), .unset, .unset] [(.int p3), (.int q), (.int (4 : Int32)), (.ref a), (.int (4 : Int32)), (.ref b89)]))
          refine GoV.st (fun _ kq_ => XS.iload X97.here hx rfl (hb hby at_184) rfl kq_) ?_
          show GoV p e below s _ _ _ (T97.setTop (mkF m 186 #[.val (.int p0), .val (.int p1), .val (.int p2), .val (.int p3), .val (.int p4), .val (.int p5), .val (.int (p1 &&& (3 : Int32))), .val (.ref a), .val (.int (Int32.ofNat cs.length)), .val (.int (8 : Int32)), .val (.int q), .val (.ref b89), .unset, .unset] [(.int p5), (.int p3), (.int q), (.int (4 : Int32)), (.ref a), (.int (4 : Int32)), (.ref b89)]))
          obtain ⟨_, _, ⟨T98, L98, k98, n98⟩, -, X98, ⟨Lc98, hQ98, l98, y98, z98⟩, st98⟩ := Jvm.LawKit.callS X97 hx (y := (⟨"com/example/pemmican/pemmican/DataTypeNamedPinLaw", "ch", "(Ljava/lang/String;IIII)C"⟩ : MethodName)) hown3 (mvT hZ3 (own_w hw 84 rfl)) (mvT hZ3 (own_w hw 85 rfl)) (mvT hZ3 (own_w hw 73 rfl)) (mvT hZ3 (own_w hw 86 rfl)) (by decide) (backOf (W := 2) (rmc l Z a0 hw [] a b kb N vs cs (4 : Int32) q p3 p5 zc fm h97 n0 O97 E_a F_a_coder F_a_value V_b hcB hbB hlB (by decide) SC hcs SF rf) hZ3 (own_w hw 86 rfl) (own_w hw 73 rfl) (by decide) (by decide)) (g := (mkF m 186 #[.val (.int p0), .val (.int p1), .val (.int p2), .val (.int p3), .val (.int p4), .val (.int p5), .val (.int (p1 &&& (3 : Int32))), .val (.ref a), .val (.int (Int32.ofNat cs.length)), .val (.int (8 : Int32)), .val (.int q), .val (.ref b89), .unset, .unset] [(.int p5), (.int p3), (.int q), (.int (4 : Int32)), (.ref a), (.int (4 : Int32)), (.ref b89)])) rfl (by rw [hml]; rfl) (argsL := [(.ref a), (.int (4 : Int32)), (.int q), (.int p3), (.int p5)]) (rest := [(.int (4 : Int32)), (.ref b89)]) (lenOf pd0_3 rfl) rfl (by show 2 * 0 + _ ≤ _; exact Nat.le_of_eq rfl) (hb hby at_186) (fun _ _ => ⟨rfl, e97, (by decide : 3 + 0 ≤ _), (by decide : 40 + 0 ≤ _)⟩)
          dsimp only [Pt.U, Pt.locs, Pt.cells, Pt.slots] at X98 l98 y98 z98 st98 hQ98
          subst y98 z98
          obtain ⟨r98, rfl, hr98, Nc98, e98⟩ := hQ98
          have N98 : Fr n0 L98 := by rw [l98]; exact Fr.app N97 Nc98
          refine GoV.st st98 ?_
          show GoV p e below s _ _ _ (T98.setTop (mkF m 189 #[.val (.int p0), .val (.int p1), .val (.int p2), .val (.int p3), .val (.int p4), .val (.int p5), .val (.int (p1 &&& (3 : Int32))), .val (.ref a), .val (.int (Int32.ofNat cs.length)), .val (.int (8 : Int32)), .val (.int q), .val (.ref b89), .unset, .unset] [(.int r98), (.int (4 : Int32)), (.ref b89)]))
          obtain ⟨T99, h99, X99, e99, W99, V99, st99⟩ := own_stC X98 hx hZ3 e98 V_b89 (j := (4 : Int32)) (by decide) (by decide) 4 rfl (Nat.le_of_ble_eq_true rfl) (g := (mkF m 189 #[.val (.int p0), .val (.int p1), .val (.int p2), .val (.int p3), .val (.int p4), .val (.int p5), .val (.int (p1 &&& (3 : Int32))), .val (.ref a), .val (.int (Int32.ofNat cs.length)), .val (.int (8 : Int32)), .val (.int q), .val (.ref b89), .unset, .unset] [(.int r98), (.int (4 : Int32)), (.ref b89)])) rfl rfl (hb hby at_189)
          obtain ⟨lc99, X99, N99⟩ := own_gen X99 (Fr.snoc X99 N98 g_b89)
          have O99 := O97.wr W99 g_b89
          have E_a := E_a.wr W99
          have F_a_coder := F_a_coder.other W99 (Or.inl ne_a_b89)
          have F_a_value := F_a_value.other W99 (Or.inl ne_a_b89)
          have V_b := V_b.other W99 ne_b_b89
          have C_a := C_a.other W99 ne_a_b89
          have C_b := C_b.other W99 ne_b_b89
          have hk99 := Nat.le_trans hk97 (Nat.le_of_eq W99.size.symm)
          have V_b89 : Arv Z h99 b89 k89 .char (8 : Int32) [(.int (nar .char r90)), (.int (nar .char r92)), (.int (nar .char r94)), (.int (nar .char r96)), (.int (nar .char r98)), (.int (0 : Int32)), (.int (0 : Int32)), (.int (0 : Int32))] (.int (0 : Int32)) := V99
          refine GoV.st st99 ?_
          show GoV p e below s _ _ _ (T99.setTop (mkF m 190 #[.val (.int p0), .val (.int p1), .val (.int p2), .val (.int p3), .val (.int p4), .val (.int p5), .val (.int (p1 &&& (3 : Int32))), .val (.ref a), .val (.int (Int32.ofNat cs.length)), .val (.int (8 : Int32)), .val (.int q), .val (.ref b89), .unset, .unset] []))
          refine GoV.st (fun _ kq_ => XS.iload X99.here hx rfl (hb hby at_190) rfl kq_) ?_
          show GoV p e below s _ _ _ (T99.setTop (mkF m 192 #[.val (.int p0), .val (.int p1), .val (.int p2), .val (.int p3), .val (.int p4), .val (.int p5), .val (.int (p1 &&& (3 : Int32))), .val (.ref a), .val (.int (Int32.ofNat cs.length)), .val (.int (8 : Int32)), .val (.int q), .val (.ref b89), .unset, .unset] [(.int (8 : Int32))]))
          refine GoV.st (fun _ kq_ => XS.iconst X99.here hx rfl (hb hby at_192) kq_) ?_
          show GoV p e below s _ _ _ (T99.setTop (mkF m 193 #[.val (.int p0), .val (.int p1), .val (.int p2), .val (.int p3), .val (.int p4), .val (.int p5), .val (.int (p1 &&& (3 : Int32))), .val (.ref a), .val (.int (Int32.ofNat cs.length)), .val (.int (8 : Int32)), .val (.int q), .val (.ref b89), .unset, .unset] [(.int (5 : Int32)), (.int (8 : Int32))]))
          refine GoV.st (fun _ kq_ => XS.icmpNo X99.here hx rfl (hb hby at_193) rfl (by decide) kq_) ?_
          show GoV p e below s _ _ _ (T99.setTop (mkF m 196 #[.val (.int p0), .val (.int p1), .val (.int p2), .val (.int p3), .val (.int p4), .val (.int p5), .val (.int (p1 &&& (3 : Int32))), .val (.ref a), .val (.int (Int32.ofNat cs.length)), .val (.int (8 : Int32)), .val (.int q), .val (.ref b89), .unset, .unset] []))
          refine GoV.st (fun _ kq_ => XS.aload X99.here hx rfl (hb hby at_196) rfl rfl kq_) ?_
          show GoV p e below s _ _ _ (T99.setTop (mkF m 198 #[.val (.int p0), .val (.int p1), .val (.int p2), .val (.int p3), .val (.int p4), .val (.int p5), .val (.int (p1 &&& (3 : Int32))), .val (.ref a), .val (.int (Int32.ofNat cs.length)), .val (.int (8 : Int32)), .val (.int q), .val (.ref b89), .unset, .unset] [(.ref b89)]))
          refine GoV.st (fun _ kq_ => XS.iconst X99.here hx rfl (hb hby at_198) kq_) ?_
          show GoV p e below s _ _ _ (T99.setTop (mkF m 199 #[.val (.int p0), .val (.int p1), .val (.int p2), .val (.int p3), .val (.int p4), .val (.int p5), .val (.int (p1 &&& (3 : Int32))), .val (.ref a), .val (.int (Int32.ofNat cs.length)), .val (.int (8 : Int32)), .val (.int q), .val (.ref b89), .unset, .unset] [(.int (5 : Int32)), (.ref b89)]))
          refine GoV.st (fun _ kq_ => XS.aload X99.here hx rfl (hb hby at_199) rfl rfl kq_) ?_
          show GoV p e below s _ _ _ (T99.setTop (mkF m 201 #[.val (.int p0), .val (.int p1), .val (.int p2), .val (.int p3), .val (.int p4), .val (.int p5), .val (.int (p1 &&& (3 : Int32))), .val (.ref a), .val (.int (Int32.ofNat cs.length)), .val (.int (8 : Int32)), .val (.int q), .val (.ref b89), .unset, .unset] [(.ref a), (.int (5 : Int32)), (.ref b89)]))
          refine GoV.st (fun _ kq_ => XS.iconst X99.here hx rfl (hb hby at_201) kq_) ?_
          show GoV p e below s _ _ _ (T99.setTop (mkF m 202 #[.val (.int p0), .val (.int p1), .val (.int p2), .val (.int p3), .val (.int p4), .val (.int p5), .val (.int (p1 &&& (3 : Int32))), .val (.ref a), .val (.int (Int32.ofNat cs.length)), .val (.int (8 : Int32)), .val (.int q), .val (.ref b89), .unset, .unset] [(.int (5 : Int32)), (.ref a), (.int (5 : Int32)), (.ref b89)]))
          refine GoV.st (fun _ kq_ => XS.iload X99.here hx rfl (hb hby at_202) rfl kq_) ?_
          show GoV p e below s _ _ _ (T99.setTop (mkF m 204 #[.val (.int p0), .val (.int p1), .val (.int p2), .val (.int p3), .val (.int p4), .val (.int p5), .val (.int (p1 &&& (3 : Int32))), .val (.ref a), .val (.int (Int32.ofNat cs.length)), .val (.int (8 : Int32)), .val (.int q), .val (.ref b89), .unset, .unset] [(.int q), (.int (5 : Int32)), (.ref a), (.int (5 : Int32)), (.ref b89)]))
          refine GoV.st (fun _ kq_ => XS.iloadN X99.here hx rfl (hb hby at_204) rfl kq_) ?_
          show GoV p e below s _ _ _ (T99.setTop (mkF m 205 #[.val (.int p0), .val (.int p1), .val (.int p2), .val (.int p3), .val (.int p4), .val (.int p5), .val (.int (p1 &&& (3 : Int32))), .val (.ref a), .val (.int (Int32.ofNat cs.length)), .val (.int (8 : Int32)), .val (.int q), .val (.ref b89), .unset, .unset] [(.int p3), (.int q), (.int (5 : Int32)), (.ref a), (.int (5 : Int32)), (.ref b89)]))
          refine GoV.st (fun _ kq_ => XS.iload X99.here hx rfl (hb hby at_205) rfl kq_) ?_
          show GoV p e below s _ _ _ (T99.setTop (mkF m 207 #[.val (.int p0), .val (.int p1), .val (.int p2), .val (.int p3), .val (.int p4), .val (.int p5), .val (.int (p1 &&& (3 : Int32))), .val (.ref a), .val (.int (Int32.ofNat cs.length)), .val (.int (8 : Int32)), .val (.int q), .val (.ref b89), .unset, .unset] [(.int p5), (.int p3), (.int q), (.int (5 : Int32)), (.ref a), (.int (5 : Int32)), (.ref b89)]))
          obtain ⟨_, _, ⟨T100, L100, k100, n100⟩, -, X100, ⟨Lc100, hQ100, l100, y100, z100⟩, st100⟩ := Jvm.LawKit.callS X99 hx (y := (⟨"com/example/pemmican/pemmican/DataTypeNamedPinLaw", "ch", "(Ljava/lang/String;IIII)C"⟩ : MethodName)) hown3 (mvT hZ3 (own_w hw 84 rfl)) (mvT hZ3 (own_w hw 85 rfl)) (mvT hZ3 (own_w hw 73 rfl)) (mvT hZ3 (own_w hw 86 rfl)) (by decide) (backOf (W := 2) (rmc l Z a0 hw [] a b kb N vs cs (5 : Int32) q p3 p5 zc fm h99 n0 O99 E_a F_a_coder F_a_value V_b hcB hbB hlB (by decide) SC hcs SF rf) hZ3 (own_w hw 86 rfl) (own_w hw 73 rfl) (by decide) (by decide)) (g := (mkF m 207 #[.val (.int p0), .val (.int p1), .val (.int p2), .val (.int p3), .val (.int p4), .val (.int p5), .val (.int (p1 &&& (3 : Int32))), .val (.ref a), .val (.int (Int32.ofNat cs.length)), .val (.int (8 : Int32)), .val (.int q), .val (.ref b89), .unset, .unset] [(.int p5), (.int p3), (.int q), (.int (5 : Int32)), (.ref a), (.int (5 : Int32)), (.ref b89)])) rfl (by rw [hml]; rfl) (argsL := [(.ref a), (.int (5 : Int32)), (.int q), (.int p3), (.int p5)]) (rest := [(.int (5 : Int32)), (.ref b89)]) (lenOf pd0_3 rfl) rfl (by show 2 * 0 + _ ≤ _; exact Nat.le_of_eq rfl) (hb hby at_207) (fun _ _ => ⟨rfl, e99, (by decide : 3 + 0 ≤ _), (by decide : 40 + 0 ≤ _)⟩)
          dsimp only [Pt.U, Pt.locs, Pt.cells, Pt.slots] at X100 l100 y100 z100 st100 hQ100
          subst y100 z100
          obtain ⟨r100, rfl, hr100, Nc100, e100⟩ := hQ100
          have N100 : Fr n0 L100 := by rw [l100]; exact Fr.app N99 Nc100
          refine GoV.st st100 ?_
          show GoV p e below s _ _ _ (T100.setTop (mkF m 210 #[.val (.int p0), .val (.int p1), .val (.int p2), .val (.int p3), .val (.int p4), .val (.int p5), .val (.int (p1 &&& (3 : Int32))), .val (.ref a), .val (.int (Int32.ofNat cs.length)), .val (.int (8 : Int32)), .val (.int q), .val (.ref b89), .unset, .unset] [(.int r100), (.int (5 : Int32)), (.ref b89)]))
          obtain ⟨T101, h101, X101, e101, W101, V101, st101⟩ := own_stC X100 hx hZ3 e100 V_b89 (j := (5 : Int32)) (by decide) (by decide) 5 rfl (Nat.le_of_ble_eq_true rfl) (g := (mkF m 210 #[.val (.int p0), .val (.int p1), .val (.int p2), .val (.int p3), .val (.int p4), .val (.int p5), .val (.int (p1 &&& (3 : Int32))), .val (.ref a), .val (.int (Int32.ofNat cs.length)), .val (.int (8 : Int32)), .val (.int q), .val (.ref b89), .unset, .unset] [(.int r100), (.int (5 : Int32)), (.ref b89)])) rfl rfl (hb hby at_210)
          obtain ⟨lc101, X101, N101⟩ := own_gen X101 (Fr.snoc X101 N100 g_b89)
          have O101 := O99.wr W101 g_b89
          have E_a := E_a.wr W101
          have F_a_coder := F_a_coder.other W101 (Or.inl ne_a_b89)
          have F_a_value := F_a_value.other W101 (Or.inl ne_a_b89)
          have V_b := V_b.other W101 ne_b_b89
          have C_a := C_a.other W101 ne_a_b89
          have C_b := C_b.other W101 ne_b_b89
          have hk101 := Nat.le_trans hk99 (Nat.le_of_eq W101.size.symm)
          have V_b89 : Arv Z h101 b89 k89 .char (8 : Int32) [(.int (nar .char r90)), (.int (nar .char r92)), (.int (nar .char r94)), (.int (nar .char r96)), (.int (nar .char r98)), (.int (nar .char r100)), (.int (0 : Int32)), (.int (0 : Int32))] (.int (0 : Int32)) := V101
          refine GoV.st st101 ?_
          show GoV p e below s _ _ _ (T101.setTop (mkF m 211 #[.val (.int p0), .val (.int p1), .val (.int p2), .val (.int p3), .val (.int p4), .val (.int p5), .val (.int (p1 &&& (3 : Int32))), .val (.ref a), .val (.int (Int32.ofNat cs.length)), .val (.int (8 : Int32)), .val (.int q), .val (.ref b89), .unset, .unset] []))
          refine GoV.st (fun _ kq_ => XS.iload X101.here hx rfl (hb hby at_211) rfl kq_) ?_
          show GoV p e below s _ _ _ (T101.setTop (mkF m 213 #[.val (.int p0), .val (.int p1), .val (.int p2), .val (.int p3), .val (.int p4), .val (.int p5), .val (.int (p1 &&& (3 : Int32))), .val (.ref a), .val (.int (Int32.ofNat cs.length)), .val (.int (8 : Int32)), .val (.int q), .val (.ref b89), .unset, .unset] [(.int (8 : Int32))]))
          refine GoV.st (fun _ kq_ => XS.bipush X101.here hx rfl (hb hby at_213) kq_) ?_
          show GoV p e below s _ _ _ (T101.setTop (mkF m 215 #[.val (.int p0), .val (.int p1), .val (.int p2), .val (.int p3), .val (.int p4), .val (.int p5), .val (.int (p1 &&& (3 : Int32))), .val (.ref a), .val (.int (Int32.ofNat cs.length)), .val (.int (8 : Int32)), .val (.int q), .val (.ref b89), .unset, .unset] [(.int (6 : Int32)), (.int (8 : Int32))]))
          refine GoV.st (fun _ kq_ => XS.icmpNo X101.here hx rfl (hb hby at_215) rfl (by decide) kq_) ?_
          show GoV p e below s _ _ _ (T101.setTop (mkF m 218 #[.val (.int p0), .val (.int p1), .val (.int p2), .val (.int p3), .val (.int p4), .val (.int p5), .val (.int (p1 &&& (3 : Int32))), .val (.ref a), .val (.int (Int32.ofNat cs.length)), .val (.int (8 : Int32)), .val (.int q), .val (.ref b89), .unset, .unset] []))
          refine GoV.st (fun _ kq_ => XS.aload X101.here hx rfl (hb hby at_218) rfl rfl kq_) ?_
          show GoV p e below s _ _ _ (T101.setTop (mkF m 220 #[.val (.int p0), .val (.int p1), .val (.int p2), .val (.int p3), .val (.int p4), .val (.int p5), .val (.int (p1 &&& (3 : Int32))), .val (.ref a), .val (.int (Int32.ofNat cs.length)), .val (.int (8 : Int32)), .val (.int q), .val (.ref b89), .unset, .unset] [(.ref b89)]))
          refine GoV.st (fun _ kq_ => XS.bipush X101.here hx rfl (hb hby at_220) kq_) ?_
          show GoV p e below s _ _ _ (T101.setTop (mkF m 222 #[.val (.int p0), .val (.int p1), .val (.int p2), .val (.int p3), .val (.int p4), .val (.int p5), .val (.int (p1 &&& (3 : Int32))), .val (.ref a), .val (.int (Int32.ofNat cs.length)), .val (.int (8 : Int32)), .val (.int q), .val (.ref b89), .unset, .unset] [(.int (6 : Int32)), (.ref b89)]))
          refine GoV.st (fun _ kq_ => XS.aload X101.here hx rfl (hb hby at_222) rfl rfl kq_) ?_
          show GoV p e below s _ _ _ (T101.setTop (mkF m 224 #[.val (.int p0), .val (.int p1), .val (.int p2), .val (.int p3), .val (.int p4), .val (.int p5), .val (.int (p1 &&& (3 : Int32))), .val (.ref a), .val (.int (Int32.ofNat cs.length)), .val (.int (8 : Int32)), .val (.int q), .val (.ref b89), .unset, .unset] [(.ref a), (.int (6 : Int32)), (.ref b89)]))
          refine GoV.st (fun _ kq_ => XS.bipush X101.here hx rfl (hb hby at_224) kq_) ?_
          show GoV p e below s _ _ _ (T101.setTop (mkF m 226 #[.val (.int p0), .val (.int p1), .val (.int p2), .val (.int p3), .val (.int p4), .val (.int p5), .val (.int (p1 &&& (3 : Int32))), .val (.ref a), .val (.int (Int32.ofNat cs.length)), .val (.int (8 : Int32)), .val (.int q), .val (.ref b89), .unset, .unset] [(.int (6 : Int32)), (.ref a), (.int (6 : Int32)), (.ref b89)]))
          refine GoV.st (fun _ kq_ => XS.iload X101.here hx rfl (hb hby at_226) rfl kq_) ?_
          show GoV p e below s _ _ _ (T101.setTop (mkF m 228 #[.val (.int p0), .val (.int p1), .val (.int p2), .val (.int p3), .val (.int p4), .val (.int p5), .val (.int (p1 &&& (3 : Int32))), .val (.ref a), .val (.int (Int32.ofNat cs.length)), .val (.int (8 : Int32)), .val (.int q), .val (.ref b89), .unset, .unset] [(.int q), (.int (6 : Int32)), (.ref a), (.int (6 : Int32)), (.ref b89)]))
          refine GoV.st (fun _ kq_ => XS.iloadN X101.here hx rfl (hb hby at_228) rfl kq_) ?_
          show GoV p e below s _ _ _ (T101.setTop (mkF m 229 #[.val (.int p0), .val (.int p1), .val (.int p2), .val (.int p3), .val (.int p4), .val (.int p5), .val (.int (p1 &&& (3 : Int32))), .val (.ref a), .val (.int (Int32.ofNat cs.length)), .val (.int (8 : Int32)), .val (.int q), .val (.ref b89), .unset, .unset] [(.int p3), (.int q), (.int (6 : Int32)), (.ref a), (.int (6 : Int32)), (.ref b89)]))
          refine GoV.st (fun _ kq_ => XS.iload X101.here hx rfl (hb hby at_229) rfl kq_) ?_
          show GoV p e below s _ _ _ (T101.setTop (mkF m 231 #[.val (.int p0), .val (.int p1), .val (.int p2), .val (.int p3), .val (.int p4), .val (.int p5), .val (.int (p1 &&& (3 : Int32))), .val (.ref a), .val (.int (Int32.ofNat cs.length)), .val (.int (8 : Int32)), .val (.int q), .val (.ref b89), .unset, .unset] [(.int p5), (.int p3), (.int q), (.int (6 : Int32)), (.ref a), (.int (6 : Int32)), (.ref b89)]))
          obtain ⟨_, _, ⟨T102, L102, k102, n102⟩, -, X102, ⟨Lc102, hQ102, l102, y102, z102⟩, st102⟩ := Jvm.LawKit.callS X101 hx (y := (⟨"com/example/pemmican/pemmican/DataTypeNamedPinLaw", "ch", "(Ljava/lang/String;IIII)C"⟩ : MethodName)) hown3 (mvT hZ3 (own_w hw 84 rfl)) (mvT hZ3 (own_w hw 85 rfl)) (mvT hZ3 (own_w hw 73 rfl)) (mvT hZ3 (own_w hw 86 rfl)) (by decide) (backOf (W := 2) (rmc l Z a0 hw [] a b kb N vs cs (6 : Int32) q p3 p5 zc fm h101 n0 O101 E_a F_a_coder F_a_value V_b hcB hbB hlB (by decide) SC hcs SF rf) hZ3 (own_w hw 86 rfl) (own_w hw 73 rfl) (by decide) (by decide)) (g := (mkF m 231 #[.val (.int p0), .val (.int p1), .val (.int p2), .val (.int p3), .val (.int p4), .val (.int p5), .val (.int (p1 &&& (3 : Int32))), .val (.ref a), .val (.int (Int32.ofNat cs.length)), .val (.int (8 : Int32)), .val (.int q), .val (.ref b89), .unset, .unset] [(.int p5), (.int p3), (.int q), (.int (6 : Int32)), (.ref a), (.int (6 : Int32)), (.ref b89)])) rfl (by rw [hml]; rfl) (argsL := [(.ref a), (.int (6 : Int32)), (.int q), (.int p3), (.int p5)]) (rest := [(.int (6 : Int32)), (.ref b89)]) (lenOf pd0_3 rfl) rfl (by show 2 * 0 + _ ≤ _; exact Nat.le_of_eq rfl) (hb hby at_231) (fun _ _ => ⟨rfl, e101, (by decide : 3 + 0 ≤ _), (by decide : 40 + 0 ≤ _)⟩)
          dsimp only [Pt.U, Pt.locs, Pt.cells, Pt.slots] at X102 l102 y102 z102 st102 hQ102
          subst y102 z102
          obtain ⟨r102, rfl, hr102, Nc102, e102⟩ := hQ102
          have N102 : Fr n0 L102 := by rw [l102]; exact Fr.app N101 Nc102
          refine GoV.st st102 ?_
          show GoV p e below s _ _ _ (T102.setTop (mkF m 234 #[.val (.int p0), .val (.int p1), .val (.int p2), .val (.int p3), .val (.int p4), .val (.int p5), .val (.int (p1 &&& (3 : Int32))), .val (.ref a), .val (.int (Int32.ofNat cs.length)), .val (.int (8 : Int32)), .val (.int q), .val (.ref b89), .unset, .unset] [(.int r102), (.int (6 : Int32)), (.ref b89)]))
          obtain ⟨T103, h103, X103, e103, W103, V103, st103⟩ := own_stC X102 hx hZ3 e102 V_b89 (j := (6 : Int32)) (by decide) (by decide) 6 rfl (Nat.le_of_ble_eq_true rfl) (g := (mkF m 234 #[.val (.int p0), .val (.int p1), .val (.int p2), .val (.int p3), .val (.int p4), .val (.int p5), .val (.int (p1 &&& (3 : Int32))), .val (.ref a), .val (.int (Int32.ofNat cs.length)), .val (.int (8 : Int32)), .val (.int q), .val (.ref b89), .unset, .unset] [(.int r102), (.int (6 : Int32)), (.ref b89)])) rfl rfl (hb hby at_234)
          obtain ⟨lc103, X103, N103⟩ := own_gen X103 (Fr.snoc X103 N102 g_b89)
          have O103 := O101.wr W103 g_b89
          have E_a := E_a.wr W103
          have F_a_coder := F_a_coder.other W103 (Or.inl ne_a_b89)
          have F_a_value := F_a_value.other W103 (Or.inl ne_a_b89)
          have V_b := V_b.other W103 ne_b_b89
          have C_a := C_a.other W103 ne_a_b89
          have C_b := C_b.other W103 ne_b_b89
          have hk103 := Nat.le_trans hk101 (Nat.le_of_eq W103.size.symm)
          have V_b89 : Arv Z h103 b89 k89 .char (8 : Int32) [(.int (nar .char r90)), (.int (nar .char r92)), (.int (nar .char r94)), (.int (nar .char r96)), (.int (nar .char r98)), (.int (nar .char r100)), (.int (nar .char r102)), (.int (0 : Int32))] (.int (0 : Int32)) := V103
          refine GoV.st st103 ?_
          show GoV p e below s _ _ _ (T103.setTop (mkF m 235 #[.val (.int p0), .val (.int p1), .val (.int p2), .val (.int p3), .val (.int p4), .val (.int p5), .val (.int (p1 &&& (3 : Int32))), .val (.ref a), .val (.int (Int32.ofNat cs.length)), .val (.int (8 : Int32)), .val (.int q), .val (.ref b89), .unset, .unset] []))
          refine GoV.st (fun _ kq_ => XS.iload X103.here hx rfl (hb hby at_235) rfl kq_) ?_
          show GoV p e below s _ _ _ (T103.setTop (mkF m 237 #[.val (.int p0), .val (.int p1), .val (.int p2), .val (.int p3), .val (.int p4), .val (.int p5), .val (.int (p1 &&& (3 : Int32))), .val (.ref a), .val (.int (Int32.ofNat cs.length)), .val (.int (8 : Int32)), .val (.int q), .val (.ref b89), .unset, .unset] [(.int (8 : Int32))]))
          refine GoV.st (fun _ kq_ => XS.bipush X103.here hx rfl (hb hby at_237) kq_) ?_
          show GoV p e below s _ _ _ (T103.setTop (mkF m 239 #[.val (.int p0), .val (.int p1), .val (.int p2), .val (.int p3), .val (.int p4), .val (.int p5), .val (.int (p1 &&& (3 : Int32))), .val (.ref a), .val (.int (Int32.ofNat cs.length)), .val (.int (8 : Int32)), .val (.int q), .val (.ref b89), .unset, .unset] [(.int (7 : Int32)), (.int (8 : Int32))]))
          refine GoV.st (fun _ kq_ => XS.icmpNo X103.here hx rfl (hb hby at_239) rfl (by decide) kq_) ?_
          show GoV p e below s _ _ _ (T103.setTop (mkF m 242 #[.val (.int p0), .val (.int p1), .val (.int p2), .val (.int p3), .val (.int p4), .val (.int p5), .val (.int (p1 &&& (3 : Int32))), .val (.ref a), .val (.int (Int32.ofNat cs.length)), .val (.int (8 : Int32)), .val (.int q), .val (.ref b89), .unset, .unset] []))
          refine GoV.st (fun _ kq_ => XS.aload X103.here hx rfl (hb hby at_242) rfl rfl kq_) ?_
          show GoV p e below s _ _ _ (T103.setTop (mkF m 244 #[.val (.int p0), .val (.int p1), .val (.int p2), .val (.int p3), .val (.int p4), .val (.int p5), .val (.int (p1 &&& (3 : Int32))), .val (.ref a), .val (.int (Int32.ofNat cs.length)), .val (.int (8 : Int32)), .val (.int q), .val (.ref b89), .unset, .unset] [(.ref b89)]))
          refine GoV.st (fun _ kq_ => XS.bipush X103.here hx rfl (hb hby at_244) kq_) ?_
          show GoV p e below s _ _ _ (T103.setTop (mkF m 246 #[.val (.int p0), .val (.int p1), .val (.int p2), .val (.int p3), .val (.int p4), .val (.int p5), .val (.int (p1 &&& (3 : Int32))), .val (.ref a), .val (.int (Int32.ofNat cs.length)), .val (.int (8 : Int32)), .val (.int q), .val (.ref b89), .unset, .unset] [(.int (7 : Int32)), (.ref b89)]))
          refine GoV.st (fun _ kq_ => XS.aload X103.here hx rfl (hb hby at_246) rfl rfl kq_) ?_
          show GoV p e below s _ _ _ (T103.setTop (mkF m 248 #[.val (.int p0), .val (.int p1), .val (.int p2), .val (.int p3), .val (.int p4), .val (.int p5), .val (.int (p1 &&& (3 : Int32))), .val (.ref a), .val (.int (Int32.ofNat cs.length)), .val (.int (8 : Int32)), .val (.int q), .val (.ref b89), .unset, .unset] [(.ref a), (.int (7 : Int32)), (.ref b89)]))
          refine GoV.st (fun _ kq_ => XS.bipush X103.here hx rfl (hb hby at_248) kq_) ?_
          show GoV p e below s _ _ _ (T103.setTop (mkF m 250 #[.val (.int p0), .val (.int p1), .val (.int p2), .val (.int p3), .val (.int p4), .val (.int p5), .val (.int (p1 &&& (3 : Int32))), .val (.ref a), .val (.int (Int32.ofNat cs.length)), .val (.int (8 : Int32)), .val (.int q), .val (.ref b89), .unset, .unset] [(.int (7 : Int32)), (.ref a), (.int (7 : Int32)), (.ref b89)]))
          refine GoV.st (fun _ kq_ => XS.iload X103.here hx rfl (hb hby at_250) rfl kq_) ?_
          show GoV p e below s _ _ _ (T103.setTop (mkF m 252 #[.val (.int p0), .val (.int p1), .val (.int p2), .val (.int p3), .val (.int p4), .val (.int p5), .val (.int (p1 &&& (3 : Int32))), .val (.ref a), .val (.int (Int32.ofNat cs.length)), .val (.int (8 : Int32)), .val (.int q), .val (.ref b89), .unset, .unset] [(.int q), (.int (7 : Int32)), (.ref a), (.int (7 : Int32)), (.ref b89)]))
          refine GoV.st (fun _ kq_ => XS.iloadN X103.here hx rfl (hb hby at_252) rfl kq_) ?_
          show GoV p e below s _ _ _ (T103.setTop (mkF m 253 #[.val (.int p0), .val (.int p1), .val (.int p2), .val (.int p3), .val (.int p4), .val (.int p5), .val (.int (p1 &&& (3 : Int32))), .val (.ref a), .val (.int (Int32.ofNat cs.length)), .val (.int (8 : Int32)), .val (.int q), .val (.ref b89), .unset, .unset] [(.int p3), (.int q), (.int (7 : Int32)), (.ref a), (.int (7 : Int32)), (.ref b89)]))
          refine GoV.st (fun _ kq_ => XS.iload X103.here hx rfl (hb hby at_253) rfl kq_) ?_
          show GoV p e below s _ _ _ (T103.setTop (mkF m 255 #[.val (.int p0), .val (.int p1), .val (.int p2), .val (.int p3), .val (.int p4), .val (.int p5), .val (.int (p1 &&& (3 : Int32))), .val (.ref a), .val (.int (Int32.ofNat cs.length)), .val (.int (8 : Int32)), .val (.int q), .val (.ref b89), .unset, .unset] [(.int p5), (.int p3), (.int q), (.int (7 : Int32)), (.ref a), (.int (7 : Int32)), (.ref b89)]))
          obtain ⟨_, _, ⟨T104, L104, k104, n104⟩, -, X104, ⟨Lc104, hQ104, l104, y104, z104⟩, st104⟩ := Jvm.LawKit.callS X103 hx (y := (⟨"com/example/pemmican/pemmican/DataTypeNamedPinLaw", "ch", "(Ljava/lang/String;IIII)C"⟩ : MethodName)) hown3 (mvT hZ3 (own_w hw 84 rfl)) (mvT hZ3 (own_w hw 85 rfl)) (mvT hZ3 (own_w hw 73 rfl)) (mvT hZ3 (own_w hw 86 rfl)) (by decide) (backOf (W := 2) (rmc l Z a0 hw [] a b kb N vs cs (7 : Int32) q p3 p5 zc fm h103 n0 O103 E_a F_a_coder F_a_value V_b hcB hbB hlB (by decide) SC hcs SF rf) hZ3 (own_w hw 86 rfl) (own_w hw 73 rfl) (by decide) (by decide)) (g := (mkF m 255 #[.val (.int p0), .val (.int p1), .val (.int p2), .val (.int p3), .val (.int p4), .val (.int p5), .val (.int (p1 &&& (3 : Int32))), .val (.ref a), .val (.int (Int32.ofNat cs.length)), .val (.int (8 : Int32)), .val (.int q), .val (.ref b89), .unset, .unset] [(.int p5), (.int p3), (.int q), (.int (7 : Int32)), (.ref a), (.int (7 : Int32)), (.ref b89)])) rfl (by rw [hml]; rfl) (argsL := [(.ref a), (.int (7 : Int32)), (.int q), (.int p3), (.int p5)]) (rest := [(.int (7 : Int32)), (.ref b89)]) (lenOf pd0_3 rfl) rfl (by show 2 * 0 + _ ≤ _; exact Nat.le_of_eq rfl) (hb hby at_255) (fun _ _ => ⟨rfl, e103, (by decide : 3 + 0 ≤ _), (by decide : 40 + 0 ≤ _)⟩)
          dsimp only [Pt.U, Pt.locs, Pt.cells, Pt.slots] at X104 l104 y104 z104 st104 hQ104
          subst y104 z104
          obtain ⟨r104, rfl, hr104, Nc104, e104⟩ := hQ104
          have N104 : Fr n0 L104 := by rw [l104]; exact Fr.app N103 Nc104
          refine GoV.st st104 ?_
          show GoV p e below s _ _ _ (T104.setTop (mkF m 258 #[.val (.int p0), .val (.int p1), .val (.int p2), .val (.int p3), .val (.int p4), .val (.int p5), .val (.int (p1 &&& (3 : Int32))), .val (.ref a), .val (.int (Int32.ofNat cs.length)), .val (.int (8 : Int32)), .val (.int q), .val (.ref b89), .unset, .unset] [(.int r104), (.int (7 : Int32)), (.ref b89)]))
          obtain ⟨T105, h105, X105, e105, W105, V105, st105⟩ := own_stC X104 hx hZ3 e104 V_b89 (j := (7 : Int32)) (by decide) (by decide) 7 rfl (Nat.le_of_ble_eq_true rfl) (g := (mkF m 258 #[.val (.int p0), .val (.int p1), .val (.int p2), .val (.int p3), .val (.int p4), .val (.int p5), .val (.int (p1 &&& (3 : Int32))), .val (.ref a), .val (.int (Int32.ofNat cs.length)), .val (.int (8 : Int32)), .val (.int q), .val (.ref b89), .unset, .unset] [(.int r104), (.int (7 : Int32)), (.ref b89)])) rfl rfl (hb hby at_258)
          obtain ⟨lc105, X105, N105⟩ := own_gen X105 (Fr.snoc X105 N104 g_b89)
          have O105 := O103.wr W105 g_b89
          have E_a := E_a.wr W105
          have F_a_coder := F_a_coder.other W105 (Or.inl ne_a_b89)
          have F_a_value := F_a_value.other W105 (Or.inl ne_a_b89)
          have V_b := V_b.other W105 ne_b_b89
          have C_a := C_a.other W105 ne_a_b89
          have C_b := C_b.other W105 ne_b_b89
          have hk105 := Nat.le_trans hk103 (Nat.le_of_eq W105.size.symm)
          have V_b89 : Arv Z h105 b89 k89 .char (8 : Int32) [(.int (nar .char r90)), (.int (nar .char r92)), (.int (nar .char r94)), (.int (nar .char r96)), (.int (nar .char r98)), (.int (nar .char r100)), (.int (nar .char r102)), (.int (nar .char r104))] (.int (0 : Int32)) := V105
          refine GoV.st st105 ?_
          show GoV p e below s _ _ _ (T105.setTop (mkF m 259 #[.val (.int p0), .val (.int p1), .val (.int p2), .val (.int p3), .val (.int p4), .val (.int p5), .val (.int (p1 &&& (3 : Int32))), .val (.ref a), .val (.int (Int32.ofNat cs.length)), .val (.int (8 : Int32)), .val (.int q), .val (.ref b89), .unset, .unset] []))
          obtain ⟨T106, h106, X106, e106, E106, A106, D106, -, st106⟩ := newO X105 hx hZ3 hown3 (own_w hw 23 rfl) (own_w hw 2 rfl) (own_w hw 1 rfl) e105 (g := (mkF m 259 #[.val (.int p0), .val (.int p1), .val (.int p2), .val (.int p3), .val (.int p4), .val (.int p5), .val (.int (p1 &&& (3 : Int32))), .val (.ref a), .val (.int (Int32.ofNat cs.length)), .val (.int (8 : Int32)), .val (.int q), .val (.ref b89), .unset, .unset] [])) rfl (hb hby at_259) (by decide) (by decide)
          obtain ⟨a106, g106⟩ : ∃ z, z = h105.size := ⟨_, rfl⟩
          rw [← g106] at A106 D106 st106
          have g_a106 : n0 ≤ a106 := Nat.le_trans (own_old O105) (Nat.le_of_eq g106.symm)
          have ne_a_a106 : a ≠ a106 := by rw [g106]; exact Nat.ne_of_lt E_a.lt
          have ne_b_a106 : b ≠ a106 := by rw [g106]; exact Nat.ne_of_lt V_b.lt
          have ne_b89_a106 : b89 ≠ a106 := by rw [g106]; exact Nat.ne_of_lt V_b89.lt
          have E_a := E_a.ext E106
          have F_a_coder := F_a_coder.ext E106
          have F_a_value := F_a_value.ext E106
          have V_b := V_b.ext E106
          have C_a := C_a.ext E106
          have C_b := C_b.ext E106
          have V_b89 := V_b89.ext E106
          have hk106 := Nat.le_trans hk105 E106.1
          have O106 := O105.ext E106
          have E_a106 : Exa Z h106 a106 "java/lang/String" := A106
          have F_a106_value : Fld Z h106 a106 "java/lang/String" "value" "[B" .null := D106 (Or.inr (own_w hw 4 rfl)) (ty := (.array .byte)) (by decide)
          have F_a106_coder : Fld Z h106 a106 "java/lang/String" "coder" "B" (.int (0 : Int32)) := D106 (Or.inr (own_w hw 5 rfl)) (ty := .byte) (by decide)
          refine GoV.st st106 ?_
          show GoV p e below s _ _ _ (T106.setTop (mkF m 262 #[.val (.int p0), .val (.int p1), .val (.int p2), .val (.int p3), .val (.int p4), .val (.int p5), .val (.int (p1 &&& (3 : Int32))), .val (.ref a), .val (.int (Int32.ofNat cs.length)), .val (.int (8 : Int32)), .val (.int q), .val (.ref b89), .unset, .unset] [(.ref a106)]))
          refine GoV.st (fun _ kq_ => XS.dup X106.here hx rfl (hb hby at_262) rfl rfl kq_) ?_
          show GoV p e below s _ _ _ (T106.setTop (mkF m 263 #[.val (.int p0), .val (.int p1), .val (.int p2), .val (.int p3), .val (.int p4), .val (.int p5), .val (.int (p1 &&& (3 : Int32))), .val (.ref a), .val (.int (Int32.ofNat cs.length)), .val (.int (8 : Int32)), .val (.int q), .val (.ref b89), .unset, .unset] [(.ref a106), (.ref a106)]))
          refine GoV.st (fun _ kq_ => XS.aload X106.here hx rfl (hb hby at_263) rfl rfl kq_) ?_
          show GoV p e below s _ _ _ (T106.setTop (mkF m 265 #[.val (.int p0), .val (.int p1), .val (.int p2), .val (.int p3), .val (.int p4), .val (.int p5), .val (.int (p1 &&& (3 : Int32))), .val (.ref a), .val (.int (Int32.ofNat cs.length)), .val (.int (8 : Int32)), .val (.int q), .val (.ref b89), .unset, .unset] [(.ref b89), (.ref a106), (.ref a106)]))
          have hp : ∀ z ∈ ([(nar .char r90), (nar .char r92), (nar .char r94), (nar .char r96), (nar .char r98), (nar .char r100), (nar .char r102), (nar .char r104)] : List Int32), ¬ z < 0 ∧ ¬ (255 : Int32) < z := by
            intro z hz
            simp only [List.mem_cons, List.not_mem_nil, or_false] at hz
            rcases hz with rfl | rfl | rfl | rfl | rfl | rfl | rfl | rfl
            · exact (by rw [own_nc hr90]; exact hr90)
            · exact (by rw [own_nc hr92]; exact hr92)
            · exact (by rw [own_nc hr94]; exact hr94)
            · exact (by rw [own_nc hr96]; exact hr96)
            · exact (by rw [own_nc hr98]; exact hr98)
            · exact (by rw [own_nc hr100]; exact hr100)
            · exact (by rw [own_nc hr102]; exact hr102)
            · exact (by rw [own_nc hr104]; exact hr104)
          obtain ⟨_, _, ⟨T107, L107, k107, n107⟩, -, X107, ⟨Lc107, hQ107, l107, y107, z107⟩, st107⟩ := X106.specialBack hx (y := (⟨"java/lang/String", "<init>", "([C)V"⟩ : MethodName)) rfl hown3 (mvT hZ3 (own_w hw 24 rfl)) (mvT hZ3 (own_w hw 25 rfl)) (mvT hZ3 (own_w hw 26 rfl)) (by decide) (StrChars.Road.backV (W := 1) hZ3 hws (kI := 4) (own_w hw 2 rfl) (cs := ([(nar .char r90), (nar .char r92), (nar .char r94), (nar .char r96), (nar .char r98), (nar .char r100), (nar .char r102), (nar .char r104)] : List Int32)) (bs := ([(nar .char r90), (nar .char r92), (nar .char r94), (nar .char r96), (nar .char r98), (nar .char r100), (nar .char r102), (nar .char r104)] : List Int32).map (fun c => c.toInt8.toInt32)) (n := 8) g_a106 (own_old O106) E_a106 F_a106_value F_a106_coder V_b89 (SC.ext O106.2) hcs rfl rfl (by decide) (by decide) hp rfl (by decide) (by decide)) (g := (mkF m 265 #[.val (.int p0), .val (.int p1), .val (.int p2), .val (.int p3), .val (.int p4), .val (.int p5), .val (.int (p1 &&& (3 : Int32))), .val (.ref a), .val (.int (Int32.ofNat cs.length)), .val (.int (8 : Int32)), .val (.int q), .val (.ref b89), .unset, .unset] [(.ref b89), (.ref a106), (.ref a106)])) rfl (by rw [hml]; rfl) (Steps.refl _) (a := a106) (argsL := [(.ref b89)]) (rest := [(.ref a106)]) (lenOf pd0_2 rfl) rfl (by show 2 * 0 + _ ≤ _; exact Nat.le_of_eq rfl) (hb hby at_265) (fun _ _ => ⟨rfl, e106, (by decide : 4 + 1 ≤ _), (by decide : 44 + 8 ≤ _)⟩)
          dsimp only [Pt.U, Pt.locs, Pt.cells, Pt.slots] at X107 l107 y107 z107 st107 hQ107
          subst y107 z107
          obtain ⟨rfl, Nc107, Kc107, NE, NC, t107, kt107, gt107, szt107, -, NV, NB⟩ := hQ107
          have N107 : Fr n0 L107 := by rw [l107]; exact Fr.app N105 Nc107
          have E_a := E_a.keep Kc107
          have F_a_coder := F_a_coder.keep Kc107 (ninS ne_a_a106 nin0)
          have F_a_value := F_a_value.keep Kc107 (ninS ne_a_a106 nin0)
          have V_b := V_b.keep Kc107 (ninS ne_b_a106 nin0)
          have C_a := C_a.keep Kc107 (ninS ne_a_a106 nin0)
          have C_b := C_b.keep Kc107 (ninS ne_b_a106 nin0)
          have V_b89 := V_b89.keep Kc107 (ninS ne_b89_a106 nin0)
          have hk107 := Nat.le_trans hk106 Kc107.1
          have O107 := O106.keep Kc107 (allS g_a106 all0)
          have E_a106 : Exa Z T107.heap a106 "java/lang/String" := NE
          have F_a106_coder : Fld Z T107.heap a106 "java/lang/String" "coder" "B" (.int (0 : Int32)) := NC
          have F_a106_value : Fld Z T107.heap a106 "java/lang/String" "value" "[B" (.ref t107) := NV
          have V_t107 : Arv Z T107.heap t107 kt107 .byte (8 : Int32) ((([(nar .char r90), (nar .char r92), (nar .char r94), (nar .char r96), (nar .char r98), (nar .char r100), (nar .char r102), (nar .char r104)] : List Int32).map (fun c => c.toInt8.toInt32)).map Value.int) (.int (0 : Int32)) := NB
          refine GoV.tr st107 ?_
          show GoV p e below s _ _ _ (T107.setTop (mkF m 268 #[.val (.int p0), .val (.int p1), .val (.int p2), .val (.int p3), .val (.int p4), .val (.int p5), .val (.int (p1 &&& (3 : Int32))), .val (.ref a), .val (.int (Int32.ofNat cs.length)), .val (.int (8 : Int32)), .val (.int q), .val (.ref b89), .unset, .unset] [(.ref a106)]))
          exact JX a106 t107 _ _ _ ([(nar .char r90), (nar .char r92), (nar .char r94), (nar .char r96), (nar .char r98), (nar .char r100), (nar .char r102), (nar .char r104)] : List Int32) (8 : Int32) b89 _ (vm3) _ _ _ _ (X107.mono (by decide) (by decide)) rfl N107 O107 hS3 hk107 hZ3 hown3 I3 E_a F_a_coder F_a_value V_b C_a C_b E_a106 F_a106_coder F_a106_value V_t107 (StrChars.Road.codOf (n := 8) rfl (fun c hc => (hp c hc).2)) (own_up hp) (Nat.le_of_ble_eq_true rfl) (fun q hq => Or.inl (List.mem_singleton.mp hq))
      refine GoV.st (fun _ kq_ => XS.iload X2.here hx rfl (hb hby at_35) rfl kq_) ?_
      show GoV p e below s _ _ _ (T2.setTop (mkF m 37 #[.val (.int p0), .val (.int p1), .val (.int p2), .val (.int p3), .val (.int p4), .val (.int p5), .val (.int (p1 &&& (3 : Int32))), .val (.ref a), .val (.int (Int32.ofNat cs.length)), .unset, .unset, .unset, .unset, .unset] [(.int (p1 &&& (3 : Int32)))]))
      refine GoV.st (fun _ kq_ => XS.iconst X2.here hx rfl (hb hby at_37) kq_) ?_
      show GoV p e below s _ _ _ (T2.setTop (mkF m 38 #[.val (.int p0), .val (.int p1), .val (.int p2), .val (.int p3), .val (.int p4), .val (.int p5), .val (.int (p1 &&& (3 : Int32))), .val (.ref a), .val (.int (Int32.ofNat cs.length)), .unset, .unset, .unset, .unset, .unset] [(.int (1 : Int32)), (.int (p1 &&& (3 : Int32)))]))
      by_cases c38_108 : (1 : Int32) < (p1 &&& (3 : Int32))
      · refine GoV.st (fun _ kq_ => XS.icmpYes X2.here hx rfl (pc0 := 38) (pc' := 46) rfl (hb hby at_38) rfl (XT.ii_gt_t c38_108) (by decide) (by decide) kq_) ?_
        show GoV p e below s _ _ _ (T2.setTop (mkF m 46 #[.val (.int p0), .val (.int p1), .val (.int p2), .val (.int p3), .val (.int p4), .val (.int p5), .val (.int (p1 &&& (3 : Int32))), .val (.ref a), .val (.int (Int32.ofNat cs.length)), .unset, .unset, .unset, .unset, .unset] []))
        refine GoV.st (fun _ kq_ => XS.iload X2.here hx rfl (hb hby at_46) rfl kq_) ?_
        show GoV p e below s _ _ _ (T2.setTop (mkF m 48 #[.val (.int p0), .val (.int p1), .val (.int p2), .val (.int p3), .val (.int p4), .val (.int p5), .val (.int (p1 &&& (3 : Int32))), .val (.ref a), .val (.int (Int32.ofNat cs.length)), .unset, .unset, .unset, .unset, .unset] [(.int p4)]))
        refine GoV.st (fun _ kq_ => X2.ldcI hx hown1 (mvT hZ1 (own_w hw 21 rfl)) rfl (hb hby at_48) kq_) ?_
        show GoV p e below s _ _ _ (T2.setTop (mkF m 50 #[.val (.int p0), .val (.int p1), .val (.int p2), .val (.int p3), .val (.int p4), .val (.int p5), .val (.int (p1 &&& (3 : Int32))), .val (.ref a), .val (.int (Int32.ofNat cs.length)), .unset, .unset, .unset, .unset, .unset] [(.int (2147483647 : Int32)), (.int p4)]))
        refine GoV.st (fun _ kq_ => XS.iand X2.here hx rfl (hb hby at_50) rfl kq_) ?_
        show GoV p e below s _ _ _ (T2.setTop (mkF m 51 #[.val (.int p0), .val (.int p1), .val (.int p2), .val (.int p3), .val (.int p4), .val (.int p5), .val (.int (p1 &&& (3 : Int32))), .val (.ref a), .val (.int (Int32.ofNat cs.length)), .unset, .unset, .unset, .unset, .unset] [(.int (p4 &&& (2147483647 : Int32)))]))
        refine GoV.st (fun _ kq_ => XS.bipush X2.here hx rfl (hb hby at_51) kq_) ?_
        show GoV p e below s _ _ _ (T2.setTop (mkF m 53 #[.val (.int p0), .val (.int p1), .val (.int p2), .val (.int p3), .val (.int p4), .val (.int p5), .val (.int (p1 &&& (3 : Int32))), .val (.ref a), .val (.int (Int32.ofNat cs.length)), .unset, .unset, .unset, .unset, .unset] [(.int (9 : Int32)), (.int (p4 &&& (2147483647 : Int32)))]))
        refine GoV.st (fun _ kq_ => iremM X2 hx rfl (hb hby at_53) rfl (by decide) kq_) ?_
        show GoV p e below s _ _ _ (T2.setTop (mkF m 54 #[.val (.int p0), .val (.int p1), .val (.int p2), .val (.int p3), .val (.int p4), .val (.int p5), .val (.int (p1 &&& (3 : Int32))), .val (.ref a), .val (.int (Int32.ofNat cs.length)), .unset, .unset, .unset, .unset, .unset] [(.int ((p4 &&& (2147483647 : Int32)) % (9 : Int32)))]))
        refine GoV.st (fun _ kq_ => XS.istore X2.here hx rfl (hb hby at_54) rfl (l' := #[.val (.int p0), .val (.int p1), .val (.int p2), .val (.int p3), .val (.int p4), .val (.int p5), .val (.int (p1 &&& (3 : Int32))), .val (.ref a), .val (.int (Int32.ofNat cs.length)), .val (.int ((p4 &&& (2147483647 : Int32)) % (9 : Int32))), .unset, .unset, .unset, .unset]) rfl kq_) ?_
        show GoV p e below s _ _ _ (T2.setTop (mkF m 56 #[.val (.int p0), .val (.int p1), .val (.int p2), .val (.int p3), .val (.int p4), .val (.int p5), .val (.int (p1 &&& (3 : Int32))), .val (.ref a), .val (.int (Int32.ofNat cs.length)), .val (.int ((p4 &&& (2147483647 : Int32)) % (9 : Int32))), .unset, .unset, .unset, .unset] []))
        refine GoV.st (fun _ kq_ => XS.iload X2.here hx rfl (hb hby at_56) rfl kq_) ?_
        show GoV p e below s _ _ _ (T2.setTop (mkF m 58 #[.val (.int p0), .val (.int p1), .val (.int p2), .val (.int p3), .val (.int p4), .val (.int p5), .val (.int (p1 &&& (3 : Int32))), .val (.ref a), .val (.int (Int32.ofNat cs.length)), .val (.int ((p4 &&& (2147483647 : Int32)) % (9 : Int32))), .unset, .unset, .unset, .unset] [(.int (p1 &&& (3 : Int32)))]))
        refine GoV.st (fun _ kq_ => XS.iconst X2.here hx rfl (hb hby at_58) kq_) ?_
        show GoV p e below s _ _ _ (T2.setTop (mkF m 59 #[.val (.int p0), .val (.int p1), .val (.int p2), .val (.int p3), .val (.int p4), .val (.int p5), .val (.int (p1 &&& (3 : Int32))), .val (.ref a), .val (.int (Int32.ofNat cs.length)), .val (.int ((p4 &&& (2147483647 : Int32)) % (9 : Int32))), .unset, .unset, .unset, .unset] [(.int (1 : Int32)), (.int (p1 &&& (3 : Int32)))]))
        by_cases c59_109 : (p1 &&& (3 : Int32)) = (1 : Int32)
        · refine GoV.st (fun _ kq_ => XS.icmpNo X2.here hx rfl (hb hby at_59) rfl (XT.ii_ne_f c59_109) kq_) ?_
          show GoV p e below s _ _ _ (T2.setTop (mkF m 62 #[.val (.int p0), .val (.int p1), .val (.int p2), .val (.int p3), .val (.int p4), .val (.int p5), .val (.int (p1 &&& (3 : Int32))), .val (.ref a), .val (.int (Int32.ofNat cs.length)), .val (.int ((p4 &&& (2147483647 : Int32)) % (9 : Int32))), .unset, .unset, .unset, .unset] []))
          refine GoV.st (fun _ kq_ => XS.iload X2.here hx rfl (hb hby at_62) rfl kq_) ?_
          show GoV p e below s _ _ _ (T2.setTop (mkF m 64 #[.val (.int p0), .val (.int p1), .val (.int p2), .val (.int p3), .val (.int p4), .val (.int p5), .val (.int (p1 &&& (3 : Int32))), .val (.ref a), .val (.int (Int32.ofNat cs.length)), .val (.int ((p4 &&& (2147483647 : Int32)) % (9 : Int32))), .unset, .unset, .unset, .unset] [(.int (Int32.ofNat cs.length))]))
          by_cases c64_110 : (0 : Int32) < (Int32.ofNat cs.length)
          · refine GoV.st (fun _ kq_ => XS.ifNo X2.here hx rfl (hb hby at_64) rfl (XT.i0_le_f c64_110) kq_) ?_
            show GoV p e below s _ _ _ (T2.setTop (mkF m 67 #[.val (.int p0), .val (.int p1), .val (.int p2), .val (.int p3), .val (.int p4), .val (.int p5), .val (.int (p1 &&& (3 : Int32))), .val (.ref a), .val (.int (Int32.ofNat cs.length)), .val (.int ((p4 &&& (2147483647 : Int32)) % (9 : Int32))), .unset, .unset, .unset, .unset] []))
            refine GoV.st (fun _ kq_ => XS.iloadN X2.here hx rfl (hb hby at_67) rfl kq_) ?_
            show GoV p e below s _ _ _ (T2.setTop (mkF m 68 #[.val (.int p0), .val (.int p1), .val (.int p2), .val (.int p3), .val (.int p4), .val (.int p5), .val (.int (p1 &&& (3 : Int32))), .val (.ref a), .val (.int (Int32.ofNat cs.length)), .val (.int ((p4 &&& (2147483647 : Int32)) % (9 : Int32))), .unset, .unset, .unset, .unset] [(.int p2)]))
            refine GoV.st (fun _ kq_ => X2.ldcI hx hown1 (mvT hZ1 (own_w hw 21 rfl)) rfl (hb hby at_68) kq_) ?_
            show GoV p e below s _ _ _ (T2.setTop (mkF m 70 #[.val (.int p0), .val (.int p1), .val (.int p2), .val (.int p3), .val (.int p4), .val (.int p5), .val (.int (p1 &&& (3 : Int32))), .val (.ref a), .val (.int (Int32.ofNat cs.length)), .val (.int ((p4 &&& (2147483647 : Int32)) % (9 : Int32))), .unset, .unset, .unset, .unset] [(.int (2147483647 : Int32)), (.int p2)]))
            refine GoV.st (fun _ kq_ => XS.iand X2.here hx rfl (hb hby at_70) rfl kq_) ?_
            show GoV p e below s _ _ _ (T2.setTop (mkF m 71 #[.val (.int p0), .val (.int p1), .val (.int p2), .val (.int p3), .val (.int p4), .val (.int p5), .val (.int (p1 &&& (3 : Int32))), .val (.ref a), .val (.int (Int32.ofNat cs.length)), .val (.int ((p4 &&& (2147483647 : Int32)) % (9 : Int32))), .unset, .unset, .unset, .unset] [(.int (p2 &&& (2147483647 : Int32)))]))
            refine GoV.st (fun _ kq_ => XS.iload X2.here hx rfl (hb hby at_71) rfl kq_) ?_
            show GoV p e below s _ _ _ (T2.setTop (mkF m 73 #[.val (.int p0), .val (.int p1), .val (.int p2), .val (.int p3), .val (.int p4), .val (.int p5), .val (.int (p1 &&& (3 : Int32))), .val (.ref a), .val (.int (Int32.ofNat cs.length)), .val (.int ((p4 &&& (2147483647 : Int32)) % (9 : Int32))), .unset, .unset, .unset, .unset] [(.int (Int32.ofNat cs.length)), (.int (p2 &&& (2147483647 : Int32)))]))
            refine GoV.st (fun _ kq_ => iremM X2 hx rfl (hb hby at_73) rfl (fun e => absurd c64_110 (by rw [e]; decide)) kq_) ?_
            show GoV p e below s _ _ _ (T2.setTop (mkF m 74 #[.val (.int p0), .val (.int p1), .val (.int p2), .val (.int p3), .val (.int p4), .val (.int p5), .val (.int (p1 &&& (3 : Int32))), .val (.ref a), .val (.int (Int32.ofNat cs.length)), .val (.int ((p4 &&& (2147483647 : Int32)) % (9 : Int32))), .unset, .unset, .unset, .unset] [(.int ((p2 &&& (2147483647 : Int32)) % (Int32.ofNat cs.length)))]))
            refine GoV.st (fun _ kq_ => XS.goto X2.here hx rfl (pc0 := 74) (pc' := 78) rfl (hb hby at_74) (by decide) (by decide) kq_) ?_
            show GoV p e below s _ _ _ (T2.setTop (mkF m 78 #[.val (.int p0), .val (.int p1), .val (.int p2), .val (.int p3), .val (.int p4), .val (.int p5), .val (.int (p1 &&& (3 : Int32))), .val (.ref a), .val (.int (Int32.ofNat cs.length)), .val (.int ((p4 &&& (2147483647 : Int32)) % (9 : Int32))), .unset, .unset, .unset, .unset] [(.int ((p2 &&& (2147483647 : Int32)) % (Int32.ofNat cs.length)))]))
            refine GoV.st (fun _ kq_ => XS.istore X2.here hx rfl (hb hby at_78) rfl (l' := #[.val (.int p0), .val (.int p1), .val (.int p2), .val (.int p3), .val (.int p4), .val (.int p5), .val (.int (p1 &&& (3 : Int32))), .val (.ref a), .val (.int (Int32.ofNat cs.length)), .val (.int ((p4 &&& (2147483647 : Int32)) % (9 : Int32))), .val (.int ((p2 &&& (2147483647 : Int32)) % (Int32.ofNat cs.length))), .unset, .unset, .unset]) rfl kq_) ?_
            show GoV p e below s _ _ _ (T2.setTop (mkF m 80 #[.val (.int p0), .val (.int p1), .val (.int p2), .val (.int p3), .val (.int p4), .val (.int p5), .val (.int (p1 &&& (3 : Int32))), .val (.ref a), .val (.int (Int32.ofNat cs.length)), .val (.int ((p4 &&& (2147483647 : Int32)) % (9 : Int32))), .val (.int ((p2 &&& (2147483647 : Int32)) % (Int32.ofNat cs.length))), .unset, .unset, .unset] []))
            exact JN ((p4 &&& (2147483647 : Int32)) % (9 : Int32)) ((p2 &&& (2147483647 : Int32)) % (Int32.ofNat cs.length)) (vm1) _ _ _ _ X2 e2 N2 O1 hS1 hk1 hZ1 hown1 I1 E_a F_a_coder F_a_value V_b C_a C_b (own_rem p4 9 (by decide))
          · refine GoV.st (fun _ kq_ => XS.ifYes X2.here hx rfl (pc0 := 64) (pc' := 77) rfl (hb hby at_64) rfl (XT.i0_le_t c64_110) (by decide) (by decide) kq_) ?_
            show GoV p e below s _ _ _ (T2.setTop (mkF m 77 #[.val (.int p0), .val (.int p1), .val (.int p2), .val (.int p3), .val (.int p4), .val (.int p5), .val (.int (p1 &&& (3 : Int32))), .val (.ref a), .val (.int (Int32.ofNat cs.length)), .val (.int ((p4 &&& (2147483647 : Int32)) % (9 : Int32))), .unset, .unset, .unset, .unset] []))
            refine GoV.st (fun _ kq_ => XS.iconst X2.here hx rfl (hb hby at_77) kq_) ?_
            show GoV p e below s _ _ _ (T2.setTop (mkF m 78 #[.val (.int p0), .val (.int p1), .val (.int p2), .val (.int p3), .val (.int p4), .val (.int p5), .val (.int (p1 &&& (3 : Int32))), .val (.ref a), .val (.int (Int32.ofNat cs.length)), .val (.int ((p4 &&& (2147483647 : Int32)) % (9 : Int32))), .unset, .unset, .unset, .unset] [(.int (-1 : Int32))]))
            refine GoV.st (fun _ kq_ => XS.istore X2.here hx rfl (hb hby at_78) rfl (l' := #[.val (.int p0), .val (.int p1), .val (.int p2), .val (.int p3), .val (.int p4), .val (.int p5), .val (.int (p1 &&& (3 : Int32))), .val (.ref a), .val (.int (Int32.ofNat cs.length)), .val (.int ((p4 &&& (2147483647 : Int32)) % (9 : Int32))), .val (.int (-1 : Int32)), .unset, .unset, .unset]) rfl kq_) ?_
            show GoV p e below s _ _ _ (T2.setTop (mkF m 80 #[.val (.int p0), .val (.int p1), .val (.int p2), .val (.int p3), .val (.int p4), .val (.int p5), .val (.int (p1 &&& (3 : Int32))), .val (.ref a), .val (.int (Int32.ofNat cs.length)), .val (.int ((p4 &&& (2147483647 : Int32)) % (9 : Int32))), .val (.int (-1 : Int32)), .unset, .unset, .unset] []))
            exact JN ((p4 &&& (2147483647 : Int32)) % (9 : Int32)) (-1 : Int32) (vm1) _ _ _ _ X2 e2 N2 O1 hS1 hk1 hZ1 hown1 I1 E_a F_a_coder F_a_value V_b C_a C_b (own_rem p4 9 (by decide))
        · refine GoV.st (fun _ kq_ => XS.icmpYes X2.here hx rfl (pc0 := 59) (pc' := 77) rfl (hb hby at_59) rfl (XT.ii_ne_t c59_109) (by decide) (by decide) kq_) ?_
          show GoV p e below s _ _ _ (T2.setTop (mkF m 77 #[.val (.int p0), .val (.int p1), .val (.int p2), .val (.int p3), .val (.int p4), .val (.int p5), .val (.int (p1 &&& (3 : Int32))), .val (.ref a), .val (.int (Int32.ofNat cs.length)), .val (.int ((p4 &&& (2147483647 : Int32)) % (9 : Int32))), .unset, .unset, .unset, .unset] []))
          refine GoV.st (fun _ kq_ => XS.iconst X2.here hx rfl (hb hby at_77) kq_) ?_
          show GoV p e below s _ _ _ (T2.setTop (mkF m 78 #[.val (.int p0), .val (.int p1), .val (.int p2), .val (.int p3), .val (.int p4), .val (.int p5), .val (.int (p1 &&& (3 : Int32))), .val (.ref a), .val (.int (Int32.ofNat cs.length)), .val (.int ((p4 &&& (2147483647 : Int32)) % (9 : Int32))), .unset, .unset, .unset, .unset] [(.int (-1 : Int32))]))
          refine GoV.st (fun _ kq_ => XS.istore X2.here hx rfl (hb hby at_78) rfl (l' := #[.val (.int p0), .val (.int p1), .val (.int p2), .val (.int p3), .val (.int p4), .val (.int p5), .val (.int (p1 &&& (3 : Int32))), .val (.ref a), .val (.int (Int32.ofNat cs.length)), .val (.int ((p4 &&& (2147483647 : Int32)) % (9 : Int32))), .val (.int (-1 : Int32)), .unset, .unset, .unset]) rfl kq_) ?_
          show GoV p e below s _ _ _ (T2.setTop (mkF m 80 #[.val (.int p0), .val (.int p1), .val (.int p2), .val (.int p3), .val (.int p4), .val (.int p5), .val (.int (p1 &&& (3 : Int32))), .val (.ref a), .val (.int (Int32.ofNat cs.length)), .val (.int ((p4 &&& (2147483647 : Int32)) % (9 : Int32))), .val (.int (-1 : Int32)), .unset, .unset, .unset] []))
          exact JN ((p4 &&& (2147483647 : Int32)) % (9 : Int32)) (-1 : Int32) (vm1) _ _ _ _ X2 e2 N2 O1 hS1 hk1 hZ1 hown1 I1 E_a F_a_coder F_a_value V_b C_a C_b (own_rem p4 9 (by decide))
      · refine GoV.st (fun _ kq_ => XS.icmpNo X2.here hx rfl (hb hby at_38) rfl (XT.ii_gt_f c38_108) kq_) ?_
        show GoV p e below s _ _ _ (T2.setTop (mkF m 41 #[.val (.int p0), .val (.int p1), .val (.int p2), .val (.int p3), .val (.int p4), .val (.int p5), .val (.int (p1 &&& (3 : Int32))), .val (.ref a), .val (.int (Int32.ofNat cs.length)), .unset, .unset, .unset, .unset, .unset] []))
        refine GoV.st (fun _ kq_ => XS.iload X2.here hx rfl (hb hby at_41) rfl kq_) ?_
        show GoV p e below s _ _ _ (T2.setTop (mkF m 43 #[.val (.int p0), .val (.int p1), .val (.int p2), .val (.int p3), .val (.int p4), .val (.int p5), .val (.int (p1 &&& (3 : Int32))), .val (.ref a), .val (.int (Int32.ofNat cs.length)), .unset, .unset, .unset, .unset, .unset] [(.int (Int32.ofNat cs.length))]))
        refine GoV.st (fun _ kq_ => XS.goto X2.here hx rfl (pc0 := 43) (pc' := 54) rfl (hb hby at_43) (by decide) (by decide) kq_) ?_
        show GoV p e below s _ _ _ (T2.setTop (mkF m 54 #[.val (.int p0), .val (.int p1), .val (.int p2), .val (.int p3), .val (.int p4), .val (.int p5), .val (.int (p1 &&& (3 : Int32))), .val (.ref a), .val (.int (Int32.ofNat cs.length)), .unset, .unset, .unset, .unset, .unset] [(.int (Int32.ofNat cs.length))]))
        refine GoV.st (fun _ kq_ => XS.istore X2.here hx rfl (hb hby at_54) rfl (l' := #[.val (.int p0), .val (.int p1), .val (.int p2), .val (.int p3), .val (.int p4), .val (.int p5), .val (.int (p1 &&& (3 : Int32))), .val (.ref a), .val (.int (Int32.ofNat cs.length)), .val (.int (Int32.ofNat cs.length)), .unset, .unset, .unset, .unset]) rfl kq_) ?_
        show GoV p e below s _ _ _ (T2.setTop (mkF m 56 #[.val (.int p0), .val (.int p1), .val (.int p2), .val (.int p3), .val (.int p4), .val (.int p5), .val (.int (p1 &&& (3 : Int32))), .val (.ref a), .val (.int (Int32.ofNat cs.length)), .val (.int (Int32.ofNat cs.length)), .unset, .unset, .unset, .unset] []))
        refine GoV.st (fun _ kq_ => XS.iload X2.here hx rfl (hb hby at_56) rfl kq_) ?_
        show GoV p e below s _ _ _ (T2.setTop (mkF m 58 #[.val (.int p0), .val (.int p1), .val (.int p2), .val (.int p3), .val (.int p4), .val (.int p5), .val (.int (p1 &&& (3 : Int32))), .val (.ref a), .val (.int (Int32.ofNat cs.length)), .val (.int (Int32.ofNat cs.length)), .unset, .unset, .unset, .unset] [(.int (p1 &&& (3 : Int32)))]))
        refine GoV.st (fun _ kq_ => XS.iconst X2.here hx rfl (hb hby at_58) kq_) ?_
        show GoV p e below s _ _ _ (T2.setTop (mkF m 59 #[.val (.int p0), .val (.int p1), .val (.int p2), .val (.int p3), .val (.int p4), .val (.int p5), .val (.int (p1 &&& (3 : Int32))), .val (.ref a), .val (.int (Int32.ofNat cs.length)), .val (.int (Int32.ofNat cs.length)), .unset, .unset, .unset, .unset] [(.int (1 : Int32)), (.int (p1 &&& (3 : Int32)))]))
        by_cases c59_111 : (p1 &&& (3 : Int32)) = (1 : Int32)
        · refine GoV.st (fun _ kq_ => XS.icmpNo X2.here hx rfl (hb hby at_59) rfl (XT.ii_ne_f c59_111) kq_) ?_
          show GoV p e below s _ _ _ (T2.setTop (mkF m 62 #[.val (.int p0), .val (.int p1), .val (.int p2), .val (.int p3), .val (.int p4), .val (.int p5), .val (.int (p1 &&& (3 : Int32))), .val (.ref a), .val (.int (Int32.ofNat cs.length)), .val (.int (Int32.ofNat cs.length)), .unset, .unset, .unset, .unset] []))
          refine GoV.st (fun _ kq_ => XS.iload X2.here hx rfl (hb hby at_62) rfl kq_) ?_
          show GoV p e below s _ _ _ (T2.setTop (mkF m 64 #[.val (.int p0), .val (.int p1), .val (.int p2), .val (.int p3), .val (.int p4), .val (.int p5), .val (.int (p1 &&& (3 : Int32))), .val (.ref a), .val (.int (Int32.ofNat cs.length)), .val (.int (Int32.ofNat cs.length)), .unset, .unset, .unset, .unset] [(.int (Int32.ofNat cs.length))]))
          by_cases c64_112 : (0 : Int32) < (Int32.ofNat cs.length)
          · refine GoV.st (fun _ kq_ => XS.ifNo X2.here hx rfl (hb hby at_64) rfl (XT.i0_le_f c64_112) kq_) ?_
            show GoV p e below s _ _ _ (T2.setTop (mkF m 67 #[.val (.int p0), .val (.int p1), .val (.int p2), .val (.int p3), .val (.int p4), .val (.int p5), .val (.int (p1 &&& (3 : Int32))), .val (.ref a), .val (.int (Int32.ofNat cs.length)), .val (.int (Int32.ofNat cs.length)), .unset, .unset, .unset, .unset] []))
            refine GoV.st (fun _ kq_ => XS.iloadN X2.here hx rfl (hb hby at_67) rfl kq_) ?_
            show GoV p e below s _ _ _ (T2.setTop (mkF m 68 #[.val (.int p0), .val (.int p1), .val (.int p2), .val (.int p3), .val (.int p4), .val (.int p5), .val (.int (p1 &&& (3 : Int32))), .val (.ref a), .val (.int (Int32.ofNat cs.length)), .val (.int (Int32.ofNat cs.length)), .unset, .unset, .unset, .unset] [(.int p2)]))
            refine GoV.st (fun _ kq_ => X2.ldcI hx hown1 (mvT hZ1 (own_w hw 21 rfl)) rfl (hb hby at_68) kq_) ?_
            show GoV p e below s _ _ _ (T2.setTop (mkF m 70 #[.val (.int p0), .val (.int p1), .val (.int p2), .val (.int p3), .val (.int p4), .val (.int p5), .val (.int (p1 &&& (3 : Int32))), .val (.ref a), .val (.int (Int32.ofNat cs.length)), .val (.int (Int32.ofNat cs.length)), .unset, .unset, .unset, .unset] [(.int (2147483647 : Int32)), (.int p2)]))
            refine GoV.st (fun _ kq_ => XS.iand X2.here hx rfl (hb hby at_70) rfl kq_) ?_
            show GoV p e below s _ _ _ (T2.setTop (mkF m 71 #[.val (.int p0), .val (.int p1), .val (.int p2), .val (.int p3), .val (.int p4), .val (.int p5), .val (.int (p1 &&& (3 : Int32))), .val (.ref a), .val (.int (Int32.ofNat cs.length)), .val (.int (Int32.ofNat cs.length)), .unset, .unset, .unset, .unset] [(.int (p2 &&& (2147483647 : Int32)))]))
            refine GoV.st (fun _ kq_ => XS.iload X2.here hx rfl (hb hby at_71) rfl kq_) ?_
            show GoV p e below s _ _ _ (T2.setTop (mkF m 73 #[.val (.int p0), .val (.int p1), .val (.int p2), .val (.int p3), .val (.int p4), .val (.int p5), .val (.int (p1 &&& (3 : Int32))), .val (.ref a), .val (.int (Int32.ofNat cs.length)), .val (.int (Int32.ofNat cs.length)), .unset, .unset, .unset, .unset] [(.int (Int32.ofNat cs.length)), (.int (p2 &&& (2147483647 : Int32)))]))
            refine GoV.st (fun _ kq_ => iremM X2 hx rfl (hb hby at_73) rfl (fun e => absurd c64_112 (by rw [e]; decide)) kq_) ?_
            show GoV p e below s _ _ _ (T2.setTop (mkF m 74 #[.val (.int p0), .val (.int p1), .val (.int p2), .val (.int p3), .val (.int p4), .val (.int p5), .val (.int (p1 &&& (3 : Int32))), .val (.ref a), .val (.int (Int32.ofNat cs.length)), .val (.int (Int32.ofNat cs.length)), .unset, .unset, .unset, .unset] [(.int ((p2 &&& (2147483647 : Int32)) % (Int32.ofNat cs.length)))]))
            refine GoV.st (fun _ kq_ => XS.goto X2.here hx rfl (pc0 := 74) (pc' := 78) rfl (hb hby at_74) (by decide) (by decide) kq_) ?_
            show GoV p e below s _ _ _ (T2.setTop (mkF m 78 #[.val (.int p0), .val (.int p1), .val (.int p2), .val (.int p3), .val (.int p4), .val (.int p5), .val (.int (p1 &&& (3 : Int32))), .val (.ref a), .val (.int (Int32.ofNat cs.length)), .val (.int (Int32.ofNat cs.length)), .unset, .unset, .unset, .unset] [(.int ((p2 &&& (2147483647 : Int32)) % (Int32.ofNat cs.length)))]))
            refine GoV.st (fun _ kq_ => XS.istore X2.here hx rfl (hb hby at_78) rfl (l' := #[.val (.int p0), .val (.int p1), .val (.int p2), .val (.int p3), .val (.int p4), .val (.int p5), .val (.int (p1 &&& (3 : Int32))), .val (.ref a), .val (.int (Int32.ofNat cs.length)), .val (.int (Int32.ofNat cs.length)), .val (.int ((p2 &&& (2147483647 : Int32)) % (Int32.ofNat cs.length))), .unset, .unset, .unset]) rfl kq_) ?_
            show GoV p e below s _ _ _ (T2.setTop (mkF m 80 #[.val (.int p0), .val (.int p1), .val (.int p2), .val (.int p3), .val (.int p4), .val (.int p5), .val (.int (p1 &&& (3 : Int32))), .val (.ref a), .val (.int (Int32.ofNat cs.length)), .val (.int (Int32.ofNat cs.length)), .val (.int ((p2 &&& (2147483647 : Int32)) % (Int32.ofNat cs.length))), .unset, .unset, .unset] []))
            exact JN (Int32.ofNat cs.length) ((p2 &&& (2147483647 : Int32)) % (Int32.ofNat cs.length)) (vm1) _ _ _ _ X2 e2 N2 O1 hS1 hk1 hZ1 hown1 I1 E_a F_a_coder F_a_value V_b C_a C_b (own_len9 hlB)
          · refine GoV.st (fun _ kq_ => XS.ifYes X2.here hx rfl (pc0 := 64) (pc' := 77) rfl (hb hby at_64) rfl (XT.i0_le_t c64_112) (by decide) (by decide) kq_) ?_
            show GoV p e below s _ _ _ (T2.setTop (mkF m 77 #[.val (.int p0), .val (.int p1), .val (.int p2), .val (.int p3), .val (.int p4), .val (.int p5), .val (.int (p1 &&& (3 : Int32))), .val (.ref a), .val (.int (Int32.ofNat cs.length)), .val (.int (Int32.ofNat cs.length)), .unset, .unset, .unset, .unset] []))
            refine GoV.st (fun _ kq_ => XS.iconst X2.here hx rfl (hb hby at_77) kq_) ?_
            show GoV p e below s _ _ _ (T2.setTop (mkF m 78 #[.val (.int p0), .val (.int p1), .val (.int p2), .val (.int p3), .val (.int p4), .val (.int p5), .val (.int (p1 &&& (3 : Int32))), .val (.ref a), .val (.int (Int32.ofNat cs.length)), .val (.int (Int32.ofNat cs.length)), .unset, .unset, .unset, .unset] [(.int (-1 : Int32))]))
            refine GoV.st (fun _ kq_ => XS.istore X2.here hx rfl (hb hby at_78) rfl (l' := #[.val (.int p0), .val (.int p1), .val (.int p2), .val (.int p3), .val (.int p4), .val (.int p5), .val (.int (p1 &&& (3 : Int32))), .val (.ref a), .val (.int (Int32.ofNat cs.length)), .val (.int (Int32.ofNat cs.length)), .val (.int (-1 : Int32)), .unset, .unset, .unset]) rfl kq_) ?_
            show GoV p e below s _ _ _ (T2.setTop (mkF m 80 #[.val (.int p0), .val (.int p1), .val (.int p2), .val (.int p3), .val (.int p4), .val (.int p5), .val (.int (p1 &&& (3 : Int32))), .val (.ref a), .val (.int (Int32.ofNat cs.length)), .val (.int (Int32.ofNat cs.length)), .val (.int (-1 : Int32)), .unset, .unset, .unset] []))
            exact JN (Int32.ofNat cs.length) (-1 : Int32) (vm1) _ _ _ _ X2 e2 N2 O1 hS1 hk1 hZ1 hown1 I1 E_a F_a_coder F_a_value V_b C_a C_b (own_len9 hlB)
        · refine GoV.st (fun _ kq_ => XS.icmpYes X2.here hx rfl (pc0 := 59) (pc' := 77) rfl (hb hby at_59) rfl (XT.ii_ne_t c59_111) (by decide) (by decide) kq_) ?_
          show GoV p e below s _ _ _ (T2.setTop (mkF m 77 #[.val (.int p0), .val (.int p1), .val (.int p2), .val (.int p3), .val (.int p4), .val (.int p5), .val (.int (p1 &&& (3 : Int32))), .val (.ref a), .val (.int (Int32.ofNat cs.length)), .val (.int (Int32.ofNat cs.length)), .unset, .unset, .unset, .unset] []))
          refine GoV.st (fun _ kq_ => XS.iconst X2.here hx rfl (hb hby at_77) kq_) ?_
          show GoV p e below s _ _ _ (T2.setTop (mkF m 78 #[.val (.int p0), .val (.int p1), .val (.int p2), .val (.int p3), .val (.int p4), .val (.int p5), .val (.int (p1 &&& (3 : Int32))), .val (.ref a), .val (.int (Int32.ofNat cs.length)), .val (.int (Int32.ofNat cs.length)), .unset, .unset, .unset, .unset] [(.int (-1 : Int32))]))
          refine GoV.st (fun _ kq_ => XS.istore X2.here hx rfl (hb hby at_78) rfl (l' := #[.val (.int p0), .val (.int p1), .val (.int p2), .val (.int p3), .val (.int p4), .val (.int p5), .val (.int (p1 &&& (3 : Int32))), .val (.ref a), .val (.int (Int32.ofNat cs.length)), .val (.int (Int32.ofNat cs.length)), .val (.int (-1 : Int32)), .unset, .unset, .unset]) rfl kq_) ?_
          show GoV p e below s _ _ _ (T2.setTop (mkF m 80 #[.val (.int p0), .val (.int p1), .val (.int p2), .val (.int p3), .val (.int p4), .val (.int p5), .val (.int (p1 &&& (3 : Int32))), .val (.ref a), .val (.int (Int32.ofNat cs.length)), .val (.int (Int32.ofNat cs.length)), .val (.int (-1 : Int32)), .unset, .unset, .unset] []))
          exact JN (Int32.ofNat cs.length) (-1 : Int32) (vm1) _ _ _ _ X2 e2 N2 O1 hS1 hk1 hZ1 hown1 I1 E_a F_a_coder F_a_value V_b C_a C_b (own_len9 hlB)
    refine GoV.st (fun _ kq_ => XS.iload X0.here hx rfl (hb hby at_5) rfl kq_) ?_
    show GoV p e below s _ _ _ (s₁.setTop (mkF m 7 #[.val (.int p0), .val (.int p1), .val (.int p2), .val (.int p3), .val (.int p4), .val (.int p5), .val (.int (p1 &&& (3 : Int32))), .unset, .unset, .unset, .unset, .unset, .unset, .unset] [(.int (p1 &&& (3 : Int32)))]))
    refine GoV.st (fun _ kq_ => XS.iconst X0.here hx rfl (hb hby at_7) kq_) ?_
    show GoV p e below s _ _ _ (s₁.setTop (mkF m 8 #[.val (.int p0), .val (.int p1), .val (.int p2), .val (.int p3), .val (.int p4), .val (.int p5), .val (.int (p1 &&& (3 : Int32))), .unset, .unset, .unset, .unset, .unset, .unset, .unset] [(.int (3 : Int32)), (.int (p1 &&& (3 : Int32)))]))
    by_cases c8_113 : (p1 &&& (3 : Int32)) = (3 : Int32)
    · refine GoV.st (fun _ kq_ => XS.icmpNo X0.here hx rfl (hb hby at_8) rfl (XT.ii_ne_f c8_113) kq_) ?_
      show GoV p e below s _ _ _ (s₁.setTop (mkF m 11 #[.val (.int p0), .val (.int p1), .val (.int p2), .val (.int p3), .val (.int p4), .val (.int p5), .val (.int (p1 &&& (3 : Int32))), .unset, .unset, .unset, .unset, .unset, .unset, .unset] []))
      obtain ⟨u114, T114, h114, kk114, ub114, kb114, ca114, cb114, un114, X114, e114, E114, hS114, hk114, hZ114, hown114, NE, NC, NV, NB, NCa, NCb, Sk114, tx114, I114, hJ114, LT114, st114⟩ := own_ldcH (vm0 := s.vm) X0 hx hZ hown (own_w hw 0 rfl) wS e0 hS0 hk0 (by rw [hs0]; exact N0) hHS_5 I0 (vs := []) (z := (0 : Int32)) (by decide) (by decide) rfl (g := (mkF m 11 #[.val (.int p0), .val (.int p1), .val (.int p2), .val (.int p3), .val (.int p4), .val (.int p5), .val (.int (p1 &&& (3 : Int32))), .unset, .unset, .unset, .unset, .unset, .unset, .unset] [])) rfl (hb hby at_11) (n := 0) (by decide) (by decide) (by decide) (by decide)
      have J114 := hJ114 _ J0
      have O114 := O0.ext E114
      have E_u114 : Exa Z h114 u114 "java/lang/String" := NE
      have F_u114_coder : Fld Z h114 u114 "java/lang/String" "coder" "B" (.int (0 : Int32)) := NC
      have F_u114_value : Fld Z h114 u114 "java/lang/String" "value" "[B" (.ref ub114) := NV
      have V_ub114 : Arv Z h114 ub114 kb114 .byte (0 : Int32) [] (.int (0 : Int32)) := NB
      have C_u114 : Cel h114 u114 ca114 := NCa
      have C_ub114 : Cel h114 ub114 cb114 := NCb
      refine GoV.st st114 ?_
      show GoV p e below s _ _ _ (T114.setTop (mkF m 13 #[.val (.int p0), .val (.int p1), .val (.int p2), .val (.int p3), .val (.int p4), .val (.int p5), .val (.int (p1 &&& (3 : Int32))), .unset, .unset, .unset, .unset, .unset, .unset, .unset] [(.ref u114)]))
      refine GoV.st (fun _ kq_ => XS.goto X114.here hx rfl (pc0 := 13) (pc' := 26) rfl (hb hby at_13) (by decide) (by decide) kq_) ?_
      show GoV p e below s _ _ _ (T114.setTop (mkF m 26 #[.val (.int p0), .val (.int p1), .val (.int p2), .val (.int p3), .val (.int p4), .val (.int p5), .val (.int (p1 &&& (3 : Int32))), .unset, .unset, .unset, .unset, .unset, .unset, .unset] [(.ref u114)]))
      exact JB u114 ub114 _ _ _ _ (0 : Int32) [] [] (T114.vm) _ _ _ _ (X114.mono (by decide) (by decide)) e114 N0 O114 hS114 hk114 hZ114 hown114 I114 E_u114 F_u114_coder F_u114_value V_ub114 C_u114 C_ub114 Sk114 own_cod5 own_e5 (by decide)
    · refine GoV.st (fun _ kq_ => XS.icmpYes X0.here hx rfl (pc0 := 8) (pc' := 16) rfl (hb hby at_8) rfl (XT.ii_ne_t c8_113) (by decide) (by decide) kq_) ?_
      show GoV p e below s _ _ _ (s₁.setTop (mkF m 16 #[.val (.int p0), .val (.int p1), .val (.int p2), .val (.int p3), .val (.int p4), .val (.int p5), .val (.int (p1 &&& (3 : Int32))), .unset, .unset, .unset, .unset, .unset, .unset, .unset] []))
      refine GoV.st (fun _ kq_ => XS.iloadN X0.here hx rfl (hb hby at_16) rfl kq_) ?_
      show GoV p e below s _ _ _ (s₁.setTop (mkF m 17 #[.val (.int p0), .val (.int p1), .val (.int p2), .val (.int p3), .val (.int p4), .val (.int p5), .val (.int (p1 &&& (3 : Int32))), .unset, .unset, .unset, .unset, .unset, .unset, .unset] [(.int p0)]))
      refine GoV.st (fun _ kq_ => X0.ldcI hx hown (mvT hZ (own_w hw 21 rfl)) rfl (hb hby at_17) kq_) ?_
      show GoV p e below s _ _ _ (s₁.setTop (mkF m 19 #[.val (.int p0), .val (.int p1), .val (.int p2), .val (.int p3), .val (.int p4), .val (.int p5), .val (.int (p1 &&& (3 : Int32))), .unset, .unset, .unset, .unset, .unset, .unset, .unset] [(.int (2147483647 : Int32)), (.int p0)]))
      refine GoV.st (fun _ kq_ => XS.iand X0.here hx rfl (hb hby at_19) rfl kq_) ?_
      show GoV p e below s _ _ _ (s₁.setTop (mkF m 20 #[.val (.int p0), .val (.int p1), .val (.int p2), .val (.int p3), .val (.int p4), .val (.int p5), .val (.int (p1 &&& (3 : Int32))), .unset, .unset, .unset, .unset, .unset, .unset, .unset] [(.int (p0 &&& (2147483647 : Int32)))]))
      refine GoV.st (fun _ kq_ => XS.bipush X0.here hx rfl (hb hby at_20) kq_) ?_
      show GoV p e below s _ _ _ (s₁.setTop (mkF m 22 #[.val (.int p0), .val (.int p1), .val (.int p2), .val (.int p3), .val (.int p4), .val (.int p5), .val (.int (p1 &&& (3 : Int32))), .unset, .unset, .unset, .unset, .unset, .unset, .unset] [(.int (6 : Int32)), (.int (p0 &&& (2147483647 : Int32)))]))
      refine GoV.st (fun _ kq_ => iremM X0 hx rfl (hb hby at_22) rfl (by decide) kq_) ?_
      show GoV p e below s _ _ _ (s₁.setTop (mkF m 23 #[.val (.int p0), .val (.int p1), .val (.int p2), .val (.int p3), .val (.int p4), .val (.int p5), .val (.int (p1 &&& (3 : Int32))), .unset, .unset, .unset, .unset, .unset, .unset, .unset] [(.int ((p0 &&& (2147483647 : Int32)) % (6 : Int32)))]))
      have hC115 : ∀ U : State, Z.Warmed39 U.vm → s.WarmedH U.vm → U.heap = h0 → ∀ c ∈ ([("com/example/pemmican/pemmican/DataTypeNamedPinLaw", 38), ("com/example/pemmican/pemmican/DataTypeNamedPinLaw", 40), ("com/example/pemmican/pemmican/DataTypeNamedPinLaw", 42), ("com/example/pemmican/pemmican/DataTypeNamedPinLaw", 44), ("com/example/pemmican/pemmican/DataTypeNamedPinLaw", 46), ("com/example/pemmican/pemmican/DataTypeNamedPinLaw", 7)] : List (String × Nat)), ConstHeldL U c.1 c.2 := by
        intro U hU1 hU2 hU3 c hc
        have hIU := own_iH (s := s) I0 hU2
        have hkU : ∀ (b : Addr) (cl : Cell), Z.heap[b]? = some cl → U.heap[b]? = some cl := fun b cl q => by rw [hU3]; exact O0.2.2 b cl q
        simp only [List.mem_cons, List.not_mem_nil, or_false] at hc
        rcases hc with rfl | rfl | rfl | rfl | rfl | rfl
        · exact own_held hU1 (own_w hw 75 rfl) hIU hkU hHZ_0 (fun q hq => by cases hq)
        · exact own_held hU1 (own_w hw 77 rfl) hIU hkU hHZ_1 (fun q hq => by cases hq)
        · exact own_held hU1 (own_w hw 78 rfl) hIU hkU hHZ_2 (fun q hq => by cases hq)
        · exact own_held hU1 (own_w hw 79 rfl) hIU hkU hHZ_3 (fun q hq => by cases hq)
        · exact own_held hU1 (own_w hw 80 rfl) hIU hkU hHZ_4 (fun q hq => by cases hq)
        · exact own_held hU1 (own_w hw 0 rfl) hIU hkU hHZ_5 (fun q hq => by cases hq)
      obtain ⟨_, _, ⟨T116, L116, k116, n116⟩, -, X116, hSn116, gr116, ⟨Lc116, hQ116, l116, y116, z116⟩, st116⟩ := callSS X0 hx (y := (⟨"com/example/pemmican/pemmican/DataTypeNamedPinLaw", "baseName", "(I)Ljava/lang/String;"⟩ : MethodName)) hown (mvT hZ (own_w hw 81 rfl)) (mvT hZ (own_w hw 82 rfl)) (mvT hZ (own_w hw 73 rfl)) (mvT hZ (own_w hw 83 rfl)) (by decide) (own_backHC (W := 0) (rmb l Z a0 hw [] ((p0 &&& (2147483647 : Int32)) % (6 : Int32)) [] h0 n0 O0 ) hZ I0 hC115 (own_w hw 83 rfl) (own_w hw 73 rfl) (by decide) (by decide)) (g := (mkF m 23 #[.val (.int p0), .val (.int p1), .val (.int p2), .val (.int p3), .val (.int p4), .val (.int p5), .val (.int (p1 &&& (3 : Int32))), .unset, .unset, .unset, .unset, .unset, .unset, .unset] [(.int ((p0 &&& (2147483647 : Int32)) % (6 : Int32)))])) rfl (by rw [hml]; rfl) (argsL := [(.int ((p0 &&& (2147483647 : Int32)) % (6 : Int32)))]) (rest := []) (lenOf pd0_4 rfl) rfl (by show 2 * 0 + _ ≤ _; exact Nat.le_of_eq rfl) (hb hby at_23) (fun _ _ => ⟨rfl, e0, (by decide : 0 + 2 ≤ _), (by decide : 0 + 32 ≤ _)⟩)
      dsimp only [Pt.U, Pt.locs, Pt.cells, Pt.slots] at X116 l116 y116 z116 st116 hQ116
      subst y116 z116
      dsimp only [Pt.U, Pt.locs, Pt.cells, Pt.slots] at hSn116 gr116
      obtain ⟨X116, hS116, hZ116, hown116⟩ := rebS (vm0 := s.vm) hS0 (by rw [e0]; exact hk0) X116 hSn116 gr116 hZ hown
      have hk116 : T116.heap.size ≤ T116.heap.size := Nat.le_refl _
      obtain ⟨a, b, kb, ca, cb, un, N, vs, cs, rfl, Nc116, Kc116, NE, NC, NV, NB, NCa, NCb, Sk, I116, hcB, hbB, hlB⟩ := hQ116
      have N116 : Fr n0 L116 := by rw [l116]; exact Fr.app N0 Nc116
      have O116 := O0.keep Kc116 all0
      have E_a : Exa Z T116.heap a "java/lang/String" := NE
      have F_a_coder : Fld Z T116.heap a "java/lang/String" "coder" "B" (.int (0 : Int32)) := NC
      have F_a_value : Fld Z T116.heap a "java/lang/String" "value" "[B" (.ref b) := NV
      have V_b : Arv Z T116.heap b kb .byte N vs (.int (0 : Int32)) := NB
      have C_a : Cel T116.heap a ca := NCa
      have C_b : Cel T116.heap b cb := NCb
      refine GoV.tr st116 ?_
      show GoV p e below s _ _ _ (T116.setTop (mkF m 26 #[.val (.int p0), .val (.int p1), .val (.int p2), .val (.int p3), .val (.int p4), .val (.int p5), .val (.int (p1 &&& (3 : Int32))), .unset, .unset, .unset, .unset, .unset, .unset, .unset] [(.ref a)]))
      exact JB a b kb ca cb un N vs cs (T116.vm) _ _ _ _ (X116.mono (by decide) (by decide)) rfl N116 O116 hS116 hk116 hZ116 hown116 I116 E_a F_a_coder F_a_value V_b C_a C_b Sk hcB hbB hlB
  obtain ⟨s2, o2, st2, r2⟩ := G
  exact ⟨s2, o2, castTop (ef0 m p0 p1 p2 p3 p4 p5) st2, r2⟩
set_option maxRecDepth 65536 in
set_option maxHeartbeats 40000000 in
theorem comes_1 {Post : Tables → Env → Array Value → State → Outcome → State → Prop} (hpost : ∀ tb e args s v u, (limb_1_1.after args s (.returned v) u = true ∧ limb_1_2.after args s (.returned v) u = true ∧ True) → ReturnedEndW s (.returned v) u (Jvm.fieldLocs frame_1_writes args s ++ Jvm.arrayLocs frame_1_arrays args s ++ Jvm.staticLocs frame_1_statics s) 32 7360 → Post tb e args s (.returned v) u) :
    ArmFor flags0 classFile x code maxLocals ret World_1 tables_1 room_1 Calls_1 rest_1 Pre_1 Post := by
  intro l hfl _ _ p e ha hc hk s m args below hf hA hF happ hP
  obtain ⟨hcalls, hrest, hpre⟩ := hP
  obtain ⟨-, -, -, hnamed, -, -, -, hat⟩ := (Spec.applies_iff hf).mp happ
  obtain ⟨hg, hn⟩ := and_e (Cond.before_iff.mp (show (Jvm.Cond.and given_1 narrow_1).before args s = true from hpre))
  obtain ⟨h1, r1⟩ := and_e hg
  obtain ⟨a0, r2⟩ := and_e r1
  obtain ⟨a1, r3⟩ := and_e r2
  obtain ⟨a2, r4⟩ := and_e r3
  obtain ⟨a3, r5⟩ := and_e r4
  obtain ⟨a4, r6⟩ := and_e r5
  obtain ⟨w0, w1, w2, w3, w4, w5, rfl⟩ : ∃ w0 w1 w2 w3 w4 w5 : Value, args = #[w0, w1, w2, w3, w4, w5] := by
    have hs : args.size = 6 := by simpa [Cond.value, given_1] using h1
    obtain ⟨L⟩ := args
    match L, hs with
    | [w0, w1, w2, w3, w4, w5], _ => exact ⟨w0, w1, w2, w3, w4, w5, rfl⟩
  have hw := fun d (hd : d ∈ tables_1) => atoms_spec (ws := Jvm.Cond.code x code maxLocals ret :: tables_1) hat d (List.mem_cons_of_mem _ hd)
  obtain ⟨hsets, hown0⟩ := atoms_of _ (rest_1_c_eq ▸ (show rest_1_c.before _ s = true from hrest))
  have hfit : Fit s := fun {y c} hc i hi => by
    obtain ⟨ha, rfl⟩ := Array.getElem?_eq_some_iff.mp hc
    have q := List.all_eq_true.mp ((Array.all_eq_true_iff_forall_mem.mp hF) _ (Array.getElem_mem ha)) i (List.mem_range.mpr hi)
    simpa [Array.getElem?_eq_getElem hi] using q
  obtain ⟨i0, ei0⟩ := is_v a0
  obtain rfl : w0 = (.int i0) := Option.some.inj ei0
  obtain ⟨i1, ei1⟩ := is_v a1
  obtain rfl : w1 = (.int i1) := Option.some.inj ei1
  obtain ⟨i2, ei2⟩ := is_v a2
  obtain rfl : w2 = (.int i2) := Option.some.inj ei2
  obtain ⟨i3, ei3⟩ := is_v a3
  obtain rfl : w3 = (.int i3) := Option.some.inj ei3
  obtain ⟨i4, ei4⟩ := is_v a4
  obtain rfl : w4 = (.int i4) := Option.some.inj ei4
  obtain ⟨i5, ei5⟩ := is_v r6
  obtain rfl : w5 = (.int i5) := Option.some.inj ei5
  obtain ⟨q0, hn0⟩ := and_e hn
  obtain ⟨q1, hn1⟩ := and_e hn0
  obtain ⟨q2, hn2⟩ := and_e hn1
  obtain ⟨q3, hn3⟩ := and_e hn2
  obtain ⟨q4, hn4⟩ := and_e hn3
  obtain ⟨q5, hn5⟩ := and_e hn4
  obtain ⟨q6, hn6⟩ := and_e hn5
  obtain ⟨q7, hn7⟩ := and_e hn6
  obtain ⟨q8, hn8⟩ := and_e hn7
  obtain ⟨q9, hn9⟩ := and_e hn8
  obtain ⟨q10, hn10⟩ := and_e hn9
  obtain ⟨q11, hn11⟩ := and_e hn10
  obtain ⟨q12, hn12⟩ := and_e hn11
  obtain ⟨q13, hn13⟩ := and_e hn12
  obtain ⟨q14, hn14⟩ := and_e hn13
  obtain ⟨q15, hn15⟩ := and_e hn14
  obtain ⟨q16, hn16⟩ := and_e hn15
  obtain ⟨q17, hn17⟩ := and_e hn16
  obtain ⟨q18, hn18⟩ := and_e hn17
  obtain ⟨q19, hn19⟩ := and_e hn18
  obtain ⟨q20, hn20⟩ := and_e hn19
  obtain ⟨q21, hn21⟩ := and_e hn20
  obtain ⟨q22, hn22⟩ := and_e hn21
  obtain ⟨q23, hn23⟩ := and_e hn22
  obtain ⟨q24, hn24⟩ := and_e hn23
  obtain ⟨q25, hn25⟩ := and_e hn24
  obtain ⟨q26, hn26⟩ := and_e hn25
  obtain ⟨q27, hn27⟩ := and_e hn26
  obtain ⟨q28, hn28⟩ := and_e hn27
  obtain ⟨q29, hn29⟩ := and_e hn28
  obtain ⟨q30, hn30⟩ := and_e hn29
  obtain ⟨q31, hn31⟩ := and_e hn30
  obtain ⟨q32, hn32⟩ := and_e hn31
  obtain ⟨q33, hn33⟩ := and_e hn32
  obtain ⟨q34, hn34⟩ := and_e hn33
  obtain ⟨q35, hn35⟩ := and_e hn34
  obtain ⟨q36, hn36⟩ := and_e hn35
  obtain ⟨q37, hn37⟩ := and_e hn36
  obtain ⟨q38, hn38⟩ := and_e hn37
  obtain ⟨q39, hn39⟩ := and_e hn38
  obtain ⟨q40, hn40⟩ := and_e hn39
  obtain ⟨q41, hn41⟩ := and_e hn40
  obtain ⟨q42, hn42⟩ := and_e hn41
  obtain ⟨q43, hn43⟩ := and_e hn42
  obtain ⟨q44, hn44⟩ := and_e hn43
  obtain ⟨q45, hn45⟩ := and_e hn44
  obtain ⟨q46, hn46⟩ := and_e hn45
  obtain ⟨q47, hn47⟩ := and_e hn46
  obtain ⟨q48, hn48⟩ := and_e hn47
  obtain ⟨q49, hn49⟩ := and_e hn48
  obtain ⟨q50, hn50⟩ := and_e hn49
  obtain ⟨q51, hn51⟩ := and_e hn50
  obtain ⟨q52, hn52⟩ := and_e hn51
  obtain ⟨q53, hn53⟩ := and_e hn52
  obtain ⟨q54, hn54⟩ := and_e hn53
  obtain ⟨q55, hn55⟩ := and_e hn54
  obtain ⟨q56, hn56⟩ := and_e hn55
  obtain ⟨q57, hn57⟩ := and_e hn56
  obtain ⟨q58, hn58⟩ := and_e hn57
  obtain ⟨q59, hn59⟩ := and_e hn58
  obtain ⟨q60, hn60⟩ := and_e hn59
  obtain ⟨q61, hn61⟩ := and_e hn60
  obtain ⟨q62, hn62⟩ := and_e hn61
  have q63 := hn62
  obtain ⟨a__VALUES, v__VALUES⟩ := exa_v q1
  have S__VALUES : Sta s s.heap "com/example/pemmican/pemmican/DataType" "$VALUES" "[Lcom/example/pemmican/pemmican/DataType;" (.ref a__VALUES) := Sta.start v__VALUES (Or.inr ⟨own_w hw 37 rfl, own_w hw 43 rfl⟩)
  have E__VALUES : Exa s s.heap a__VALUES "[Lcom/example/pemmican/pemmican/DataType;" := Exa.start v__VALUES q1
  obtain ⟨a_STRING, v_STRING⟩ := exa_v q3
  have S_STRING : Sta s s.heap "com/example/pemmican/pemmican/DataType" "STRING" "Lcom/example/pemmican/pemmican/DataType;" (.ref a_STRING) := Sta.start v_STRING (Or.inr ⟨own_w hw 37 rfl, own_w hw 51 rfl⟩)
  have E_STRING : Exa s s.heap a_STRING "com/example/pemmican/pemmican/DataType" := Exa.start v_STRING q3
  obtain ⟨a_INTEGER, v_INTEGER⟩ := exa_v q5
  have S_INTEGER : Sta s s.heap "com/example/pemmican/pemmican/DataType" "INTEGER" "Lcom/example/pemmican/pemmican/DataType;" (.ref a_INTEGER) := Sta.start v_INTEGER (Or.inr ⟨own_w hw 37 rfl, own_w hw 52 rfl⟩)
  have E_INTEGER : Exa s s.heap a_INTEGER "com/example/pemmican/pemmican/DataType" := Exa.start v_INTEGER q5
  obtain ⟨a_FLOAT, v_FLOAT⟩ := exa_v q7
  have S_FLOAT : Sta s s.heap "com/example/pemmican/pemmican/DataType" "FLOAT" "Lcom/example/pemmican/pemmican/DataType;" (.ref a_FLOAT) := Sta.start v_FLOAT (Or.inr ⟨own_w hw 37 rfl, own_w hw 53 rfl⟩)
  have E_FLOAT : Exa s s.heap a_FLOAT "com/example/pemmican/pemmican/DataType" := Exa.start v_FLOAT q7
  obtain ⟨a_DOUBLE, v_DOUBLE⟩ := exa_v q9
  have S_DOUBLE : Sta s s.heap "com/example/pemmican/pemmican/DataType" "DOUBLE" "Lcom/example/pemmican/pemmican/DataType;" (.ref a_DOUBLE) := Sta.start v_DOUBLE (Or.inr ⟨own_w hw 37 rfl, own_w hw 54 rfl⟩)
  have E_DOUBLE : Exa s s.heap a_DOUBLE "com/example/pemmican/pemmican/DataType" := Exa.start v_DOUBLE q9
  obtain ⟨a_BOOLEAN, v_BOOLEAN⟩ := exa_v q11
  have S_BOOLEAN : Sta s s.heap "com/example/pemmican/pemmican/DataType" "BOOLEAN" "Lcom/example/pemmican/pemmican/DataType;" (.ref a_BOOLEAN) := Sta.start v_BOOLEAN (Or.inr ⟨own_w hw 37 rfl, own_w hw 55 rfl⟩)
  have E_BOOLEAN : Exa s s.heap a_BOOLEAN "com/example/pemmican/pemmican/DataType" := Exa.start v_BOOLEAN q11
  obtain ⟨t_STRING, et_STRING⟩ := exa_v q13
  have FS_STRING : Fld s s.heap a_STRING "com/example/pemmican/pemmican/DataType" "pmmlName" "Ljava/lang/String;" (.ref t_STRING) := own_fldR v_STRING et_STRING
  have ES_STRING : Exa s s.heap t_STRING "java/lang/String" := Exa.start et_STRING q13
  have FC_STRING : Fld s s.heap t_STRING "java/lang/String" "coder" "B" (.int 0) := own_fld et_STRING q14
  obtain ⟨y_STRING, ey_STRING⟩ := arr_v q15
  have FV_STRING : Fld s s.heap t_STRING "java/lang/String" "value" "[B" (.ref y_STRING) := own_fldR et_STRING ey_STRING
  obtain ⟨c_STRING, A_STRING⟩ := Arr.start ey_STRING q15
  have ln_STRING := own_lenv ey_STRING A_STRING q16
  have VS_STRING : Arv s s.heap y_STRING c_STRING.cls .byte 6 [.int 115, .int 116, .int 114, .int 105, .int 110, .int 103] (.int 0) := Arv.start hfit A_STRING ln_STRING.1 ln_STRING.2 (by decide) rfl ⟨own_elemv ey_STRING A_STRING q33, own_elemv ey_STRING A_STRING q34, own_elemv ey_STRING A_STRING q35, own_elemv ey_STRING A_STRING q36, own_elemv ey_STRING A_STRING q37, own_elemv ey_STRING A_STRING q38, trivial⟩
  obtain ⟨t_INTEGER, et_INTEGER⟩ := exa_v q17
  have FS_INTEGER : Fld s s.heap a_INTEGER "com/example/pemmican/pemmican/DataType" "pmmlName" "Ljava/lang/String;" (.ref t_INTEGER) := own_fldR v_INTEGER et_INTEGER
  have ES_INTEGER : Exa s s.heap t_INTEGER "java/lang/String" := Exa.start et_INTEGER q17
  have FC_INTEGER : Fld s s.heap t_INTEGER "java/lang/String" "coder" "B" (.int 0) := own_fld et_INTEGER q18
  obtain ⟨y_INTEGER, ey_INTEGER⟩ := arr_v q19
  have FV_INTEGER : Fld s s.heap t_INTEGER "java/lang/String" "value" "[B" (.ref y_INTEGER) := own_fldR et_INTEGER ey_INTEGER
  obtain ⟨c_INTEGER, A_INTEGER⟩ := Arr.start ey_INTEGER q19
  have ln_INTEGER := own_lenv ey_INTEGER A_INTEGER q20
  have VS_INTEGER : Arv s s.heap y_INTEGER c_INTEGER.cls .byte 7 [.int 105, .int 110, .int 116, .int 101, .int 103, .int 101, .int 114] (.int 0) := Arv.start hfit A_INTEGER ln_INTEGER.1 ln_INTEGER.2 (by decide) rfl ⟨own_elemv ey_INTEGER A_INTEGER q39, own_elemv ey_INTEGER A_INTEGER q40, own_elemv ey_INTEGER A_INTEGER q41, own_elemv ey_INTEGER A_INTEGER q42, own_elemv ey_INTEGER A_INTEGER q43, own_elemv ey_INTEGER A_INTEGER q44, own_elemv ey_INTEGER A_INTEGER q45, trivial⟩
  obtain ⟨t_FLOAT, et_FLOAT⟩ := exa_v q21
  have FS_FLOAT : Fld s s.heap a_FLOAT "com/example/pemmican/pemmican/DataType" "pmmlName" "Ljava/lang/String;" (.ref t_FLOAT) := own_fldR v_FLOAT et_FLOAT
  have ES_FLOAT : Exa s s.heap t_FLOAT "java/lang/String" := Exa.start et_FLOAT q21
  have FC_FLOAT : Fld s s.heap t_FLOAT "java/lang/String" "coder" "B" (.int 0) := own_fld et_FLOAT q22
  obtain ⟨y_FLOAT, ey_FLOAT⟩ := arr_v q23
  have FV_FLOAT : Fld s s.heap t_FLOAT "java/lang/String" "value" "[B" (.ref y_FLOAT) := own_fldR et_FLOAT ey_FLOAT
  obtain ⟨c_FLOAT, A_FLOAT⟩ := Arr.start ey_FLOAT q23
  have ln_FLOAT := own_lenv ey_FLOAT A_FLOAT q24
  have VS_FLOAT : Arv s s.heap y_FLOAT c_FLOAT.cls .byte 5 [.int 102, .int 108, .int 111, .int 97, .int 116] (.int 0) := Arv.start hfit A_FLOAT ln_FLOAT.1 ln_FLOAT.2 (by decide) rfl ⟨own_elemv ey_FLOAT A_FLOAT q46, own_elemv ey_FLOAT A_FLOAT q47, own_elemv ey_FLOAT A_FLOAT q48, own_elemv ey_FLOAT A_FLOAT q49, own_elemv ey_FLOAT A_FLOAT q50, trivial⟩
  obtain ⟨t_DOUBLE, et_DOUBLE⟩ := exa_v q25
  have FS_DOUBLE : Fld s s.heap a_DOUBLE "com/example/pemmican/pemmican/DataType" "pmmlName" "Ljava/lang/String;" (.ref t_DOUBLE) := own_fldR v_DOUBLE et_DOUBLE
  have ES_DOUBLE : Exa s s.heap t_DOUBLE "java/lang/String" := Exa.start et_DOUBLE q25
  have FC_DOUBLE : Fld s s.heap t_DOUBLE "java/lang/String" "coder" "B" (.int 0) := own_fld et_DOUBLE q26
  obtain ⟨y_DOUBLE, ey_DOUBLE⟩ := arr_v q27
  have FV_DOUBLE : Fld s s.heap t_DOUBLE "java/lang/String" "value" "[B" (.ref y_DOUBLE) := own_fldR et_DOUBLE ey_DOUBLE
  obtain ⟨c_DOUBLE, A_DOUBLE⟩ := Arr.start ey_DOUBLE q27
  have ln_DOUBLE := own_lenv ey_DOUBLE A_DOUBLE q28
  have VS_DOUBLE : Arv s s.heap y_DOUBLE c_DOUBLE.cls .byte 6 [.int 100, .int 111, .int 117, .int 98, .int 108, .int 101] (.int 0) := Arv.start hfit A_DOUBLE ln_DOUBLE.1 ln_DOUBLE.2 (by decide) rfl ⟨own_elemv ey_DOUBLE A_DOUBLE q51, own_elemv ey_DOUBLE A_DOUBLE q52, own_elemv ey_DOUBLE A_DOUBLE q53, own_elemv ey_DOUBLE A_DOUBLE q54, own_elemv ey_DOUBLE A_DOUBLE q55, own_elemv ey_DOUBLE A_DOUBLE q56, trivial⟩
  obtain ⟨t_BOOLEAN, et_BOOLEAN⟩ := exa_v q29
  have FS_BOOLEAN : Fld s s.heap a_BOOLEAN "com/example/pemmican/pemmican/DataType" "pmmlName" "Ljava/lang/String;" (.ref t_BOOLEAN) := own_fldR v_BOOLEAN et_BOOLEAN
  have ES_BOOLEAN : Exa s s.heap t_BOOLEAN "java/lang/String" := Exa.start et_BOOLEAN q29
  have FC_BOOLEAN : Fld s s.heap t_BOOLEAN "java/lang/String" "coder" "B" (.int 0) := own_fld et_BOOLEAN q30
  obtain ⟨y_BOOLEAN, ey_BOOLEAN⟩ := arr_v q31
  have FV_BOOLEAN : Fld s s.heap t_BOOLEAN "java/lang/String" "value" "[B" (.ref y_BOOLEAN) := own_fldR et_BOOLEAN ey_BOOLEAN
  obtain ⟨c_BOOLEAN, A_BOOLEAN⟩ := Arr.start ey_BOOLEAN q31
  have ln_BOOLEAN := own_lenv ey_BOOLEAN A_BOOLEAN q32
  have VS_BOOLEAN : Arv s s.heap y_BOOLEAN c_BOOLEAN.cls .byte 7 [.int 98, .int 111, .int 111, .int 108, .int 101, .int 97, .int 110] (.int 0) := Arv.start hfit A_BOOLEAN ln_BOOLEAN.1 ln_BOOLEAN.2 (by decide) rfl ⟨own_elemv ey_BOOLEAN A_BOOLEAN q57, own_elemv ey_BOOLEAN A_BOOLEAN q58, own_elemv ey_BOOLEAN A_BOOLEAN q59, own_elemv ey_BOOLEAN A_BOOLEAN q60, own_elemv ey_BOOLEAN A_BOOLEAN q61, own_elemv ey_BOOLEAN A_BOOLEAN q62, own_elemv ey_BOOLEAN A_BOOLEAN q63, trivial⟩
  obtain ⟨c__V, A__V⟩ := Arr.start v__VALUES q0
  have ln__V := own_lenv v__VALUES A__V q2
  have VV : Arv s s.heap a__VALUES c__V.cls (.object "com/example/pemmican/pemmican/DataType") 5 [.ref a_STRING, .ref a_INTEGER, .ref a_FLOAT, .ref a_DOUBLE, .ref a_BOOLEAN] .null := Arv.start hfit A__V ln__V.1 ln__V.2 (by decide) rfl ⟨own_elemR v__VALUES A__V v_STRING q4, own_elemR v__VALUES A__V v_INTEGER q6, own_elemR v__VALUES A__V v_FLOAT q8, own_elemR v__VALUES A__V v_DOUBLE q10, own_elemR v__VALUES A__V v_BOOLEAN q12, trivial⟩
  have hcw := hsets _ (List.mem_of_getElem? (i := 2) rfl)
  have n5 := not_v (Cond.before_iff.mp hcw)
  obtain ⟨zc, e10⟩ := is_v (Cond.before_iff.mp (hsets _ (List.mem_of_getElem? (i := 1) rfl)))
  have SC : Sta s s.heap "java/lang/String" "COMPACT_STRINGS" "Z" (.int zc) := Sta.start e10 (Or.inl (hsets _ (List.mem_of_getElem? (i := 0) rfl)))
  have hcs : ¬ (zc = (0 : Int32)) := gotF (Cond.eq_ints e10 (Term.int_eval (0))) n5
  obtain ⟨fm, e11, rf⟩ := isR_v (Cond.before_iff.mp (hsets _ (List.mem_of_getElem? (i := 8) rfl)))
  have SF : Sta s s.heap "jdk/internal/util/Preconditions" "SIOOBE_FORMATTER" "Ljava/util/function/BiFunction;" fm := Sta.start e11 (Or.inl (hsets _ (List.mem_of_getElem? (i := 7) rfl)))
  let c := fun (i : Nat) => if i = 0 then a_STRING else if i = 1 then a_INTEGER else if i = 2 then a_FLOAT else if i = 3 then a_DOUBLE else a_BOOLEAN
  let sa := fun (i : Nat) => if i = 0 then t_STRING else if i = 1 then t_INTEGER else if i = 2 then t_FLOAT else if i = 3 then t_DOUBLE else t_BOOLEAN
  let ya := fun (i : Nat) => if i = 0 then y_STRING else if i = 1 then y_INTEGER else if i = 2 then y_FLOAT else if i = 3 then y_DOUBLE else y_BOOLEAN
  let kv := fun (i : Nat) => if i = 0 then c_STRING.cls else if i = 1 then c_INTEGER.cls else if i = 2 then c_FLOAT.cls else if i = 3 then c_DOUBLE.cls else c_BOOLEAN.cls
  obtain ⟨n, o, h1, h2, h3, _, L, rfl, ⟨rfl, N⟩, hq⟩ := rm0 l s _ hw tables_1 i0 i1 i2 i3 i4 i5 c sa ya kv a__VALUES c__V.cls zc fm s.heap s.heap.size (Old.start s) rfl E__VALUES VV E_STRING FS_STRING ES_STRING FC_STRING FV_STRING VS_STRING E_INTEGER FS_INTEGER ES_INTEGER FC_INTEGER FV_INTEGER VS_INTEGER E_FLOAT FS_FLOAT ES_FLOAT FC_FLOAT FV_FLOAT VS_FLOAT E_DOUBLE FS_DOUBLE ES_DOUBLE FC_DOUBLE FV_DOUBLE VS_DOUBLE E_BOOLEAN FS_BOOLEAN ES_BOOLEAN FC_BOOLEAN FV_BOOLEAN VS_BOOLEAN S__VALUES SC hcs S_STRING S_INTEGER S_FLOAT S_DOUBLE S_BOOLEAN SF rf hcw hcalls.1 p e ha hc hk s m _ below hf ((Spec.applies_iff_loose hf).mp happ).1 ⟨rfl, rfl⟩ trivial
  refine ⟨n, _, h1, h2, h3, hpost _ _ _ _ _ _ ⟨Cond.after_iff.mpr rfl, Cond.after_iff.mpr (eq_i res_at (Term.int_eval (1)) rfl), trivial⟩ ⟨hq.1, hq.2.1, hq.2.2.1, (hq.2.2.2.sift fun y hy => Or.inr (N y hy)).mono (by decide) (by decide)⟩⟩
theorem main_1_1 : Claimed_1_1 := comes_1 fun _ _ _ _ _ _ h hF => ⟨h.1, hF⟩
theorem main_1_2 : Claimed_1_2 := comes_1 fun _ _ _ _ _ _ h hF => ⟨h.2.1, hF⟩
end Jvm.Pilot.@@N@@
namespace Jvm.Pilot.@@N@@
open Jvm Jvm.ClassFile Sem Op Lib Jvm.Free Jvm.Stand Jvm.Pilot.@@N@@.Jvm.D
/-! MADE BY PROGRAM (witnessworld.py) out of the Statement's table words and the real class files: 22 classes; the members and pool entries that the words name. The judged class is class 1, her method 1. -/
namespace start1
open Jvm.ClassFile
def u (s : String) : CpInfo := .utf8 (stringToUtf16 s)
/-- a pool by its gaps: so many unusable entries, then the entry; so many at the end -/
def gap : Nat → List CpInfo → List CpInfo
  | 0, r => r
  | n + 1, r => .unusable :: gap n r
def poolList (es : List (Nat × CpInfo)) (last : Nat) : List CpInfo := es.foldr (fun e r => gap e.1 (e.2 :: r)) (gap last [])
def pool (es : List (Nat × CpInfo)) (last : Nat) : Array CpInfo := ⟨poolList es last⟩
def fileOf (pool : Array CpInfo) (this : Nat) (attrs : Array Attribute := #[]) (ms : Array MethodInfo := #[]) (fl : Nat := 33) (sup : Nat := 0) (ifs : Array Nat := #[]) (fds : Array FieldInfo := #[]) : ClassFile where
  minorVersion := 0
  majorVersion := 65
  constantPool := pool
  accessFlags := fl
  thisClass := this
  superClass := sup
  interfaces := ifs
  fields := fds
  methods := ms
  attributes := attrs
def plain (name : String) (sup : Option ClassId) : Class where
  name := name
  kind := .ordinary
  loader := none
  accessFlags := 33
  super := sup
  interfaces := #[]
  cf := none
  fields := #[]
  methods := #[]
  instanceTypes := #[]
  staticTypes := #[]
  resolved := #[]
  callSites := []
  init := .initialized
  statics := none
  mirror := none

def pool0 : Array CpInfo := pool [(5, u "<init>"), (0, u "()V"), (1, .class_ 10), (1, u "java/lang/Object"), (85, u "clone"), (0, u "()Ljava/lang/Object;")] 26

def k0c0 : Code := { maxStack := 0, maxLocals := 1, code := object_method_1_code, exceptionTable := #[], attributes := #[] }
def k0m0 : Method := { name := "<init>", desc := "()V", sig := { parameters := [], returnType := none }, accessFlags := 1, code := some k0c0 }
def k0m1 : Method := { name := "clone", desc := "()Ljava/lang/Object;", sig := { parameters := [], returnType := some (.object "java/lang/Object") }, accessFlags := 260, code := none }
/-- java/lang/Object -/
def k0 : Class := { plain "java/lang/Object" none with
  accessFlags := 33
  interfaces := #[]
  cf := some (fileOf pool0 8 #[] #[{ accessFlags := 1, nameIndex := 5, descriptorIndex := 6, attributes := #[] }, { accessFlags := 260, nameIndex := 96, descriptorIndex := 97, attributes := #[] }] 33 0 #[] #[])
  fields := #[]
  methods := #[k0m0, k0m1]
  instanceTypes := #[]
  staticTypes := #[]
  resolved := Array.replicate 124 none
  statics := none }

def pool1 : Array CpInfo := pool [(2, .class_ 4), (1, u "java/lang/Object"), (0, u "<init>"), (0, u "()V"), (0, .string 8), (0, u ""), (0, .integer 2147483647), (0, .methodref 11 12), (0, .class_ 13), (0, .nameAndType 14 15), (0, u "com/example/pemmican/pemmican/DataTypeNamedPinLaw"), (0, u "baseName"), (0, u "(I)Ljava/lang/String;"), (0, .methodref 17 18), (0, .class_ 19), (0, .nameAndType 20 21), (0, u "java/lang/String"), (0, u "length"), (0, u "()I"), (0, .methodref 11 23), (0, .nameAndType 24 25), (0, u "ch"), (0, u "(Ljava/lang/String;IIII)C"), (0, .methodref 17 27), (0, .nameAndType 5 28), (0, u "([C)V"), (0, .methodref 30 31), (0, .class_ 32), (0, .nameAndType 33 34), (0, u "com/example/pemmican/pemmican/DataType"), (0, u "named"), (0, u "(Ljava/lang/String;)Lcom/example/pemmican/pemmican/DataType;"), (0, .methodref 11 36), (0, .nameAndType 37 34), (0, u "expected"), (0, .string 39), (0, u "string"), (0, .string 41), (0, u "integer"), (0, .string 43), (0, u "float"), (0, .string 45), (0, u "double"), (0, .string 47), (0, u "boolean"), (0, .methodref 17 49), (0, .nameAndType 50 51), (0, u "charAt"), (0, u "(I)C"), (0, .methodref 17 53), (0, .nameAndType 54 55), (0, u "equals"), (0, u "(Ljava/lang/Object;)Z"), (0, .fieldref 30 57), (0, .nameAndType 58 59), (0, u "STRING"), (0, u "Lcom/example/pemmican/pemmican/DataType;"), (0, .fieldref 30 61), (0, .nameAndType 62 59), (0, u "INTEGER"), (0, .fieldref 30 64), (0, .nameAndType 65 59), (0, u "FLOAT"), (0, .fieldref 30 67), (0, .nameAndType 68 59), (0, u "DOUBLE"), (0, .fieldref 30 70), (0, .nameAndType 71 59), (0, u "BOOLEAN"), (2, u "law"), (0, u "(IIIIII)Z")] 5

def k1m0 : Method := { name := "<init>", desc := "()V", sig := { parameters := [], returnType := none }, accessFlags := 1, code := none }
def k1c1 : Code := { maxStack := 7, maxLocals := 14, code := code, exceptionTable := #[], attributes := #[] }
def k1m1 : Method := { name := "law", desc := "(IIIIII)Z", sig := { parameters := [.int, .int, .int, .int, .int, .int], returnType := some .boolean }, accessFlags := 9, code := some k1c1 }
def k1c2 : Code := { maxStack := 2, maxLocals := 1, code := method_3_code, exceptionTable := #[], attributes := #[] }
def k1m2 : Method := { name := "baseName", desc := "(I)Ljava/lang/String;", sig := { parameters := [.int], returnType := some (.object "java/lang/String") }, accessFlags := 10, code := some k1c2 }
def k1c3 : Code := { maxStack := 4, maxLocals := 6, code := method_4_code, exceptionTable := #[], attributes := #[] }
def k1m3 : Method := { name := "ch", desc := "(Ljava/lang/String;IIII)C", sig := { parameters := [(.object "java/lang/String"), .int, .int, .int, .int], returnType := some .char }, accessFlags := 10, code := some k1c3 }
def k1c4 : Code := { maxStack := 2, maxLocals := 1, code := method_5_code, exceptionTable := #[], attributes := #[] }
def k1m4 : Method := { name := "expected", desc := "(Ljava/lang/String;)Lcom/example/pemmican/pemmican/DataType;", sig := { parameters := [(.object "java/lang/String")], returnType := some (.object "com/example/pemmican/pemmican/DataType") }, accessFlags := 10, code := some k1c4 }
/-- com/example/pemmican/pemmican/DataTypeNamedPinLaw -/
def k1 : Class := { plain "com/example/pemmican/pemmican/DataTypeNamedPinLaw" (some 0) with
  accessFlags := 49
  interfaces := #[]
  cf := some (fileOf pool1 11 #[] #[{ accessFlags := 1, nameIndex := 5, descriptorIndex := 6, attributes := #[] }, { accessFlags := 9, nameIndex := 74, descriptorIndex := 75, attributes := #[] }, { accessFlags := 10, nameIndex := 14, descriptorIndex := 15, attributes := #[] }, { accessFlags := 10, nameIndex := 24, descriptorIndex := 25, attributes := #[] }, { accessFlags := 10, nameIndex := 37, descriptorIndex := 34, attributes := #[] }] 49 2 #[] #[])
  fields := #[]
  methods := #[k1m0, k1m1, k1m2, k1m3, k1m4]
  instanceTypes := #[]
  staticTypes := #[]
  resolved := Array.replicate 81 none
  statics := none }

def pool2 : Array CpInfo := pool [(1, .class_ 2), (0, u "java/io/Serializable"), (0, .class_ 4), (0, u "java/lang/Object")] 2

/-- java/io/Serializable -/
def k2 : Class := { plain "java/io/Serializable" (some 0) with
  accessFlags := 1537
  interfaces := #[]
  cf := some (fileOf pool2 1 #[] #[] 1537 3 #[] #[])
  fields := #[]
  methods := #[]
  instanceTypes := #[]
  staticTypes := #[]
  resolved := Array.replicate 7 none
  statics := none }

def pool3 : Array CpInfo := pool [(1, .class_ 2), (0, u "java/lang/Comparable"), (0, .class_ 4), (0, u "java/lang/Object")] 7

/-- java/lang/Comparable -/
def k3 : Class := { plain "java/lang/Comparable" (some 0) with
  accessFlags := 1537
  interfaces := #[]
  cf := some (fileOf pool3 1 #[] #[] 1537 3 #[] #[])
  fields := #[]
  methods := #[]
  instanceTypes := #[]
  staticTypes := #[]
  resolved := Array.replicate 12 none
  statics := none }

def pool4 : Array CpInfo := pool [(2, .class_ 4), (1, u "java/lang/CharSequence"), (42, .class_ 48), (0, u "java/lang/CharSequence$1CodePointIterator"), (10, .class_ 60), (0, u "java/lang/CharSequence$1CharIterator"), (5, .class_ 67), (0, u "java/lang/Object")] 63

/-- java/lang/CharSequence -/
def k4 : Class := { plain "java/lang/CharSequence" (some 0) with
  accessFlags := 1537
  interfaces := #[]
  cf := some (fileOf pool4 2 #[.nestMembers #[47, 59]] #[] 1537 66 #[] #[])
  fields := #[]
  methods := #[]
  instanceTypes := #[]
  staticTypes := #[]
  resolved := Array.replicate 131 none
  statics := none }

def pool5 : Array CpInfo := pool [(1, .class_ 2), (0, u "java/lang/constant/Constable"), (0, .class_ 4), (0, u "java/lang/Object")] 6

/-- java/lang/constant/Constable -/
def k5 : Class := { plain "java/lang/constant/Constable" (some 0) with
  accessFlags := 1537
  interfaces := #[]
  cf := some (fileOf pool5 1 #[] #[] 1537 3 #[] #[])
  fields := #[]
  methods := #[]
  instanceTypes := #[]
  staticTypes := #[]
  resolved := Array.replicate 11 none
  statics := none }

def pool6 : Array CpInfo := pool [(1, .class_ 2), (0, u "java/lang/constant/ConstantDesc"), (0, .class_ 4), (0, u "java/lang/Object")] 32

/-- java/lang/constant/ConstantDesc -/
def k6 : Class := { plain "java/lang/constant/ConstantDesc" (some 0) with
  accessFlags := 1537
  interfaces := #[]
  cf := some (fileOf pool6 1 #[] #[] 1537 3 #[] #[])
  fields := #[]
  methods := #[]
  instanceTypes := #[]
  staticTypes := #[]
  resolved := Array.replicate 37 none
  statics := none }

def pool7 : Array CpInfo := pool [(1, .methodref 2 3), (0, .class_ 4), (0, .nameAndType 5 6), (0, u "java/lang/Object"), (0, u "<init>"), (0, u "()V"), (0, .string 8), (0, u ""), (0, .fieldref 10 11), (0, .class_ 12), (0, .nameAndType 13 14), (0, u "java/lang/String"), (0, u "value"), (0, u "[B"), (0, .fieldref 10 16), (0, .nameAndType 17 18), (0, u "coder"), (0, u "B"), (2, u "hash"), (0, u "I"), (2, u "hashIsZero"), (0, u "Z"), (0, .methodref 10 28), (0, .nameAndType 5 29), (0, u "([CIILjava/lang/Void;)V"), (8, .fieldref 10 39), (0, .nameAndType 40 26), (0, u "COMPACT_STRINGS"), (1, .class_ 44), (1, u "java/lang/StringUTF16"), (0, u "compress"), (1, .methodref 42 48), (0, .nameAndType 49 50), (0, u "coderFromArrayLen"), (0, u "([BI)B"), (56, .class_ 109), (1, u "java/lang/StringLatin1"), (32, u "()Z"), (34, .methodref 42 178), (0, .nameAndType 45 179), (0, u "([CII)[B"), (154, u "()I"), (0, .methodref 10 336), (0, .nameAndType 17 337), (0, u "()B"), (25, u "([BI)C"), (27, u "(II)V"), (35, u "(I)C"), (64, .methodref 10 493), (0, .nameAndType 494 142), (0, u "isLatin1"), (0, .methodref 107 496), (0, .nameAndType 497 363), (0, u "charAt"), (3, u "checkIndex"), (5, u "length"), (33, .methodref 107 542), (0, .nameAndType 543 544), (0, u "equals"), (0, u "([B[B)Z"), (28, u "(Ljava/lang/Object;)Z"), (1, .class_ 576), (0, u "java/lang/CharSequence"), (22, u "CASE_INSENSITIVE_ORDER"), (0, u "Ljava/util/Comparator;"), (409, u "([C)V"), (42, .fieldref 1054 1055), (0, .class_ 1056), (0, .nameAndType 1057 1058), (0, u "jdk/internal/util/Preconditions"), (0, u "SIOOBE_FORMATTER"), (0, u "Ljava/util/function/BiFunction;"), (0, .methodref 1054 1060), (0, .nameAndType 501 1061), (0, u "(IILjava/util/function/BiFunction;)I"), (39, u "serialPersistentFields"), (0, u "[Ljava/io/ObjectStreamField;"), (0, .class_ 1104), (0, u "java/lang/String$CaseInsensitiveComparator"), (1, .class_ 1107), (0, u "java/io/Serializable"), (0, .class_ 1109), (0, u "java/lang/Comparable"), (0, .class_ 1111), (0, u "java/lang/constant/Constable"), (0, .class_ 1113), (0, u "java/lang/constant/ConstantDesc"), (2, u "serialVersionUID"), (0, u "J"), (3, u "REPL"), (0, u "C"), (2, u "LATIN1"), (1, u "UTF16")] 323

def k7m0 : Method := { name := "<init>", desc := "()V", sig := { parameters := [], returnType := none }, accessFlags := 1, code := none }
def k7c1 : Code := { maxStack := 5, maxLocals := 2, code := jdk_42_method_3_code, exceptionTable := #[], attributes := #[] }
def k7m1 : Method := { name := "<init>", desc := "([C)V", sig := { parameters := [(.array .char)], returnType := none }, accessFlags := 1, code := some k7c1 }
def k7c2 : Code := { maxStack := 2, maxLocals := 1, code := jdk_42_method_54_code, exceptionTable := #[], attributes := #[] }
def k7m2 : Method := { name := "length", desc := "()I", sig := { parameters := [], returnType := some .int }, accessFlags := 1, code := some k7c2 }
def k7c3 : Code := { maxStack := 2, maxLocals := 2, code := jdk_42_method_56_code, exceptionTable := #[], attributes := #[] }
def k7m3 : Method := { name := "charAt", desc := "(I)C", sig := { parameters := [.int], returnType := some .char }, accessFlags := 1, code := some k7c3 }
def k7c4 : Code := { maxStack := 2, maxLocals := 3, code := jdk_42_method_66_code, exceptionTable := #[], attributes := #[] }
def k7m4 : Method := { name := "equals", desc := "(Ljava/lang/Object;)Z", sig := { parameters := [(.object "java/lang/Object")], returnType := some .boolean }, accessFlags := 1, code := some k7c4 }
def k7c5 : Code := { maxStack := 4, maxLocals := 6, code := jdk_42_method_149_code, exceptionTable := #[], attributes := #[] }
def k7m5 : Method := { name := "<init>", desc := "([CIILjava/lang/Void;)V", sig := { parameters := [(.array .char), .int, .int, (.object "java/lang/Void")], returnType := none }, accessFlags := 2, code := some k7c5 }
def k7c6 : Code := { maxStack := 1, maxLocals := 1, code := jdk_42_method_152_code, exceptionTable := #[], attributes := #[] }
def k7m6 : Method := { name := "coder", desc := "()B", sig := { parameters := [], returnType := some .byte }, accessFlags := 0, code := some k7c6 }
def k7c7 : Code := { maxStack := 1, maxLocals := 1, code := jdk_42_method_154_code, exceptionTable := #[], attributes := #[] }
def k7m7 : Method := { name := "isLatin1", desc := "()Z", sig := { parameters := [], returnType := some .boolean }, accessFlags := 0, code := some k7c7 }
def k7c8 : Code := { maxStack := 3, maxLocals := 2, code := jdk_42_method_155_code, exceptionTable := #[], attributes := #[] }
def k7m8 : Method := { name := "checkIndex", desc := "(II)V", sig := { parameters := [.int, .int], returnType := none }, accessFlags := 8, code := some k7c8 }
/-- java/lang/String -/
def k7 : Class := { plain "java/lang/String" (some 0) with
  accessFlags := 49
  interfaces := #[2, 3, 4, 5, 6]
  cf := some (fileOf pool7 10 #[.nestMembers #[1103]] #[{ accessFlags := 1, nameIndex := 5, descriptorIndex := 6, attributes := #[] }, { accessFlags := 1, nameIndex := 5, descriptorIndex := 1010, attributes := #[] }, { accessFlags := 1, nameIndex := 507, descriptorIndex := 334, attributes := #[] }, { accessFlags := 1, nameIndex := 497, descriptorIndex := 427, attributes := #[] }, { accessFlags := 1, nameIndex := 543, descriptorIndex := 573, attributes := #[] }, { accessFlags := 2, nameIndex := 5, descriptorIndex := 29, attributes := #[] }, { accessFlags := 0, nameIndex := 17, descriptorIndex := 337, attributes := #[] }, { accessFlags := 0, nameIndex := 494, descriptorIndex := 142, attributes := #[] }, { accessFlags := 8, nameIndex := 501, descriptorIndex := 391, attributes := #[] }] 49 2 #[1106, 1108, 575, 1110, 1112] #[{ accessFlags := 18, nameIndex := 13, descriptorIndex := 14, attributes := #[] }, { accessFlags := 18, nameIndex := 17, descriptorIndex := 18, attributes := #[] }, { accessFlags := 2, nameIndex := 21, descriptorIndex := 22, attributes := #[] }, { accessFlags := 2, nameIndex := 25, descriptorIndex := 26, attributes := #[] }, { accessFlags := 26, nameIndex := 1116, descriptorIndex := 1117, attributes := #[] }, { accessFlags := 24, nameIndex := 40, descriptorIndex := 26, attributes := #[] }, { accessFlags := 26, nameIndex := 1101, descriptorIndex := 1102, attributes := #[] }, { accessFlags := 26, nameIndex := 1121, descriptorIndex := 1122, attributes := #[] }, { accessFlags := 25, nameIndex := 599, descriptorIndex := 600, attributes := #[] }, { accessFlags := 24, nameIndex := 1125, descriptorIndex := 18, attributes := #[] }, { accessFlags := 24, nameIndex := 1127, descriptorIndex := 18, attributes := #[] }])
  fields := #[{ name := "value", type := (.array .byte), accessFlags := 18, slot := 0, constantValue := 0 }, { name := "coder", type := .byte, accessFlags := 18, slot := 1, constantValue := 0 }, { name := "hash", type := .int, accessFlags := 2, slot := 2, constantValue := 0 }, { name := "hashIsZero", type := .boolean, accessFlags := 2, slot := 3, constantValue := 0 }, { name := "serialVersionUID", type := .long, accessFlags := 26, slot := 0, constantValue := 0 }, { name := "COMPACT_STRINGS", type := .boolean, accessFlags := 24, slot := 1, constantValue := 0 }, { name := "serialPersistentFields", type := (.array (.object "java/io/ObjectStreamField")), accessFlags := 26, slot := 2, constantValue := 0 }, { name := "REPL", type := .char, accessFlags := 26, slot := 3, constantValue := 0 }, { name := "CASE_INSENSITIVE_ORDER", type := (.object "java/util/Comparator"), accessFlags := 25, slot := 4, constantValue := 0 }, { name := "LATIN1", type := .byte, accessFlags := 24, slot := 5, constantValue := 0 }, { name := "UTF16", type := .byte, accessFlags := 24, slot := 6, constantValue := 0 }]
  methods := #[k7m0, k7m1, k7m2, k7m3, k7m4, k7m5, k7m6, k7m7, k7m8]
  instanceTypes := #[(.array .byte), .byte, .int, .boolean]
  staticTypes := #[.long, .boolean, (.array (.object "java/io/ObjectStreamField")), .char, (.object "java/util/Comparator"), .byte, .byte]
  resolved := Array.replicate 1451 none
  statics := some 0 }

def pool8 : Array CpInfo := pool [(2, .class_ 4), (1, u "java/lang/Enum"), (0, u "name"), (0, u "Ljava/lang/String;"), (2, u "ordinal"), (0, u "I"), (1, .class_ 14), (1, u "java/lang/Object"), (4, u "hash"), (86, .class_ 108), (1, u "java/lang/Enum$EnumDesc"), (2, .class_ 112), (0, u "java/lang/constant/Constable"), (0, .class_ 114), (0, u "java/lang/Comparable"), (0, .class_ 116), (0, u "java/io/Serializable")] 87

/-- java/lang/Enum -/
def k8 : Class := { plain "java/lang/Enum" (some 0) with
  accessFlags := 1057
  interfaces := #[5, 3, 2]
  cf := some (fileOf pool8 2 #[.nestMembers #[106]] #[] 1057 12 #[111, 113, 115] #[{ accessFlags := 18, nameIndex := 5, descriptorIndex := 6, attributes := #[] }, { accessFlags := 18, nameIndex := 9, descriptorIndex := 10, attributes := #[] }, { accessFlags := 2, nameIndex := 19, descriptorIndex := 10, attributes := #[] }])
  fields := #[{ name := "name", type := (.object "java/lang/String"), accessFlags := 18, slot := 0, constantValue := 0 }, { name := "ordinal", type := .int, accessFlags := 18, slot := 1, constantValue := 0 }, { name := "hash", type := .int, accessFlags := 2, slot := 2, constantValue := 0 }]
  methods := #[]
  instanceTypes := #[(.object "java/lang/String"), .int, .int]
  staticTypes := #[]
  resolved := Array.replicate 204 none
  statics := none }

def pool9 : Array CpInfo := pool [(1, .class_ 2), (0, u "com/example/pemmican/pemmican/DataType"), (2, u "STRING"), (0, u "Lcom/example/pemmican/pemmican/DataType;"), (2, u "INTEGER"), (2, u "FLOAT"), (2, u "DOUBLE"), (2, u "BOOLEAN"), (0, .fieldref 1 20), (0, .nameAndType 21 22), (0, u "$VALUES"), (0, u "[Lcom/example/pemmican/pemmican/DataType;"), (0, .methodref 24 25), (0, .class_ 22), (0, .nameAndType 26 27), (0, u "clone"), (0, u "()Ljava/lang/Object;"), (1, .class_ 31), (1, u "java/lang/Enum"), (6, .fieldref 1 39), (0, .nameAndType 40 41), (0, u "pmmlName"), (0, u "Ljava/lang/String;"), (0, .methodref 1 43), (0, .nameAndType 44 45), (0, u "values"), (0, u "()[Lcom/example/pemmican/pemmican/DataType;"), (0, .methodref 47 48), (0, .class_ 49), (0, .nameAndType 50 51), (0, u "java/lang/String"), (0, u "equals"), (0, u "(Ljava/lang/Object;)Z"), (105, u "(Ljava/lang/String;)Lcom/example/pemmican/pemmican/DataType;"), (3, u "named")] 12

def k9c0 : Code := { maxStack := 1, maxLocals := 0, code := prog_16_method_1_code, exceptionTable := #[], attributes := #[] }
def k9m0 : Method := { name := "values", desc := "()[Lcom/example/pemmican/pemmican/DataType;", sig := { parameters := [], returnType := some (.array (.object "com/example/pemmican/pemmican/DataType")) }, accessFlags := 9, code := some k9c0 }
def k9c1 : Code := { maxStack := 2, maxLocals := 5, code := prog_16_method_4_code, exceptionTable := #[], attributes := #[] }
def k9m1 : Method := { name := "named", desc := "(Ljava/lang/String;)Lcom/example/pemmican/pemmican/DataType;", sig := { parameters := [(.object "java/lang/String")], returnType := some (.object "com/example/pemmican/pemmican/DataType") }, accessFlags := 8, code := some k9c1 }
/-- com/example/pemmican/pemmican/DataType -/
def k9 : Class := { plain "com/example/pemmican/pemmican/DataType" (some 8) with
  accessFlags := 16432
  interfaces := #[]
  cf := some (fileOf pool9 1 #[] #[{ accessFlags := 9, nameIndex := 44, descriptorIndex := 45, attributes := #[] }, { accessFlags := 8, nameIndex := 161, descriptorIndex := 157, attributes := #[] }] 16432 29 #[] #[{ accessFlags := 16409, nameIndex := 5, descriptorIndex := 6, attributes := #[] }, { accessFlags := 16409, nameIndex := 9, descriptorIndex := 6, attributes := #[] }, { accessFlags := 16409, nameIndex := 12, descriptorIndex := 6, attributes := #[] }, { accessFlags := 16409, nameIndex := 15, descriptorIndex := 6, attributes := #[] }, { accessFlags := 16409, nameIndex := 18, descriptorIndex := 6, attributes := #[] }, { accessFlags := 18, nameIndex := 40, descriptorIndex := 41, attributes := #[] }, { accessFlags := 4122, nameIndex := 21, descriptorIndex := 22, attributes := #[] }])
  fields := #[{ name := "STRING", type := (.object "com/example/pemmican/pemmican/DataType"), accessFlags := 16409, slot := 0, constantValue := 0 }, { name := "INTEGER", type := (.object "com/example/pemmican/pemmican/DataType"), accessFlags := 16409, slot := 1, constantValue := 0 }, { name := "FLOAT", type := (.object "com/example/pemmican/pemmican/DataType"), accessFlags := 16409, slot := 2, constantValue := 0 }, { name := "DOUBLE", type := (.object "com/example/pemmican/pemmican/DataType"), accessFlags := 16409, slot := 3, constantValue := 0 }, { name := "BOOLEAN", type := (.object "com/example/pemmican/pemmican/DataType"), accessFlags := 16409, slot := 4, constantValue := 0 }, { name := "pmmlName", type := (.object "java/lang/String"), accessFlags := 18, slot := 3, constantValue := 0 }, { name := "$VALUES", type := (.array (.object "com/example/pemmican/pemmican/DataType")), accessFlags := 4122, slot := 5, constantValue := 0 }]
  methods := #[k9m0, k9m1]
  instanceTypes := #[(.object "java/lang/String"), .int, .int, (.object "java/lang/String")]
  staticTypes := #[(.object "com/example/pemmican/pemmican/DataType"), (.object "com/example/pemmican/pemmican/DataType"), (.object "com/example/pemmican/pemmican/DataType"), (.object "com/example/pemmican/pemmican/DataType"), (.object "com/example/pemmican/pemmican/DataType"), (.array (.object "com/example/pemmican/pemmican/DataType"))]
  resolved := Array.replicate 174 none
  statics := some 1 }

def pool10 : Array CpInfo := pool [(1, .class_ 2), (0, u "java/lang/Cloneable"), (0, .class_ 4), (0, u "java/lang/Object")] 2

/-- java/lang/Cloneable -/
def k10 : Class := { plain "java/lang/Cloneable" (some 0) with
  accessFlags := 1537
  interfaces := #[]
  cf := some (fileOf pool10 1 #[] #[] 1537 3 #[] #[])
  fields := #[]
  methods := #[]
  instanceTypes := #[]
  staticTypes := #[]
  resolved := Array.replicate 7 none
  statics := none }

def pool11 : Array CpInfo := pool [(1, .class_ 2), (0, u "java/lang/String"), (1, .class_ 6), (1, u "java/lang/Object"), (0, u "<init>"), (0, u "()V"), (0, .methodref 1 10), (0, .nameAndType 11 12), (0, u "checkIndex"), (0, u "(II)V"), (1, .class_ 16), (1, u "java/lang/StringLatin1"), (36, u "([BI)C"), (67, u "$assertionsDisabled"), (0, u "Z"), (98, .class_ 223), (1, u "java/lang/StringLatin1$LinesSpliterator"), (28, u "charAt"), (28, u "equals"), (0, u "([B[B)Z"), (107, .class_ 391), (0, u "java/lang/StringLatin1$CharsSpliterator")] 3

def k11m0 : Method := { name := "<init>", desc := "()V", sig := { parameters := [], returnType := none }, accessFlags := 0, code := none }
def k11c1 : Code := { maxStack := 2, maxLocals := 2, code := jdk_43_method_2_code, exceptionTable := #[], attributes := #[] }
def k11m1 : Method := { name := "charAt", desc := "([BI)C", sig := { parameters := [(.array .byte), .int], returnType := some .char }, accessFlags := 9, code := some k11c1 }
def k11c2 : Code := { maxStack := 3, maxLocals := 3, code := jdk_43_method_13_code, exceptionTable := #[], attributes := #[] }
def k11m2 : Method := { name := "equals", desc := "([B[B)Z", sig := { parameters := [(.array .byte), (.array .byte)], returnType := some .boolean }, accessFlags := 9, code := some k11c2 }
/-- java/lang/StringLatin1 -/
def k11 : Class := { plain "java/lang/StringLatin1" (some 0) with
  accessFlags := 48
  interfaces := #[]
  cf := some (fileOf pool11 14 #[.nestMembers #[390, 221]] #[{ accessFlags := 0, nameIndex := 7, descriptorIndex := 8, attributes := #[] }, { accessFlags := 9, nameIndex := 252, descriptorIndex := 53, attributes := #[] }, { accessFlags := 9, nameIndex := 281, descriptorIndex := 282, attributes := #[] }] 48 4 #[] #[{ accessFlags := 4120, nameIndex := 121, descriptorIndex := 122, attributes := #[] }])
  fields := #[{ name := "$assertionsDisabled", type := .boolean, accessFlags := 4120, slot := 0, constantValue := 0 }]
  methods := #[k11m0, k11m1, k11m2]
  instanceTypes := #[]
  staticTypes := #[.boolean]
  resolved := Array.replicate 395 none
  statics := none }

def pool12 : Array CpInfo := pool [(2, .class_ 4), (1, u "java/lang/Object"), (0, u "<init>"), (0, u "()V"), (17, .class_ 26), (1, u "jdk/internal/util/Preconditions"), (6, u "checkIndex"), (21, .class_ 56), (0, u "jdk/internal/util/Preconditions$4"), (57, .class_ 115), (0, u "jdk/internal/util/Preconditions$1"), (7, u "SIOOBE_FORMATTER"), (0, u "Ljava/util/function/BiFunction;"), (0, .class_ 126), (0, u "jdk/internal/util/Preconditions$2"), (3, u "AIOOBE_FORMATTER"), (0, .class_ 132), (0, u "jdk/internal/util/Preconditions$3"), (3, u "IOOBE_FORMATTER"), (41, u "(IILjava/util/function/BiFunction;)I")] 15

def k12m0 : Method := { name := "<init>", desc := "()V", sig := { parameters := [], returnType := none }, accessFlags := 1, code := none }
def k12c1 : Code := { maxStack := 3, maxLocals := 3, code := jdk_41_method_11_code, exceptionTable := #[], attributes := #[] }
def k12m1 : Method := { name := "checkIndex", desc := "(IILjava/util/function/BiFunction;)I", sig := { parameters := [.int, .int, (.object "java/util/function/BiFunction")], returnType := some .int }, accessFlags := 9, code := some k12c1 }
/-- jdk/internal/util/Preconditions -/
def k12 : Class := { plain "jdk/internal/util/Preconditions" (some 0) with
  accessFlags := 33
  interfaces := #[]
  cf := some (fileOf pool12 24 #[.nestMembers #[55, 131, 125, 114]] #[{ accessFlags := 1, nameIndex := 5, descriptorIndex := 6, attributes := #[] }, { accessFlags := 9, nameIndex := 33, descriptorIndex := 178, attributes := #[] }] 33 2 #[] #[{ accessFlags := 25, nameIndex := 123, descriptorIndex := 124, attributes := #[] }, { accessFlags := 25, nameIndex := 130, descriptorIndex := 124, attributes := #[] }, { accessFlags := 25, nameIndex := 136, descriptorIndex := 124, attributes := #[] }])
  fields := #[{ name := "SIOOBE_FORMATTER", type := (.object "java/util/function/BiFunction"), accessFlags := 25, slot := 0, constantValue := 0 }, { name := "AIOOBE_FORMATTER", type := (.object "java/util/function/BiFunction"), accessFlags := 25, slot := 1, constantValue := 0 }, { name := "IOOBE_FORMATTER", type := (.object "java/util/function/BiFunction"), accessFlags := 25, slot := 2, constantValue := 0 }]
  methods := #[k12m0, k12m1]
  instanceTypes := #[]
  staticTypes := #[(.object "java/util/function/BiFunction"), (.object "java/util/function/BiFunction"), (.object "java/util/function/BiFunction")]
  resolved := Array.replicate 194 none
  statics := some 2 }

def pool13 : Array CpInfo := pool [(6, .class_ 8), (1, u "java/lang/Object"), (0, u "<init>"), (0, u "()V"), (1, .class_ 14), (1, u "java/lang/StringUTF16"), (31, u "$assertionsDisabled"), (0, u "Z"), (13, u "HI_BYTE_SHIFT"), (0, u "I"), (2, u "LO_BYTE_SHIFT"), (49, .methodref 12 116), (0, .nameAndType 117 118), (0, u "compress"), (0, u "([CI[BII)I"), (3, u "([CII)[B"), (138, u "coderFromArrayLen"), (0, u "([BI)B"), (106, .class_ 371), (1, u "java/lang/StringUTF16$LinesSpliterator"), (58, u "MAX_LENGTH"), (196, .class_ 628), (0, u "java/lang/StringUTF16$CodePointsSpliterator"), (0, .class_ 630), (0, u "java/lang/StringUTF16$CharsSpliterator")] 4

def k13m0 : Method := { name := "<init>", desc := "()V", sig := { parameters := [], returnType := none }, accessFlags := 0, code := none }
def k13c1 : Code := { maxStack := 2, maxLocals := 2, code := jdk_52_method_15_code, exceptionTable := #[], attributes := #[] }
def k13m1 : Method := { name := "coderFromArrayLen", desc := "([BI)B", sig := { parameters := [(.array .byte), .int], returnType := some .byte }, accessFlags := 8, code := some k13c1 }
def k13c2 : Code := { maxStack := 5, maxLocals := 6, code := jdk_52_method_16_code, exceptionTable := #[], attributes := #[] }
def k13m2 : Method := { name := "compress", desc := "([CII)[B", sig := { parameters := [(.array .char), .int, .int], returnType := some (.array .byte) }, accessFlags := 9, code := some k13c2 }
def k13c3 : Code := { maxStack := 3, maxLocals := 7, code := jdk_52_method_21_code, exceptionTable := #[], attributes := #[] }
def k13m3 : Method := { name := "compress", desc := "([CI[BII)I", sig := { parameters := [(.array .char), .int, (.array .byte), .int, .int], returnType := some .int }, accessFlags := 9, code := some k13c3 }
/-- java/lang/StringUTF16 -/
def k13 : Class := { plain "java/lang/StringUTF16" (some 0) with
  accessFlags := 48
  interfaces := #[]
  cf := some (fileOf pool13 12 #[.nestMembers #[627, 629, 369]] #[{ accessFlags := 0, nameIndex := 9, descriptorIndex := 10, attributes := #[] }, { accessFlags := 8, nameIndex := 261, descriptorIndex := 262, attributes := #[] }, { accessFlags := 9, nameIndex := 117, descriptorIndex := 122, attributes := #[] }, { accessFlags := 9, nameIndex := 117, descriptorIndex := 118, attributes := #[] }] 48 6 #[] #[{ accessFlags := 26, nameIndex := 61, descriptorIndex := 62, attributes := #[] }, { accessFlags := 26, nameIndex := 65, descriptorIndex := 62, attributes := #[] }, { accessFlags := 24, nameIndex := 430, descriptorIndex := 62, attributes := #[] }, { accessFlags := 4120, nameIndex := 46, descriptorIndex := 47, attributes := #[] }])
  fields := #[{ name := "HI_BYTE_SHIFT", type := .int, accessFlags := 26, slot := 0, constantValue := 0 }, { name := "LO_BYTE_SHIFT", type := .int, accessFlags := 26, slot := 1, constantValue := 0 }, { name := "MAX_LENGTH", type := .int, accessFlags := 24, slot := 2, constantValue := 0 }, { name := "$assertionsDisabled", type := .boolean, accessFlags := 4120, slot := 3, constantValue := 0 }]
  methods := #[k13m0, k13m1, k13m2, k13m3]
  instanceTypes := #[]
  staticTypes := #[.int, .int, .int, .boolean]
  resolved := Array.replicate 635 none
  statics := none }

def pool14 : Array CpInfo := pool [(9, u "<init>"), (6, .class_ 18), (1, u "java/lang/Object"), (0, u "()V"), (1, .class_ 23), (1, u "jdk/internal/util/ArraysSupport"), (0, u "LOG2_ARRAY_LONG_INDEX_SCALE"), (0, u "I"), (2, u "U"), (0, u "Ljdk/internal/misc/Unsafe;"), (8, u "BIG_ENDIAN"), (0, u "Z"), (8, u "LOG2_BYTE_BIT_SIZE"), (4, u "LOG2_ARRAY_INT_INDEX_SCALE"), (54, u "JLA"), (0, u "Ljdk/internal/access/JavaLangAccess;"), (11, u "LOG2_ARRAY_BOOLEAN_INDEX_SCALE"), (9, u "LOG2_ARRAY_BYTE_INDEX_SCALE"), (5, u "LOG2_ARRAY_CHAR_INDEX_SCALE"), (5, u "LOG2_ARRAY_SHORT_INDEX_SCALE"), (18, u "LOG2_ARRAY_FLOAT_INDEX_SCALE"), (24, u "LOG2_ARRAY_DOUBLE_INDEX_SCALE"), (89, u "T_BOOLEAN"), (2, u "T_CHAR"), (1, u "T_FLOAT"), (1, u "T_DOUBLE"), (1, u "T_BYTE"), (1, u "T_SHORT"), (1, u "T_INT"), (1, u "T_LONG"), (1, u "SOFT_MAX_ARRAY_LENGTH")] 83

def k14m0 : Method := { name := "<init>", desc := "()V", sig := { parameters := [], returnType := none }, accessFlags := 2, code := none }
/-- jdk/internal/util/ArraysSupport -/
def k14 : Class := { plain "jdk/internal/util/ArraysSupport" (some 0) with
  accessFlags := 33
  interfaces := #[]
  cf := some (fileOf pool14 21 #[] #[{ accessFlags := 2, nameIndex := 9, descriptorIndex := 19, attributes := #[] }] 33 16 #[] #[{ accessFlags := 24, nameIndex := 28, descriptorIndex := 29, attributes := #[] }, { accessFlags := 26, nameIndex := 38, descriptorIndex := 39, attributes := #[] }, { accessFlags := 25, nameIndex := 121, descriptorIndex := 25, attributes := #[] }, { accessFlags := 25, nameIndex := 131, descriptorIndex := 25, attributes := #[] }, { accessFlags := 25, nameIndex := 137, descriptorIndex := 25, attributes := #[] }, { accessFlags := 25, nameIndex := 143, descriptorIndex := 25, attributes := #[] }, { accessFlags := 25, nameIndex := 53, descriptorIndex := 25, attributes := #[] }, { accessFlags := 25, nameIndex := 24, descriptorIndex := 25, attributes := #[] }, { accessFlags := 25, nameIndex := 162, descriptorIndex := 25, attributes := #[] }, { accessFlags := 25, nameIndex := 187, descriptorIndex := 25, attributes := #[] }, { accessFlags := 26, nameIndex := 48, descriptorIndex := 25, attributes := #[] }, { accessFlags := 25, nameIndex := 277, descriptorIndex := 25, attributes := #[] }, { accessFlags := 25, nameIndex := 280, descriptorIndex := 25, attributes := #[] }, { accessFlags := 25, nameIndex := 282, descriptorIndex := 25, attributes := #[] }, { accessFlags := 25, nameIndex := 284, descriptorIndex := 25, attributes := #[] }, { accessFlags := 25, nameIndex := 286, descriptorIndex := 25, attributes := #[] }, { accessFlags := 25, nameIndex := 288, descriptorIndex := 25, attributes := #[] }, { accessFlags := 25, nameIndex := 290, descriptorIndex := 25, attributes := #[] }, { accessFlags := 25, nameIndex := 292, descriptorIndex := 25, attributes := #[] }, { accessFlags := 26, nameIndex := 108, descriptorIndex := 109, attributes := #[] }, { accessFlags := 25, nameIndex := 294, descriptorIndex := 25, attributes := #[] }])
  fields := #[{ name := "U", type := (.object "jdk/internal/misc/Unsafe"), accessFlags := 24, slot := 0, constantValue := 0 }, { name := "BIG_ENDIAN", type := .boolean, accessFlags := 26, slot := 1, constantValue := 0 }, { name := "LOG2_ARRAY_BOOLEAN_INDEX_SCALE", type := .int, accessFlags := 25, slot := 2, constantValue := 0 }, { name := "LOG2_ARRAY_BYTE_INDEX_SCALE", type := .int, accessFlags := 25, slot := 3, constantValue := 0 }, { name := "LOG2_ARRAY_CHAR_INDEX_SCALE", type := .int, accessFlags := 25, slot := 4, constantValue := 0 }, { name := "LOG2_ARRAY_SHORT_INDEX_SCALE", type := .int, accessFlags := 25, slot := 5, constantValue := 0 }, { name := "LOG2_ARRAY_INT_INDEX_SCALE", type := .int, accessFlags := 25, slot := 6, constantValue := 0 }, { name := "LOG2_ARRAY_LONG_INDEX_SCALE", type := .int, accessFlags := 25, slot := 7, constantValue := 0 }, { name := "LOG2_ARRAY_FLOAT_INDEX_SCALE", type := .int, accessFlags := 25, slot := 8, constantValue := 0 }, { name := "LOG2_ARRAY_DOUBLE_INDEX_SCALE", type := .int, accessFlags := 25, slot := 9, constantValue := 0 }, { name := "LOG2_BYTE_BIT_SIZE", type := .int, accessFlags := 26, slot := 10, constantValue := 0 }, { name := "T_BOOLEAN", type := .int, accessFlags := 25, slot := 11, constantValue := 0 }, { name := "T_CHAR", type := .int, accessFlags := 25, slot := 12, constantValue := 0 }, { name := "T_FLOAT", type := .int, accessFlags := 25, slot := 13, constantValue := 0 }, { name := "T_DOUBLE", type := .int, accessFlags := 25, slot := 14, constantValue := 0 }, { name := "T_BYTE", type := .int, accessFlags := 25, slot := 15, constantValue := 0 }, { name := "T_SHORT", type := .int, accessFlags := 25, slot := 16, constantValue := 0 }, { name := "T_INT", type := .int, accessFlags := 25, slot := 17, constantValue := 0 }, { name := "T_LONG", type := .int, accessFlags := 25, slot := 18, constantValue := 0 }, { name := "JLA", type := (.object "jdk/internal/access/JavaLangAccess"), accessFlags := 26, slot := 19, constantValue := 0 }, { name := "SOFT_MAX_ARRAY_LENGTH", type := .int, accessFlags := 25, slot := 20, constantValue := 0 }]
  methods := #[k14m0]
  instanceTypes := #[]
  staticTypes := #[(.object "jdk/internal/misc/Unsafe"), .boolean, .int, .int, .int, .int, .int, .int, .int, .int, .int, .int, .int, .int, .int, .int, .int, .int, .int, (.object "jdk/internal/access/JavaLangAccess"), .int]
  resolved := Array.replicate 378 none
  statics := none }

/-- the primitive byte -/
def k15 : Class := { plain "byte" none with kind := .primitive 'B', accessFlags := 0x411 }
/-- [B -/
def k16 : Class := { plain "[B" (some 0) with kind := .array 15 .byte, interfaces := #[10, 2], accessFlags := 1041 }

/-- the primitive char -/
def k17 : Class := { plain "char" none with kind := .primitive 'C', accessFlags := 0x411 }
/-- [C -/
def k18 : Class := { plain "[C" (some 0) with kind := .array 17 .char, interfaces := #[10, 2], accessFlags := 1041 }

/-- the primitive int -/
def k19 : Class := { plain "int" none with kind := .primitive 'I', accessFlags := 0x411 }
/-- [I -/
def k20 : Class := { plain "[I" (some 0) with kind := .array 19 .int, interfaces := #[10, 2], accessFlags := 1041 }

/-- [Lcom/example/pemmican/pemmican/DataType; -/
def k21 : Class := { plain "[Lcom/example/pemmican/pemmican/DataType;" (some 0) with kind := .array 9 (.object "com/example/pemmican/pemmican/DataType"), interfaces := #[10, 2], accessFlags := 1041 }

def heap : Heap := #[{ cls := 7, slots := #[.long 0, .int 1, .null, .int 0, .null, .int 0, .int 0], vm := .statics 7 },
  { cls := 9, slots := #[.ref 3, .ref 4, .ref 5, .ref 6, .ref 7, .ref 18], vm := .statics 9 },
  { cls := 12, slots := #[.null, .null, .null], vm := .statics 12 },
  { cls := 9, slots := #[.null, .int 0, .int 0, .ref 8], vm := .none },
  { cls := 9, slots := #[.null, .int 1, .int 0, .ref 9], vm := .none },
  { cls := 9, slots := #[.null, .int 2, .int 0, .ref 10], vm := .none },
  { cls := 9, slots := #[.null, .int 3, .int 0, .ref 11], vm := .none },
  { cls := 9, slots := #[.null, .int 4, .int 0, .ref 12], vm := .none },
  { cls := 7, slots := #[.ref 13, .int 0, .int 0, .int 0], vm := .none },
  { cls := 7, slots := #[.ref 14, .int 0, .int 0, .int 0], vm := .none },
  { cls := 7, slots := #[.ref 15, .int 0, .int 0, .int 0], vm := .none },
  { cls := 7, slots := #[.ref 16, .int 0, .int 0, .int 0], vm := .none },
  { cls := 7, slots := #[.ref 17, .int 0, .int 0, .int 0], vm := .none },
  { cls := 16, slots := #[.int 115, .int 116, .int 114, .int 105, .int 110, .int 103], vm := .none },
  { cls := 16, slots := #[.int 105, .int 110, .int 116, .int 101, .int 103, .int 101, .int 114], vm := .none },
  { cls := 16, slots := #[.int 102, .int 108, .int 111, .int 97, .int 116], vm := .none },
  { cls := 16, slots := #[.int 100, .int 111, .int 117, .int 98, .int 108, .int 101], vm := .none },
  { cls := 16, slots := #[.int 98, .int 111, .int 111, .int 108, .int 101, .int 97, .int 110], vm := .none },
  { cls := 21, slots := #[.ref 3, .ref 4, .ref 5, .ref 6, .ref 7], vm := .none }]
def classes : Array Class := #[k0, k1, k2, k3, k4, k5, k6, k7, k8, k9, k10, k11, k12, k13, k14, k15, k16, k17, k18, k19, k20, k21]
def interned : List (Array UInt16 × Addr) := []
def slotsUsed : Nat := 92
def theMethod : MethodId := ⟨1, 1⟩
def args0 : Array Value := #[.int 0, .int 1, .int 5, .int 3, .int 65, .int 7]
def aboutOver (below : List Frame) : State where
  vm := { classes := classes, interned := interned.toArray }
  heap := heap
  slotsUsed := slotsUsed
  threads := #[{ frames := .invoking theMethod args0 :: below }]
def below0 : List Frame := [.native { method := ⟨0, 0⟩, args := #[] }]
def about1 : State := aboutOver below0
def p0 : Program := .bare "" "" ""
def e0 : Env := launch0.env 0 0 0
theorem w_frames : about1.frames = Frame.invoking theMethod args0 :: below0 := rfl
set_option maxRecDepth 65536 in
theorem w_args : argsFit about1.vm theMethod args0 = true := by decide +kernel
set_option maxRecDepth 65536 in
theorem w_heap : heapFits about1 = true := by decide +kernel
set_option maxRecDepth 65536 in
theorem w_runnable : about1.curStatus? = some .runnable := by decide +kernel
set_option maxRecDepth 65536 in
theorem w_alone : about1.alone = true := by decide +kernel
set_option maxRecDepth 65536 in
theorem w_named : about1.methodNamed? x = some theMethod := by decide +kernel
set_option maxRecDepth 65536 in
theorem w_hears : about1.hears theMethod below0 = true := by decide +kernel
set_option maxRecDepth 65536 in
theorem w_ripe : about1.ripe theMethod args0 below0 = true := by decide +kernel
theorem w_running : about1.status = .running := rfl
set_option maxRecDepth 65536 in
theorem w_room : about1.hasRoom e0.platform room_1 = true :=
  launch0.hasRoom_least _ room_1 (by decide +kernel) (by decide +kernel) (by decide +kernel) (by decide +kernel) (by decide +kernel) (by decide +kernel)
theorem allAtoms_all (ts : List Jvm.Cond) (a : Array Jvm.Value) (st : Jvm.State) : (allAtoms ts).before a st = ts.all (fun c => c.before a st) := by
  induction ts with
  | nil => rfl
  | cons c t ih =>
    show (Jvm.Cond.and c (allAtoms t)).before a st = _
    rw [Jvm.Cond.before_and, ih, List.all_cons]
def words1 : List Jvm.Cond := Jvm.Cond.code x code maxLocals ret :: tables_1
/-- a 'code' word, met by the world's own term for the bytes: nothing is compared byte by byte -/
theorem code_word {y : MethodName} {bytes : ByteArray} {mx : Nat} {rt : Option FieldType} {a : Array Value} {s : State} {m : MethodId} {meth : Method} {c : Code} (h1 : s.methodNamed? y = some m) (h2 : s.vm.method? m = some meth) (h3 : meth.code = some c) (h4 : c.code = bytes)
    (h5 : (c.maxLocals == mx && c.exceptionTable.isEmpty && decide (c.maxStack ≤ mostOperands) && decide (meth.sig.returnType = rt) && !meth.locks && decide (parseMethodDescriptor y.desc = some meth.sig)) = true) : (Jvm.Cond.code y bytes mx rt).before a s = true := by
  simp only [Bool.and_eq_true, beq_iff_eq, Bool.not_eq_true', decide_eq_true_eq] at h5
  obtain ⟨⟨⟨⟨⟨g1, g2⟩, g3⟩, g4⟩, g5⟩, g6⟩ := h5
  simp [Cond.before, Cond.holds, Cond.value, h1, h2, h3, h4, g1, g2, g3, g4, g5, g6]
def isCode : Jvm.Cond → Bool
  | .code _ _ _ _ => true
  | _ => false
theorem all_split {L : List Jvm.Cond} {P : Jvm.Cond → Bool} (h1 : L.all (fun c => isCode c || P c) = true) (h2 : ∀ c ∈ L.filter isCode, P c = true) : L.all P = true := by
  refine List.all_eq_true.mpr fun c hc => ?_
  have h := List.all_eq_true.mp h1 c hc
  rcases Bool.eq_false_or_eq_true (isCode c) with hi | hi
  · exact h2 c (List.mem_filter.mpr ⟨hc, hi⟩)
  · simpa [hi] using h
set_option maxRecDepth 65536 in
theorem w_c0 : (Jvm.Cond.code x code maxLocals ret).before args0 about1 = true := code_word (m := ⟨1, 1⟩) (meth := k1m1) (c := k1c1) (by decide +kernel) rfl rfl rfl (by decide +kernel)
set_option maxRecDepth 65536 in
theorem w_c1 : (Jvm.Cond.code ({ cls := "java/lang/String", name := "length", desc := "()I" } : Jvm.MethodName) jdk_42_method_54_code (1 : Nat) (Option.some Jvm.ClassFile.FieldType.int)).before args0 about1 = true := code_word (m := ⟨7, 2⟩) (meth := k7m2) (c := k7c2) (by decide +kernel) rfl rfl rfl (by decide +kernel)
set_option maxRecDepth 65536 in
theorem w_c2 : (Jvm.Cond.code ({ cls := "java/lang/String", name := "coder", desc := "()B" } : Jvm.MethodName) jdk_42_method_152_code (1 : Nat) (Option.some Jvm.ClassFile.FieldType.byte)).before args0 about1 = true := code_word (m := ⟨7, 6⟩) (meth := k7m6) (c := k7c6) (by decide +kernel) rfl rfl rfl (by decide +kernel)
set_option maxRecDepth 65536 in
theorem w_c3 : (Jvm.Cond.code ({ cls := "java/lang/String", name := "<init>", desc := "([C)V" } : Jvm.MethodName) jdk_42_method_3_code (2 : Nat) (Option.none : Option Jvm.ClassFile.FieldType)).before args0 about1 = true := code_word (m := ⟨7, 1⟩) (meth := k7m1) (c := k7c1) (by decide +kernel) rfl rfl rfl (by decide +kernel)
set_option maxRecDepth 65536 in
theorem w_c4 : (Jvm.Cond.code ({ cls := "java/lang/String", name := "<init>", desc := "([CIILjava/lang/Void;)V" } : Jvm.MethodName) jdk_42_method_149_code (6 : Nat) (Option.none : Option Jvm.ClassFile.FieldType)).before args0 about1 = true := code_word (m := ⟨7, 5⟩) (meth := k7m5) (c := k7c5) (by decide +kernel) rfl rfl rfl (by decide +kernel)
set_option maxRecDepth 65536 in
theorem w_c5 : (Jvm.Cond.code ({ cls := "java/lang/Object", name := "<init>", desc := "()V" } : Jvm.MethodName) object_method_1_code (1 : Nat) (Option.none : Option Jvm.ClassFile.FieldType)).before args0 about1 = true := code_word (m := ⟨0, 0⟩) (meth := k0m0) (c := k0c0) (by decide +kernel) rfl rfl rfl (by decide +kernel)
set_option maxRecDepth 65536 in
theorem w_c6 : (Jvm.Cond.code ({ cls := "com/example/pemmican/pemmican/DataType", name := "named", desc := "(Ljava/lang/String;)Lcom/example/pemmican/pemmican/DataType;" } : Jvm.MethodName) prog_16_method_4_code (5 : Nat) (Option.some (Jvm.ClassFile.FieldType.object "com/example/pemmican/pemmican/DataType"))).before args0 about1 = true := code_word (m := ⟨9, 1⟩) (meth := k9m1) (c := k9c1) (by decide +kernel) rfl rfl rfl (by decide +kernel)
set_option maxRecDepth 65536 in
theorem w_c7 : (Jvm.Cond.code ({ cls := "com/example/pemmican/pemmican/DataType", name := "values", desc := "()[Lcom/example/pemmican/pemmican/DataType;" } : Jvm.MethodName) prog_16_method_1_code (0 : Nat) (Option.some (Jvm.ClassFile.FieldType.array (Jvm.ClassFile.FieldType.object "com/example/pemmican/pemmican/DataType")))).before args0 about1 = true := code_word (m := ⟨9, 0⟩) (meth := k9m0) (c := k9c0) (by decide +kernel) rfl rfl rfl (by decide +kernel)
set_option maxRecDepth 65536 in
theorem w_c8 : (Jvm.Cond.code ({ cls := "java/lang/String", name := "equals", desc := "(Ljava/lang/Object;)Z" } : Jvm.MethodName) jdk_42_method_66_code (3 : Nat) (Option.some Jvm.ClassFile.FieldType.boolean)).before args0 about1 = true := code_word (m := ⟨7, 4⟩) (meth := k7m4) (c := k7c4) (by decide +kernel) rfl rfl rfl (by decide +kernel)
set_option maxRecDepth 65536 in
theorem w_c9 : (Jvm.Cond.code ({ cls := "java/lang/StringLatin1", name := "equals", desc := "([B[B)Z" } : Jvm.MethodName) jdk_43_method_13_code (3 : Nat) (Option.some Jvm.ClassFile.FieldType.boolean)).before args0 about1 = true := code_word (m := ⟨11, 2⟩) (meth := k11m2) (c := k11c2) (by decide +kernel) rfl rfl rfl (by decide +kernel)
set_option maxRecDepth 65536 in
theorem w_c10 : (Jvm.Cond.code ({ cls := "com/example/pemmican/pemmican/DataTypeNamedPinLaw", name := "expected", desc := "(Ljava/lang/String;)Lcom/example/pemmican/pemmican/DataType;" } : Jvm.MethodName) method_5_code (1 : Nat) (Option.some (Jvm.ClassFile.FieldType.object "com/example/pemmican/pemmican/DataType"))).before args0 about1 = true := code_word (m := ⟨1, 4⟩) (meth := k1m4) (c := k1c4) (by decide +kernel) rfl rfl rfl (by decide +kernel)
set_option maxRecDepth 65536 in
theorem w_c11 : (Jvm.Cond.code ({ cls := "com/example/pemmican/pemmican/DataTypeNamedPinLaw", name := "baseName", desc := "(I)Ljava/lang/String;" } : Jvm.MethodName) method_3_code (1 : Nat) (Option.some (Jvm.ClassFile.FieldType.object "java/lang/String"))).before args0 about1 = true := code_word (m := ⟨1, 2⟩) (meth := k1m2) (c := k1c2) (by decide +kernel) rfl rfl rfl (by decide +kernel)
set_option maxRecDepth 65536 in
theorem w_c12 : (Jvm.Cond.code ({ cls := "com/example/pemmican/pemmican/DataTypeNamedPinLaw", name := "ch", desc := "(Ljava/lang/String;IIII)C" } : Jvm.MethodName) method_4_code (6 : Nat) (Option.some Jvm.ClassFile.FieldType.char)).before args0 about1 = true := code_word (m := ⟨1, 3⟩) (meth := k1m3) (c := k1c3) (by decide +kernel) rfl rfl rfl (by decide +kernel)
set_option maxRecDepth 65536 in
theorem w_c13 : (Jvm.Cond.code ({ cls := "java/lang/String", name := "charAt", desc := "(I)C" } : Jvm.MethodName) jdk_42_method_56_code (2 : Nat) (Option.some Jvm.ClassFile.FieldType.char)).before args0 about1 = true := code_word (m := ⟨7, 3⟩) (meth := k7m3) (c := k7c3) (by decide +kernel) rfl rfl rfl (by decide +kernel)
set_option maxRecDepth 65536 in
theorem w_c14 : (Jvm.Cond.code ({ cls := "java/lang/String", name := "isLatin1", desc := "()Z" } : Jvm.MethodName) jdk_42_method_154_code (1 : Nat) (Option.some Jvm.ClassFile.FieldType.boolean)).before args0 about1 = true := code_word (m := ⟨7, 7⟩) (meth := k7m7) (c := k7c7) (by decide +kernel) rfl rfl rfl (by decide +kernel)
set_option maxRecDepth 65536 in
theorem w_c15 : (Jvm.Cond.code ({ cls := "java/lang/StringLatin1", name := "charAt", desc := "([BI)C" } : Jvm.MethodName) jdk_43_method_2_code (2 : Nat) (Option.some Jvm.ClassFile.FieldType.char)).before args0 about1 = true := code_word (m := ⟨11, 1⟩) (meth := k11m1) (c := k11c1) (by decide +kernel) rfl rfl rfl (by decide +kernel)
set_option maxRecDepth 65536 in
theorem w_c16 : (Jvm.Cond.code ({ cls := "java/lang/String", name := "checkIndex", desc := "(II)V" } : Jvm.MethodName) jdk_42_method_155_code (2 : Nat) (Option.none : Option Jvm.ClassFile.FieldType)).before args0 about1 = true := code_word (m := ⟨7, 8⟩) (meth := k7m8) (c := k7c8) (by decide +kernel) rfl rfl rfl (by decide +kernel)
set_option maxRecDepth 65536 in
theorem w_c17 : (Jvm.Cond.code ({ cls := "jdk/internal/util/Preconditions", name := "checkIndex", desc := "(IILjava/util/function/BiFunction;)I" } : Jvm.MethodName) jdk_41_method_11_code (3 : Nat) (Option.some Jvm.ClassFile.FieldType.int)).before args0 about1 = true := code_word (m := ⟨12, 1⟩) (meth := k12m1) (c := k12c1) (by decide +kernel) rfl rfl rfl (by decide +kernel)
set_option maxRecDepth 65536 in
theorem w_c18 : (Jvm.Cond.code ({ cls := "java/lang/StringUTF16", name := "compress", desc := "([CII)[B" } : Jvm.MethodName) jdk_52_method_16_code (6 : Nat) (Option.some (Jvm.ClassFile.FieldType.array Jvm.ClassFile.FieldType.byte))).before args0 about1 = true := code_word (m := ⟨13, 2⟩) (meth := k13m2) (c := k13c2) (by decide +kernel) rfl rfl rfl (by decide +kernel)
set_option maxRecDepth 65536 in
theorem w_c19 : (Jvm.Cond.code ({ cls := "java/lang/StringUTF16", name := "compress", desc := "([CI[BII)I" } : Jvm.MethodName) jdk_52_method_21_code (7 : Nat) (Option.some Jvm.ClassFile.FieldType.int)).before args0 about1 = true := code_word (m := ⟨13, 3⟩) (meth := k13m3) (c := k13c3) (by decide +kernel) rfl rfl rfl (by decide +kernel)
set_option maxRecDepth 65536 in
theorem w_c20 : (Jvm.Cond.code ({ cls := "java/lang/StringUTF16", name := "coderFromArrayLen", desc := "([BI)B" } : Jvm.MethodName) jdk_52_method_15_code (2 : Nat) (Option.some Jvm.ClassFile.FieldType.byte)).before args0 about1 = true := code_word (m := ⟨13, 1⟩) (meth := k13m1) (c := k13c1) (by decide +kernel) rfl rfl rfl (by decide +kernel)
def codes1 : List Jvm.Cond := [Jvm.Cond.code x code maxLocals ret, Jvm.Cond.code ({ cls := "java/lang/String", name := "length", desc := "()I" } : Jvm.MethodName) jdk_42_method_54_code (1 : Nat) (Option.some Jvm.ClassFile.FieldType.int), Jvm.Cond.code ({ cls := "java/lang/String", name := "coder", desc := "()B" } : Jvm.MethodName) jdk_42_method_152_code (1 : Nat) (Option.some Jvm.ClassFile.FieldType.byte), Jvm.Cond.code ({ cls := "java/lang/String", name := "<init>", desc := "([C)V" } : Jvm.MethodName) jdk_42_method_3_code (2 : Nat) (Option.none : Option Jvm.ClassFile.FieldType), Jvm.Cond.code ({ cls := "java/lang/String", name := "<init>", desc := "([CIILjava/lang/Void;)V" } : Jvm.MethodName) jdk_42_method_149_code (6 : Nat) (Option.none : Option Jvm.ClassFile.FieldType), Jvm.Cond.code ({ cls := "java/lang/Object", name := "<init>", desc := "()V" } : Jvm.MethodName) object_method_1_code (1 : Nat) (Option.none : Option Jvm.ClassFile.FieldType), Jvm.Cond.code ({ cls := "com/example/pemmican/pemmican/DataType", name := "named", desc := "(Ljava/lang/String;)Lcom/example/pemmican/pemmican/DataType;" } : Jvm.MethodName) prog_16_method_4_code (5 : Nat) (Option.some (Jvm.ClassFile.FieldType.object "com/example/pemmican/pemmican/DataType")), Jvm.Cond.code ({ cls := "com/example/pemmican/pemmican/DataType", name := "values", desc := "()[Lcom/example/pemmican/pemmican/DataType;" } : Jvm.MethodName) prog_16_method_1_code (0 : Nat) (Option.some (Jvm.ClassFile.FieldType.array (Jvm.ClassFile.FieldType.object "com/example/pemmican/pemmican/DataType"))), Jvm.Cond.code ({ cls := "java/lang/String", name := "equals", desc := "(Ljava/lang/Object;)Z" } : Jvm.MethodName) jdk_42_method_66_code (3 : Nat) (Option.some Jvm.ClassFile.FieldType.boolean), Jvm.Cond.code ({ cls := "java/lang/StringLatin1", name := "equals", desc := "([B[B)Z" } : Jvm.MethodName) jdk_43_method_13_code (3 : Nat) (Option.some Jvm.ClassFile.FieldType.boolean), Jvm.Cond.code ({ cls := "com/example/pemmican/pemmican/DataTypeNamedPinLaw", name := "expected", desc := "(Ljava/lang/String;)Lcom/example/pemmican/pemmican/DataType;" } : Jvm.MethodName) method_5_code (1 : Nat) (Option.some (Jvm.ClassFile.FieldType.object "com/example/pemmican/pemmican/DataType")), Jvm.Cond.code ({ cls := "com/example/pemmican/pemmican/DataTypeNamedPinLaw", name := "baseName", desc := "(I)Ljava/lang/String;" } : Jvm.MethodName) method_3_code (1 : Nat) (Option.some (Jvm.ClassFile.FieldType.object "java/lang/String")), Jvm.Cond.code ({ cls := "com/example/pemmican/pemmican/DataTypeNamedPinLaw", name := "ch", desc := "(Ljava/lang/String;IIII)C" } : Jvm.MethodName) method_4_code (6 : Nat) (Option.some Jvm.ClassFile.FieldType.char), Jvm.Cond.code ({ cls := "java/lang/String", name := "charAt", desc := "(I)C" } : Jvm.MethodName) jdk_42_method_56_code (2 : Nat) (Option.some Jvm.ClassFile.FieldType.char), Jvm.Cond.code ({ cls := "java/lang/String", name := "isLatin1", desc := "()Z" } : Jvm.MethodName) jdk_42_method_154_code (1 : Nat) (Option.some Jvm.ClassFile.FieldType.boolean), Jvm.Cond.code ({ cls := "java/lang/StringLatin1", name := "charAt", desc := "([BI)C" } : Jvm.MethodName) jdk_43_method_2_code (2 : Nat) (Option.some Jvm.ClassFile.FieldType.char), Jvm.Cond.code ({ cls := "java/lang/String", name := "checkIndex", desc := "(II)V" } : Jvm.MethodName) jdk_42_method_155_code (2 : Nat) (Option.none : Option Jvm.ClassFile.FieldType), Jvm.Cond.code ({ cls := "jdk/internal/util/Preconditions", name := "checkIndex", desc := "(IILjava/util/function/BiFunction;)I" } : Jvm.MethodName) jdk_41_method_11_code (3 : Nat) (Option.some Jvm.ClassFile.FieldType.int), Jvm.Cond.code ({ cls := "java/lang/StringUTF16", name := "compress", desc := "([CII)[B" } : Jvm.MethodName) jdk_52_method_16_code (6 : Nat) (Option.some (Jvm.ClassFile.FieldType.array Jvm.ClassFile.FieldType.byte)), Jvm.Cond.code ({ cls := "java/lang/StringUTF16", name := "compress", desc := "([CI[BII)I" } : Jvm.MethodName) jdk_52_method_21_code (7 : Nat) (Option.some Jvm.ClassFile.FieldType.int), Jvm.Cond.code ({ cls := "java/lang/StringUTF16", name := "coderFromArrayLen", desc := "([BI)B" } : Jvm.MethodName) jdk_52_method_15_code (2 : Nat) (Option.some Jvm.ClassFile.FieldType.byte)]
set_option maxRecDepth 65536 in
theorem codes_eq : words1.filter isCode = codes1 := rfl
theorem w_codes : ∀ c ∈ words1.filter isCode, c.before args0 about1 = true := by
  rw [codes_eq]
  intro c hc
  simp only [codes1, List.mem_cons, List.not_mem_nil, or_false] at hc
  rcases hc with rfl | rfl | rfl | rfl | rfl | rfl | rfl | rfl | rfl | rfl | rfl | rfl | rfl | rfl | rfl | rfl | rfl | rfl | rfl | rfl | rfl
  · exact w_c0
  · exact w_c1
  · exact w_c2
  · exact w_c3
  · exact w_c4
  · exact w_c5
  · exact w_c6
  · exact w_c7
  · exact w_c8
  · exact w_c9
  · exact w_c10
  · exact w_c11
  · exact w_c12
  · exact w_c13
  · exact w_c14
  · exact w_c15
  · exact w_c16
  · exact w_c17
  · exact w_c18
  · exact w_c19
  · exact w_c20
set_option maxRecDepth 65536 in
theorem w_t1 : (words1.take 24).all (fun c => isCode c || c.before args0 about1) = true := by decide +kernel
set_option maxRecDepth 65536 in
theorem w_t2 : ((words1.drop 24).take 24).all (fun c => isCode c || c.before args0 about1) = true := by decide +kernel
set_option maxRecDepth 65536 in
theorem w_t3 : (((words1.drop 24).drop 24).take 24).all (fun c => isCode c || c.before args0 about1) = true := by decide +kernel
set_option maxRecDepth 65536 in
theorem w_t4 : ((((words1.drop 24).drop 24).drop 24).take 24).all (fun c => isCode c || c.before args0 about1) = true := by decide +kernel
set_option maxRecDepth 65536 in
theorem w_t5 : (((((words1.drop 24).drop 24).drop 24).drop 24).take 24).all (fun c => isCode c || c.before args0 about1) = true := by decide +kernel
set_option maxRecDepth 65536 in
theorem w_t6 : (((((words1.drop 24).drop 24).drop 24).drop 24).drop 24).all (fun c => isCode c || c.before args0 about1) = true := by decide +kernel
theorem w_tables : (allAtoms (Jvm.Cond.code x code maxLocals ret :: tables_1)).before args0 about1 = true := by
  rw [allAtoms_all]
  show words1.all (fun c => c.before args0 about1) = true
  refine all_split ?_ w_codes
  rw [← List.take_append_drop 24 words1, List.all_append, w_t1, ← List.take_append_drop 24 (words1.drop 24), List.all_append, w_t2, ← List.take_append_drop 24 ((words1.drop 24).drop 24), List.all_append, w_t3, ← List.take_append_drop 24 (((words1.drop 24).drop 24).drop 24), List.all_append, w_t4, ← List.take_append_drop 24 ((((words1.drop 24).drop 24).drop 24).drop 24), List.all_append, w_t5, w_t6]
  rfl
set_option maxRecDepth 65536 in
theorem w_rest : rest_1_c.before args0 about1 = true := by decide +kernel
set_option maxRecDepth 65536 in
theorem w_case : (Jvm.Cond.and given_1 narrow_1).before args0 about1 = true := by decide +kernel
set_option maxRecDepth 65536 in
theorem w_consts : constsHeld consts_1 about1 := Jvm.Lit.constsHeldB_iff.mp (by decide +kernel)
theorem w_applies : (headSpec (Jvm.Cond.code x code maxLocals ret :: tables_1) room_1).applies x e0.platform about1 = true :=
  (Spec.applies_iff w_frames).mpr ⟨w_running, w_runnable, w_alone, w_named, w_hears, w_ripe, w_room, w_tables⟩
theorem atStart : AtStart classFile x code maxLocals ret World_1 tables_1 room_1 Calls_1 rest_1 Pre_1 launch0 p0 e0 about1 theMethod args0 below0 :=
  ⟨lists_1, trivial, launch0.admits_env _ _ _, launch0.least_env, fairChoices_fair.cas, fairChoices_fair.clock, w_frames, w_args, w_heap, w_applies, ⟨w_consts, trivial⟩, w_rest, w_case⟩
end start1
theorem witness_1 : WitnessClaimed_1 := ⟨start1.p0, start1.e0, start1.about1, start1.theMethod, start1.args0, start1.below0, start1.atStart⟩
end Jvm.Pilot.@@N@@
