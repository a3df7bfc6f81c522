import JvmDerived
import JvmDerived.Pilot.@@N@@Statement
import JvmDerived.Pilot.@@N@@Code
set_option linter.unusedVariables false
set_option linter.unusedSimpArgs false
namespace Jvm.RoadKit
open Sem ClassFile Op Lib Jvm.Stand Jvm.Free Jvm.LawKit
section New
variable {p : Program} {l : Launch} {e : Env} {R : Room} {s : State} {m : MethodId} {args : Array Value} {below : List Frame} {meth : Method} {c : Code} {T : State} {locs : List Loc} {cells slots : Nat}
theorem retI (X : Stand p l e R s m args below meth c T locs cells slots) (hx : p.tables.exec = Jvm.exec) {pc : Nat} {Ls : Array Slot} {z : Int32} {rest : List Value} (hret : meth.sig.returnType = some .int) (hd : decode c.code pc = .ok (.ireturn, 1)) {fs : List Frame}
    (hl : ∀ (f : JFrame) (acts : List Action), f.method = m → f.locked = none → f.entered = [] → (doReturn e (T.setTop f) acts (some (.int z))).1 = T.setFrames fs) : Steps p.tables e below (T.setTop (mkF m pc Ls (.int z :: rest))) (T.setFrames fs) := by
  have hm' : T.vm.method? m = some meth := X.method'
  have hn : narrow .int (.int z) = .int z := rfl
  show Steps p.tables e below (T.setTop { method := m, pc := pc, locals := Ls, stack := _ :: rest, locked := none }) _
  jvm_step X.here [X.here.top, hx, hd, hm', hret, hn]
  first | (intro acts; rw [hl _ acts rfl rfl rfl]) | rw [hl _ _ rfl rfl rfl]
  exact Steps.refl _
end New
end Jvm.RoadKit
/- laws to paste: Road.backV, Road.eqW, Road.codOf (cut by pick.py; bodies as the Statement names them) -/
namespace Jvm.Pilot.@@N@@
namespace StrChars
open Jvm Sem ClassFile Op Lib Jvm.Stand Jvm.Free.XT Jvm.Free.ALB Jvm.Free.JM Jvm.Free
open Jvm.Lib.Cold (StaticIs)
/-- a char array whose places are chars -/
def Ch (a : Addr) (A : Cell) (U : State) : Prop := Arr .char a A U ∧ Typed .char A
theorem Ch.mv {a : Addr} {A : Cell} {U U' : State} (h : Ch a A U) (hal : U.vm.Alike U'.vm) (hh : U'.heap = U.heap) : Ch a A U' := ⟨h.1.mv hal hh, h.2⟩
theorem Ch.keep {a : Addr} {A : Cell} {U U' : State} (h : Ch a A U) (hal : U.vm.Alike U'.vm) (hk : U'.heap[a]? = some A) : Ch a A U' := ⟨h.1.keep hal hk, h.2⟩
/-- what place i of a char[]'s cell holds -/
def cv (A : Cell) (i : Nat) : Int32 := match A.slots[i]? with | some (.int x) => x | _ => 0
theorem Ch.get {a : Addr} {A : Cell} {U : State} (h : Ch a A U) {i : Nat} (hi : i < A.slots.size) : A.slots[i]? = some (.int (cv A i)) := by
  have e := Array.getElem?_eq_getElem hi
  have f := h.2 i _ e
  unfold cv; rw [e]
  generalize A.slots[i] = v at f
  cases v <;> simp [fits] at f ⊢
/-- the byte that i2b leaves of a char -/
def lo8 (x : Int32) : Int32 := x.toInt8.toInt32
theorem fits_lo8 (y : Int32) : fits .byte (.int (lo8 y)) = true := by
  have h1 := y.toInt8.le_toInt
  have h2 := y.toInt8.toInt_lt
  simp only [lo8, fits, Bool.and_eq_true, decide_eq_true_eq, Int32.le_iff_toInt_le, Int8.toInt_toInt32, show (-128 : Int32).toInt = -128 from by decide, show (127 : Int32).toInt = 127 from by decide]
  omega
/-- A' is A but that each place j of lo .. hi - 1 holds f j -/
def Laid (A A' : Cell) (lo hi : Nat) (f : Nat → Value) : Prop := A'.cls = A.cls ∧ A'.vm = A.vm ∧ A'.slots.size = A.slots.size ∧ ∀ i, A'.slots[i]? = if lo ≤ i ∧ i < hi then some (f i) else A.slots[i]?
theorem Laid.zero (A : Cell) (lo : Nat) (f : Nat → Value) : Laid A A lo (lo + 0) f := ⟨rfl, rfl, rfl, fun i => by rw [if_neg (by omega)]⟩
theorem Laid.step {A Ak : Cell} {lo k : Nat} {f : Nat → Value} {v : Value} (h : Laid A Ak lo k f) (hlo : lo ≤ k) (hk : k < Ak.slots.size) (hv : v = f k) : Laid A (Ak.setSlot k v) lo (k + 1) f := by
  refine ⟨h.1, h.2.1, by simpa [Cell.setSlot] using h.2.2.1, fun i => ?_⟩
  by_cases e : k = i
  · subst e; rw [Cell.slots_setSlot_self v hk, if_pos (by omega), hv]
  · rw [Cell.slots_setSlot_ne v e, h.2.2.2 i]
    by_cases q : lo ≤ i ∧ i < k
    · rw [if_pos q, if_pos (by omega)]
    · rw [if_neg q, if_neg (by omega)]
def U16 : String := "java/lang/StringUTF16"
namespace Cmp5
def yN : MethodName := ⟨"java/lang/StringUTF16", "compress", "([CI[BII)I"⟩
abbrev yB : ByteArray := jdk_52_method_21_code
theorem d0 : decode yB 0 = .ok (.iconst 0, 1) := by decide +kernel
theorem d1 : decode yB 1 = .ok (.istore 5, 2) := by decide +kernel
theorem d3 : decode yB 3 = .ok (.iload 5, 2) := by decide +kernel
theorem d5 : decode yB 5 = .ok (.iload 4, 2) := by decide +kernel
theorem d7 : decode yB 7 = .ok (.if_icmp (.ge) 37, 3) := by decide +kernel
theorem d10 : decode yB 10 = .ok (.aload_n 0, 1) := by decide +kernel
theorem d11 : decode yB 11 = .ok (.iload_n 1, 1) := by decide +kernel
theorem d12 : decode yB 12 = .ok (.caload, 1) := by decide +kernel
theorem d13 : decode yB 13 = .ok (.istore 6, 2) := by decide +kernel
theorem d15 : decode yB 15 = .ok (.iload 6, 2) := by decide +kernel
theorem d17 : decode yB 17 = .ok (.sipush 255, 3) := by decide +kernel
theorem d20 : decode yB 20 = .ok (.if_icmp (.le) 6, 3) := by decide +kernel
theorem d26 : decode yB 26 = .ok (.aload_n 2, 1) := by decide +kernel
theorem d27 : decode yB 27 = .ok (.iload_n 3, 1) := by decide +kernel
theorem d28 : decode yB 28 = .ok (.iload 6, 2) := by decide +kernel
theorem d30 : decode yB 30 = .ok (.i2b, 1) := by decide +kernel
theorem d31 : decode yB 31 = .ok (.bastore, 1) := by decide +kernel
theorem d32 : decode yB 32 = .ok (.iinc 1 1, 3) := by decide +kernel
theorem d35 : decode yB 35 = .ok (.iinc 3 1, 3) := by decide +kernel
theorem d38 : decode yB 38 = .ok (.iinc 5 1, 3) := by decide +kernel
theorem d41 : decode yB 41 = .ok (.goto (-38), 3) := by decide +kernel
theorem d44 : decode yB 44 = .ok (.iload 4, 2) := by decide +kernel
theorem d46 : decode yB 46 = .ok (.ireturn, 1) := by decide +kernel
def site : List Cond := []
def tab : Cond := tabOf yN yB 7 (some .int) site
def P (b : Addr) (A : Cell) (d : Addr) (B : Cell) (o q len : Nat) (args : Array Value) (s : State) : Prop := args = #[.ref b, .int (Int32.ofNat o), .ref d, .int (Int32.ofNat q), .int (Int32.ofNat len)] ∧ Ch b A s ∧ Arr .byte d B s ∧ b ≠ d ∧ o + len ≤ A.slots.size ∧ q + len ≤ B.slots.size ∧ ∀ i, i < len → ¬ 255 < cv A (o + i)
def E (b : Addr) (A : Cell) (d : Addr) (B : Cell) (o q len : Nat) (r : Option Value) (s u : State) : Prop := r = some (.int (Int32.ofNat len)) ∧ ∃ B', Put d B' s u ∧ Laid B B' q (q + len) (fun j => Value.int (lo8 (cv A (o + (j - q)))))
/-- no char of the range above 255: len; the places written hold each char's low byte -/
theorem law (l : Launch) (b : Addr) (A : Cell) (d : Addr) (B : Cell) (o q len : Nat) : Law l yN 5 5 0 0 yB 7 (some .int) site (P b A d B o q len) (E b A d B o q len) (copyLocs d q len) 0 0 := by
  refine Law.of_walk (plainFor_of_name (by decide +kernel)) (by decide +kernel) (by decide +kernel) (by decide) (fun _ _ h => by rw [h.1]; rfl) (fun _ U U' hal hh h => ⟨h.1, h.2.1.mv hal hh, h.2.2.1.mv hal hh, h.2.2.2⟩) (fun r U U' V V' h1 hal h2 h => ⟨h.1, h.2.elim fun B' q => ⟨B', q.1.mv h1 h2, q.2⟩⟩) ?_
  intro p e s m args below meth c s₁ X0 hexec hbytes hml hret hlk hnm hown hh0 W hP
  obtain ⟨rfl, hA, hB, hne, l1, l2, hp⟩ := hP
  have c1 : Steps p.tables e below (s₁.setTop (entryFrame m #[.ref b, .int (Int32.ofNat o), .ref d, .int (Int32.ofNat q), .int (Int32.ofNat len)] 7)) (s₁.setTop (mkF m 0 #[.val (.ref b), .val (.int (Int32.ofNat o)), .val (.ref d), .val (.int (Int32.ofNat q)), .val (.int (Int32.ofNat len)), .unset, .unset] [])) := entry rfl
  have hA0 := hA.1.mv X0.warmed.alike hh0
  have hB0 := hB.mv X0.warmed.alike hh0
  have a31 := hA.1.2.2.2
  have c2 : Steps p.tables e below (s₁.setTop (entryFrame m #[.ref b, .int (Int32.ofNat o), .ref d, .int (Int32.ofNat q), .int (Int32.ofNat len)] 7)) (s₁.setTop (mkF m 3 #[.val (.ref b), .val (.int (Int32.ofNat o)), .val (.ref d), .val (.int (Int32.ofNat q)), .val (.int (Int32.ofNat len)), .val (.int 0), .unset] [])) := c1.trans (by
    refine iconstV X0.here hexec rfl 0 (hb hbytes d0) (by decide) ?_
    refine XS.istore X0.here hexec rfl (hb hbytes d1) rfl rfl ?_
    exact Steps.refl _)
  have loop : ∀ (r i : Nat), i + r = len → ∀ (z : Slot), (z = .unset ∨ ∃ w, z = .val w ∧ w.category = 1) → ∀ (Tl : State) (Bk : Cell), Stand p l e { frames := 0, locals := 0, cells := 0, slots := 0 } s m #[.ref b, .int (Int32.ofNat o), .ref d, .int (Int32.ofNat q), .int (Int32.ofNat len)] below meth c Tl ([] ++ copyLocs d q i) 0 0 → Put d Bk s₁ Tl → Laid B Bk q (q + i) (fun j => Value.int (lo8 (cv A (o + (j - q))))) →
      Steps p.tables e below (s₁.setTop (entryFrame m #[.ref b, .int (Int32.ofNat o), .ref d, .int (Int32.ofNat q), .int (Int32.ofNat len)] 7)) (Tl.setTop (mkF m 3 #[.val (.ref b), .val (.int (Int32.ofNat (o + i))), .val (.ref d), .val (.int (Int32.ofNat (q + i))), .val (.int (Int32.ofNat len)), .val (.int (Int32.ofNat i)), z] [])) → ∃ (T' : State) (B' : Cell) (z' : Slot), Stand p l e { frames := 0, locals := 0, cells := 0, slots := 0 } s m #[.ref b, .int (Int32.ofNat o), .ref d, .int (Int32.ofNat q), .int (Int32.ofNat len)] below meth c T' ([] ++ copyLocs d q len) 0 0 ∧ Put d B' s₁ T' ∧ Laid B B' q (q + len) (fun j => Value.int (lo8 (cv A (o + (j - q))))) ∧
      Steps p.tables e below (s₁.setTop (entryFrame m #[.ref b, .int (Int32.ofNat o), .ref d, .int (Int32.ofNat q), .int (Int32.ofNat len)] 7)) (T'.setTop (mkF m 3 #[.val (.ref b), .val (.int (Int32.ofNat (o + len))), .val (.ref d), .val (.int (Int32.ofNat (q + len))), .val (.int (Int32.ofNat len)), .val (.int (Int32.ofNat len)), z'] [])) := by
    intro r
    induction r with
    | zero =>
      intro i hi z hz Tl Bk Xl pl fl cl
      have hil : i = len := by omega
      rw [hil] at Xl fl cl
      exact ⟨Tl, Bk, z, Xl, pl, fl, cl⟩
    | succ r ih =>
      intro i hi z hz Tl Bk Xl pl fl cl
      have all := X0.warmed.alike.symm.trans Xl.warmed.alike
      have hAl := hA0.keep all (pl.other hne hA0.1)
      have hBk := hB0.like all pl.1 fl.1 fl.2.1 fl.2.2.1
      have hlt : q + i < Bk.slots.size := by rw [fl.2.2.1]; omega
      have c3 : Steps p.tables e below (s₁.setTop (entryFrame m #[.ref b, .int (Int32.ofNat o), .ref d, .int (Int32.ofNat q), .int (Int32.ofNat len)] 7)) (Tl.setTop (mkF m 12 #[.val (.ref b), .val (.int (Int32.ofNat (o + i))), .val (.ref d), .val (.int (Int32.ofNat (q + i))), .val (.int (Int32.ofNat len)), .val (.int (Int32.ofNat i)), z] [.int (Int32.ofNat (o + i)), .ref b])) := cl.trans (by
        refine XS.iload Xl.here hexec rfl (hb hbytes d3) rfl ?_
        refine XS.iload Xl.here hexec rfl (hb hbytes d5) rfl ?_
        refine XS.icmpNo Xl.here hexec rfl (hb hbytes d7) rfl (ii_ge_f (lt32 (by omega) (by omega))) ?_
        refine XS.aloadN Xl.here hexec rfl (hb hbytes d10) rfl rfl ?_
        refine XS.iloadN Xl.here hexec rfl (hb hbytes d11) rfl ?_
        exact Steps.refl _)
      have c4 : Steps p.tables e below (s₁.setTop (entryFrame m #[.ref b, .int (Int32.ofNat o), .ref d, .int (Int32.ofNat q), .int (Int32.ofNat len)] 7)) (Tl.setTop (mkF m 13 #[.val (.ref b), .val (.int (Int32.ofNat (o + i))), .val (.ref d), .val (.int (Int32.ofNat (q + i))), .val (.int (Int32.ofNat len)), .val (.int (Int32.ofNat i)), z] [.int (cv A (o + i))])) := c3.trans (by
        refine Xl.aget hexec hAl rfl (hA.get (i := o + i) (by omega)) rfl rfl (hb hbytes d12) ?_
        exact Steps.refl _)
      have c5 : Steps p.tables e below (s₁.setTop (entryFrame m #[.ref b, .int (Int32.ofNat o), .ref d, .int (Int32.ofNat q), .int (Int32.ofNat len)] 7)) (Tl.setTop (mkF m 15 #[.val (.ref b), .val (.int (Int32.ofNat (o + i))), .val (.ref d), .val (.int (Int32.ofNat (q + i))), .val (.int (Int32.ofNat len)), .val (.int (Int32.ofNat i)), .val (.int (cv A (o + i)))] [])) := c4.trans (by
        refine XS.istoreS Xl.here hexec rfl (hb hbytes d13) rfl rfl hz ?_
        exact Steps.refl _)
      have c6 : Steps p.tables e below (s₁.setTop (entryFrame m #[.ref b, .int (Int32.ofNat o), .ref d, .int (Int32.ofNat q), .int (Int32.ofNat len)] 7)) (Tl.setTop (mkF m 31 #[.val (.ref b), .val (.int (Int32.ofNat (o + i))), .val (.ref d), .val (.int (Int32.ofNat (q + i))), .val (.int (Int32.ofNat len)), .val (.int (Int32.ofNat i)), .val (.int (cv A (o + i)))] [.int (lo8 (cv A (o + i))), .int (Int32.ofNat (q + i)), .ref d])) := c5.trans (by
        refine XS.iload Xl.here hexec rfl (hb hbytes d15) rfl ?_
        refine sipushV Xl.here hexec rfl 255 (hb hbytes d17) (by decide) ?_
        refine XS.icmpYes Xl.here hexec rfl (pc0 := 20) rfl (hb hbytes d20) rfl (ii_le_t (hp i (by omega))) (by decide) rfl ?_
        refine XS.aloadN Xl.here hexec rfl (hb hbytes d26) rfl rfl ?_
        refine XS.iloadN Xl.here hexec rfl (hb hbytes d27) rfl ?_
        refine XS.iload Xl.here hexec rfl (hb hbytes d28) rfl ?_
        refine i2b Xl.here hexec rfl (hb hbytes d30) rfl ?_
        exact Steps.refl _)
      obtain ⟨T7, X7, p7, st7⟩ := Xl.aput hexec hBk rfl hlt rfl (fits_lo8 (cv A (o + i))) (g := (mkF m 31 #[.val (.ref b), .val (.int (Int32.ofNat (o + i))), .val (.ref d), .val (.int (Int32.ofNat (q + i))), .val (.int (Int32.ofNat len)), .val (.int (Int32.ofNat i)), .val (.int (cv A (o + i)))] [.int (lo8 (cv A (o + i))), .int (Int32.ofNat (q + i)), .ref d])) rfl (rest := []) rfl (hb hbytes d31)
      have c8 : Steps p.tables e below (s₁.setTop (entryFrame m #[.ref b, .int (Int32.ofNat o), .ref d, .int (Int32.ofNat q), .int (Int32.ofNat len)] 7)) (T7.setTop (mkF m 32 #[.val (.ref b), .val (.int (Int32.ofNat (o + i))), .val (.ref d), .val (.int (Int32.ofNat (q + i))), .val (.int (Int32.ofNat len)), .val (.int (Int32.ofNat i)), .val (.int (cv A (o + i)))] [])) := c6.trans (st7 _ (Steps.refl _))
      have c9 : Steps p.tables e below (s₁.setTop (entryFrame m #[.ref b, .int (Int32.ofNat o), .ref d, .int (Int32.ofNat q), .int (Int32.ofNat len)] 7)) (T7.setTop (mkF m 3 #[.val (.ref b), .val (.int (Int32.ofNat (o + i) + 1)), .val (.ref d), .val (.int (Int32.ofNat (q + i) + 1)), .val (.int (Int32.ofNat len)), .val (.int (Int32.ofNat i + 1)), .val (.int (cv A (o + i)))] [])) := c8.trans (by
        refine iincV X7.here hexec rfl 1 (hb hbytes d32) (by decide) rfl rfl ?_
        refine iincV X7.here hexec rfl 1 (hb hbytes d35) (by decide) rfl rfl ?_
        refine iincV X7.here hexec rfl 1 (hb hbytes d38) (by decide) rfl rfl ?_
        refine XS.goto X7.here hexec rfl (pc0 := 41) rfl (hb hbytes d41) (by decide) rfl ?_
        exact Steps.refl _)
      have c10 : Steps p.tables e below (s₁.setTop (entryFrame m #[.ref b, .int (Int32.ofNat o), .ref d, .int (Int32.ofNat q), .int (Int32.ofNat len)] 7)) (T7.setTop (mkF m 3 #[.val (.ref b), .val (.int (Int32.ofNat (o + (i + 1)))), .val (.ref d), .val (.int (Int32.ofNat (q + (i + 1)))), .val (.int (Int32.ofNat len)), .val (.int (Int32.ofNat (i + 1))), .val (.int (cv A (o + i)))] [])) := by
        have := c9
        rw [succ32, succ32, succ32] at this
        exact this
      exact ih (i + 1) (by omega) _ (Or.inr ⟨_, rfl, rfl⟩) T7 _ (by rw [copyLocs_step, ← List.append_assoc]; exact X7) (pl.trans p7) (fl.step (by omega) hlt (by simp)) c10
  obtain ⟨T9, B9, z9, X9, p9, f9, g9⟩ := loop len 0 (by omega) .unset (Or.inl rfl) s₁ B (by simpa [copyLocs] using X0) ⟨hB0.1, fun _ _ => rfl, rfl⟩ (Laid.zero _ _ _) c2
  have c11 : Steps p.tables e below (s₁.setTop (entryFrame m #[.ref b, .int (Int32.ofNat o), .ref d, .int (Int32.ofNat q), .int (Int32.ofNat len)] 7)) (T9.setTop (mkF m 46 #[.val (.ref b), .val (.int (Int32.ofNat (o + len))), .val (.ref d), .val (.int (Int32.ofNat (q + len))), .val (.int (Int32.ofNat len)), .val (.int (Int32.ofNat len)), z9] [.int (Int32.ofNat len)])) := g9.trans (by
    refine XS.iload X9.here hexec rfl (hb hbytes d3) rfl ?_
    refine XS.iload X9.here hexec rfl (hb hbytes d5) rfl ?_
    refine XS.icmpYes X9.here hexec rfl (pc0 := 7) rfl (hb hbytes d7) rfl (ii_ge_t (nlt32 (by omega) (Nat.le_refl _))) (by decide) rfl ?_
    refine XS.iload X9.here hexec rfl (hb hbytes d44) rfl ?_
    exact Steps.refl _)
  exact ⟨T9, some (.int (Int32.ofNat len)), _, _, _, X9, by simp, rfl, rfl, (fun h => by cases h), ⟨rfl, B9, p9.from hh0, f9⟩, fun fs hl => c11.trans (X9.ireturnOut hexec hret rfl (Or.inl rfl) (hb hbytes d46) hl)⟩
end Cmp5
namespace Cmp3
def yN : MethodName := ⟨"java/lang/StringUTF16", "compress", "([CII)[B"⟩
abbrev yB : ByteArray := jdk_52_method_16_code
theorem d0 : decode yB 0 = .ok (.iload_n 2, 1) := by decide +kernel
theorem d1 : decode yB 1 = .ok (.newarray .byte, 2) := by decide +kernel
theorem d3 : decode yB 3 = .ok (.astore_n 3, 1) := by decide +kernel
theorem d4 : decode yB 4 = .ok (.aload_n 0, 1) := by decide +kernel
theorem d5 : decode yB 5 = .ok (.iload_n 1, 1) := by decide +kernel
theorem d6 : decode yB 6 = .ok (.aload_n 3, 1) := by decide +kernel
theorem d7 : decode yB 7 = .ok (.iconst 0, 1) := by decide +kernel
theorem d8 : decode yB 8 = .ok (.iload_n 2, 1) := by decide +kernel
theorem d9 : decode yB 9 = .ok (.invokestatic 115, 3) := by decide +kernel
theorem d12 : decode yB 12 = .ok (.istore 4, 2) := by decide +kernel
theorem d14 : decode yB 14 = .ok (.iload 4, 2) := by decide +kernel
theorem d16 : decode yB 16 = .ok (.iload_n 2, 1) := by decide +kernel
theorem d17 : decode yB 17 = .ok (.if_icmp (.eq) 40, 3) := by decide +kernel
theorem d57 : decode yB 57 = .ok (.aload_n 3, 1) := by decide +kernel
theorem d58 : decode yB 58 = .ok (.areturn, 1) := by decide +kernel
def site : List Cond := [.arrayClass .byte, Cmp5.tab] ++ staticW U16 115 Cmp5.yN
def tab : Cond := tabOf yN yB 6 (some (.array .byte)) site
def P (b : Addr) (A : Cell) (o len : Nat) (args : Array Value) (s : State) : Prop := args = #[.ref b, .int (Int32.ofNat o), .int (Int32.ofNat len)] ∧ Ch b A s ∧ o + len ≤ A.slots.size ∧ len ≤ 536870912 ∧ ∀ i, i < len → ¬ 255 < cv A (o + i)
def E (b : Addr) (A : Cell) (o len : Nat) (r : Option Value) (s u : State) : Prop := NewArr .byte "[B" len (fun j => .int (lo8 (cv A (o + j)))) r s u ∧ u.heap.size = s.heap.size + 1
/-- no char of the range above 255: a new byte[] of their low bytes -/
theorem law (l : Launch) (b : Addr) (A : Cell) (o len : Nat) : Law l yN 3 3 1 18 yB 6 (some (.array .byte)) site (P b A o len) (E b A o len) [] 1 len := by
  refine Law.of_walk (plainFor_of_name (by decide +kernel)) (by decide +kernel) (by decide +kernel) (by decide) (fun _ _ h => by rw [h.1]; rfl) (fun _ U U' hal hh h => ⟨h.1, h.2.1.mv hal hh, h.2.2⟩) (fun r U U' V V' h1 hal h2 h => ⟨NewArr.mv r U U' V V' h1 hal h2 h.1, by rw [h1, h2]; exact h.2⟩) ?_
  intro p e s m args below meth c s₁ X0 hexec hbytes hml hret hlk hnm hown hh0 W hP
  obtain ⟨rfl, hA, l1, l2, hp⟩ := hP
  have a31 := hA.1.2.2.2
  have c1 : Steps p.tables e below (s₁.setTop (entryFrame m #[.ref b, .int (Int32.ofNat o), .int (Int32.ofNat len)] 6)) (s₁.setTop (mkF m 0 #[.val (.ref b), .val (.int (Int32.ofNat o)), .val (.int (Int32.ofNat len)), .unset, .unset, .unset] [])) := entry rfl
  have c2 : Steps p.tables e below (s₁.setTop (entryFrame m #[.ref b, .int (Int32.ofNat o), .int (Int32.ofNat len)] 6)) (s₁.setTop (mkF m 1 #[.val (.ref b), .val (.int (Int32.ofNat o)), .val (.int (Int32.ofNat len)), .unset, .unset, .unset] [.int (Int32.ofNat len)])) := c1.trans (by
    refine XS.iloadN X0.here hexec rfl (hb hbytes d0) rfl ?_
    exact Steps.refl _)
  obtain ⟨T3, B3, X3, ba3, bs3, bv3, bh3, bf3, st3⟩ := X0.anew hexec (atype := .byte) (wk W (.arrayClass .byte)) rfl (by show len * 1 ≤ _; omega) (by omega) (g := (mkF m 1 #[.val (.ref b), .val (.int (Int32.ofNat o)), .val (.int (Int32.ofNat len)), .unset, .unset, .unset] [.int (Int32.ofNat len)])) rfl (hb hbytes d1) (rest := []) rfl (Nat.le_refl _) (by show 0 + len ≤ len; omega)
  rw [hh0] at ba3 st3
  have kp3 : XT.Kept s T3 := (XT.Kept.of_eq hh0).push bh3
  have hA3 := hA.keep X3.warmed.alike (kp3 _ _ hA.1.1)
  have hne : b ≠ s.heap.size := hA.1.ne
  have c4 : Steps p.tables e below (s₁.setTop (entryFrame m #[.ref b, .int (Int32.ofNat o), .int (Int32.ofNat len)] 6)) (T3.setTop (mkF m 3 #[.val (.ref b), .val (.int (Int32.ofNat o)), .val (.int (Int32.ofNat len)), .unset, .unset, .unset] [.ref s.heap.size])) := c2.trans (st3 _ (Steps.refl _))
  have c5 : Steps p.tables e below (s₁.setTop (entryFrame m #[.ref b, .int (Int32.ofNat o), .int (Int32.ofNat len)] 6)) (T3.setTop (mkF m 9 #[.val (.ref b), .val (.int (Int32.ofNat o)), .val (.int (Int32.ofNat len)), .val (.ref s.heap.size), .unset, .unset] [.int (Int32.ofNat len), .int 0, .ref s.heap.size, .int (Int32.ofNat o), .ref b])) := c4.trans (by
    refine XS.astoreN X3.here hexec rfl (hb hbytes d3) rfl rfl rfl ?_
    refine XS.aloadN X3.here hexec rfl (hb hbytes d4) rfl rfl ?_
    refine XS.iloadN X3.here hexec rfl (hb hbytes d5) rfl ?_
    refine XS.aloadN X3.here hexec rfl (hb hbytes d6) rfl rfl ?_
    refine iconstV X3.here hexec rfl 0 (hb hbytes d7) (by decide) ?_
    refine XS.iloadN X3.here hexec rfl (hb hbytes d8) rfl ?_
    exact Steps.refl _)
  obtain ⟨v6, T6, X6, E6, g6⟩ := X3.callS hexec (Cmp5.law l b A s.heap.size B3 o 0 len) hown (wks W (staticW U16 115 Cmp5.yN)) (wk W Cmp5.tab) (W := 0) (Nat.le_of_ble_eq_true rfl) (Nat.le_of_ble_eq_true rfl) (Nat.le_refl _) (by show 0 + len + 0 ≤ len; omega) (g := (mkF m 9 #[.val (.ref b), .val (.int (Int32.ofNat o)), .val (.int (Int32.ofNat len)), .val (.ref s.heap.size), .unset, .unset] [.int (Int32.ofNat len), .int (Int32.ofNat 0), .ref s.heap.size, .int (Int32.ofNat o), .ref b])) rfl (by rw [hml]; rfl) c5 (argsL := [.ref b, .int (Int32.ofNat o), .ref s.heap.size, .int (Int32.ofNat 0), .int (Int32.ofNat len)]) (rest := []) rfl rfl (by show 2 * 0 + 0 ≤ _; decide) (hb hbytes d9) (⟨rfl, hA3, ba3, hne, l1, by rw [bs3]; simp, hp⟩)
  obtain ⟨rfl, B6, p6, f6⟩ := E6
  have c7 : Steps p.tables e below (s₁.setTop (entryFrame m #[.ref b, .int (Int32.ofNat o), .int (Int32.ofNat len)] 6)) (T6.setTop (mkF m 12 #[.val (.ref b), .val (.int (Int32.ofNat o)), .val (.int (Int32.ofNat len)), .val (.ref s.heap.size), .unset, .unset] [.int (Int32.ofNat len)])) := g6
  have c8 : Steps p.tables e below (s₁.setTop (entryFrame m #[.ref b, .int (Int32.ofNat o), .int (Int32.ofNat len)] 6)) (T6.setTop (mkF m 58 #[.val (.ref b), .val (.int (Int32.ofNat o)), .val (.int (Int32.ofNat len)), .val (.ref s.heap.size), .val (.int (Int32.ofNat len)), .unset] [.ref s.heap.size])) := c7.trans (by
    refine XS.istore X6.here hexec rfl (hb hbytes d12) rfl rfl ?_
    refine XS.iload X6.here hexec rfl (hb hbytes d14) rfl ?_
    refine XS.iloadN X6.here hexec rfl (hb hbytes d16) rfl ?_
    refine XS.icmpYes X6.here hexec rfl (pc0 := 17) rfl (hb hbytes d17) rfl (ii_eq_t rfl) (by decide) rfl ?_
    refine XS.aloadN X6.here hexec rfl (hb hbytes d57) rfl rfl ?_
    exact Steps.refl _)
  have X8 := X6.wide (L' := []) (cells' := 1) (slots' := len) (fun x hx hlt => by
    simp only [List.nil_append, copyLocs, List.mem_map, List.mem_range] at hx
    obtain ⟨i, -, rfl⟩ := hx
    exact absurd hlt (Nat.lt_irrefl _)) (Nat.le_refl _) (by omega)
  exact ⟨T6, some (.ref s.heap.size), _, _, _, X8, rfl, rfl, rfl, (fun h => by cases h), ⟨⟨rfl, B6, ba3.like (X3.warmed.alike.symm.trans X6.warmed.alike) p6.1 f6.1 f6.2.1 f6.2.2.1, f6.2.1.trans bv3, by rw [X6.warmed.alike.findClass, f6.1]; exact bf3, by rw [f6.2.2.1, bs3]; simp, fun j hj => by rw [f6.2.2.2 j, if_pos (by omega)]; rfl, kp3.put p6 (Nat.le_refl _)⟩, by rw [p6.2.2, bh3, hh0]; simp⟩, fun fs hl => c8.trans (X8.areturnOut hexec rfl hret rfl (hb hbytes d58) hl)⟩
end Cmp3
namespace CodL
def yN : MethodName := ⟨"java/lang/StringUTF16", "coderFromArrayLen", "([BI)B"⟩
abbrev yB : ByteArray := jdk_52_method_15_code
theorem d0 : decode yB 0 = .ok (.iload_n 1, 1) := by decide +kernel
theorem d1 : decode yB 1 = .ok (.aload_n 0, 1) := by decide +kernel
theorem d2 : decode yB 2 = .ok (.arraylength, 1) := by decide +kernel
theorem d3 : decode yB 3 = .ok (.isub, 1) := by decide +kernel
theorem d4 : decode yB 4 = .ok (.bipush 31, 2) := by decide +kernel
theorem d6 : decode yB 6 = .ok (.iushr, 1) := by decide +kernel
theorem d7 : decode yB 7 = .ok (.i2b, 1) := by decide +kernel
theorem d8 : decode yB 8 = .ok (.ireturn, 1) := by decide +kernel
def site : List Cond := []
def tab : Cond := tabOf yN yB 2 (some .byte) site
def P (d : Addr) (B : Cell) (args : Array Value) (s : State) : Prop := args = #[.ref d, .int (Int32.ofNat B.slots.size)] ∧ Arr .byte d B s
def E (r : Option Value) (s u : State) : Prop := XT.PureE (some (.int 0)) r s u
/-- an array as long as the number of chars: LATIN1 -/
theorem law (l : Launch) (d : Addr) (B : Cell) : Law l yN 2 2 0 0 yB 2 (some .byte) site (P d B) E [] 0 0 := by
  refine Law.of_walk (plainFor_of_name (by decide +kernel)) (by decide +kernel) (by decide +kernel) (by decide) (fun _ _ h => by rw [h.1]; rfl) (fun _ U U' hal hh h => ⟨h.1, h.2.mv hal hh⟩) (fun r U U' V V' h1 hal h2 h => XT.PureE.mv r U U' V V' h1 hal h2 h) ?_
  intro p e s m args below meth c s₁ X0 hexec hbytes hml hret hlk hnm hown hh0 W hP
  obtain ⟨rfl, hB⟩ := hP
  have hB0 := hB.mv X0.warmed.alike hh0
  have c1 : Steps p.tables e below (s₁.setTop (entryFrame m #[.ref d, .int (Int32.ofNat B.slots.size)] 2)) (s₁.setTop (mkF m 0 #[.val (.ref d), .val (.int (Int32.ofNat B.slots.size))] [])) := entry rfl
  have c2 : Steps p.tables e below (s₁.setTop (entryFrame m #[.ref d, .int (Int32.ofNat B.slots.size)] 2)) (s₁.setTop (mkF m 2 #[.val (.ref d), .val (.int (Int32.ofNat B.slots.size))] [.ref d, .int (Int32.ofNat B.slots.size)])) := c1.trans (by
    refine XS.iloadN X0.here hexec rfl (hb hbytes d0) rfl ?_
    refine XS.aloadN X0.here hexec rfl (hb hbytes d1) rfl rfl ?_
    exact Steps.refl _)
  have c3 : Steps p.tables e below (s₁.setTop (entryFrame m #[.ref d, .int (Int32.ofNat B.slots.size)] 2)) (s₁.setTop (mkF m 8 #[.val (.ref d), .val (.int (Int32.ofNat B.slots.size))] [.int (lo8 (ushr (Int32.ofNat B.slots.size - Int32.ofNat B.slots.size) 31))])) := c2.trans (by
    refine X0.alen hexec hB0 rfl rfl (hb hbytes d2) ?_
    refine XS.isub X0.here hexec rfl (hb hbytes d3) rfl ?_
    refine bipushV X0.here hexec rfl 31 (hb hbytes d4) (by decide) ?_
    refine iushr X0.here hexec rfl (hb hbytes d6) rfl ?_
    refine i2b X0.here hexec rfl (hb hbytes d7) rfl ?_
    exact Steps.refl _)
  have e0 : lo8 (ushr (Int32.ofNat B.slots.size - Int32.ofNat B.slots.size) 31) = 0 := by rw [Int32.sub_self]; decide
  rw [e0] at c3
  exact ⟨s₁, some (.int 0), _, _, _, X0, rfl, rfl, rfl, (fun h => by cases h), ⟨rfl, hh0⟩, fun fs hl => c3.trans (X0.ireturnOut hexec hret rfl (Or.inr (Or.inr (Or.inl rfl))) (hb hbytes d8) hl)⟩
end CodL
/-- the String at a is Latin-1 over a new byte[] (the heap's one new cell): the low bytes of the len chars of A from o on; every cell but a is kept -/
def Got (a : Addr) (D : Cell) (fV fC : Field) (A : Cell) (o len : Nat) (r : Option Value) (s u : State) : Prop := r = none ∧ ∃ D' V : Cell, Blank "java/lang/String" a D' u ∧ Same D D' [fV.slot, fC.slot] ∧ D'.slots[fV.slot]? = some (.ref s.heap.size) ∧ D'.slots[fC.slot]? = some (.int 0) ∧ Arr .byte s.heap.size V u ∧ V.vm = .none ∧ u.vm.findClass "[B" = some V.cls ∧ V.slots.size = len ∧ (∀ j, j < len → V.slots[j]? = some (.int (lo8 (cv A (o + j))))) ∧ (∀ (y : Addr) (c : Cell), y ≠ a → s.heap[y]? = some c → u.heap[y]? = some c) ∧ u.heap.size = s.heap.size + 1
theorem Got.mv {a : Addr} {D A : Cell} {fV fC : Field} {o len : Nat} : ∀ r (U U' V V' : State), U'.heap = U.heap → V.vm.Alike V'.vm → V'.heap = V.heap → Got a D fV fC A o len r U V → Got a D fV fC A o len r U' V' :=
  fun r U U' V V' h1 hal h2 ⟨e0, D', X, a1, a2, a3, a4, a5, a6, a7, a8, a9, a10, a11⟩ => ⟨e0, D', X, a1.mv hal h2, a2, by rw [h1]; exact a3, a4, by rw [h1]; exact a5.mv hal h2, a6, by rw [hal.findClass]; exact a7, a8, a9, by rw [h1, h2]; exact a10, by rw [h1, h2]; exact a11⟩
namespace New4
def yN : MethodName := ⟨"java/lang/String", "<init>", "([CIILjava/lang/Void;)V"⟩
abbrev yB : ByteArray := jdk_42_method_149_code
theorem d0 : decode yB 0 = .ok (.aload_n 0, 1) := by decide +kernel
theorem d1 : decode yB 1 = .ok (.invokespecial 1, 3) := by decide +kernel
theorem d4 : decode yB 4 = .ok (.iload_n 3, 1) := by decide +kernel
theorem d5 : decode yB 5 = .ok (.ifCond (.ne) 22, 3) := by decide +kernel
theorem d27 : decode yB 27 = .ok (.getstatic 38, 3) := by decide +kernel
theorem d30 : decode yB 30 = .ok (.ifCond (.eq) 28, 3) := by decide +kernel
theorem d33 : decode yB 33 = .ok (.aload_n 1, 1) := by decide +kernel
theorem d34 : decode yB 34 = .ok (.iload_n 2, 1) := by decide +kernel
theorem d35 : decode yB 35 = .ok (.iload_n 3, 1) := by decide +kernel
theorem d36 : decode yB 36 = .ok (.invokestatic 177, 3) := by decide +kernel
theorem d39 : decode yB 39 = .ok (.astore 5, 2) := by decide +kernel
theorem d41 : decode yB 41 = .ok (.aload_n 0, 1) := by decide +kernel
theorem d42 : decode yB 42 = .ok (.aload 5, 2) := by decide +kernel
theorem d44 : decode yB 44 = .ok (.iload_n 3, 1) := by decide +kernel
theorem d45 : decode yB 45 = .ok (.invokestatic 47, 3) := by decide +kernel
theorem d48 : decode yB 48 = .ok (.putfield 15, 3) := by decide +kernel
theorem d51 : decode yB 51 = .ok (.aload_n 0, 1) := by decide +kernel
theorem d52 : decode yB 52 = .ok (.aload 5, 2) := by decide +kernel
theorem d54 : decode yB 54 = .ok (.putfield 9, 3) := by decide +kernel
theorem d57 : decode yB 57 = .ok (.return_, 1) := by decide +kernel
def site : List Cond := [.fieldLink "java/lang/String" 38 "java/lang/String" "COMPACT_STRINGS" "Z", Cmp3.tab, CodL.tab, .laysFinal "java/lang/String" "java/lang/String" "value" "[B", .fieldLink "java/lang/String" 9 "java/lang/String" "value" "[B", .laysFinal "java/lang/String" "java/lang/String" "coder" "B", .fieldLink "java/lang/String" 15 "java/lang/String" "coder" "B"] ++ objW "java/lang/String" 1 ++ staticW "java/lang/String" 177 Cmp3.yN ++ staticW "java/lang/String" 47 CodL.yN
def tab : Cond := tabOf yN yB 6 none site
def P (a : Addr) (D : Cell) (fV fC : Field) (b : Addr) (A : Cell) (z : Int32) (o len : Nat) (args : Array Value) (s : State) : Prop := args = #[.ref a, .ref b, .int (Int32.ofNat o), .int (Int32.ofNat len), .null] ∧ Blank "java/lang/String" a D s ∧ Found "java/lang/String" "value" "[B" fV s ∧ Found "java/lang/String" "coder" "B" fC s ∧ Ch b A s ∧ StaticIs s "java/lang/String" "COMPACT_STRINGS" "Z" (.int z) ∧ ¬ z = 0 ∧ 0 < len ∧ o + len ≤ A.slots.size ∧ len ≤ 536870912 ∧ ∀ i, i < len → ¬ 255 < cv A (o + i)
def E (a : Addr) (D : Cell) (fV fC : Field) (A : Cell) (o len : Nat) (r : Option Value) (s u : State) : Prop := Got a D fV fC A o len r s u
/-- len > 0, no char of the range above 255: a Latin-1 String of their low bytes -/
theorem law (l : Launch) (a : Addr) (D : Cell) (fV fC : Field) (b : Addr) (A : Cell) (z : Int32) (o len : Nat) : Law l yN 5 4 2 35 yB 6 none site (P a D fV fC b A z o len) (E a D fV fC A o len) [⟨a, fC.slot⟩, ⟨a, fV.slot⟩] 1 len := by
  refine Law.of_walk (plainFor_of_name (by decide +kernel)) (by decide +kernel) (by decide +kernel) (by decide) (fun _ _ h => by rw [h.1]; rfl) (fun _ U U' hal hh h => ⟨h.1, h.2.1.mv hal hh, h.2.2.1.al hal, h.2.2.2.1.al hal, h.2.2.2.2.1.mv hal hh, h.2.2.2.2.2.1.there hal hh, h.2.2.2.2.2.2⟩) (fun r U U' V V' h1 hal h2 h => Got.mv r U U' V V' h1 hal h2 h) ?_
  intro p e s m args below meth c s₁ X0 hexec hbytes hml hret hlk hnm hown hh0 W hP
  obtain ⟨rfl, hB, f1, f2, hA, s1, hz, l0, l1, l2, hp⟩ := hP
  have a31 := hA.1.2.2.2
  have c1 : Steps p.tables e below (s₁.setTop (entryFrame m #[.ref a, .ref b, .int (Int32.ofNat o), .int (Int32.ofNat len), .null] 6)) (s₁.setTop (mkF m 0 #[.val (.ref a), .val (.ref b), .val (.int (Int32.ofNat o)), .val (.int (Int32.ofNat len)), .val .null, .unset] [])) := entry rfl
  have c2 : Steps p.tables e below (s₁.setTop (entryFrame m #[.ref a, .ref b, .int (Int32.ofNat o), .int (Int32.ofNat len), .null] 6)) (s₁.setTop (mkF m 1 #[.val (.ref a), .val (.ref b), .val (.int (Int32.ofNat o)), .val (.int (Int32.ofNat len)), .val .null, .unset] [.ref a])) := c1.trans (by
    refine XS.aloadN X0.here hexec rfl (hb hbytes d0) rfl rfl ?_
    exact Steps.refl _)
  obtain ⟨T3, X3, q3, st3⟩ := X0.oinit hexec hown (wks W (objW "java/lang/String" 1)) (g := (mkF m 1 #[.val (.ref a), .val (.ref b), .val (.int (Int32.ofNat o)), .val (.int (Int32.ofNat len)), .val .null, .unset] [.ref a])) rfl (by rw [hml]; rfl) (rest := []) rfl (hb hbytes d1) (W := 0) (by show 2 * 0 + 0 ≤ _; decide) (Nat.le_of_ble_eq_true rfl) (Nat.le_of_ble_eq_true rfl)
  have hh3 := q3.trans hh0
  have c4 : Steps p.tables e below (s₁.setTop (entryFrame m #[.ref a, .ref b, .int (Int32.ofNat o), .int (Int32.ofNat len), .null] 6)) (T3.setTop (mkF m 27 #[.val (.ref a), .val (.ref b), .val (.int (Int32.ofNat o)), .val (.int (Int32.ofNat len)), .val .null, .unset] [])) := (c2.trans (st3 _ (Steps.refl _))).trans (by
    refine XS.iloadN X3.here hexec rfl (hb hbytes d4) rfl ?_
    refine XS.ifYes X3.here hexec rfl (pc0 := 5) rfl (hb hbytes d5) rfl (i0_ne_t (nz32 (by omega) l0)) (by decide) rfl ?_
    exact Steps.refl _)
  obtain ⟨T5, X5, q5, st5⟩ := X3.sget hexec hown (wk W (.fieldLink "java/lang/String" 38 "java/lang/String" "COMPACT_STRINGS" "Z")) s1 (fun _ _ h => by rw [hh3]; exact h) (g := (mkF m 27 #[.val (.ref a), .val (.ref b), .val (.int (Int32.ofNat o)), .val (.int (Int32.ofNat len)), .val .null, .unset] [])) rfl (hb hbytes d27)
  have hh5 := q5.trans hh3
  have c6 : Steps p.tables e below (s₁.setTop (entryFrame m #[.ref a, .ref b, .int (Int32.ofNat o), .int (Int32.ofNat len), .null] 6)) (T5.setTop (mkF m 30 #[.val (.ref a), .val (.ref b), .val (.int (Int32.ofNat o)), .val (.int (Int32.ofNat len)), .val .null, .unset] [.int z])) := c4.trans (st5 _ (Steps.refl _))
  have c7 : Steps p.tables e below (s₁.setTop (entryFrame m #[.ref a, .ref b, .int (Int32.ofNat o), .int (Int32.ofNat len), .null] 6)) (T5.setTop (mkF m 36 #[.val (.ref a), .val (.ref b), .val (.int (Int32.ofNat o)), .val (.int (Int32.ofNat len)), .val .null, .unset] [.int (Int32.ofNat len), .int (Int32.ofNat o), .ref b])) := c6.trans (by
    refine XS.ifNo X5.here hexec rfl (hb hbytes d30) rfl (i0_eq_f hz) ?_
    refine XS.aloadN X5.here hexec rfl (hb hbytes d33) rfl rfl ?_
    refine XS.iloadN X5.here hexec rfl (hb hbytes d34) rfl ?_
    refine XS.iloadN X5.here hexec rfl (hb hbytes d35) rfl ?_
    exact Steps.refl _)
  obtain ⟨v8, T8, X8, E8, g8⟩ := X5.callS hexec (Cmp3.law l b A o len) hown (wks W (staticW "java/lang/String" 177 Cmp3.yN)) (wk W Cmp3.tab) (W := 0) (Nat.le_of_ble_eq_true rfl) (Nat.le_of_ble_eq_true rfl) (Nat.le_refl _) (by show 0 + len ≤ len; omega) (g := (mkF m 36 #[.val (.ref a), .val (.ref b), .val (.int (Int32.ofNat o)), .val (.int (Int32.ofNat len)), .val .null, .unset] [.int (Int32.ofNat len), .int (Int32.ofNat o), .ref b])) rfl (by rw [hml]; rfl) c7 (argsL := [.ref b, .int (Int32.ofNat o), .int (Int32.ofNat len)]) (rest := []) rfl rfl (by show 2 * 0 + 0 ≤ _; decide) (hb hbytes d36) (⟨rfl, hA.mv X5.warmed.alike hh5, l1, l2, hp⟩)
  obtain ⟨e8, z8⟩ := E8
  obtain ⟨rfl, N, n1, n2, n3, n4, n5, n6⟩ := NewArr.mv _ T5 s _ _ hh5.symm (Vm.Alike.refl _) rfl e8
  rw [hh5] at z8
  have hB1 := hB.keep X8.warmed.alike (n6 _ _ hB.1)
  have hne : s.heap.size ≠ a := (Nat.ne_of_lt (Array.getElem?_eq_some_iff.mp hB.1).1).symm
  have c9 : Steps p.tables e below (s₁.setTop (entryFrame m #[.ref a, .ref b, .int (Int32.ofNat o), .int (Int32.ofNat len), .null] 6)) (T8.setTop (mkF m 39 #[.val (.ref a), .val (.ref b), .val (.int (Int32.ofNat o)), .val (.int (Int32.ofNat len)), .val .null, .unset] [.ref s.heap.size])) := g8
  have c10 : Steps p.tables e below (s₁.setTop (entryFrame m #[.ref a, .ref b, .int (Int32.ofNat o), .int (Int32.ofNat len), .null] 6)) (T8.setTop (mkF m 45 #[.val (.ref a), .val (.ref b), .val (.int (Int32.ofNat o)), .val (.int (Int32.ofNat len)), .val .null, .val (.ref s.heap.size)] [.int (Int32.ofNat N.slots.size), .ref s.heap.size, .ref a])) := by
    have hc : Steps p.tables e below (s₁.setTop (entryFrame m #[.ref a, .ref b, .int (Int32.ofNat o), .int (Int32.ofNat len), .null] 6)) (T8.setTop (mkF m 45 #[.val (.ref a), .val (.ref b), .val (.int (Int32.ofNat o)), .val (.int (Int32.ofNat len)), .val .null, .val (.ref s.heap.size)] [.int (Int32.ofNat len), .ref s.heap.size, .ref a])) := c9.trans (by
      refine XS.astore X8.here hexec rfl (hb hbytes d39) rfl rfl rfl ?_
      refine XS.aloadN X8.here hexec rfl (hb hbytes d41) rfl rfl ?_
      refine XS.aload X8.here hexec rfl (hb hbytes d42) rfl rfl ?_
      refine XS.iloadN X8.here hexec rfl (hb hbytes d44) rfl ?_
      exact Steps.refl _)
    rw [n4]; exact hc
  obtain ⟨v11, T11, X11, E11, g11⟩ := X8.callS hexec (CodL.law l s.heap.size N) hown (wks W (staticW "java/lang/String" 47 CodL.yN)) (wk W CodL.tab) (W := 1) (Nat.le_of_ble_eq_true rfl) (Nat.le_of_ble_eq_true rfl) (Nat.le_refl _) (by show 0 + len + 0 ≤ len; omega) (g := (mkF m 45 #[.val (.ref a), .val (.ref b), .val (.int (Int32.ofNat o)), .val (.int (Int32.ofNat len)), .val .null, .val (.ref s.heap.size)] [.int (Int32.ofNat N.slots.size), .ref s.heap.size, .ref a])) rfl (by rw [hml]; rfl) c10 (argsL := [.ref s.heap.size, .int (Int32.ofNat N.slots.size)]) (rest := [.ref a]) rfl rfl (by show 2 * 0 + (1 + 0) ≤ _; decide) (hb hbytes d45) (⟨rfl, n1⟩)
  obtain ⟨rfl, q11⟩ := E11
  have hB11 := hB1.mv (X8.warmed.alike.symm.trans X11.warmed.alike) q11
  have c12 : Steps p.tables e below (s₁.setTop (entryFrame m #[.ref a, .ref b, .int (Int32.ofNat o), .int (Int32.ofNat len), .null] 6)) (T11.setTop (mkF m 48 #[.val (.ref a), .val (.ref b), .val (.int (Int32.ofNat o)), .val (.int (Int32.ofNat len)), .val .null, .val (.ref s.heap.size)] [.int 0, .ref a])) := g11
  obtain ⟨T13, X13, p13, bl13, sl13, st13⟩ := X11.finit hexec hown (wk W (.fieldLink "java/lang/String" 15 "java/lang/String" "coder" "B")) (Or.inr ⟨_, (wk W (.laysFinal "java/lang/String" "java/lang/String" "coder" "B"))⟩) (Or.inl ⟨rfl, hnm⟩) f2 (Or.inl rfl) hB11 (t := .byte) (by decide +kernel) rfl (g := (mkF m 48 #[.val (.ref a), .val (.ref b), .val (.int (Int32.ofNat o)), .val (.int (Int32.ofNat len)), .val .null, .val (.ref s.heap.size)] [.int 0, .ref a])) rfl (rest := []) rfl (hb hbytes d48)
  have c14 : Steps p.tables e below (s₁.setTop (entryFrame m #[.ref a, .ref b, .int (Int32.ofNat o), .int (Int32.ofNat len), .null] 6)) (T13.setTop (mkF m 54 #[.val (.ref a), .val (.ref b), .val (.int (Int32.ofNat o)), .val (.int (Int32.ofNat len)), .val .null, .val (.ref s.heap.size)] [.ref s.heap.size, .ref a])) := (c12.trans (st13 _ (Steps.refl _))).trans (by
    refine XS.aloadN X13.here hexec rfl (hb hbytes d51) rfl rfl ?_
    refine XS.aload X13.here hexec rfl (hb hbytes d52) rfl rfl ?_
    exact Steps.refl _)
  obtain ⟨T15, X15, p15, bl15, sl15, st15⟩ := X13.finit hexec hown (wk W (.fieldLink "java/lang/String" 9 "java/lang/String" "value" "[B")) (Or.inr ⟨_, (wk W (.laysFinal "java/lang/String" "java/lang/String" "value" "[B"))⟩) (Or.inl ⟨rfl, hnm⟩) f1 (Or.inl rfl) bl13 (t := (.array .byte)) (by decide +kernel) rfl (g := (mkF m 54 #[.val (.ref a), .val (.ref b), .val (.int (Int32.ofNat o)), .val (.int (Int32.ofNat len)), .val .null, .val (.ref s.heap.size)] [.ref s.heap.size, .ref a])) rfl (rest := []) rfl (hb hbytes d54)
  have c16 : Steps p.tables e below (s₁.setTop (entryFrame m #[.ref a, .ref b, .int (Int32.ofNat o), .int (Int32.ofNat len), .null] 6)) (T15.setTop (mkF m 57 #[.val (.ref a), .val (.ref b), .val (.int (Int32.ofNat o)), .val (.int (Int32.ofNat len)), .val .null, .val (.ref s.heap.size)] [])) := c14.trans (st15 _ (Steps.refl _))
  have ap := apart (Or.inr ⟨_, (wk W (.laysFinal "java/lang/String" "java/lang/String" "value" "[B"))⟩) (Or.inr ⟨_, (wk W (.laysFinal "java/lang/String" "java/lang/String" "coder" "B"))⟩) f1 f2 (t₁ := .array .byte) (t₂ := .byte) (by decide +kernel) (by decide +kernel) (by decide)
  have al := X8.warmed.alike.symm.trans X15.warmed.alike
  have n7 : T11.heap[s.heap.size]? = some N := by rw [q11]; exact n1.1
  exact ⟨T15, none, _, _, _, X15, by simp, rfl, by omega, (fun _ => rfl), ⟨rfl, _, N, bl15, ((Same.refl D _).set _ (by simp)).set _ (by simp), sl15, (Cell.slots_setSlot_ne _ ap).trans sl13, n1.keep al (p15.other hne (p13.other hne n7)), n2, by rw [al.findClass]; exact n3, n4, n5, fun y c h1 h2 => p15.other h1 (p13.other h1 (by rw [q11]; exact n6 y c h2)), by rw [p15.2.2, p13.2.2, q11]; exact z8⟩, fun fs hl => c16.trans (X15.returnOut hexec hret (hb hbytes d57) hl)⟩
end New4
namespace New1
def yN : MethodName := ⟨"java/lang/String", "<init>", "([C)V"⟩
abbrev yB : ByteArray := jdk_42_method_3_code
theorem d0 : decode yB 0 = .ok (.aload_n 0, 1) := by decide +kernel
theorem d1 : decode yB 1 = .ok (.aload_n 1, 1) := by decide +kernel
theorem d2 : decode yB 2 = .ok (.iconst 0, 1) := by decide +kernel
theorem d3 : decode yB 3 = .ok (.aload_n 1, 1) := by decide +kernel
theorem d4 : decode yB 4 = .ok (.arraylength, 1) := by decide +kernel
theorem d5 : decode yB 5 = .ok (.aconst_null, 1) := by decide +kernel
theorem d6 : decode yB 6 = .ok (.invokespecial 27, 3) := by decide +kernel
theorem d9 : decode yB 9 = .ok (.return_, 1) := by decide +kernel
def site : List Cond := [New4.tab] ++ initW "java/lang/String" 27 New4.yN
def tab : Cond := tabOf yN yB 2 none site
def P (a : Addr) (D : Cell) (fV fC : Field) (b : Addr) (A : Cell) (z : Int32) (args : Array Value) (s : State) : Prop := args = #[.ref a, .ref b] ∧ Blank "java/lang/String" a D s ∧ Found "java/lang/String" "value" "[B" fV s ∧ Found "java/lang/String" "coder" "B" fC s ∧ Ch b A s ∧ StaticIs s "java/lang/String" "COMPACT_STRINGS" "Z" (.int z) ∧ ¬ z = 0 ∧ 0 < A.slots.size ∧ A.slots.size ≤ 536870912 ∧ ∀ i, i < A.slots.size → ¬ 255 < cv A i
def E (a : Addr) (D : Cell) (fV fC : Field) (A : Cell) (r : Option Value) (s u : State) : Prop := Got a D fV fC A 0 A.slots.size r s u
/-- new String(chars), not empty, no char above 255: a Latin-1 String of their low bytes -/
theorem law (l : Launch) (a : Addr) (D : Cell) (fV fC : Field) (b : Addr) (A : Cell) (z : Int32) : Law l yN 2 1 3 52 yB 2 none site (P a D fV fC b A z) (E a D fV fC A) [⟨a, fC.slot⟩, ⟨a, fV.slot⟩] 1 A.slots.size := by
  refine Law.of_walk (plainFor_of_name (by decide +kernel)) (by decide +kernel) (by decide +kernel) (by decide) (fun _ _ h => by rw [h.1]; rfl) (fun _ U U' hal hh h => ⟨h.1, h.2.1.mv hal hh, h.2.2.1.al hal, h.2.2.2.1.al hal, h.2.2.2.2.1.mv hal hh, h.2.2.2.2.2.1.there hal hh, h.2.2.2.2.2.2⟩) (fun r U U' V V' h1 hal h2 h => Got.mv r U U' V V' h1 hal h2 h) ?_
  intro p e s m args below meth c s₁ X0 hexec hbytes hml hret hlk hnm hown hh0 W hP
  obtain ⟨rfl, hB, f1, f2, hA, s1, hz, l0, l2, hp⟩ := hP
  have c1 : Steps p.tables e below (s₁.setTop (entryFrame m #[.ref a, .ref b] 2)) (s₁.setTop (mkF m 0 #[.val (.ref a), .val (.ref b)] [])) := entry rfl
  have c2 : Steps p.tables e below (s₁.setTop (entryFrame m #[.ref a, .ref b] 2)) (s₁.setTop (mkF m 6 #[.val (.ref a), .val (.ref b)] [.null, .int (Int32.ofNat A.slots.size), .int 0, .ref b, .ref a])) := c1.trans (by
    refine XS.aloadN X0.here hexec rfl (hb hbytes d0) rfl rfl ?_
    refine XS.aloadN X0.here hexec rfl (hb hbytes d1) rfl rfl ?_
    refine iconstV X0.here hexec rfl 0 (hb hbytes d2) (by decide) ?_
    refine XS.aloadN X0.here hexec rfl (hb hbytes d3) rfl rfl ?_
    refine X0.alen hexec (hA.1.mv X0.warmed.alike hh0) rfl rfl (hb hbytes d4) ?_
    refine XS.aconstNull X0.here hexec rfl (hb hbytes d5) ?_
    exact Steps.refl _)
  obtain ⟨v3, T3, X3, E3, g3⟩ := X0.callN hexec (New4.law l a D fV fC b A z 0 A.slots.size) rfl hown (wks W (initW "java/lang/String" 27 New4.yN)) (W New4.tab (by simp only [site, List.mem_cons, List.mem_append, true_or, or_true])) (W := 0) (Nat.le_of_ble_eq_true rfl) (Nat.le_of_ble_eq_true rfl) (Nat.le_refl _) (by show 0 + A.slots.size ≤ A.slots.size; omega) (g := (mkF m 6 #[.val (.ref a), .val (.ref b)] [.null, .int (Int32.ofNat A.slots.size), .int (Int32.ofNat 0), .ref b, .ref a])) rfl (by rw [hml]; rfl) c2 (argsL := [.ref b, .int (Int32.ofNat 0), .int (Int32.ofNat A.slots.size), .null]) (rest := []) rfl rfl (by show 2 * 0 + 0 ≤ _; decide) (hb hbytes d6) (⟨rfl, hB.mv X0.warmed.alike hh0, f1.al X0.warmed.alike, f2.al X0.warmed.alike, hA.mv X0.warmed.alike hh0, s1.there X0.warmed.alike hh0, hz, l0, by omega, l2, fun i hi => by rw [Nat.zero_add]; exact hp i hi⟩)
  have e0 := Got.mv _ s₁ s _ _ hh0.symm (Vm.Alike.refl _) rfl E3
  obtain rfl := e0.1
  have c4 : Steps p.tables e below (s₁.setTop (entryFrame m #[.ref a, .ref b] 2)) (T3.setTop (mkF m 9 #[.val (.ref a), .val (.ref b)] [])) := g3
  exact ⟨T3, none, _, _, _, X3, by simp, rfl, by omega, (fun _ => rfl), e0, fun fs hl => c4.trans (X3.returnOut hexec hret (hb hbytes d9) hl)⟩
theorem pays {l : Launch} {R : Room} {p : Program} {e : Env} {below : List Frame} {s : State} {sargs : Array Value} {len W : Nat} (a : Addr) (D : Cell) (fV fC : Field) (b : Addr) (A : Cell) (z : Int32) (htab : tab.before sargs s = true) (hfr : 4 ≤ R.frames) (hlo : W + 65 ≤ R.locals) :
    Back l R p e below s sargs yN len W (fun A₁ a₁ => A₁.cells + 1 ≤ R.cells ∧ A₁.slots + A.slots.size ≤ R.slots ∧ P a D fV fC b A z a₁ A₁.U) (fun A₁ _ v₁ B₁ => E a D fV fC A v₁ A₁.U B₁.U ∧ B₁.locs = A₁.locs ++ [⟨a, fC.slot⟩, ⟨a, fV.slot⟩] ∧ B₁.cells = A₁.cells + 1 ∧ B₁.slots = A₁.slots + A.slots.size) :=
  (law l a D fV fC b A z).pays htab hfr (by omega)
end New1
/-- the byte, read back as charAt reads it, is the char -/
theorem lo8_mask {x : Int32} (h0 : ¬ x < 0) (h1 : ¬ 255 < x) : lo8 x &&& 255 = x := by
  have t : ∀ k : Fin 256, lo8 (Int32.ofNat k.val) &&& 255 = Int32.ofNat k.val := by decide +kernel
  rw [Int32.lt_iff_toInt_lt] at h0 h1
  have e0 : (0 : Int32).toInt = 0 := rfl
  have e1 : (255 : Int32).toInt = 255 := rfl
  obtain ⟨k, hk⟩ : ∃ k : Nat, x.toInt = k := ⟨x.toInt.toNat, by omega⟩
  have hx : x = Int32.ofNat k := Int32.toInt_inj.mp (by rw [hk, Int32.toInt_ofNat_small (by omega)])
  rw [hx]
  exact t ⟨k, by omega⟩
end StrChars
namespace StrChars.Road
open Jvm Sem ClassFile Op Lib Jvm.Stand Jvm.Free Jvm.Free.XT
open Jvm.Lib.Cold (StaticIs)
abbrev ST : String := "java/lang/String"
/-- every table word that New1's law asks, flat -/
abbrev words : List Jvm.Cond := [.code New1.yN New1.yB 2 none, .initialized ST, .methodLink ST 27 New4.yN, .instanceMethod New4.yN,
  .code New4.yN New4.yB 6 none, .fieldLink ST 38 ST "COMPACT_STRINGS" "Z", .laysFinal ST ST "value" "[B", .fieldLink ST 9 ST "value" "[B", .laysFinal ST ST "coder" "B", .fieldLink ST 15 ST "coder" "B",
  .methodLink ST 1 Lib.objectInit, .instanceMethod Lib.objectInit, .code Lib.objectInit ⟨#[0xb1]⟩ 1 none, .methodLink ST 177 Cmp3.yN, .static Cmp3.yN, .methodLink ST 47 CodL.yN, .static CodL.yN,
  .code Cmp3.yN Cmp3.yB 6 (some (.array .byte)), .initialized U16, .arrayClass .byte, .methodLink U16 115 Cmp5.yN, .static Cmp5.yN, .code Cmp5.yN Cmp5.yB 7 (some .int), .code CodL.yN CodL.yB 2 (some .byte)]
theorem tab_of {a : Array Value} {s : State} (h : ∀ w ∈ words, w.before a s = true) : New1.tab.before a s = true := by
  have h5 : Cmp5.tab.before a s = true := unparts (wk h (.code Cmp5.yN Cmp5.yB 7 (some .int))) (wks h (.initialized Cmp5.yN.cls :: Cmp5.site))
  have hc : CodL.tab.before a s = true := unparts (wk h (.code CodL.yN CodL.yB 2 (some .byte))) (wks h (.initialized CodL.yN.cls :: CodL.site))
  have q5 : ∀ w ∈ Cmp5.tab :: words, w.before a s = true := fun w hw => (List.mem_cons.mp hw).elim (fun e => e ▸ h5) (h w)
  have h3 : Cmp3.tab.before a s = true := unparts (wk q5 (.code Cmp3.yN Cmp3.yB 6 (some (.array .byte)))) (wks q5 (.initialized Cmp3.yN.cls :: Cmp3.site))
  have q3 : ∀ w ∈ Cmp3.tab :: CodL.tab :: words, w.before a s = true := fun w hw => (List.mem_cons.mp hw).elim (fun e => e ▸ h3) fun hw => (List.mem_cons.mp hw).elim (fun e => e ▸ hc) (h w)
  have h4 : New4.tab.before a s = true := unparts (wk q3 (.code New4.yN New4.yB 6 none)) (wks q3 (.initialized New4.yN.cls :: New4.site))
  have q4 : ∀ w ∈ New4.tab :: words, w.before a s = true := fun w hw => (List.mem_cons.mp hw).elim (fun e => e ▸ h4) (h w)
  exact unparts (wk q4 (.code New1.yN New1.yB 2 none)) (wks q4 (.initialized New1.yN.cls :: New1.site))
/-- the words ride from the start Z to the walk's own state -/
theorem moved {Z s : State} {a0 args : Array Value} (hZ : Z.Warmed39 s.vm) (hw : ∀ d ∈ words, d.before a0 Z = true) : ∀ d ∈ words, d.before args s = true := fun d hd => by
  have q := hw d hd
  have t : ∀ d ∈ words, d = .arrayClass .byte ∨ (d.onTables && d.keepsFace) = true := by decide +kernel
  rcases t d hd with rfl | t
  · exact RoadKit.mvA hZ q
  · exact RoadKit.mv hZ q t
/-- WHAT COMES BACK, over the tables of the start Z: h the heap at the call, h' behind it -/
def Q (Z : State) (x : Addr) (A : Cell) (h : Heap) (v : Option Value) (h' : Heap) (L : List Loc) : Prop := v = none ∧ (∀ y ∈ L, y.base = x) ∧ RoadKit.Keep h h' [x] ∧ h'.size = h.size + 1 ∧ RoadKit.Exa Z h' x ST ∧ RoadKit.Fld Z h' x ST "value" "[B" (.ref h.size) ∧ RoadKit.Fld Z h' x ST "coder" "B" (.int 0) ∧
  (∃ V : Cell, RoadKit.Arr Z h' h.size V .byte ∧ V.vm = .none ∧ Z.vm.findClass "[B" = some V.cls ∧ V.slots.size = A.slots.size ∧ ∀ j, j < A.slots.size → V.slots[j]? = some (.int (lo8 (cv A j)))) ∧
  ∀ (O n d : String) (w : Value), RoadKit.Fld Z h x O n d w → RoadKit.slotOf Z O n d ≠ RoadKit.slotOf Z ST "value" "[B" → RoadKit.slotOf Z O n d ≠ RoadKit.slotOf Z ST "coder" "B" → RoadKit.Fld Z h' x O n d w
/-- **new String(chars) AT A CALL, IN THE ROAD'S FORM**: for specialBack behind newO: x the fresh String, b the char[] with the cell A -/
theorem back {p : Program} {l : Launch} {e : Env} {R : Room} {s : State} {args : Array Value} {below : List Frame} {len W : Nat} {Z : State} {a0 : Array Value} {h : Heap} (hZ : Z.Warmed39 s.vm) (hw : ∀ d ∈ words, d.before a0 Z = true) {kI : Nat} (wi : (Jvm.Cond.instantiable ST kI).before a0 Z = true)
    {x b : Addr} {A : Cell} {z : Int32} {v0 c0 : Value} (E : RoadKit.Exa Z h x ST) (V : RoadKit.Fld Z h x ST "value" "[B" v0) (C : RoadKit.Fld Z h x ST "coder" "B" c0) (K : RoadKit.Arr Z h b A .char) (hty : Typed .char A) (S : RoadKit.Sta Z h ST "COMPACT_STRINGS" "Z" (.int z)) (hz : ¬ z = 0)
    (l0 : 0 < A.slots.size) (l2 : A.slots.size ≤ 536870912) (hp : ∀ i, i < A.slots.size → ¬ 255 < cv A i) (hfr : 4 ≤ R.frames) (hlo : W + 65 ≤ R.locals) :
    Back l R p e below s args New1.yN len W (fun P a => a = #[.ref x, .ref b] ∧ P.U.heap = h ∧ P.cells + 1 ≤ R.cells ∧ P.slots + A.slots.size ≤ R.slots)
      (fun P _ v B => ∃ L, Q Z x A h v B.U.heap L ∧ B.locs = P.locs ++ L ∧ B.cells = P.cells + 1 ∧ B.slots = P.slots + A.slots.size) := by
  intro m meth c P g ig mk a X hg hsize hdg hW hn hp'
  obtain ⟨rfl, rfl, r1, r2⟩ := hp'
  have al : Z.vm.Alike P.U.vm := hZ.alike.trans X.warmed.alike
  obtain ⟨D, cfV, kV, iV, fV, hD, gV, stV, knV, obV, asV, slV⟩ := id V
  obtain ⟨D', cfC, kC, iC, fC, hD', gC, stC, -, -, asC, slC⟩ := id C
  cases hD.symm.trans hD'
  obtain ⟨D2, kD, e1, e2, e3, e4, e5⟩ := id E
  cases hD.symm.trans e1
  obtain ⟨c2, k2, i1, i2, i3, -⟩ := Cond.instantiable_spec wi
  cases e2.symm.trans i1
  cases e3.symm.trans i2
  obtain ⟨kU, u1, u2⟩ := al.2.2 _ _ e3
  have hB : Blank ST x D P.U := ⟨hD, ⟨knV, fun q hq => by rw [hq] at obV; cases obV⟩, by rw [al.findClass]; exact e2, kU, u1, by rw [u2]; exact i3, by rw [u2]; exact e5 i3⟩
  have F1 : Found ST "value" "[B" fV P.U := ⟨SBG.found_only al ⟨cfV, kV, iV, gV⟩, stV⟩
  have F2 : Found ST "coder" "B" fC P.U := ⟨SBG.found_only al ⟨cfC, kC, iC, gC⟩, stC⟩
  have hA : Ch b A P.U := ⟨⟨K.1, State.isArrayOf_alike al K.2.1, K.2.2, by omega⟩, hty⟩
  have hS : StaticIs P.U ST "COMPACT_STRINGS" "Z" (.int z) := by
    obtain ⟨cfS, iS, kS, fS, st, cS, t1, t2, t3, t4, t5, t6, t7⟩ := S
    exact StaticIs.there (s := { Z with heap := P.U.heap }) ⟨cfS, iS, kS, fS, st, cS, t1, t2, t3, t4, t5, (fun q => by rw [q] at t6; cases t6), t7⟩ al rfl
  obtain ⟨v, B, X', ⟨⟨hv, E', V', q1, q2, q3, q4, q5, q6, q7, q8, q9, q10, q11⟩, hl, hc, hs⟩, st⟩ := New1.pays x D fV fC b A z (tab_of (moved hZ hw)) hfr hlo m meth c P g ig mk _ X hg hsize hdg hW hn ⟨r1, r2, rfl, hB, F1, F2, hA, hS, hz, l0, l2, hp⟩
  have al' : Z.vm.Alike B.U.vm := hZ.alike.trans X'.warmed.alike
  have hsz : E'.slots.size = D.slots.size := by
    obtain ⟨-, -, -, kB, w1, w2, w3⟩ := q1
    obtain ⟨kB', y1, y2⟩ := al'.2.2 _ _ e3
    rw [q2.2.1] at w1
    cases w1.symm.trans y1
    rw [w3, e5 i3, y2]
  refine ⟨v, B, X', ⟨_, ⟨hv, ?_, ⟨by omega, fun y cy hy hn' => q10 y cy (by simpa using hn') hy, fun y cy hy => ?_⟩, q11, ⟨E', _, q1.1, by rw [q2.2.1]; exact e2, by rw [q2.2.1]; exact e3, by rw [q2.1]; exact obV, fun _ => by rw [hsz]; exact e5 i3⟩,
    ⟨E', cfV, kV, iV, fV, q1.1, gV, stV, by rw [q2.1]; exact knV, by rw [q2.1]; exact obV, by rw [q2.2.1]; exact asV, q3⟩, ⟨E', cfC, kC, iC, fC, q1.1, gC, stC, by rw [q2.1]; exact knV, by rw [q2.1]; exact obV, by rw [q2.2.1]; exact asC, q4⟩,
    ⟨V', ⟨q5.1, State.isArrayOf_alike al'.symm q5.2.1, q5.2.2.1⟩, q6, by rw [← al'.findClass]; exact q7, q8, fun j hj => by have := q9 j hj; rwa [Nat.zero_add] at this⟩, fun O n d w F n1 n2 => ?_⟩, hl, hc, hs⟩, st⟩
  · intro y hy
    simp only [List.mem_cons, List.not_mem_nil, or_false] at hy
    rcases hy with rfl | rfl <;> rfl
  · by_cases q : y = x
    · subst q
      cases hD.symm.trans hy
      exact ⟨E', q1.1, q2.2.1, q2.1, hsz⟩
    · exact ⟨cy, q10 y cy q hy, rfl, rfl, rfl⟩
  · obtain ⟨D3, cf, k, i, f, g1, g2, g3, g4, g5, g6, g7⟩ := F
    cases hD.symm.trans g1
    simp only [RoadKit.slotOf, g2, gV, gC, Option.map_some, Option.getD_some] at n1 n2
    exact ⟨E', cf, k, i, f, q1.1, g2, g3, by rw [q2.1]; exact g4, by rw [q2.1]; exact g5, by rw [q2.2.1]; exact g6, by rw [q2.2.2 f.slot (by simp [n1, n2])]; exact g7⟩
end StrChars.Road
namespace StrChars.Road
open Jvm Sem ClassFile Op Lib Jvm.Stand Jvm.Free Jvm.Free.XT
/-- WHAT COMES BACK, the byte[] as a list of values -/
def QA (Z : State) (x : Addr) (zn : Int32) (cs : List Int32) (h : Heap) (v : Option Value) (h' : Heap) (L : List Loc) : Prop := v = none ∧ (∀ y ∈ L, y.base = x) ∧ RoadKit.Keep h h' [x] ∧ h'.size = h.size + 1 ∧ RoadKit.Exa Z h' x ST ∧ RoadKit.Fld Z h' x ST "value" "[B" (.ref h.size) ∧ RoadKit.Fld Z h' x ST "coder" "B" (.int 0) ∧
  (∃ kb, Z.vm.findClass "[B" = some kb ∧ RoadKit.Arv Z h' h.size kb .byte zn (cs.map fun c => .int (lo8 c)) (.int 0)) ∧
  ∀ (O n d : String) (w : Value), RoadKit.Fld Z h x O n d w → RoadKit.slotOf Z O n d ≠ RoadKit.slotOf Z ST "value" "[B" → RoadKit.slotOf Z O n d ≠ RoadKit.slotOf Z ST "coder" "B" → RoadKit.Fld Z h' x O n d w
/-- **new String(chars) AT A CALL, THE ARRAYS AS LISTS**: the char[] at b holds cs, not empty, no char above 255 -/
theorem backArv {p : Program} {l : Launch} {e : Env} {R : Room} {s : State} {args : Array Value} {below : List Frame} {len W : Nat} {Z : State} {a0 : Array Value} {h : Heap} (hZ : Z.Warmed39 s.vm) (hw : ∀ d ∈ words, d.before a0 Z = true) {kI : Nat} (wi : (Jvm.Cond.instantiable ST kI).before a0 Z = true)
    {x b : Addr} {k : ClassId} {zn z : Int32} {cs : List Int32} {dv v0 c0 : Value} (E : RoadKit.Exa Z h x ST) (V : RoadKit.Fld Z h x ST "value" "[B" v0) (C : RoadKit.Fld Z h x ST "coder" "B" c0) (K : RoadKit.Arv Z h b k .char zn (cs.map Value.int) dv) (S : RoadKit.Sta Z h ST "COMPACT_STRINGS" "Z" (.int z)) (hz : ¬ z = 0)
    (hlen : zn.toNatClampNeg = cs.length) (h0 : 0 < cs.length) (hbig : cs.length ≤ 536870912) (hall : ∀ c ∈ cs, ¬ 255 < c) (hfr : 4 ≤ R.frames) (hlo : W + 65 ≤ R.locals) :
    Back l R p e below s args New1.yN len W (fun P a => a = #[.ref x, .ref b] ∧ P.U.heap = h ∧ P.cells + 1 ≤ R.cells ∧ P.slots + cs.length ≤ R.slots)
      (fun P _ v B => ∃ L, QA Z x zn cs h v B.U.heap L ∧ B.locs = P.locs ++ L ∧ B.cells = P.cells + 1 ∧ B.slots = P.slots + cs.length) := by
  obtain ⟨A, K1, K2, K3, K4, K5, K6⟩ := K
  have e : A.slots.size = cs.length := K3.trans hlen
  have hat : ∀ (i : Nat) (hi : i < cs.length), A.slots[i]? = some (.int cs[i]) := fun i hi => by rw [K5 i (by omega)]; simp [List.getD_eq_getElem?_getD, hi]
  have hcv : ∀ (i : Nat) (hi : i < cs.length), cv A i = cs[i] := fun i hi => by unfold cv; rw [hat i hi]
  have hty : Typed .char A := fun i v hv => by
    have hi : i < A.slots.size := (Array.getElem?_eq_some_iff.mp hv).1
    have q := K5 i hi
    rw [hv] at q
    rw [Option.some.inj q]
    exact K6 i hi
  refine Back.mono (back hZ hw wi E V C K1 hty S hz (by omega) (by omega) (fun i hi => by rw [hcv i (by omega)]; exact hall _ (List.getElem_mem _)) hfr hlo) (fun P a hp => ⟨hp.1, hp.2.1, hp.2.2.1, by rw [e]; exact hp.2.2.2⟩) (fun P a v B hp hq => ?_)
  obtain ⟨L, ⟨q1, q2, q3, q4, q5, q6, q7, ⟨V', v1, v2, v3, v4, v5⟩, q9⟩, hl, hc, hs⟩ := hq
  refine ⟨L, ⟨q1, q2, q3, q4, q5, q6, q7, ⟨V'.cls, v3, V', v1, rfl, by rw [v4, e, hlen], K4, fun i hi => ?_, fun i hi => ?_⟩, q9⟩, hl, hc, by rw [hs, e]⟩
  · have hi' : i < cs.length := by omega
    rw [v5 i (by omega), hcv i hi']; simp [List.getD_eq_getElem?_getD, hi']
  · have hi' : i < cs.length := by omega
    simp only [List.getD_eq_getElem?_getD, List.getElem?_map, List.getElem?_eq_getElem hi', Option.map_some, Option.getD_some]
    exact fits_lo8 _
end StrChars.Road
namespace StrChars.Road
open Jvm Sem ClassFile Op Lib Jvm.Stand Jvm.Free Jvm.Free.XT
/-- WHAT COMES BACK, in the writer's own shape -/
def QV (Z : State) (x : Addr) (N : Int32) (bs : List Int32) (h : Heap) (n0 : Nat) (v : Option Value) (h' : Heap) (L : List Loc) : Prop := v = none ∧ RoadKit.Fr n0 L ∧ RoadKit.Keep h h' [x] ∧ RoadKit.Exa Z h' x ST ∧ RoadKit.Fld Z h' x ST "coder" "B" (.int 0) ∧
  ∃ (t : Addr) (kb : ClassId), n0 ≤ t ∧ h.size ≤ t ∧ ¬ t = x ∧ RoadKit.Fld Z h' x ST "value" "[B" (.ref t) ∧ RoadKit.Arv Z h' t kb .byte N (bs.map Value.int) (.int 0)
/-- **new String(chars) AT A CALL, FOR THE WRITER**: a char[] of n known ints, each 0 to 255 -/
theorem backV {p : Program} {l : Launch} {e : Env} {R : Room} {s : State} {args : Array Value} {below : List Frame} {len W : Nat} {Z : State} {a0 : Array Value} {h : Heap} (hZ : Z.Warmed39 s.vm) (hw : ∀ d ∈ words, d.before a0 Z = true) {kI : Nat} (wi : (Jvm.Cond.instantiable ST kI).before a0 Z = true)
    {x b : Addr} {kC : ClassId} {cs bs : List Int32} {d v0 c0 : Value} {z N : Int32} {n n0 : Nat} (hx0 : n0 ≤ x) (hh0 : n0 ≤ h.size) (E : RoadKit.Exa Z h x ST) (V : RoadKit.Fld Z h x ST "value" "[B" v0) (C : RoadKit.Fld Z h x ST "coder" "B" c0) (K : RoadKit.Arv Z h b kC .char N (cs.map Value.int) d) (S : RoadKit.Sta Z h ST "COMPACT_STRINGS" "Z" (.int z)) (hz : ¬ z = 0)
    (hn : cs.length = n) (hN : N = Int32.ofNat n) (l0 : 0 < n) (l2 : n ≤ 4000) (hp : ∀ c ∈ cs, ¬ c < 0 ∧ ¬ (255 : Int32) < c) (hb : bs = cs.map (fun c => c.toInt8.toInt32)) (hfr : 4 ≤ R.frames) (hlo : W + 65 ≤ R.locals) :
    Back l R p e below s args (⟨"java/lang/String", "<init>", "([C)V"⟩ : MethodName) len W (fun P a => a = #[.ref x, .ref b] ∧ P.U.heap = h ∧ P.cells + 1 ≤ R.cells ∧ P.slots + n ≤ R.slots)
      (fun P _ v B => ∃ L, QV Z x N bs h n0 v B.U.heap L ∧ B.locs = P.locs ++ L ∧ B.cells = P.cells + 1 ∧ B.slots = P.slots + n) := by
  subst hn hN hb
  refine Back.mono (backArv hZ hw wi E V C K S hz (n32 (by omega)) l0 (by omega) (fun c hc => (hp c hc).2) hfr hlo) (fun P a hp => hp) (fun P a v B hp hq => ?_)
  obtain ⟨L, ⟨q1, q2, q3, q4, q5, q6, q7, ⟨kb, v1, v2⟩, q9⟩, hl, hc, hs⟩ := hq
  exact ⟨L, ⟨q1, fun y hy => by rw [q2 y hy]; exact hx0, q3, q5, q7, h.size, kb, hh0, Nat.le_refl _, Nat.ne_of_gt E.lt, q6, by rw [List.map_map]; exact v2⟩, hl, hc, hs⟩
end StrChars.Road
namespace StrChars
open Jvm Sem ClassFile Op Lib Jvm.Stand Jvm.Free.XT Jvm.Free.ALB Jvm.Free.JM Jvm.Free
open Jvm.Lib.Cold (StaticIs)
def hi8 (x : Int32) : Int32 := lo8 (x >>> ((8 : Int32) &&& 31))
/-- what StringUTF16.getChar makes of two bytes -/
def pairCh (u v : Int32) : Int32 := (((u &&& 255) <<< ((0 : Int32) &&& 31)) ||| ((v &&& 255) <<< ((8 : Int32) &&& 31))).toUInt32.toUInt16.toUInt32.toInt32
theorem lo8_and (x : Int32) : (lo8 x &&& 255).toBitVec.toNat = x.toBitVec.toNat % 256 := by
  have h : (lo8 x).toBitVec = (x.toBitVec.signExtend 8).signExtend 32 := by rw [lo8, Int8.toBitVec_toInt32, Int32.toBitVec_toInt8]
  rw [Int32.toBitVec_and, BitVec.toNat_and, h]
  have e : ((x.toBitVec.signExtend 8).signExtend 32).toNat % 256 = x.toBitVec.toNat % 256 := by
    rw [BitVec.toNat_signExtend]
    have hlt := x.toBitVec.isLt
    simp only [BitVec.toNat_setWidth, BitVec.toNat_signExtend]
    split <;> split <;> omega
  rw [← e]
  exact Nat.and_two_pow_sub_one_eq_mod _ 8
theorem pair_says {c : Int32} (h0 : ¬ c < 0) (h1 : ¬ 65535 < c) : pairCh (lo8 c) (hi8 c) = c := by
  rw [Int32.lt_iff_toInt_lt] at h0 h1
  have e0 : (0 : Int32).toInt = 0 := rfl
  have e1 : (65535 : Int32).toInt = 65535 := rfl
  have hc : c.toInt = c.toBitVec.toNat := by
    have := c.toBitVec.isLt
    have e : c.toInt = c.toBitVec.toInt := rfl
    rw [e] at h0 h1
    rw [e]
    rw [BitVec.toInt_eq_toNat_cond] at h0 h1 ⊢
    split at h0 <;> split <;> omega
  have hn : c.toBitVec.toNat < 65536 := by omega
  have a1 := lo8_and c
  have a2 : (hi8 c &&& 255).toBitVec.toNat = c.toBitVec.toNat / 256 := by
    rw [hi8, lo8_and]
    have e : ((8 : Int32) &&& 31) = 8 := by decide
    rw [e, Int32.toBitVec_shiftRight]
    have e2 : ((8 : Int32).toBitVec.smod 32) = 8#32 := by decide
    rw [e2, BitVec.sshiftRight_eq', BitVec.toNat_sshiftRight_of_msb_false (by rw [BitVec.msb_eq_false_iff_two_mul_lt]; omega)]
    show c.toBitVec.toNat >>> 8 % 256 = _
    rw [Nat.shiftRight_eq_div_pow]
    omega
  unfold pairCh
  apply Int32.toBitVec_inj.mp
  apply BitVec.eq_of_toNat_eq
  have f0 : ((0 : Int32) &&& 31) = 0 := by decide
  have f8 : ((8 : Int32) &&& 31) = 8 := by decide
  rw [f0, f8]
  have g : (((lo8 c &&& 255) <<< (0 : Int32)) ||| ((hi8 c &&& 255) <<< (8 : Int32))).toBitVec.toNat = c.toBitVec.toNat := by
    rw [Int32.toBitVec_or, Int32.toBitVec_shiftLeft, Int32.toBitVec_shiftLeft]
    have s0 : ((0 : Int32).toBitVec.smod 32) = 0#32 := by decide
    have s8 : ((8 : Int32).toBitVec.smod 32) = 8#32 := by decide
    rw [s0, s8, BitVec.toNat_or]
    simp only [BitVec.shiftLeft_eq', BitVec.toNat_shiftLeft, a1, a2]
    show (c.toBitVec.toNat % 256) <<< 0 % 2 ^ 32 ||| (c.toBitVec.toNat / 256) <<< 8 % 2 ^ 32 = _
    rw [Nat.shiftLeft_zero, Nat.mod_eq_of_lt (show c.toBitVec.toNat % 256 < 2 ^ 32 by omega), Nat.mod_eq_of_lt (show (c.toBitVec.toNat / 256) <<< 8 < 2 ^ 32 by rw [Nat.shiftLeft_eq]; omega), Nat.or_comm, ← Nat.shiftLeft_add_eq_or_of_lt (by omega), Nat.shiftLeft_eq]
    omega
  show BitVec.toNat (((((lo8 c &&& 255) <<< (0 : Int32)) ||| ((hi8 c &&& 255) <<< (8 : Int32))).toBitVec.setWidth 16).setWidth 32) = _
  rw [BitVec.toNat_setWidth, BitVec.toNat_setWidth, g]
  omega
end StrChars
namespace StrChars
open Jvm Sem ClassFile Op Lib Jvm.Stand Jvm.Free.XT Jvm.Free.ALB Jvm.Free.JM Jvm.Free
open Jvm.Lib.Cold (StaticIs)
/-- the array's cell V codes the n chars f 0 .. f (n - 1) by the coder cd, as the JDK does: coder 1 just where some char is above 255 -/
def Cod (cd : Int32) (n : Nat) (f : Nat → Int32) (V : Cell) : Prop := (cd = 0 ∧ V.slots.size = n ∧ ∀ j, j < n → V.slots[j]? = some (.int (lo8 (f j))) ∧ ¬ 255 < f j) ∨ (cd = 1 ∧ V.slots.size = 2 * n ∧ (∀ j, j < n → V.slots[2 * j]? = some (.int (lo8 (f j))) ∧ V.slots[2 * j + 1]? = some (.int (hi8 (f j)))) ∧ ∃ j, j < n ∧ 255 < f j)
/-- **x is a String of the n chars f 0 .. f (n - 1)**, Latin-1 or UTF-16; its array at t has the cell V -/
def Txt (x t : Addr) (V : Cell) (cd : Int32) (n : Nat) (f : Nat → Int32) (U : State) : Prop := Exact "java/lang/String" x U ∧ Has x "java/lang/String" "value" "[B" (.ref t) U ∧ Has x "java/lang/String" "coder" "B" (.int cd) U ∧ XT.Arr .byte t V U ∧ Cod cd n f V ∧ ∀ j, j < n → ¬ f j < 0 ∧ ¬ 65535 < f j
theorem Txt.mv {x t : Addr} {V : Cell} {cd : Int32} {n : Nat} {f : Nat → Int32} {U U' : State} (h : Txt x t V cd n f U) (hal : U.vm.Alike U'.vm) (hh : U'.heap = U.heap) : Txt x t V cd n f U' := ⟨h.1.mv hal hh, h.2.1.mv hal hh, h.2.2.1.mv hal hh, h.2.2.2.1.mv hal hh, h.2.2.2.2⟩
end StrChars
namespace StrChars.Road
open Jvm Sem ClassFile Op Lib Jvm.Stand Jvm.Free Jvm.Free.XT
open Jvm.Lib.Cold (StaticIs)
theorem consq {a : Array Value} {s : State} {c : Jvm.Cond} {L : List Jvm.Cond} (h0 : c.before a s = true) (h : ∀ w ∈ L, w.before a s = true) : ∀ w ∈ c :: L, w.before a s = true := fun w hw => (List.mem_cons.mp hw).elim (fun e => e ▸ h0) (h w)
/-- the bytes of the chars cs, low before high -/
def wideBytes : List Int32 → List Value
  | [] => []
  | c :: cs => .int (lo8 c) :: .int (hi8 c) :: wideBytes cs
theorem wide_lo (d : Value) : ∀ (cs : List Int32) (j : Nat), j < cs.length → (wideBytes cs).getD (2 * j) d = .int (lo8 (cs.getD j 0))
  | [], j, h => absurd h (Nat.not_lt_zero j)
  | c :: cs, 0, _ => rfl
  | c :: cs, j + 1, h => by
    have q := wide_lo d cs j (by simpa using h)
    rw [show 2 * (j + 1) = 2 * j + 1 + 1 from by omega]
    simpa [wideBytes] using q
theorem wide_hi (d : Value) : ∀ (cs : List Int32) (j : Nat), j < cs.length → (wideBytes cs).getD (2 * j + 1) d = .int (hi8 (cs.getD j 0))
  | [], j, h => absurd h (Nat.not_lt_zero j)
  | c :: cs, 0, _ => rfl
  | c :: cs, j + 1, h => by
    have q := wide_hi d cs j (by simpa using h)
    rw [show 2 * (j + 1) + 1 = 2 * j + 1 + 1 + 1 from by omega]
    simpa [wideBytes] using q
theorem low_at (d : Value) (cs : List Int32) (j : Nat) (h : j < cs.length) : (cs.map fun c => Value.int (lo8 c)).getD j d = .int (lo8 (cs.getD j 0)) := by
  simp [List.getD_eq_getElem?_getD, h]
/-- an array of N2 bytes vs codes the chars cs by the coder cd -/
def CodA (cs : List Int32) (cd N2 : Int32) (vs : List Value) : Prop := (cd = 0 ∧ N2 = Int32.ofNat cs.length ∧ vs = (cs.map fun c => Value.int (lo8 c)) ∧ ∀ c ∈ cs, ¬ 255 < c) ∨ (cd = 1 ∧ N2 = Int32.ofNat (2 * cs.length) ∧ vs = wideBytes cs ∧ ∃ c ∈ cs, 255 < c)
theorem CodA.cod {cs : List Int32} {cd N2 : Int32} {vs : List Value} {V : Cell} (h : CodA cs cd N2 vs) (hn : 2 * cs.length < 2 ^ 31) (hs : V.slots.size = N2.toNatClampNeg) (hv : RoadKit.Has V vs (.int 0)) : Cod cd cs.length (fun j => cs.getD j 0) V := by
  rcases h with ⟨rfl, rfl, rfl, h⟩ | ⟨rfl, rfl, rfl, c, hc, hw⟩
  · rw [n32 (by omega)] at hs
    exact Or.inl ⟨rfl, hs, fun j hj => ⟨by rw [hv j (by omega), low_at _ _ _ hj], by
      have e : cs.getD j 0 = cs[j] := by simp [List.getD_eq_getElem?_getD, hj]
      show ¬ 255 < cs.getD j 0
      rw [e]; exact h _ (List.getElem_mem _)⟩⟩
  · rw [n32 (by omega)] at hs
    obtain ⟨j, hj, rfl⟩ := List.getElem_of_mem hc
    exact Or.inr ⟨rfl, hs, fun j hj => ⟨by rw [hv _ (by omega), wide_lo _ _ _ hj], by rw [hv _ (by omega), wide_hi _ _ _ hj]⟩, j, hj, by
      have e : cs.getD j 0 = cs[j] := by simp [List.getD_eq_getElem?_getD, hj]
      show 255 < cs.getD j 0
      rw [e]; exact hw⟩
/-- an object of exactly java/lang/String, its two fields found: as the laws ask it -/
theorem strObj {Z U : State} {a0 : Array Value} {kI : Nat} (wi : (Jvm.Cond.instantiable ST kI).before a0 Z = true) (al : Z.vm.Alike U.vm) {x : Addr} {v0 c0 : Value} (E : RoadKit.Exa Z U.heap x ST) (V : RoadKit.Fld Z U.heap x ST "value" "[B" v0) (C : RoadKit.Fld Z U.heap x ST "coder" "B" c0) :
    ∃ (D : Cell) (fV fC : Field), Blank ST x D U ∧ Found ST "value" "[B" fV U ∧ Found ST "coder" "B" fC U ∧ D.slots[fV.slot]? = some v0 ∧ D.slots[fC.slot]? = some c0 ∧ RoadKit.slotOf Z ST "value" "[B" = fV.slot ∧ RoadKit.slotOf Z ST "coder" "B" = fC.slot := by
  obtain ⟨D, cfV, kV, iV, fV, hD, gV, stV, knV, obV, asV, slV⟩ := V
  obtain ⟨D', cfC, kC, iC, fC, hD', gC, stC, -, -, asC, slC⟩ := C
  cases hD.symm.trans hD'
  obtain ⟨D2, kD, e1, e2, e3, e4, e5⟩ := E
  cases hD.symm.trans e1
  obtain ⟨c2, k2, i1, i2, i3, -⟩ := Cond.instantiable_spec wi
  cases e2.symm.trans i1
  cases e3.symm.trans i2
  obtain ⟨kU, u1, u2⟩ := al.2.2 _ _ e3
  exact ⟨D, fV, fC, ⟨hD, ⟨knV, fun q hq => by rw [hq] at obV; cases obV⟩, by rw [al.findClass]; exact e2, kU, u1, by rw [u2]; exact i3, by rw [u2]; exact e5 i3⟩, ⟨SBG.found_only al ⟨cfV, kV, iV, gV⟩, stV⟩, ⟨SBG.found_only al ⟨cfC, kC, iC, gC⟩, stC⟩, slV, slC, by simp [RoadKit.slotOf, gV], by simp [RoadKit.slotOf, gC]⟩
theorem sta_is {Z U : State} (al : Z.vm.Alike U.vm) {C n d : String} {v : Value} (S : RoadKit.Sta Z U.heap C n d v) : StaticIs U C n d v := by
  obtain ⟨cfS, iS, kS, fS, st, cS, t1, t2, t3, t4, t5, t6, t7⟩ := S
  exact StaticIs.there (s := { Z with heap := U.heap }) ⟨cfS, iS, kS, fS, st, cS, t1, t2, t3, t4, t5, (fun q => by rw [q] at t6; cases t6), t7⟩ al rfl
end StrChars.Road
namespace StrChars
open Jvm Sem ClassFile Op Lib Jvm.Stand Jvm.Free.XT Jvm.Free.ALB Jvm.Free.JM Jvm.Free
open Jvm.Lib.Cold (StaticIs)
/-- what place i of a byte[]'s cell holds -/
def yv (A : Cell) (i : Nat) : Int32 := match A.slots[i]? with | some (.int x) => x | _ => 0
theorem yv_get {a : Addr} {A : Cell} {U : State} (h : XT.Arr .byte a A U) (ht : Typed .byte A) {i : Nat} (hi : i < A.slots.size) : A.slots[i]? = some (.int (yv A i)) := by
  have e := Array.getElem?_eq_getElem hi
  have f := ht i _ e
  unfold yv; rw [e]
  generalize A.slots[i] = v at f
  cases v <;> simp [fits] at f ⊢
/-- the two arrays are equal, place for place -/
def EqC (A B : Cell) : Prop := A.slots.size = B.slots.size ∧ ∀ i, i < A.slots.size → yv A i = yv B i
/-- a boolean that says whether p -/
def Says01 (q : Prop) (r : Option Value) (s u : State) : Prop := ∃ v : Int32, r = some (.int v) ∧ u.heap = s.heap ∧ ((v = 1 ∧ q) ∨ (v = 0 ∧ ¬ q))
theorem Says01.mv {q : Prop} : ∀ r (U U' V V' : State), U'.heap = U.heap → V.vm.Alike V'.vm → V'.heap = V.heap → Says01 q r U V → Says01 q r U' V' :=
  fun r U U' V V' h1 _ h2 ⟨v, a, b, c⟩ => ⟨v, a, by rw [h1, h2]; exact b, c⟩
namespace LEq
def yN : MethodName := ⟨"java/lang/StringLatin1", "equals", "([B[B)Z"⟩
abbrev yB : ByteArray := jdk_43_method_13_code
theorem d0 : decode yB 0 = .ok (.aload_n 0, 1) := by decide +kernel
theorem d1 : decode yB 1 = .ok (.arraylength, 1) := by decide +kernel
theorem d2 : decode yB 2 = .ok (.aload_n 1, 1) := by decide +kernel
theorem d3 : decode yB 3 = .ok (.arraylength, 1) := by decide +kernel
theorem d4 : decode yB 4 = .ok (.if_icmp (.ne) 30, 3) := by decide +kernel
theorem d7 : decode yB 7 = .ok (.iconst 0, 1) := by decide +kernel
theorem d8 : decode yB 8 = .ok (.istore_n 2, 1) := by decide +kernel
theorem d9 : decode yB 9 = .ok (.iload_n 2, 1) := by decide +kernel
theorem d10 : decode yB 10 = .ok (.aload_n 0, 1) := by decide +kernel
theorem d11 : decode yB 11 = .ok (.arraylength, 1) := by decide +kernel
theorem d12 : decode yB 12 = .ok (.if_icmp (.ge) 20, 3) := by decide +kernel
theorem d15 : decode yB 15 = .ok (.aload_n 0, 1) := by decide +kernel
theorem d16 : decode yB 16 = .ok (.iload_n 2, 1) := by decide +kernel
theorem d17 : decode yB 17 = .ok (.baload, 1) := by decide +kernel
theorem d18 : decode yB 18 = .ok (.aload_n 1, 1) := by decide +kernel
theorem d19 : decode yB 19 = .ok (.iload_n 2, 1) := by decide +kernel
theorem d20 : decode yB 20 = .ok (.baload, 1) := by decide +kernel
theorem d21 : decode yB 21 = .ok (.if_icmp (.eq) 5, 3) := by decide +kernel
theorem d24 : decode yB 24 = .ok (.iconst 0, 1) := by decide +kernel
theorem d25 : decode yB 25 = .ok (.ireturn, 1) := by decide +kernel
theorem d26 : decode yB 26 = .ok (.iinc 2 1, 3) := by decide +kernel
theorem d29 : decode yB 29 = .ok (.goto (-20), 3) := by decide +kernel
theorem d32 : decode yB 32 = .ok (.iconst 1, 1) := by decide +kernel
theorem d33 : decode yB 33 = .ok (.ireturn, 1) := by decide +kernel
theorem d34 : decode yB 34 = .ok (.iconst 0, 1) := by decide +kernel
theorem d35 : decode yB 35 = .ok (.ireturn, 1) := by decide +kernel
def site : List Cond := []
def tab : Cond := tabOf yN yB 3 (some .boolean) site
def P (a : Addr) (A : Cell) (b : Addr) (B : Cell) (args : Array Value) (s : State) : Prop := args = #[.ref a, .ref b] ∧ XT.Arr .byte a A s ∧ Typed .byte A ∧ XT.Arr .byte b B s ∧ Typed .byte B
/-- whether two byte[] are equal, place for place -/
theorem law (l : Launch) (a : Addr) (A : Cell) (b : Addr) (B : Cell) : Law l yN 2 2 0 0 yB 3 (some .boolean) site (P a A b B) (Says01 (EqC A B)) [] 0 0 := by
  refine Law.of_walk (plainFor_of_name (by decide +kernel)) (by decide +kernel) (by decide +kernel) (by decide) (fun _ _ h => by rw [h.1]; rfl) (fun _ U U' hal hh h => ⟨h.1, h.2.1.mv hal hh, h.2.2.1, h.2.2.2.1.mv hal hh, h.2.2.2.2⟩) (fun r U U' V V' h1 hal h2 h => Says01.mv r U U' V V' h1 hal h2 h) ?_
  intro p e s m args below meth c s₁ X0 hexec hbytes hml hret hlk hnm hown hh0 W hP
  obtain ⟨rfl, hA, tA, hB, tB⟩ := hP
  have a31 := hA.2.2.2
  have b31 := hB.2.2.2
  have hA0 := hA.mv X0.warmed.alike hh0
  have hB0 := hB.mv X0.warmed.alike hh0
  have c1 : Steps p.tables e below (s₁.setTop (entryFrame m #[.ref a, .ref b] 3)) (s₁.setTop (mkF m 0 #[.val (.ref a), .val (.ref b), .unset] [])) := entry rfl
  have c2 : Steps p.tables e below (s₁.setTop (entryFrame m #[.ref a, .ref b] 3)) (s₁.setTop (mkF m 4 #[.val (.ref a), .val (.ref b), .unset] [.int (Int32.ofNat B.slots.size), .int (Int32.ofNat A.slots.size)])) := c1.trans (by
    refine XS.aloadN X0.here hexec rfl (hb hbytes d0) rfl rfl ?_
    refine X0.alen hexec hA0 rfl rfl (hb hbytes d1) ?_
    refine XS.aloadN X0.here hexec rfl (hb hbytes d2) rfl rfl ?_
    refine X0.alen hexec hB0 rfl rfl (hb hbytes d3) ?_
    exact Steps.refl _)
  by_cases hs : A.slots.size = B.slots.size
  · have c3 : Steps p.tables e below (s₁.setTop (entryFrame m #[.ref a, .ref b] 3)) (s₁.setTop (mkF m 9 #[.val (.ref a), .val (.ref b), .val (.int 0)] [])) := c2.trans (by
      refine XS.icmpNo X0.here hexec rfl (hb hbytes d4) rfl (ii_ne_f (by rw [hs])) ?_
      refine iconstV X0.here hexec rfl 0 (hb hbytes d7) (by decide) ?_
      refine XS.istoreN X0.here hexec rfl (hb hbytes d8) rfl rfl ?_
      exact Steps.refl _)
    have loop : ∀ (r i : Nat), i + r = A.slots.size → (∀ j, j < i → yv A j = yv B j) → Steps p.tables e below (s₁.setTop (entryFrame m #[.ref a, .ref b] 3)) (s₁.setTop (mkF m 9 #[.val (.ref a), .val (.ref b), .val (.int (Int32.ofNat i))] [])) → ∃ (pc : Nat) (Ls : Array Slot) (v : Int32), (pc = 25 ∨ pc = 33) ∧ ((v = 1 ∧ EqC A B) ∨ (v = 0 ∧ ¬ EqC A B)) ∧ Steps p.tables e below (s₁.setTop (entryFrame m #[.ref a, .ref b] 3)) (s₁.setTop (mkF m pc Ls [.int v])) := by
      intro r
      induction r with
      | zero =>
        intro i hi he cl
        exact ⟨33, _, 1, Or.inr rfl, Or.inl ⟨rfl, hs, fun j hj => he j (by omega)⟩, cl.trans (by
          refine XS.iloadN X0.here hexec rfl (hb hbytes d9) rfl ?_
          refine XS.aloadN X0.here hexec rfl (hb hbytes d10) rfl rfl ?_
          refine X0.alen hexec hA0 rfl rfl (hb hbytes d11) ?_
          refine XS.icmpYes X0.here hexec rfl (pc0 := 12) rfl (hb hbytes d12) rfl (ii_ge_t (nlt32 (by omega) (by omega))) (by decide) rfl ?_
          refine iconstV X0.here hexec rfl 1 (hb hbytes d32) (by decide) ?_
          exact Steps.refl _)⟩
      | succ r ih =>
        intro i hi he cl
        have c4 : Steps p.tables e below (s₁.setTop (entryFrame m #[.ref a, .ref b] 3)) (s₁.setTop (mkF m 21 #[.val (.ref a), .val (.ref b), .val (.int (Int32.ofNat i))] [.int (yv B i), .int (yv A i)])) := cl.trans (by
          refine XS.iloadN X0.here hexec rfl (hb hbytes d9) rfl ?_
          refine XS.aloadN X0.here hexec rfl (hb hbytes d10) rfl rfl ?_
          refine X0.alen hexec hA0 rfl rfl (hb hbytes d11) ?_
          refine XS.icmpNo X0.here hexec rfl (hb hbytes d12) rfl (ii_ge_f (lt32 (by omega) (by omega))) ?_
          refine XS.aloadN X0.here hexec rfl (hb hbytes d15) rfl rfl ?_
          refine XS.iloadN X0.here hexec rfl (hb hbytes d16) rfl ?_
          refine X0.aget hexec hA0 rfl (yv_get hA tA (i := i) (by omega)) rfl rfl (hb hbytes d17) ?_
          refine XS.aloadN X0.here hexec rfl (hb hbytes d18) rfl rfl ?_
          refine XS.iloadN X0.here hexec rfl (hb hbytes d19) rfl ?_
          refine X0.aget hexec hB0 rfl (yv_get hB tB (i := i) (by omega)) rfl rfl (hb hbytes d20) ?_
          exact Steps.refl _)
        by_cases hv : yv A i = yv B i
        · have c5 : Steps p.tables e below (s₁.setTop (entryFrame m #[.ref a, .ref b] 3)) (s₁.setTop (mkF m 9 #[.val (.ref a), .val (.ref b), .val (.int (Int32.ofNat i + 1))] [])) := c4.trans (by
            refine XS.icmpYes X0.here hexec rfl (pc0 := 21) rfl (hb hbytes d21) rfl (ii_eq_t hv) (by decide) rfl ?_
            refine iincV X0.here hexec rfl 1 (hb hbytes d26) (by decide) rfl rfl ?_
            refine XS.goto X0.here hexec rfl (pc0 := 29) rfl (hb hbytes d29) (by decide) rfl ?_
            exact Steps.refl _)
          rw [succ32] at c5
          exact ih (i + 1) (by omega) (fun j hj => by
            by_cases e : j = i
            · rw [e]; exact hv
            · exact he j (by omega)) c5
        · exact ⟨25, _, 0, Or.inl rfl, Or.inr ⟨rfl, fun q => hv (q.2 i (by omega))⟩, c4.trans (by
            refine XS.icmpNo X0.here hexec rfl (hb hbytes d21) rfl (ii_eq_f hv) ?_
            refine iconstV X0.here hexec rfl 0 (hb hbytes d24) (by decide) ?_
            exact Steps.refl _)⟩
    obtain ⟨pc, Ls, v, hpc, hv, cz⟩ := loop A.slots.size 0 (by omega) (fun j hj => absurd hj (Nat.not_lt_zero j)) c3
    have nv : narrow .boolean (.int v) = .int v := by rcases hv with ⟨rfl, -⟩ | ⟨rfl, -⟩ <;> rfl
    rcases hpc with rfl | rfl
    · exact ⟨s₁, some (.int v), _, _, _, X0, rfl, rfl, rfl, (fun h => by cases h), ⟨v, rfl, hh0, hv⟩, fun fs hl => cz.trans (X0.ireturnOut hexec hret nv (Or.inr (Or.inl rfl)) (hb hbytes d25) hl)⟩
    · exact ⟨s₁, some (.int v), _, _, _, X0, rfl, rfl, rfl, (fun h => by cases h), ⟨v, rfl, hh0, hv⟩, fun fs hl => cz.trans (X0.ireturnOut hexec hret nv (Or.inr (Or.inl rfl)) (hb hbytes d33) hl)⟩
  · have c3 : Steps p.tables e below (s₁.setTop (entryFrame m #[.ref a, .ref b] 3)) (s₁.setTop (mkF m 35 #[.val (.ref a), .val (.ref b), .unset] [.int 0])) := c2.trans (by
      refine XS.icmpYes X0.here hexec rfl (pc0 := 4) rfl (hb hbytes d4) rfl (ii_ne_t (ne32 a31 b31 hs)) (by decide) rfl ?_
      refine iconstV X0.here hexec rfl 0 (hb hbytes d34) (by decide) ?_
      exact Steps.refl _)
    exact ⟨s₁, some (.int 0), _, _, _, X0, rfl, rfl, rfl, (fun h => by cases h), ⟨0, rfl, hh0, Or.inr ⟨rfl, fun q => hs q.1⟩⟩, fun fs hl => c3.trans (X0.ireturnOut hexec hret rfl (Or.inr (Or.inl rfl)) (hb hbytes d35) hl)⟩
end LEq
theorem Cod.ty {cd : Int32} {n : Nat} {f : Nat → Int32} {V : Cell} (h : Cod cd n f V) : Typed .byte V := fun i v hv => by
  have hi : i < V.slots.size := (Array.getElem?_eq_some_iff.mp hv).1
  rcases h with ⟨-, k1, k2⟩ | ⟨-, k1, k2, -⟩
  · rw [(k2 i (by omega)).1] at hv; cases hv; exact fits_lo8 _
  · rcases Nat.mod_two_eq_zero_or_one i with e | e
    · obtain ⟨j, rfl⟩ : ∃ j, i = 2 * j := ⟨i / 2, by omega⟩
      rw [(k2 j (by omega)).1] at hv; cases hv; exact fits_lo8 _
    · obtain ⟨j, rfl⟩ : ∃ j, i = 2 * j + 1 := ⟨i / 2, by omega⟩
      rw [(k2 j (by omega)).2] at hv; cases hv; exact fits_lo8 _
/-- the same text -/
def SameT (n : Nat) (f : Nat → Int32) (k : Nat) (g : Nat → Int32) : Prop := n = k ∧ ∀ j, j < n → f j = g j
theorem lo8_inj {x y : Int32} (h0 : ¬ x < 0) (h1 : ¬ 255 < x) (k0 : ¬ y < 0) (k1 : ¬ 255 < y) (h : lo8 x = lo8 y) : x = y := by
  rw [← lo8_mask h0 h1, ← lo8_mask k0 k1, h]
/-- arrays coded by one coder are equal just where the texts are -/
theorem Cod.eqv {cd : Int32} {n k : Nat} {f g : Nat → Int32} {V V' : Cell} (h : Cod cd n f V) (h' : Cod cd k g V') (hf : ∀ j, j < n → ¬ f j < 0 ∧ ¬ 65535 < f j) (hg : ∀ j, j < k → ¬ g j < 0 ∧ ¬ 65535 < g j) : EqC V V' ↔ SameT n f k g := by
  have yvv : ∀ {W : Cell} {i : Nat} {x : Int32}, W.slots[i]? = some (.int x) → yv W i = x := fun q => by unfold yv; rw [q]
  rcases h with ⟨rfl, k1, k2⟩ | ⟨rfl, k1, k2, -⟩
  · rcases h' with ⟨-, m1, m2⟩ | ⟨e, -⟩
    · constructor
      · rintro ⟨e1, e2⟩
        refine ⟨by omega, fun j hj => ?_⟩
        have q := e2 j (by omega)
        rw [yvv (k2 j hj).1, yvv (m2 j (by omega)).1] at q
        exact lo8_inj (hf j hj).1 (k2 j hj).2 (hg j (by omega)).1 (m2 j (by omega)).2 q
      · rintro ⟨rfl, e2⟩
        refine ⟨by omega, fun j hj => ?_⟩
        rw [yvv (k2 j (by omega)).1, yvv (m2 j (by omega)).1, e2 j (by omega)]
    · exact absurd e (by decide)
  · rcases h' with ⟨e, -⟩ | ⟨-, m1, m2, -⟩
    · exact absurd e (by decide)
    · constructor
      · rintro ⟨e1, e2⟩
        refine ⟨by omega, fun j hj => ?_⟩
        have q1 := e2 (2 * j) (by omega)
        have q2 := e2 (2 * j + 1) (by omega)
        rw [yvv (k2 j hj).1, yvv (m2 j (by omega)).1] at q1
        rw [yvv (k2 j hj).2, yvv (m2 j (by omega)).2] at q2
        rw [← pair_says (hf j hj).1 (hf j hj).2, ← pair_says (hg j (by omega)).1 (hg j (by omega)).2, q1, q2]
      · rintro ⟨rfl, e2⟩
        refine ⟨by omega, fun i hi => ?_⟩
        rcases Nat.mod_two_eq_zero_or_one i with e | e
        · obtain ⟨j, rfl⟩ : ∃ j, i = 2 * j := ⟨i / 2, by omega⟩
          rw [yvv (k2 j (by omega)).1, yvv (m2 j (by omega)).1, e2 j (by omega)]
        · obtain ⟨j, rfl⟩ : ∃ j, i = 2 * j + 1 := ⟨i / 2, by omega⟩
          rw [yvv (k2 j (by omega)).2, yvv (m2 j (by omega)).2, e2 j (by omega)]
/-- two codings differ: so do the texts -/
theorem Cod.dif {cd cd' : Int32} {n k : Nat} {f g : Nat → Int32} {V V' : Cell} (h : Cod cd n f V) (h' : Cod cd' k g V') (hne : ¬ cd = cd') : ¬ SameT n f k g := by
  rintro ⟨rfl, e⟩
  rcases h with ⟨rfl, -, k2⟩ | ⟨rfl, -, -, j, hj, hw⟩
  · rcases h' with ⟨rfl, -⟩ | ⟨-, -, -, j, hj, hw⟩
    · exact hne rfl
    · exact (k2 j hj).2 (by rw [e j hj]; exact hw)
  · rcases h' with ⟨-, -, m2⟩ | ⟨rfl, -⟩
    · exact (m2 j hj).2 (by rw [← e j hj]; exact hw)
    · exact hne rfl
/-- an object of exactly C is an instance of C -/
theorem cinst {p : Program} {l : Launch} {e : Env} {R : Room} {s : State} {m : MethodId} {args : Array Value} {below : List Frame} {meth : Method} {c : Code} {T : State} {locs : List Loc} {cells slots : Nat} (X : Stand p l e R s m args below meth c T locs cells slots) (hexec : p.tables.exec = Jvm.exec) {own C : String} {index : Nat} (hown : s.vm.findClass own = some m.cls) (hlink : (Cond.classLink own index C).before args s = true) {a : Addr} (hE : Exact C a T)
    {g : JFrame} (hg : g.method = m) {rest : List Value} (hstack : g.stack = .ref a :: rest) (hdg : decode c.code g.pc = .ok (.instanceof index, 3)) :
    ∃ T', Stand p l e R s m args below meth c T' locs cells slots ∧ T'.heap = T.heap ∧ ∀ target, Steps p.tables e below (T'.setTop { g with pc := g.pc + 3, stack := .int 1 :: rest }) target → Steps p.tables e below (T.setTop g) target := by
  obtain ⟨cB, h1, D, h2, h3, h4⟩ := hE
  have h1' : s.vm.findClass C = some cB := by rw [← X.warmed.alike.findClass]; exact h1
  obtain ⟨vm', X', st⟩ := X.instanceofYes hexec hown hlink h2 h4 h1' (by rw [h3]; exact Jvm.Free.SB.assignable_self _ _) hg hstack hdg
  exact ⟨_, X', rfl, st⟩
theorem cself {p : Program} {l : Launch} {e : Env} {R : Room} {s : State} {m : MethodId} {args : Array Value} {below : List Frame} {meth : Method} {c : Code} {T : State} {locs : List Loc} {cells slots : Nat} (X : Stand p l e R s m args below meth c T locs cells slots) (hexec : p.tables.exec = Jvm.exec) {own C : String} {index : Nat} (hown : s.vm.findClass own = some m.cls) (hlink : (Cond.classLink own index C).before args s = true) {a : Addr} (hE : Exact C a T)
    {g : JFrame} (hg : g.method = m) {rest : List Value} (hstack : g.stack = .ref a :: rest) (hdg : decode c.code g.pc = .ok (.checkcast index, 3)) :
    ∃ T', Stand p l e R s m args below meth c T' locs cells slots ∧ T'.heap = T.heap ∧ ∀ target, Steps p.tables e below (T'.setTop { g with pc := g.pc + 3, stack := .ref a :: rest }) target → Steps p.tables e below (T.setTop g) target := by
  obtain ⟨cB, h1, D, h2, h3, h4⟩ := hE
  have h1' : s.vm.findClass C = some cB := by rw [← X.warmed.alike.findClass]; exact h1
  obtain ⟨vm', X', st⟩ := X.checkcastYes hexec hown hlink h2 h4 h1' (by rw [h3]; exact Jvm.Free.SB.assignable_self _ _) hg hstack hdg
  exact ⟨_, X', rfl, fun t h => st t (by rw [← hstack] at h; exact h)⟩
namespace SEq
def yN : MethodName := ⟨"java/lang/String", "equals", "(Ljava/lang/Object;)Z"⟩
abbrev yB : ByteArray := jdk_42_method_66_code
theorem d0 : decode yB 0 = .ok (.aload_n 0, 1) := by decide +kernel
theorem d1 : decode yB 1 = .ok (.aload_n 1, 1) := by decide +kernel
theorem d2 : decode yB 2 = .ok (.if_acmp (.ne) 5, 3) := by decide +kernel
theorem d5 : decode yB 5 = .ok (.iconst 1, 1) := by decide +kernel
theorem d6 : decode yB 6 = .ok (.ireturn, 1) := by decide +kernel
theorem d7 : decode yB 7 = .ok (.aload_n 1, 1) := by decide +kernel
theorem d8 : decode yB 8 = .ok (.instanceof 10, 3) := by decide +kernel
theorem d11 : decode yB 11 = .ok (.ifCond (.eq) 43, 3) := by decide +kernel
theorem d14 : decode yB 14 = .ok (.aload_n 1, 1) := by decide +kernel
theorem d15 : decode yB 15 = .ok (.checkcast 10, 3) := by decide +kernel
theorem d18 : decode yB 18 = .ok (.astore_n 2, 1) := by decide +kernel
theorem d19 : decode yB 19 = .ok (.getstatic 38, 3) := by decide +kernel
theorem d22 : decode yB 22 = .ok (.ifCond (.eq) 14, 3) := by decide +kernel
theorem d25 : decode yB 25 = .ok (.aload_n 0, 1) := by decide +kernel
theorem d26 : decode yB 26 = .ok (.getfield 15, 3) := by decide +kernel
theorem d29 : decode yB 29 = .ok (.aload_n 2, 1) := by decide +kernel
theorem d30 : decode yB 30 = .ok (.getfield 15, 3) := by decide +kernel
theorem d33 : decode yB 33 = .ok (.if_icmp (.ne) 21, 3) := by decide +kernel
theorem d36 : decode yB 36 = .ok (.aload_n 0, 1) := by decide +kernel
theorem d37 : decode yB 37 = .ok (.getfield 9, 3) := by decide +kernel
theorem d40 : decode yB 40 = .ok (.aload_n 2, 1) := by decide +kernel
theorem d41 : decode yB 41 = .ok (.getfield 9, 3) := by decide +kernel
theorem d44 : decode yB 44 = .ok (.invokestatic 541, 3) := by decide +kernel
theorem d47 : decode yB 47 = .ok (.ifCond (.eq) 7, 3) := by decide +kernel
theorem d50 : decode yB 50 = .ok (.iconst 1, 1) := by decide +kernel
theorem d51 : decode yB 51 = .ok (.goto 4, 3) := by decide +kernel
theorem d54 : decode yB 54 = .ok (.iconst 0, 1) := by decide +kernel
theorem d55 : decode yB 55 = .ok (.ireturn, 1) := by decide +kernel
def site : List Cond := [.classLink "java/lang/String" 10 "java/lang/String", .fieldLink "java/lang/String" 38 "java/lang/String" "COMPACT_STRINGS" "Z", .fieldLink "java/lang/String" 15 "java/lang/String" "coder" "B", .fieldLink "java/lang/String" 9 "java/lang/String" "value" "[B", LEq.tab] ++ staticW "java/lang/String" 541 LEq.yN
def tab : Cond := tabOf yN yB 3 (some .boolean) site
def P (x t : Addr) (V : Cell) (cd : Int32) (n : Nat) (f : Nat → Int32) (y t' : Addr) (V' : Cell) (cd' : Int32) (k : Nat) (g : Nat → Int32) (z : Int32) (args : Array Value) (s : State) : Prop := args = #[.ref x, .ref y] ∧ Txt x t V cd n f s ∧ Txt y t' V' cd' k g s ∧ StaticIs s "java/lang/String" "COMPACT_STRINGS" "Z" (.int z) ∧ ¬ z = 0
/-- equals(Object) of two Strings: whether the texts are the same -/
theorem law (l : Launch) (x t : Addr) (V : Cell) (cd : Int32) (n : Nat) (f : Nat → Int32) (y t' : Addr) (V' : Cell) (cd' : Int32) (k : Nat) (g : Nat → Int32) (z : Int32) : Law l yN 2 1 1 14 yB 3 (some .boolean) site (P x t V cd n f y t' V' cd' k g z) (Says01 (SameT n f k g)) [] 0 0 := by
  refine Law.of_walk (plainFor_of_name (by decide +kernel)) (by decide +kernel) (by decide +kernel) (by decide) (fun _ _ h => by rw [h.1]; rfl) (fun _ U U' hal hh h => ⟨h.1, h.2.1.mv hal hh, h.2.2.1.mv hal hh, h.2.2.2.1.there hal hh, h.2.2.2.2⟩) (fun r U U' V V' h1 hal h2 h => Says01.mv r U U' V V' h1 hal h2 h) ?_
  intro p e s m args below meth c s₁ X0 hexec hbytes hml hret hlk hnm hown hh0 W hP
  obtain ⟨rfl, hx, hy, s1, hz⟩ := hP
  have c1 : Steps p.tables e below (s₁.setTop (entryFrame m #[.ref x, .ref y] 3)) (s₁.setTop (mkF m 2 #[.val (.ref x), .val (.ref y), .unset] [.ref y, .ref x])) := Steps.trans (entry rfl) (by
    show Steps p.tables e below (s₁.setTop (mkF m 0 #[.val (.ref x), .val (.ref y), .unset] [])) _
    refine XS.aloadN X0.here hexec rfl (hb hbytes d0) rfl rfl ?_
    refine XS.aloadN X0.here hexec rfl (hb hbytes d1) rfl rfl ?_
    exact Steps.refl _)
  by_cases hxy : x = y
  · have c2 : Steps p.tables e below (s₁.setTop (entryFrame m #[.ref x, .ref y] 3)) (s₁.setTop (mkF m 6 #[.val (.ref x), .val (.ref y), .unset] [.int 1])) := c1.trans (by
      refine acmpNo X0.here hexec rfl (hb hbytes d2) rfl rfl rfl (by simp [acmp, hxy]) ?_
      refine iconstV X0.here hexec rfl 1 (hb hbytes d5) (by decide) ?_
      exact Steps.refl _)
    subst hxy
    have ec : cd = cd' := by
      obtain ⟨D, fd, a1, a2, a3⟩ := hx.2.2.1
      obtain ⟨D', fd', b1, b2, b3⟩ := hy.2.2.1
      cases a1.symm.trans b1
      obtain ⟨q1, q2, q3, q4⟩ := a2.1
      obtain ⟨r1, r2, r3, r4⟩ := b2.1
      cases q4.symm.trans r4
      cases a3.symm.trans b3; rfl
    have et : t = t' := by
      obtain ⟨D, fd, a1, a2, a3⟩ := hx.2.1
      obtain ⟨D', fd', b1, b2, b3⟩ := hy.2.1
      cases a1.symm.trans b1
      obtain ⟨q1, q2, q3, q4⟩ := a2.1
      obtain ⟨r1, r2, r3, r4⟩ := b2.1
      cases q4.symm.trans r4
      cases a3.symm.trans b3; rfl
    subst ec et
    have ev : V = V' := by cases hx.2.2.2.1.1.symm.trans hy.2.2.2.1.1; rfl
    subst ev
    have hs : SameT n f k g := (Cod.eqv hx.2.2.2.2.1 hy.2.2.2.2.1 hx.2.2.2.2.2 hy.2.2.2.2.2).mp ⟨rfl, fun _ _ => rfl⟩
    exact ⟨s₁, some (.int 1), _, _, _, X0, rfl, rfl, rfl, (fun h => by cases h), ⟨1, rfl, hh0, Or.inl ⟨rfl, hs⟩⟩, fun fs hl => c2.trans (X0.ireturnOut hexec hret rfl (Or.inr (Or.inl rfl)) (hb hbytes d6) hl)⟩
  · have c2 : Steps p.tables e below (s₁.setTop (entryFrame m #[.ref x, .ref y] 3)) (s₁.setTop (mkF m 8 #[.val (.ref x), .val (.ref y), .unset] [.ref y])) := c1.trans (by
      refine acmpYes X0.here hexec rfl (pc0 := 2) rfl (hb hbytes d2) rfl rfl rfl (by simp [acmp, hxy]) (by decide) rfl ?_
      refine XS.aloadN X0.here hexec rfl (hb hbytes d7) rfl rfl ?_
      exact Steps.refl _)
    obtain ⟨T3, X3, q3, st3⟩ := cinst X0 hexec hown (wk W (.classLink "java/lang/String" 10 "java/lang/String")) (hy.mv X0.warmed.alike hh0).1 (g := (mkF m 8 #[.val (.ref x), .val (.ref y), .unset] [.ref y])) rfl (rest := []) rfl (hb hbytes d8)
    have hh3 := q3.trans hh0
    have c4 : Steps p.tables e below (s₁.setTop (entryFrame m #[.ref x, .ref y] 3)) (T3.setTop (mkF m 15 #[.val (.ref x), .val (.ref y), .unset] [.ref y])) := (c2.trans (st3 _ (Steps.refl _))).trans (by
      refine XS.ifNo X3.here hexec rfl (hb hbytes d11) rfl (i0_eq_f (by decide)) ?_
      refine XS.aloadN X3.here hexec rfl (hb hbytes d14) rfl rfl ?_
      exact Steps.refl _)
    obtain ⟨T5, X5, q5, st5⟩ := cself X3 hexec hown (wk W (.classLink "java/lang/String" 10 "java/lang/String")) (hy.mv X3.warmed.alike hh3).1 (g := (mkF m 15 #[.val (.ref x), .val (.ref y), .unset] [.ref y])) rfl (rest := []) rfl (hb hbytes d15)
    have hh5 := q5.trans hh3
    have c6 : Steps p.tables e below (s₁.setTop (entryFrame m #[.ref x, .ref y] 3)) (T5.setTop (mkF m 19 #[.val (.ref x), .val (.ref y), .val (.ref y)] [])) := (c4.trans (st5 _ (Steps.refl _))).trans (by
      refine XS.astoreN X5.here hexec rfl (hb hbytes d18) rfl rfl rfl ?_
      exact Steps.refl _)
    obtain ⟨T7, X7, q7, st7⟩ := X5.sget hexec hown (wk W (.fieldLink "java/lang/String" 38 "java/lang/String" "COMPACT_STRINGS" "Z")) s1 (fun _ _ h => by rw [hh5]; exact h) (g := (mkF m 19 #[.val (.ref x), .val (.ref y), .val (.ref y)] [])) rfl (hb hbytes d19)
    have hh7 := q7.trans hh5
    have c8 : Steps p.tables e below (s₁.setTop (entryFrame m #[.ref x, .ref y] 3)) (T7.setTop (mkF m 26 #[.val (.ref x), .val (.ref y), .val (.ref y)] [.ref x])) := (c6.trans (st7 _ (Steps.refl _))).trans (by
      refine XS.ifNo X7.here hexec rfl (hb hbytes d22) rfl (i0_eq_f hz) ?_
      refine XS.aloadN X7.here hexec rfl (hb hbytes d25) rfl rfl ?_
      exact Steps.refl _)
    obtain ⟨T9, X9, q9, st9⟩ := X7.hget hexec hown (wk W (.fieldLink "java/lang/String" 15 "java/lang/String" "coder" "B")) (hx.mv X7.warmed.alike hh7).2.2.1 (g := (mkF m 26 #[.val (.ref x), .val (.ref y), .val (.ref y)] [.ref x])) rfl (rest := []) rfl (hb hbytes d26)
    have hh9 := q9.trans hh7
    have c10 : Steps p.tables e below (s₁.setTop (entryFrame m #[.ref x, .ref y] 3)) (T9.setTop (mkF m 30 #[.val (.ref x), .val (.ref y), .val (.ref y)] [.ref y, .int cd])) := (c8.trans (st9 _ (Steps.refl _))).trans (by
      refine XS.aloadN X9.here hexec rfl (hb hbytes d29) rfl rfl ?_
      exact Steps.refl _)
    obtain ⟨T11, X11, q11, st11⟩ := X9.hget hexec hown (wk W (.fieldLink "java/lang/String" 15 "java/lang/String" "coder" "B")) (hy.mv X9.warmed.alike hh9).2.2.1 (g := (mkF m 30 #[.val (.ref x), .val (.ref y), .val (.ref y)] [.ref y, .int cd])) rfl (rest := [.int cd]) rfl (hb hbytes d30)
    have hh11 := q11.trans hh9
    have c12 : Steps p.tables e below (s₁.setTop (entryFrame m #[.ref x, .ref y] 3)) (T11.setTop (mkF m 33 #[.val (.ref x), .val (.ref y), .val (.ref y)] [.int cd', .int cd])) := c10.trans (st11 _ (Steps.refl _))
    by_cases hcd : cd = cd'
    · subst hcd
      have c13 : Steps p.tables e below (s₁.setTop (entryFrame m #[.ref x, .ref y] 3)) (T11.setTop (mkF m 37 #[.val (.ref x), .val (.ref y), .val (.ref y)] [.ref x])) := c12.trans (by
        refine XS.icmpNo X11.here hexec rfl (hb hbytes d33) rfl (ii_ne_f rfl) ?_
        refine XS.aloadN X11.here hexec rfl (hb hbytes d36) rfl rfl ?_
        exact Steps.refl _)
      obtain ⟨T14, X14, q14, st14⟩ := X11.hget hexec hown (wk W (.fieldLink "java/lang/String" 9 "java/lang/String" "value" "[B")) (hx.mv X11.warmed.alike hh11).2.1 (g := (mkF m 37 #[.val (.ref x), .val (.ref y), .val (.ref y)] [.ref x])) rfl (rest := []) rfl (hb hbytes d37)
      have hh14 := q14.trans hh11
      have c15 : Steps p.tables e below (s₁.setTop (entryFrame m #[.ref x, .ref y] 3)) (T14.setTop (mkF m 41 #[.val (.ref x), .val (.ref y), .val (.ref y)] [.ref y, .ref t])) := (c13.trans (st14 _ (Steps.refl _))).trans (by
        refine XS.aloadN X14.here hexec rfl (hb hbytes d40) rfl rfl ?_
        exact Steps.refl _)
      obtain ⟨T16, X16, q16, st16⟩ := X14.hget hexec hown (wk W (.fieldLink "java/lang/String" 9 "java/lang/String" "value" "[B")) (hy.mv X14.warmed.alike hh14).2.1 (g := (mkF m 41 #[.val (.ref x), .val (.ref y), .val (.ref y)] [.ref y, .ref t])) rfl (rest := [.ref t]) rfl (hb hbytes d41)
      have hh16 := q16.trans hh14
      have c17 : Steps p.tables e below (s₁.setTop (entryFrame m #[.ref x, .ref y] 3)) (T16.setTop (mkF m 44 #[.val (.ref x), .val (.ref y), .val (.ref y)] [.ref t', .ref t])) := c15.trans (st16 _ (Steps.refl _))
      obtain ⟨v18, T18, X18, E18, g18⟩ := X16.callS hexec (LEq.law l t V t' V') hown (wks W (staticW "java/lang/String" 541 LEq.yN)) (wk W LEq.tab) (W := 0) (Nat.le_of_ble_eq_true rfl) (Nat.le_of_ble_eq_true rfl) (Nat.le_refl _) (Nat.le_refl _) (g := (mkF m 44 #[.val (.ref x), .val (.ref y), .val (.ref y)] [.ref t', .ref t])) rfl (by rw [hml]; rfl) c17 (argsL := [.ref t, .ref t']) (rest := []) rfl rfl (by show 2 * 0 + 0 ≤ _; decide) (hb hbytes d44) (⟨rfl, hx.2.2.2.1.mv X16.warmed.alike hh16, hx.2.2.2.2.1.ty, hy.2.2.2.1.mv X16.warmed.alike hh16, hy.2.2.2.2.1.ty⟩)
      obtain ⟨v, rfl, q18, hv⟩ := E18
      have iff := Cod.eqv hx.2.2.2.2.1 hy.2.2.2.2.1 hx.2.2.2.2.2 hy.2.2.2.2.2
      rcases hv with ⟨rfl, he⟩ | ⟨rfl, he⟩
      · have c19 : Steps p.tables e below (s₁.setTop (entryFrame m #[.ref x, .ref y] 3)) (T18.setTop (mkF m 55 #[.val (.ref x), .val (.ref y), .val (.ref y)] [.int 1])) := Steps.trans g18 (by
          refine XS.ifNo X18.here hexec rfl (hb hbytes d47) rfl (i0_eq_f (by decide)) ?_
          refine iconstV X18.here hexec rfl 1 (hb hbytes d50) (by decide) ?_
          refine XS.goto X18.here hexec rfl (pc0 := 51) rfl (hb hbytes d51) (by decide) rfl ?_
          exact Steps.refl _)
        exact ⟨T18, some (.int 1), _, _, _, X18, rfl, rfl, rfl, (fun h => by cases h), ⟨1, rfl, q18.trans hh16, Or.inl ⟨rfl, iff.mp he⟩⟩, fun fs hl => c19.trans (X18.ireturnOut hexec hret rfl (Or.inr (Or.inl rfl)) (hb hbytes d55) hl)⟩
      · have c19 : Steps p.tables e below (s₁.setTop (entryFrame m #[.ref x, .ref y] 3)) (T18.setTop (mkF m 55 #[.val (.ref x), .val (.ref y), .val (.ref y)] [.int 0])) := Steps.trans g18 (by
          refine XS.ifYes X18.here hexec rfl (pc0 := 47) rfl (hb hbytes d47) rfl (i0_eq_t rfl) (by decide) rfl ?_
          refine iconstV X18.here hexec rfl 0 (hb hbytes d54) (by decide) ?_
          exact Steps.refl _)
        exact ⟨T18, some (.int 0), _, _, _, X18, rfl, rfl, rfl, (fun h => by cases h), ⟨0, rfl, q18.trans hh16, Or.inr ⟨rfl, fun q => he (iff.mpr q)⟩⟩, fun fs hl => c19.trans (X18.ireturnOut hexec hret rfl (Or.inr (Or.inl rfl)) (hb hbytes d55) hl)⟩
    · have c13 : Steps p.tables e below (s₁.setTop (entryFrame m #[.ref x, .ref y] 3)) (T11.setTop (mkF m 55 #[.val (.ref x), .val (.ref y), .val (.ref y)] [.int 0])) := c12.trans (by
        refine XS.icmpYes X11.here hexec rfl (pc0 := 33) rfl (hb hbytes d33) rfl (ii_ne_t hcd) (by decide) rfl ?_
        refine iconstV X11.here hexec rfl 0 (hb hbytes d54) (by decide) ?_
        exact Steps.refl _)
      exact ⟨T11, some (.int 0), _, _, _, X11, rfl, rfl, rfl, (fun h => by cases h), ⟨0, rfl, hh11, Or.inr ⟨rfl, Cod.dif hx.2.2.2.2.1 hy.2.2.2.2.1 hcd⟩⟩, fun fs hl => c13.trans (X11.ireturnOut hexec hret rfl (Or.inr (Or.inl rfl)) (hb hbytes d55) hl)⟩
theorem pays {l : Launch} {R : Room} {p : Program} {e : Env} {below : List Frame} {s : State} {sargs : Array Value} {len W : Nat} (x t : Addr) (V : Cell) (cd : Int32) (n : Nat) (f : Nat → Int32) (y t' : Addr) (V' : Cell) (cd' : Int32) (k : Nat) (g : Nat → Int32) (z : Int32) (htab : tab.before sargs s = true) (hfr : 2 ≤ R.frames) (hlo : W + 28 ≤ R.locals) :
    Back l R p e below s sargs yN len W (fun A₁ a₁ => A₁.cells + 0 ≤ R.cells ∧ A₁.slots + 0 ≤ R.slots ∧ P x t V cd n f y t' V' cd' k g z a₁ A₁.U) (fun A₁ _ v₁ B₁ => Says01 (SameT n f k g) v₁ A₁.U B₁.U ∧ B₁.locs = A₁.locs ++ [] ∧ B₁.cells = A₁.cells + 0 ∧ B₁.slots = A₁.slots + 0) :=
  (law l x t V cd n f y t' V' cd' k g z).pays htab hfr (by omega)
end SEq
end StrChars
namespace StrChars.Road
open Jvm Sem ClassFile Op Lib Jvm.Stand Jvm.Free Jvm.Free.XT
open Jvm.Lib.Cold (StaticIs)
/-- the words of String.equals(Object) -/
abbrev wordsEq : List Jvm.Cond := [.code SEq.yN SEq.yB 3 (some .boolean), .initialized ST, .classLink ST 10 ST, .fieldLink ST 38 ST "COMPACT_STRINGS" "Z", .fieldLink ST 15 ST "coder" "B", .fieldLink ST 9 ST "value" "[B", .methodLink ST 541 LEq.yN, .static LEq.yN, .code LEq.yN LEq.yB 3 (some .boolean), .initialized "java/lang/StringLatin1"]
theorem tabEq_of {a : Array Value} {s : State} (h : ∀ w ∈ wordsEq, w.before a s = true) : SEq.tab.before a s = true := by
  have hl : LEq.tab.before a s = true := unparts (wk h (.code LEq.yN LEq.yB 3 (some .boolean))) (wks h (.initialized LEq.yN.cls :: LEq.site))
  have q := consq hl h
  exact unparts (wk q (.code SEq.yN SEq.yB 3 (some .boolean))) (wks q (.initialized SEq.yN.cls :: SEq.site))
theorem movedEq {Z s : State} {a0 args : Array Value} (hZ : Z.Warmed39 s.vm) (hw : ∀ d ∈ wordsEq, d.before a0 Z = true) : ∀ d ∈ wordsEq, d.before args s = true := fun d hd => by
  have t : ∀ d ∈ wordsEq, (d.onTables && d.keepsFace) = true := by decide +kernel
  exact RoadKit.mv hZ (hw d hd) (t d hd)
/-- the road's facts of a String, as the laws ask it -/
theorem txt_of {Z U : State} {a0 : Array Value} {kI : Nat} (wi : (Jvm.Cond.instantiable ST kI).before a0 Z = true) (al : Z.vm.Alike U.vm) {x t : Addr} {kb : ClassId} {cs : List Int32} {cd N2 : Int32} {vs : List Value} (E : RoadKit.Exa Z U.heap x ST) (V : RoadKit.Fld Z U.heap x ST "value" "[B" (.ref t)) (C : RoadKit.Fld Z U.heap x ST "coder" "B" (.int cd)) (K : RoadKit.Arv Z U.heap t kb .byte N2 vs (.int 0)) (hc : CodA cs cd N2 vs) (hb : ∀ c ∈ cs, ¬ c < 0 ∧ ¬ (65535 : Int32) < c) (l2 : cs.length ≤ 4000) :
    ∃ A, Txt x t A cd cs.length (fun j => cs.getD j 0) U := by
  obtain ⟨A, K1, K2, K3, K4, K5, K6⟩ := K
  have hcod := hc.cod (by omega) K3 K5
  obtain ⟨D, fV, fC, hB, F1, F2, g1, g2, -, -⟩ := strObj wi al E V C
  exact ⟨A, ⟨_, hB.2.2.1, D, hB.1, rfl, by cases q : D.vm <;> first | rfl | exact absurd q (hB.2.1.2 _)⟩, Has.of hB F1 g1, Has.of hB F2 g2, ⟨K1.1, State.isArrayOf_alike al K1.2.1, K1.2.2, by rcases hcod with ⟨-, q, -⟩ | ⟨-, q, -⟩ <;> omega⟩, hcod, fun j hj => by
    have e : cs.getD j 0 = cs[j] := by simp [List.getD_eq_getElem?_getD, hj]
    show ¬ cs.getD j 0 < 0 ∧ ¬ 65535 < cs.getD j 0
    rw [e]; exact hb _ (List.getElem_mem _)⟩
theorem same_list (cs ds : List Int32) : SameT cs.length (fun j => cs.getD j 0) ds.length (fun j => ds.getD j 0) ↔ cs = ds := by
  constructor
  · rintro ⟨e, q⟩
    refine List.ext_getElem e fun j h1 h2 => ?_
    have := q j h1
    simpa [List.getD_eq_getElem?_getD, h1, h2] using this
  · rintro rfl
    exact ⟨rfl, fun _ _ => rfl⟩
/-- **equals(Object) OF TWO SUCH STRINGS**: 1 just where the chars are the same -/
theorem eqW {p : Program} {l : Launch} {e : Env} {R : Room} {s : State} {args : Array Value} {below : List Frame} {len W : Nat} {Z : State} {a0 : Array Value} {h : Heap} (hZ : Z.Warmed39 s.vm) (hw : ∀ d ∈ wordsEq, d.before a0 Z = true) {kI : Nat} (wi : (Jvm.Cond.instantiable ST kI).before a0 Z = true)
    {x t : Addr} {kb : ClassId} {cs : List Int32} {cd N2 : Int32} {vs : List Value} (E : RoadKit.Exa Z h x ST) (V : RoadKit.Fld Z h x ST "value" "[B" (.ref t)) (C : RoadKit.Fld Z h x ST "coder" "B" (.int cd)) (K : RoadKit.Arv Z h t kb .byte N2 vs (.int 0)) (hc : CodA cs cd N2 vs) (hb : ∀ c ∈ cs, ¬ c < 0 ∧ ¬ (65535 : Int32) < c) (l2 : cs.length ≤ 4000)
    {y t' : Addr} {kb' : ClassId} {ds : List Int32} {cd' N2' : Int32} {vs' : List Value} (E' : RoadKit.Exa Z h y ST) (V' : RoadKit.Fld Z h y ST "value" "[B" (.ref t')) (C' : RoadKit.Fld Z h y ST "coder" "B" (.int cd')) (K' : RoadKit.Arv Z h t' kb' .byte N2' vs' (.int 0)) (hc' : CodA ds cd' N2' vs') (hb' : ∀ c ∈ ds, ¬ c < 0 ∧ ¬ (65535 : Int32) < c) (l2' : ds.length ≤ 4000)
    {z : Int32} (S : RoadKit.Sta Z h ST "COMPACT_STRINGS" "Z" (.int z)) (hz : ¬ z = 0) (hfr : 2 ≤ R.frames) (hlo : W + 28 ≤ R.locals) :
    Back l R p e below s args (⟨"java/lang/String", "equals", "(Ljava/lang/Object;)Z"⟩ : MethodName) len W (fun P a => a = #[.ref x, .ref y] ∧ P.U.heap = h ∧ P.cells + 0 ≤ R.cells ∧ P.slots + 0 ≤ R.slots)
      (fun P _ v B => ∃ L, (((v = some (.int 1) ∧ cs = ds) ∨ (v = some (.int 0) ∧ ¬ cs = ds)) ∧ L = [] ∧ B.U.heap = h) ∧ B.locs = P.locs ++ L ∧ B.cells = P.cells + 0 ∧ B.slots = P.slots + 0) := by
  intro m meth c P g ig mk a X hg hsize hdg hW hn hp'
  obtain ⟨rfl, rfl, r1, r2⟩ := hp'
  have al : Z.vm.Alike P.U.vm := hZ.alike.trans X.warmed.alike
  obtain ⟨A, hx⟩ := txt_of wi al E V C K hc hb l2
  obtain ⟨A', hy⟩ := txt_of wi al E' V' C' K' hc' hb' l2'
  obtain ⟨v, B, X', ⟨⟨w, hv, hh, hq⟩, hl, hk, hs⟩, st⟩ := SEq.pays x t A cd cs.length (fun j => cs.getD j 0) y t' A' cd' ds.length (fun j => ds.getD j 0) z (tabEq_of (movedEq hZ hw)) hfr hlo m meth c P g ig mk _ X hg hsize hdg hW hn ⟨r1, r2, rfl, hx, hy, sta_is al S, hz⟩
  refine ⟨v, B, X', ⟨[], ⟨?_, rfl, hh⟩, hl, hk, hs⟩, st⟩
  rcases hq with ⟨rfl, q⟩ | ⟨rfl, q⟩
  · exact Or.inl ⟨hv, (same_list cs ds).mp q⟩
  · exact Or.inr ⟨hv, fun e => q ((same_list cs ds).mpr e)⟩
end StrChars.Road
namespace StrChars.Road
open Jvm Sem ClassFile Op Lib Jvm.Stand Jvm.Free Jvm.Free.XT
open Jvm.Lib.Cold (StaticIs)
/-- what backV says of its String, as the contracts of this text ask it: cs's low bytes, coder 0 -/
theorem codOf {cs : List Int32} {n : Nat} (hn : cs.length = n) (hb : ∀ c ∈ cs, ¬ 255 < c) : CodA cs 0 (Int32.ofNat n) ((cs.map lo8).map Value.int) := Or.inl ⟨rfl, by rw [hn], by simp [List.map_map, Function.comp_def], hb⟩
end StrChars.Road
end Jvm.Pilot.@@N@@
namespace Jvm.Pilot.@@N@@
open Jvm Jvm.ClassFile Sem Op Lib Jvm.Free Jvm.Stand Jvm.LawKit Jvm.RoadKit Bundle Jvm.Pilot.@@N@@.Jvm.D
/-! own small kit: a walk forward, state by state -/
section OwnKit
variable {p : Program} {l : Launch} {e : Env} {R : Room} {s : State} {m : MethodId} {args : Array Value} {below : List Frame} {meth : Method} {c : Code} {T : State} {locs : List Loc} {cells slots : Nat} {rc rs : Nat} {Q : Option Value → Heap → List Loc → Prop} {Z : State} {h h' : Heap} {a b : Addr} {S S' : State}
/-- from S the run comes to its return, and Q holds there -/
def Go (p : Program) (e : Env) (below : List Frame) (s : State) (rc rs : Nat) (Q : Option Value → Heap → List Loc → Prop) (S : State) : Prop :=
  ∃ s₂ o, Steps p.tables e below S s₂ ∧ s₂.status = .running ∧ Ended s₂ below o ∧ ∃ v L, o = .returned v ∧ Q v s₂.heap L ∧ FrameEnd s o s₂ L rc rs
theorem Go.st (k : ∀ t, Steps p.tables e below S' t → Steps p.tables e below S t) (g : Go p e below s rc rs Q S') : Go p e below s rc rs Q S := by
  obtain ⟨x, y, z, r⟩ := g
  exact ⟨x, y, k x z, r⟩
theorem Go.tr (k : Steps p.tables e below S S') (g : Go p e below s rc rs Q S') : Go p e below s rc rs Q S := by
  obtain ⟨x, y, z, r⟩ := g
  exact ⟨x, y, k.trans z, r⟩
theorem Go.ret (X : Stand p l e R s m args below meth c T locs cells slots) (hlk : meth.locks = false) (v : Option Value) (hv : meth.sig.returnType = none → v = none) {g : JFrame} (hQ : Q v T.heap locs) (hc : cells ≤ rc) (hs : slots ≤ rs)
    (k : ∀ fs, (∀ (f : JFrame) (acts : List Action), f.method = m → f.locked = none → f.entered = [] → (doReturn e (T.setTop f) acts v).1 = T.setFrames fs) → Steps p.tables e below (T.setTop g) (T.setFrames fs)) : Go p e below s rc rs Q (T.setTop g) := by
  obtain ⟨fs, hr, hrun, hended, hW, hsame⟩ := X.leave (v := v) hv hlk
  exact ⟨_, _, k fs hr, hrun, hended, _, _, rfl, hQ, ⟨_, rfl⟩, hW, hsame.mono hc hs⟩
theorem own_w {a0 : Array Value} (hw : ∀ d ∈ tables_1, d.before a0 Z = true) (k : Nat) {d : Jvm.Cond} (q : tables_1[k]? = some d) : d.before a0 Z = true := hw _ (List.mem_of_getElem? q)
theorem own_idx {n j : Int32} {cl : Cell} (S : cl.slots.size = n.toNatClampNeg) (q1 : ¬ j < 0) (q2 : j < n) : ¬ (j < 0 ∨ cl.slots.size ≤ j.toNatClampNeg) := inb_of S ⟨q1, q2⟩
theorem own_iaload (X : Stand p l e R s m args below meth c T locs cells slots) (hx : p.tables.exec = Jvm.exec) (hZ : Z.Warmed39 s.vm) (eT : T.heap = h) {k : ClassId} {n : Int32} {vs : List Value} {d : Value} (V : Arv Z h a k .int n vs d) {j : Int32} (q1 : ¬ j < 0) (q2 : j < n) {v : Value} (hv : vs.getD j.toNatClampNeg d = v) {g : JFrame} (hg : g.method = m) {rest : List Value} (hs : g.stack = .int j :: .ref a :: rest) (hd : decode c.code g.pc = .ok (.iaload, 1)) (t : State) (kk : Steps p.tables e below (T.setTop { g with pc := g.pc + 1, stack := v :: rest }) t) : Steps p.tables e below (T.setTop g) t := by
  obtain ⟨cl, A, -, S, -, H, -⟩ := V
  have hin := own_idx S q1 q2
  exact X.iaload hx (j := j) (v := v) (by rw [eT]; exact A.1) (State.isArrayOf_alike hZ.alike A.2.1) A.2.2 hin (H.at hin hv) (g := g) hg hs hd _ kk
theorem own_laload (X : Stand p l e R s m args below meth c T locs cells slots) (hx : p.tables.exec = Jvm.exec) (hZ : Z.Warmed39 s.vm) (eT : T.heap = h) {k : ClassId} {n : Int32} {vs : List Value} {d : Value} (V : Arv Z h a k .long n vs d) {j : Int32} (q1 : ¬ j < 0) (q2 : j < n) {v : Value} (hv : vs.getD j.toNatClampNeg d = v) {g : JFrame} (hg : g.method = m) {rest : List Value} (hs : g.stack = .int j :: .ref a :: rest) (hd : decode c.code g.pc = .ok (.laload, 1)) (t : State) (kk : Steps p.tables e below (T.setTop { g with pc := g.pc + 1, stack := v :: rest }) t) : Steps p.tables e below (T.setTop g) t := by
  obtain ⟨cl, A, -, S, -, H, -⟩ := V
  have hin := own_idx S q1 q2
  exact X.laload hx (j := j) (v := v) (by rw [eT]; exact A.1) (State.isArrayOf_alike hZ.alike A.2.1) A.2.2 hin (H.at hin hv) (g := g) hg hs hd _ kk
theorem own_caload (X : Stand p l e R s m args below meth c T locs cells slots) (hx : p.tables.exec = Jvm.exec) (hZ : Z.Warmed39 s.vm) (eT : T.heap = h) {k : ClassId} {n : Int32} {vs : List Value} {d : Value} (V : Arv Z h a k .char n vs d) {j : Int32} (q1 : ¬ j < 0) (q2 : j < n) {v : Value} (hv : vs.getD j.toNatClampNeg d = v) {g : JFrame} (hg : g.method = m) {rest : List Value} (hs : g.stack = .int j :: .ref a :: rest) (hd : decode c.code g.pc = .ok (.caload, 1)) (t : State) (kk : Steps p.tables e below (T.setTop { g with pc := g.pc + 1, stack := v :: rest }) t) : Steps p.tables e below (T.setTop g) t := by
  obtain ⟨cl, A, -, S, -, H, -⟩ := V
  have hin := own_idx S q1 q2
  exact X.caload hx (j := j) (v := v) (by rw [eT]; exact A.1) (State.isArrayOf_alike hZ.alike A.2.1) A.2.2 hin (H.at hin hv) (g := g) hg hs hd _ kk
theorem own_baloadB (X : Stand p l e R s m args below meth c T locs cells slots) (hx : p.tables.exec = Jvm.exec) (hZ : Z.Warmed39 s.vm) (eT : T.heap = h) {k : ClassId} {n : Int32} {vs : List Value} {d : Value} (V : Arv Z h a k .byte n vs d) {j : Int32} (q1 : ¬ j < 0) (q2 : j < n) {v : Value} (hv : vs.getD j.toNatClampNeg d = v) {g : JFrame} (hg : g.method = m) {rest : List Value} (hs : g.stack = .int j :: .ref a :: rest) (hd : decode c.code g.pc = .ok (.baload, 1)) (t : State) (kk : Steps p.tables e below (T.setTop { g with pc := g.pc + 1, stack := v :: rest }) t) : Steps p.tables e below (T.setTop g) t := by
  obtain ⟨cl, A, -, S, -, H, -⟩ := V
  have hin := own_idx S q1 q2
  exact X.baloadBytes hx (j := j) (v := v) (by rw [eT]; exact A.1) (State.isArrayOf_alike hZ.alike A.2.1) A.2.2 hin (H.at hin hv) (g := g) hg hs hd _ kk
theorem own_baloadZ (X : Stand p l e R s m args below meth c T locs cells slots) (hx : p.tables.exec = Jvm.exec) (hZ : Z.Warmed39 s.vm) (eT : T.heap = h) {k : ClassId} {n : Int32} {vs : List Value} {d : Value} (V : Arv Z h a k .boolean n vs d) {j : Int32} (q1 : ¬ j < 0) (q2 : j < n) {v : Value} (hv : vs.getD j.toNatClampNeg d = v) {g : JFrame} (hg : g.method = m) {rest : List Value} (hs : g.stack = .int j :: .ref a :: rest) (hd : decode c.code g.pc = .ok (.baload, 1)) (t : State) (kk : Steps p.tables e below (T.setTop { g with pc := g.pc + 1, stack := v :: rest }) t) : Steps p.tables e below (T.setTop g) t := by
  obtain ⟨cl, A, -, S, -, H, -⟩ := V
  have hin := own_idx S q1 q2
  exact X.baloadBooleans hx (j := j) (v := v) (by rw [eT]; exact A.1) (State.isArrayOf_alike hZ.alike A.2.1) A.2.2 hin (H.at hin hv) (g := g) hg hs hd _ kk
theorem own_aaload (X : Stand p l e R s m args below meth c T locs cells slots) (hx : p.tables.exec = Jvm.exec) (hZ : Z.Warmed39 s.vm) (eT : T.heap = h) {k : ClassId} {n : Int32} {vs : List Value} {d : Value} {ty : FieldType} (V : Arv Z h a k ty n vs d) (hty : ty.isReference = true) {j : Int32} (q1 : ¬ j < 0) (q2 : j < n) {v : Value} (hv : vs.getD j.toNatClampNeg d = v) {g : JFrame} (hg : g.method = m) {rest : List Value} (hs : g.stack = .int j :: .ref a :: rest) (hd : decode c.code g.pc = .ok (.aaload, 1)) (t : State) (kk : Steps p.tables e below (T.setTop { g with pc := g.pc + 1, stack := v :: rest }) t) : Steps p.tables e below (T.setTop g) t := by
  obtain ⟨cl, A, -, S, -, H, -⟩ := V
  have hin := own_idx S q1 q2
  exact X.aaload hx (j := j) (v := v) (by rw [eT]; exact A.1) (State.isArrayOf_alike hZ.alike A.2.1) hty A.2.2 hin (H.at hin hv) (g := g) hg hs hd _ kk
theorem own_len (X : Stand p l e R s m args below meth c T locs cells slots) (hx : p.tables.exec = Jvm.exec) (hZ : Z.Warmed39 s.vm) (eT : T.heap = h) {k : ClassId} {n : Int32} {vs : List Value} {d : Value} {ty : FieldType} (V : Arv Z h a k ty n vs d) {g : JFrame} (hg : g.method = m) {rest : List Value} (hs : g.stack = .ref a :: rest) (hd : decode c.code g.pc = .ok (.arraylength, 1)) (t : State) (kk : Steps p.tables e below (T.setTop { g with pc := g.pc + 1, stack := .int n :: rest }) t) : Steps p.tables e below (T.setTop g) t := by
  obtain ⟨cl, A, -, S, N, -, -⟩ := V
  refine X.arraylength hx (by rw [eT]; exact A.1) (State.isArrayOf_alike hZ.alike A.2.1) (g := g) hg hs hd _ ?_
  rw [len_of S N]
  exact kk
theorem own_stI (X : Stand p l e R s m args below meth c T locs cells slots) (hx : p.tables.exec = Jvm.exec) (hZ : Z.Warmed39 s.vm) (eT : T.heap = h) {k : ClassId} {n : Int32} {vs : List Value} {d : Value} (V : Arv Z h a k .int n vs d) {j x : Int32} (q1 : ¬ j < 0) (q2 : j < n) (i : Nat) (hi : j.toNatClampNeg = i) (hl : i < vs.length) {g : JFrame} (hg : g.method = m) {rest : List Value} (hs : g.stack = .int x :: .int j :: .ref a :: rest) (hd : decode c.code g.pc = .ok (.iastore, 1)) :
    ∃ T' h', Stand p l e R s m args below meth c T' (locs ++ [⟨a, j.toNatClampNeg⟩]) cells slots ∧ T'.heap = h' ∧ Wr h h' a j.toNatClampNeg (.int x) ∧ Arv Z h' a k .int n (vs.set i (.int x)) d ∧ ∀ t, Steps p.tables e below (T'.setTop { g with pc := g.pc + 1, stack := rest }) t → Steps p.tables e below (T.setTop g) t := by
  obtain ⟨cl, A, q, S, N, H, G⟩ := V
  obtain ⟨T', h', X', e', W', st⟩ := stI X hx hZ eT A (own_idx S q1 q2) (g := g) hg hs hd
  exact ⟨T', h', X', e', W', Arv.set A q S N H G rfl W' i hi hl, st⟩
theorem own_stJ (X : Stand p l e R s m args below meth c T locs cells slots) (hx : p.tables.exec = Jvm.exec) (hZ : Z.Warmed39 s.vm) (eT : T.heap = h) {k : ClassId} {n : Int32} {vs : List Value} {d : Value} (V : Arv Z h a k .long n vs d) {j : Int32} {x : Int64} (q1 : ¬ j < 0) (q2 : j < n) (i : Nat) (hi : j.toNatClampNeg = i) (hl : i < vs.length) {g : JFrame} (hg : g.method = m) {rest : List Value} (hs : g.stack = .long x :: .int j :: .ref a :: rest) (hd : decode c.code g.pc = .ok (.lastore, 1)) :
    ∃ T' h', Stand p l e R s m args below meth c T' (locs ++ [⟨a, j.toNatClampNeg⟩]) cells slots ∧ T'.heap = h' ∧ Wr h h' a j.toNatClampNeg (.long x) ∧ Arv Z h' a k .long n (vs.set i (.long x)) d ∧ ∀ t, Steps p.tables e below (T'.setTop { g with pc := g.pc + 1, stack := rest }) t → Steps p.tables e below (T.setTop g) t := by
  obtain ⟨cl, A, q, S, N, H, G⟩ := V
  obtain ⟨T', h', X', e', W', st⟩ := stJ X hx hZ eT A (own_idx S q1 q2) (g := g) hg hs hd
  exact ⟨T', h', X', e', W', Arv.set A q S N H G rfl W' i hi hl, st⟩
theorem own_stC (X : Stand p l e R s m args below meth c T locs cells slots) (hx : p.tables.exec = Jvm.exec) (hZ : Z.Warmed39 s.vm) (eT : T.heap = h) {k : ClassId} {n : Int32} {vs : List Value} {d : Value} (V : Arv Z h a k .char n vs d) {j x : Int32} (q1 : ¬ j < 0) (q2 : j < n) (i : Nat) (hi : j.toNatClampNeg = i) (hl : i < vs.length) {g : JFrame} (hg : g.method = m) {rest : List Value} (hs : g.stack = .int x :: .int j :: .ref a :: rest) (hd : decode c.code g.pc = .ok (.castore, 1)) :
    ∃ T' h', Stand p l e R s m args below meth c T' (locs ++ [⟨a, j.toNatClampNeg⟩]) cells slots ∧ T'.heap = h' ∧ Wr h h' a j.toNatClampNeg (.int (nar .char x)) ∧ Arv Z h' a k .char n (vs.set i (.int (nar .char x))) d ∧ ∀ t, Steps p.tables e below (T'.setTop { g with pc := g.pc + 1, stack := rest }) t → Steps p.tables e below (T.setTop g) t := by
  obtain ⟨cl, A, q, S, N, H, G⟩ := V
  obtain ⟨T', h', X', e', W', st⟩ := stC X hx hZ eT A (own_idx S q1 q2) (g := g) hg hs hd
  exact ⟨T', h', X', e', W', Arv.set A q S N H G (fits_nar_char _) W' i hi hl, st⟩
theorem own_stB (X : Stand p l e R s m args below meth c T locs cells slots) (hx : p.tables.exec = Jvm.exec) (hZ : Z.Warmed39 s.vm) (eT : T.heap = h) {k : ClassId} {n : Int32} {vs : List Value} {d : Value} (V : Arv Z h a k .byte n vs d) {j x : Int32} (q1 : ¬ j < 0) (q2 : j < n) (i : Nat) (hi : j.toNatClampNeg = i) (hl : i < vs.length) {g : JFrame} (hg : g.method = m) {rest : List Value} (hs : g.stack = .int x :: .int j :: .ref a :: rest) (hd : decode c.code g.pc = .ok (.bastore, 1)) :
    ∃ T' h', Stand p l e R s m args below meth c T' (locs ++ [⟨a, j.toNatClampNeg⟩]) cells slots ∧ T'.heap = h' ∧ Wr h h' a j.toNatClampNeg (.int (nar .byte x)) ∧ Arv Z h' a k .byte n (vs.set i (.int (nar .byte x))) d ∧ ∀ t, Steps p.tables e below (T'.setTop { g with pc := g.pc + 1, stack := rest }) t → Steps p.tables e below (T.setTop g) t := by
  obtain ⟨cl, A, q, S, N, H, G⟩ := V
  obtain ⟨T', h', X', e', W', st⟩ := stB X hx hZ eT A (own_idx S q1 q2) (g := g) hg hs hd
  exact ⟨T', h', X', e', W', Arv.set A q S N H G (fits_nar_byte _) W' i hi hl, st⟩
theorem own_stZ (X : Stand p l e R s m args below meth c T locs cells slots) (hx : p.tables.exec = Jvm.exec) (hZ : Z.Warmed39 s.vm) (eT : T.heap = h) {k : ClassId} {n : Int32} {vs : List Value} {d : Value} (V : Arv Z h a k .boolean n vs d) {j x : Int32} (q1 : ¬ j < 0) (q2 : j < n) (i : Nat) (hi : j.toNatClampNeg = i) (hl : i < vs.length) {g : JFrame} (hg : g.method = m) {rest : List Value} (hs : g.stack = .int x :: .int j :: .ref a :: rest) (hd : decode c.code g.pc = .ok (.bastore, 1)) :
    ∃ T' h', Stand p l e R s m args below meth c T' (locs ++ [⟨a, j.toNatClampNeg⟩]) cells slots ∧ T'.heap = h' ∧ Wr h h' a j.toNatClampNeg (.int (nar .boolean x)) ∧ Arv Z h' a k .boolean n (vs.set i (.int (nar .boolean x))) d ∧ ∀ t, Steps p.tables e below (T'.setTop { g with pc := g.pc + 1, stack := rest }) t → Steps p.tables e below (T.setTop g) t := by
  obtain ⟨cl, A, q, S, N, H, G⟩ := V
  obtain ⟨T', h', X', e', W', st⟩ := stZ X hx hZ eT A (own_idx S q1 q2) (g := g) hg hs hd
  exact ⟨T', h', X', e', W', Arv.set A q S N H G (fits_nar_bool _) W' i hi hl, st⟩
theorem own_old {n0 : Nat} (O : Old Z n0 h) : n0 ≤ h.size := O.1 ▸ O.2.1
theorem own_res {z z' y : Int32} (hq : y = z') (hz : z = z') : some (Value.int z) = some (Value.int y) := by rw [hq, hz]
theorem own_resJ {z z' y : Int64} (hq : y = z') (hz : z = z') : some (Value.long z) = some (Value.long y) := by rw [hq, hz]
theorem own_narR {v : Value} {t : FieldType} (q : v.isRef = true) (r : t.isReference = true := by rfl) : narrow t v = v := by
  rcases ref_cases q with rfl | ⟨_, rfl⟩ <;> cases t <;> first | rfl | (simp [FieldType.isReference] at r)
theorem own_fitR {v : Value} {t : FieldType} (q : v.isRef = true) (r : t.isReference = true := by rfl) : fits t v = true := by
  rcases ref_cases q with rfl | ⟨_, rfl⟩ <;> cases t <;> first | rfl | (simp [FieldType.isReference] at r)
theorem own_fld {ar : Array Value} {t : Term} {x : Addr} {C n d : String} {k : Int32} (ht : t.eval ar s none [] s = some (.ref x)) (q : (Jvm.Cond.eq (.field t C n d) (.int k)).value ar s none s [] = some true) : Fld s s.heap x C n d (.int k) := by
  obtain ⟨u, w, e1, e2, -, k2⟩ := cmp_v (Or.inl q)
  have e3 : (Term.int k).eval ar s none [] s = some (.int k) := Term.int_eval k
  rw [e3] at e2
  obtain rfl := Option.some.inj e2
  obtain ⟨z, rfl⟩ := k2
  have e4 : z = k := gotT (Cond.eq_ints e1 e3) q
  subst e4
  rw [fld_at ht] at e1
  exact Fld.start e1
theorem own_neI {u w : Int32} (q : u ≠ w) : Value.int u ≠ Value.int w := fun z => q (Value.int.inj z)
theorem own_stR (X : Stand p l e R s m args below meth c T locs cells slots) (hx : p.tables.exec = Jvm.exec) (hZ : Z.Warmed39 s.vm) (eT : T.heap = h) {k : ClassId} {n : Int32} {vs : List Value} {d : Value} {ty : FieldType} {C : String} (V : Arv Z h a k ty n vs d) (hty : ty.isReference = true) (O : Ovr Z k C) {y : Addr} (I : Ins Z h y C true) {j : Int32} (q1 : ¬ j < 0) (q2 : j < n) (i : Nat) (hi : j.toNatClampNeg = i) (hl : i < vs.length) {g : JFrame} (hg : g.method = m) {rest : List Value} (hs : g.stack = .ref y :: .int j :: .ref a :: rest) (hd : decode c.code g.pc = .ok (.aastore, 1)) :
    ∃ T' h', Stand p l e R s m args below meth c T' (locs ++ [⟨a, j.toNatClampNeg⟩]) cells slots ∧ T'.heap = h' ∧ Wr h h' a j.toNatClampNeg (.ref y) ∧ Arv Z h' a k ty n (vs.set i (.ref y)) d ∧ ∀ t, Steps p.tables e below (T'.setTop { g with pc := g.pc + 1, stack := rest }) t → Steps p.tables e below (T.setTop g) t := by
  obtain ⟨cl, A, q, S, N, H, G⟩ := V
  obtain ⟨T', h', X', e', W', st⟩ := stR X hx hZ eT A (own_idx S q1 q2) hty (Sto.ofV A q O I) (g := g) hg hs hd
  exact ⟨T', h', X', e', W', Arv.set A q S N H G (own_fitR rfl hty) W' i hi hl, st⟩
theorem own_dupx2 (X : Stand p l e R s m args below meth c T locs cells slots) (hx : p.tables.exec = Jvm.exec) {g : JFrame} (hg : g.method = m) {x y z : Value} {rest : List Value} (hd : decode c.code g.pc = .ok (.dup_x2, 1)) (hs : g.stack = x :: y :: z :: rest) (hc : x.category = 1) (hc' : y.category = 1) (hc'' : z.category = 1) (t : State) (kk : Steps p.tables e below (T.setTop { g with pc := g.pc + 1, stack := x :: y :: z :: x :: rest }) t) : Steps p.tables e below (T.setTop g) t := by
  subst hg
  jvm_step X.here [X.here.top, hx, hd, dup_x2.wp_sem, hs, hc, hc', hc'']
  exact kk
theorem own_gen {n0 : Nat} (X : Stand p l e R s m args below meth c T locs cells slots) (N : Fr n0 locs) : ∃ L, Stand p l e R s m args below meth c T L cells slots ∧ Fr n0 L := ⟨_, X, N⟩
end OwnKit
/-! the same with the wide end (String constants may have been interned) -/
section OwnW
variable {p : Program} {l : Launch} {e : Env} {R : Room} {s : State} {m : MethodId} {args : Array Value} {below : List Frame} {meth : Method} {c : Code} {T : State} {locs : List Loc} {cells slots : Nat} {rc rs : Nat} {Q : Option Value → Heap → List Loc → Prop} {S S' : State}
def GoW (p : Program) (e : Env) (below : List Frame) (s : State) (rc rs : Nat) (Q : Option Value → Heap → List Loc → Prop) (S : State) : Prop :=
  ∃ s₂ o, Steps p.tables e below S s₂ ∧ s₂.status = .running ∧ Ended s₂ below o ∧ ∃ v L, o = .returned v ∧ Q v s₂.heap L ∧ ReturnedEndW s o s₂ L rc rs
theorem GoW.st (k : ∀ t, Steps p.tables e below S' t → Steps p.tables e below S t) (g : GoW p e below s rc rs Q S') : GoW p e below s rc rs Q S := by
  obtain ⟨x, y, z, r⟩ := g
  exact ⟨x, y, k x z, r⟩
theorem GoW.tr (k : Steps p.tables e below S S') (g : GoW p e below s rc rs Q S') : GoW p e below s rc rs Q S := by
  obtain ⟨x, y, z, r⟩ := g
  exact ⟨x, y, k.trans z, r⟩
theorem GoW.ret {vm1 : Vm} {n1 : Nat} (X : Stand p l e R (s.setVm vm1) m args below meth c T locs cells slots) (hlk : meth.locks = false) (hS : s.Since vm1 n1) (hn : n1 ≤ T.heap.size) (v : Option Value) (hv : meth.sig.returnType = none → v = none) {g : JFrame} (hQ : Q v T.heap locs) (hc : cells ≤ rc) (hs : slots ≤ rs)
    (k : ∀ fs, (∀ (f : JFrame) (acts : List Action), f.method = m → f.locked = none → f.entered = [] → (doReturn e (T.setTop f) acts v).1 = T.setFrames fs) → Steps p.tables e below (T.setTop g) (T.setFrames fs)) : GoW p e below s rc rs Q (T.setTop g) := by
  obtain ⟨fs, hr, hrun, hended, hE⟩ := X.leaveW hS hn (v := v) hv hlk
  exact ⟨_, _, k fs hr, hrun, hended, _, _, rfl, hQ, hE.1, hE.2.1, hE.2.2.1, hE.2.2.2.mono hc hs⟩
end OwnW
/-! the wide end, with the machine's tables in the end's words: which texts may have been interned is carried through calls -/
section OwnV
variable {p : Program} {l : Launch} {e : Env} {R : Room} {s : State} {m : MethodId} {args : Array Value} {below : List Frame} {meth : Method} {c : Code} {T : State} {locs : List Loc} {cells slots : Nat} {rc rs : Nat} {Q : Option Value → Vm → Heap → List Loc → Prop} {S S' Z : State} {a0 : Array Value} {h : Heap} {Ts Ts' : List String}
def GoV (p : Program) (e : Env) (below : List Frame) (s : State) (rc rs : Nat) (Q : Option Value → Vm → Heap → List Loc → Prop) (S : State) : Prop :=
  ∃ s₂ o, Steps p.tables e below S s₂ ∧ s₂.status = .running ∧ Ended s₂ below o ∧ ∃ v L, o = .returned v ∧ Q v s₂.vm s₂.heap L ∧ ReturnedEndW s o s₂ L rc rs
theorem GoV.st (k : ∀ t, Steps p.tables e below S' t → Steps p.tables e below S t) (g : GoV p e below s rc rs Q S') : GoV p e below s rc rs Q S := by
  obtain ⟨x, y, z, r⟩ := g
  exact ⟨x, y, k x z, r⟩
theorem GoV.tr (k : Steps p.tables e below S S') (g : GoV p e below s rc rs Q S') : GoV p e below s rc rs Q S := by
  obtain ⟨x, y, z, r⟩ := g
  exact ⟨x, y, k.trans z, r⟩
theorem GoV.ret {vm1 : Vm} {n1 : Nat} (X : Stand p l e R (s.setVm vm1) m args below meth c T locs cells slots) (hlk : meth.locks = false) (hS : s.Since vm1 n1) (hn : n1 ≤ T.heap.size) (v : Option Value) (hv : meth.sig.returnType = none → v = none) {g : JFrame} (hQ : Q v T.vm T.heap locs) (hc : cells ≤ rc) (hs : slots ≤ rs)
    (k : ∀ fs, (∀ (f : JFrame) (acts : List Action), f.method = m → f.locked = none → f.entered = [] → (doReturn e (T.setTop f) acts v).1 = T.setFrames fs) → Steps p.tables e below (T.setTop g) (T.setFrames fs)) : GoV p e below s rc rs Q (T.setTop g) := by
  obtain ⟨fs, hr, hrun, hended, hE⟩ := X.leaveW hS hn (v := v) hv hlk
  exact ⟨_, _, k fs hr, hrun, hended, _, _, rfl, hQ, hE.1, hE.2.1, hE.2.2.1, hE.2.2.2.mono hc hs⟩
theorem own_ibW {vm0 : Vm} (I : IB Z vm0 Ts) (X : Stand p l e R (s.setVm vm0) m args below meth c T locs cells slots) : IB Z T.vm Ts := by
  obtain ⟨more, a, b⟩ := I
  exact ⟨more, X.warmed.interned_eq.trans a, b⟩
theorem own_ibH {vm' : Vm} (I : IB Z s.vm Ts) (w : s.WarmedH vm') : IB Z vm' Ts := by
  obtain ⟨more, a, b⟩ := I
  exact ⟨more, w.interned_eq.trans a, b⟩
theorem own_ibM {vm0 : Vm} (I : IB Z vm0 Ts) (q : ∀ t ∈ Ts, t ∈ Ts') : IB Z vm0 Ts' := by
  obtain ⟨more, a, b⟩ := I
  exact ⟨more, a, fun x hx => by obtain ⟨t, h1, h2⟩ := b x hx; exact ⟨t, q t h1, h2⟩⟩
theorem own_backIB {y : MethodName} {bytes : ByteArray} {maxL : Nat} {ret : Option FieldType} {rm : Room} {len W : Nat} {as' : Array Value}
    (hM : MetFree l y (head1 [Cond.code y bytes maxL ret] rm) (fun a U => a = as' ∧ Z.Warmed39 U.vm ∧ U.heap = h ∧ IB Z U.vm Ts) (fun _ _ _ _ _ => True) (fun _ U o U' => ∃ v L, o = .returned v ∧ Q v U'.vm U'.heap L ∧ ReturnedEndW U o U' L rm.cells rm.slots))
    (hZ : Z.Warmed39 s.vm) (I : IB Z s.vm Ts) (wc : (Cond.code y bytes maxL ret).before a0 Z = true) (wz : (Cond.initialized y.cls).before a0 Z = true) (hf : rm.frames + 1 ≤ R.frames) (hl : W + (maxL + 11) + rm.locals ≤ R.locals) :
    BackS l R p e below s args y len W (fun A a => a = as' ∧ A.U.heap = h ∧ A.cells + rm.cells ≤ R.cells ∧ A.slots + rm.slots ≤ R.slots)
      (fun A _ v B => ∃ L, Q v B.U.vm B.U.heap L ∧ B.locs = A.locs ++ L ∧ B.cells = A.cells + rm.cells ∧ B.slots = A.slots + rm.slots) :=
  BackS.of_freeW (bytes := bytes) (maxL := maxL) (ret := ret) (E := fun _ _ o t L k n => k = rm.cells ∧ n = rm.slots ∧ ∃ v, o = .returned v ∧ Q v t.vm t.heap L) hM hf hl
    (fun m meth c A a Y hp => have hU : Z.Warmed39 A.U.vm := wtrans hZ Y.warmed
      ⟨by show (Cond.and _ .tt).before a A.U = true; rw [Cond.before_and, mv hU wc]; rfl, mv hU wc, mv hU wz, hp.2.2.1, hp.2.2.2⟩)
    (fun m meth c A a g mk Y hp => ⟨hp.1, wtrans hZ Y.warmed, hp.2.1, own_ibH I Y.warmed⟩) (fun _ _ _ _ _ _ _ _ _ => trivial)
    (fun _ _ _ _ ⟨v, L, h1, h2, h3⟩ => ⟨L, _, _, h3, rfl, rfl, v, h1, h2⟩)
    (fun m meth c A a g mk v t L k n Y hp _ _ ⟨e1, e2, v', e3, e4⟩ => by cases e3; subst e1 e2; exact ⟨L, e4, rfl, rfl, rfl⟩)
theorem own_fldne {x u b : Addr} {C n d : String} (F : Fld Z h u C n d (.ref b)) (G : Fld Z h x C n d .null) : u ≠ x := fun q => by
  subst q
  obtain ⟨c1, cf1, k1, i1, f1, a1, a2, -, -, -, -, a7⟩ := F
  obtain ⟨c2, cf2, k2, i2, f2, b1, b2, -, -, -, -, b7⟩ := G
  cases a1.symm.trans b1
  cases a2.symm.trans b2
  cases a7.symm.trans b7
end OwnV
theorem own_lt (x y : Int32) : (x < y) = (x.toInt < y.toInt) := propext Int32.lt_iff_toInt_lt
theorem own_eq (x y : Int32) : (x = y) = (x.toInt = y.toInt) := propext Int32.toInt_inj.symm
theorem own_rem (x k : Int32) (hk : 0 < k.toInt) : ¬ ((x &&& 2147483647) % k < 0) ∧ (x &&& 2147483647) % k < k := by
  have h1 := c_mask x 2147483647 31 (by decide) (by decide)
  have h2 := c_iremV (x &&& 2147483647) k
  have h3 : 0 ≤ (x &&& 2147483647).toInt := by rw [h1]; exact Int.emod_nonneg _ (by decide)
  have h4 := h2.1 h3 hk
  rw [own_lt, own_lt]
  have h5 : (0 : Int32).toInt = 0 := rfl
  omega
section OwnT
variable {s : State} {ar : Array Value}
theorem own_fldR {t : Term} {x y : Addr} {C n d : String} (ht : t.eval ar s none [] s = some (.ref x)) (e : (Term.field t C n d).eval ar s none [] s = some (.ref y)) : Fld s s.heap x C n d (.ref y) := Fld.start ((fld_at ht).symm.trans e)
theorem own_int {t : Term} {k : Int32} (q : (Jvm.Cond.eq t (.int k)).value ar s none s [] = some true) : t.eval ar s none [] s = some (.int k) := by
  obtain ⟨u, w, e1, e2, -, k2⟩ := cmp_v (Or.inl q)
  have e3 : (Term.int k).eval ar s none [] s = some (.int k) := Term.int_eval k
  rw [e3] at e2
  obtain rfl := Option.some.inj e2
  obtain ⟨z, rfl⟩ := k2
  have e4 : z = k := gotT (Cond.eq_ints e1 e3) q
  subst e4
  exact e1
theorem own_lenv {t : Term} {x : Addr} {cl : Cell} {ty : FieldType} {n : Int32} (ev : t.eval ar s none [] s = some (.ref x)) (A : Arr s s.heap x cl ty) (q : (Jvm.Cond.eq (.length t) (.int n)).value ar s none s [] = some true) : cl.slots.size < 2 ^ 31 ∧ cl.slots.size.toInt32 = n := by
  have e1 := own_int q
  obtain ⟨a, cell, h1, h2, h3⟩ := Term.length_spec e1
  cases ev.symm.trans h1
  have h4 : s.arrayAt? x = some cl := A.fin (Vm.Alike.refl _)
  cases h2.symm.trans h4
  refine ⟨?_, (Value.int.inj h3).symm⟩
  by_cases hlt : cl.slots.size < 2147483648
  · exact hlt
  · exfalso
    simp [Term.eval, h1, h4, hlt] at e1
theorem own_elemv {t : Term} {x : Addr} {cl : Cell} {ty : FieldType} {i k : Int32} (ev : t.eval ar s none [] s = some (.ref x)) (A : Arr s s.heap x cl ty) (q : (Jvm.Cond.eq (.elem t (.int i)) (.int k)).value ar s none s [] = some true) : cl.slots[i.toNatClampNeg]? = some (.int k) :=
  (elem_in (own_int q) ev (Term.int_eval i) A.1).2
end OwnT
section OwnTR
variable {s : State} {ar : Array Value}
theorem own_elemR {t u : Term} {x y : Addr} {cl : Cell} {ty : FieldType} {i : Int32} (ev : t.eval ar s none [] s = some (.ref x)) (A : Arr s s.heap x cl ty) (eu : u.eval ar s none [] s = some (.ref y)) (q : (Jvm.Cond.eq (.elem t (.int i)) u).value ar s none s [] = some true) : cl.slots[i.toNatClampNeg]? = some (.ref y) := by
  have e1 : (Term.elem t (.int i)).eval ar s none [] s = some (.ref y) := Cond.eq_refs (Cond.before_iff.mpr q) eu rfl
  exact (elem_in e1 ev (Term.int_eval i) A.1).2
theorem own_fldN {t : Term} {x : Addr} {C n d : String} (ht : t.eval ar s none [] s = some (.ref x)) (q : (Jvm.Cond.eq (.field t C n d) .null).value ar s none s [] = some true) : Fld s s.heap x C n d .null := Fld.start ((fld_at ht).symm.trans (Cond.eq_refs (Cond.before_iff.mpr q) rfl rfl))
end OwnTR
theorem own_codS : StrChars.Road.CodA ([(115 : Int32), (105 : Int32), (110 : Int32), (103 : Int32), (108 : Int32), (101 : Int32)] : List Int32) 0 (6 : Int32) [(.int (115 : Int32)), (.int (105 : Int32)), (.int (110 : Int32)), (.int (103 : Int32)), (.int (108 : Int32)), (.int (101 : Int32))] := Or.inl ⟨rfl, by decide, by first | rfl | decide +kernel, by decide⟩
theorem own_bS : ∀ c ∈ ([(115 : Int32), (105 : Int32), (110 : Int32), (103 : Int32), (108 : Int32), (101 : Int32)] : List Int32), ¬ c < 0 ∧ ¬ (65535 : Int32) < c := by decide
theorem own_codM : StrChars.Road.CodA ([(109 : Int32), (117 : Int32), (108 : Int32), (116 : Int32), (105 : Int32), (112 : Int32), (108 : Int32), (101 : Int32)] : List Int32) 0 (8 : Int32) [(.int (109 : Int32)), (.int (117 : Int32)), (.int (108 : Int32)), (.int (116 : Int32)), (.int (105 : Int32)), (.int (112 : Int32)), (.int (108 : Int32)), (.int (101 : Int32))] := Or.inl ⟨rfl, by decide, by first | rfl | decide +kernel, by decide⟩
theorem own_bM : ∀ c ∈ ([(109 : Int32), (117 : Int32), (108 : Int32), (116 : Int32), (105 : Int32), (112 : Int32), (108 : Int32), (101 : Int32)] : List Int32), ¬ c < 0 ∧ ¬ (65535 : Int32) < c := by decide
theorem own_smne : ¬ ([(115 : Int32), (105 : Int32), (110 : Int32), (103 : Int32), (108 : Int32), (101 : Int32)] : List Int32) = ([(109 : Int32), (117 : Int32), (108 : Int32), (116 : Int32), (105 : Int32), (112 : Int32), (108 : Int32), (101 : Int32)] : List Int32) := by decide
theorem own_zz {P : Prop} {v : Option Value} (h : (v = some (.int 1) ∧ P) ∨ (v = some (.int 0) ∧ ¬ P)) : ∃ z : Int32, v = some (.int z) ∧ ((z = 1 ∧ P) ∨ (z = 0 ∧ ¬ P)) := by
  rcases h with ⟨h, q⟩ | ⟨h, q⟩
  · exact ⟨1, h, Or.inl ⟨rfl, q⟩⟩
  · exact ⟨0, h, Or.inr ⟨rfl, q⟩⟩
theorem own_zp {P : Prop} {z : Int32} (h : (z = 1 ∧ P) ∨ (z = 0 ∧ ¬ P)) (q : P) : ¬ z = 0 := by
  rcases h with ⟨rfl, -⟩ | ⟨-, n⟩
  · decide
  · exact absurd q n
theorem own_zn {P : Prop} {z : Int32} (h : (z = 1 ∧ P) ∨ (z = 0 ∧ ¬ P)) (q : ¬ P) : z = 0 := by
  rcases h with ⟨-, n⟩ | ⟨h, -⟩
  · exact absurd n q
  · exact h
theorem own_z0 {P : Prop} {z : Int32} (h : (z = 1 ∧ P) ∨ (z = 0 ∧ ¬ P)) (q : z = 0) : ¬ P := fun n => own_zp h n q
theorem own_z1 {P : Prop} {z : Int32} (h : (z = 1 ∧ P) ∨ (z = 0 ∧ ¬ P)) (q : ¬ z = 0) : P := by
  rcases h with ⟨-, n⟩ | ⟨h, -⟩
  · exact n
  · exact absurd h q
theorem own_ch (x : Int32) : ¬ nar .char ((x &&& 255).toUInt32.toUInt16.toUInt32.toInt32) < 0 ∧ ¬ (255 : Int32) < nar .char ((x &&& 255).toUInt32.toUInt16.toUInt32.toInt32) := by
  have h0 : nar .char ((x &&& 255).toUInt32.toUInt16.toUInt32.toInt32) = (x &&& 255).toUInt32.toUInt16.toUInt32.toInt32 := Value.int.inj (XT.narrow_c _)
  rw [h0]
  have h1 := c_i2c (x &&& 255)
  have h2 := c_mask x 255 8 (by decide) (by decide)
  simp only [own_lt, Int32.reduceToInt]
  omega
theorem own_chJ (x : Int64) : ¬ nar .char ((x &&& 255).toInt32.toUInt32.toUInt16.toUInt32.toInt32) < 0 ∧ ¬ (255 : Int32) < nar .char ((x &&& 255).toInt32.toUInt32.toUInt16.toUInt32.toInt32) := by
  have h0 : nar .char ((x &&& 255).toInt32.toUInt32.toUInt16.toUInt32.toInt32) = (x &&& 255).toInt32.toUInt32.toUInt16.toUInt32.toInt32 := Value.int.inj (XT.narrow_c _)
  rw [h0]
  have h1 := c_i2c (x &&& 255).toInt32
  have h2 := c_maskL x 255 8 (by decide) (by decide)
  have h3 := c_l2i (x &&& 255)
  simp only [own_lt, Int32.reduceToInt]
  omega
theorem own_nc {c : Int32} (h : ¬ c < 0 ∧ ¬ (255 : Int32) < c) : nar .char c = c := by
  simp only [own_lt, Int32.reduceToInt] at h
  have h1 := c_i2c c
  have h2 : c.toUInt32.toUInt16.toUInt32.toInt32 = c := by rw [own_eq]; omega
  have h3 : nar .char (c.toUInt32.toUInt16.toUInt32.toInt32) = c.toUInt32.toUInt16.toUInt32.toInt32 := Value.int.inj (XT.narrow_c _)
  rw [h2] at h3
  exact h3
theorem own_10 {k : Int32} (h : ¬ k < 0 ∧ k < 10) : k = 0 ∨ k = 1 ∨ k = 2 ∨ k = 3 ∨ k = 4 ∨ k = 5 ∨ k = 6 ∨ k = 7 ∨ k = 8 ∨ k = 9 := by
  simp only [own_lt, own_eq, Int32.reduceToInt] at h ⊢
  omega
theorem own_9 {k : Int32} (h : ¬ k < 0 ∧ k < 9) : k = 0 ∨ k = 1 ∨ k = 2 ∨ k = 3 ∨ k = 4 ∨ k = 5 ∨ k = 6 ∨ k = 7 ∨ k = 8 := by
  simp only [own_lt, own_eq, Int32.reduceToInt] at h ⊢
  omega
theorem dev_0 : decode jdk_42_method_149_code 0 = .ok (.aload_n 0, 1) := by decide +kernel
theorem dev_1 : decode jdk_42_method_149_code 1 = .ok (.invokespecial 1, 3) := by decide +kernel
theorem dev_4 : decode jdk_42_method_149_code 4 = .ok (.iload_n 3, 1) := by decide +kernel
theorem dev_5 : decode jdk_42_method_149_code 5 = .ok (.ifCond .ne 22, 3) := by decide +kernel
theorem dev_8 : decode jdk_42_method_149_code 8 = .ok (.aload_n 0, 1) := by decide +kernel
theorem dev_9 : decode jdk_42_method_149_code 9 = .ok (.ldc 7, 2) := by decide +kernel
theorem dev_11 : decode jdk_42_method_149_code 11 = .ok (.getfield 9, 3) := by decide +kernel
theorem dev_14 : decode jdk_42_method_149_code 14 = .ok (.putfield 9, 3) := by decide +kernel
theorem dev_17 : decode jdk_42_method_149_code 17 = .ok (.aload_n 0, 1) := by decide +kernel
theorem dev_18 : decode jdk_42_method_149_code 18 = .ok (.ldc 7, 2) := by decide +kernel
theorem dev_20 : decode jdk_42_method_149_code 20 = .ok (.getfield 15, 3) := by decide +kernel
theorem dev_23 : decode jdk_42_method_149_code 23 = .ok (.putfield 15, 3) := by decide +kernel
theorem dev_26 : decode jdk_42_method_149_code 26 = .ok (.return_, 1) := by decide +kernel
theorem pnev : plainName "java/lang/String" = true := by first | (simp [plainName, overriddenIn]; done) | decide +kernel
theorem efev (m : MethodId) (x0 : Addr) (x1 : Addr) (x2 : Int32) (x3 : Int32) : entryFrame m #[(.ref x0), (.ref x1), (.int x2), (.int x3), .null] 6 = mkF m 0 #[.val (.ref x0), .val (.ref x1), .val (.int x2), .val (.int x3), .val .null, .unset] [] := by first | (simp [entryFrame, mkF, argsToLocals, Value.category, maxLocals]; done) | rfl
def Qev (Z : State) (x : Addr) (b : Addr) (kb : ClassId) (h0 : Heap) (n0 : Nat) (v : Option Value) (vm : Vm) (h : Heap) (L : List Loc) : Prop := v = none ∧ Fr n0 L ∧ Keep h0 h [x] ∧ ∃ (ub : Addr) (kb : ClassId), Exa Z h x "java/lang/String" ∧ Fld Z h x "java/lang/String" "coder" "B" (.int (0 : Int32)) ∧ Fld Z h x "java/lang/String" "value" "[B" (.ref ub) ∧ Arv Z h ub kb .byte (0 : Int32) [] (.int (0 : Int32)) ∧ IB Z vm [""]
set_option maxRecDepth 65536 in
set_option maxHeartbeats 40000000 in
theorem rmev (l : Launch) (Z : State) (a0 : Array Value) (hw : ∀ d ∈ tables_1, d.before a0 Z = true) (ws : List Jvm.Cond) (x : Addr) (b : Addr) (kb : ClassId) (h0 : Heap) (n0 : Nat) (O0 : Old Z n0 h0) (E_x : Exa Z h0 x "java/lang/String") (F_x_coder : Fld Z h0 x "java/lang/String" "coder" "B" (.int (0 : Int32))) (F_x_value : Fld Z h0 x "java/lang/String" "value" "[B" .null) (V_b : Arv Z h0 b kb .char (0 : Int32) [] (.int (0 : Int32))) (gx : n0 ≤ x) (nbx : b ≠ x) (hE7 : Jvm.Lit.constHeld Z "java/lang/String" 7) (hcw : Jvm.Lit.compactW.before a0 Z = true) :
    MetFree l (⟨"java/lang/String", "<init>", "([CIILjava/lang/Void;)V"⟩ : MethodName) (head1 (Jvm.Cond.code (⟨"java/lang/String", "<init>", "([CIILjava/lang/Void;)V"⟩ : MethodName) jdk_42_method_149_code 6 none :: ws) ({ frames := 1, cells := 2, slots := 4, locals := 12 } : Room)) (fun A_ U_ => A_ = #[(.ref x), (.ref b), (.int (0 : Int32)), (.int (0 : Int32)), .null] ∧ Z.Warmed39 U_.vm ∧ U_.heap = h0 ∧ IB Z U_.vm []) (fun _ _ _ _ _ => True) (fun _ U o U' => ∃ v L, o = .returned v ∧ Qev Z x b kb h0 n0 v U'.vm U'.heap L ∧ ReturnedEndW U o U' L ({ frames := 1, cells := 2, slots := 4, locals := 12 } : Room).cells ({ frames := 1, cells := 2, slots := 4, locals := 12 } : Room).slots) := by
  refine MetFree.of_bodySF (plainFor_of_name pnev) hisR ?_
  intro p e s m args below meth cd s₁ Bd hml0 hP hK
  obtain ⟨rfl, hZ, hh, I0⟩ := hP
  have hkp : ∀ (b : Addr) (cl : Cell), Z.heap[b]? = some cl → s.heap[b]? = some cl := fun b cl q => by rw [hh]; exact O0.2.2 b cl q
  have hS0 : s.Since s.vm h0.size := State.WarmedH.since (State.WarmedH.refl s) _
  have hk0 : h0.size ≤ h0.size := Nat.le_refl _
  have hx := Bd.exec
  have hby := Bd.bytes
  have hlk : meth.locks = false := BodyLoose.notSynchronized Bd
  have hml : cd.maxLocals = 6 := hml0
  have hown : s.vm.findClass "java/lang/String" = some m.cls := findClass_of_methodNamed Bd.named
  have hnm := (name_of_methodNamed Bd.named Bd.method).1
  have X0 : Stand p l e ({ frames := 1, cells := 2, slots := 4, locals := 12 } : Room) s m #[(.ref x), (.ref b), (.int (0 : Int32)), (.int (0 : Int32)), .null] below meth cd s₁ [] 0 0 := Stand.of_body Bd
  have e0 : s₁.heap = h0 := by rw [← hh, Bd.state]; rfl
  have N0 := Fr.nil n0
  have K0 : Keep h0 h0 [x] := Keep.refl _ _
  have wS : ∀ a ∈ Bundle.stringAtoms, a.before a0 Z = true := fun d hd => hw d ((by decide +kernel : ∀ d ∈ Bundle.stringAtoms, d ∈ tables_1) d hd)
  have G : GoV p e below s 2 4 (Qev Z x b kb h0 n0) (s₁.setTop (mkF m 0 #[.val (.ref x), .val (.ref b), .val (.int (0 : Int32)), .val (.int (0 : Int32)), .val .null, .unset] [])) := by
    show GoV p e below s _ _ _ (s₁.setTop (mkF m 0 #[.val (.ref x), .val (.ref b), .val (.int (0 : Int32)), .val (.int (0 : Int32)), .val .null, .unset] []))
    refine GoV.st (fun _ kq_ => XS.aloadN X0.here hx rfl (hb hby dev_0) rfl rfl kq_) ?_
    show GoV p e below s _ _ _ (s₁.setTop (mkF m 1 #[.val (.ref x), .val (.ref b), .val (.int (0 : Int32)), .val (.int (0 : Int32)), .val .null, .unset] [(.ref x)]))
    obtain ⟨T1, X1, e1, st1⟩ := initO X0 hx hZ hown (own_w hw 16 rfl) (own_w hw 17 rfl) (own_w hw 18 rfl) e0 (g := (mkF m 1 #[.val (.ref x), .val (.ref b), .val (.int (0 : Int32)), .val (.int (0 : Int32)), .val .null, .unset] [(.ref x)])) rfl (by rw [hml]; rfl) rfl (hb hby dev_1) (by decide) (W := 0) (by show 2 * 0 + _ ≤ _; exact Nat.le_of_eq rfl) (by decide)
    refine GoV.st st1 ?_
    show GoV p e below s _ _ _ (T1.setTop (mkF m 4 #[.val (.ref x), .val (.ref b), .val (.int (0 : Int32)), .val (.int (0 : Int32)), .val .null, .unset] []))
    refine GoV.st (fun _ kq_ => XS.iloadN X1.here hx rfl (hb hby dev_4) rfl kq_) ?_
    show GoV p e below s _ _ _ (T1.setTop (mkF m 5 #[.val (.ref x), .val (.ref b), .val (.int (0 : Int32)), .val (.int (0 : Int32)), .val .null, .unset] [(.int (0 : Int32))]))
    refine GoV.st (fun _ kq_ => XS.ifNo X1.here hx rfl (hb hby dev_5) rfl (by decide) kq_) ?_
    show GoV p e below s _ _ _ (T1.setTop (mkF m 8 #[.val (.ref x), .val (.ref b), .val (.int (0 : Int32)), .val (.int (0 : Int32)), .val .null, .unset] []))
    refine GoV.st (fun _ kq_ => XS.aloadN X1.here hx rfl (hb hby dev_8) rfl rfl kq_) ?_
    show GoV p e below s _ _ _ (T1.setTop (mkF m 9 #[.val (.ref x), .val (.ref b), .val (.int (0 : Int32)), .val (.int (0 : Int32)), .val .null, .unset] [(.ref x)]))
    obtain ⟨u2, T2, h2, kk2, ub2, kb2, X2, e2, E2, hS2, hk2, hZ2, hown2, NE, NC, NV, NB, lta2, ltb2, I2, LT2, st2⟩ := ldcSVL (vm0 := s.vm) X1 hx hZ hown (own_w hw 113 rfl) wS e1 hS0 hk0 (Fr.nil _) hkp I0 (by decide) (hE7) hcw (vs := []) (z := (0 : Int32)) (by decide) (by decide) rfl (g := (mkF m 9 #[.val (.ref x), .val (.ref b), .val (.int (0 : Int32)), .val (.int (0 : Int32)), .val .null, .unset] [(.ref x)])) rfl (hb hby dev_9) (n := 0) (by decide) (by decide) (by decide) (by decide)
    have E_x := E_x.ext E2
    have F_x_coder := F_x_coder.ext E2
    have F_x_value := F_x_value.ext E2
    have V_b := V_b.ext E2
    have O2 := O0.ext E2
    have K2 := K0.ext E2
    have E_u2 : Exa Z h2 u2 "java/lang/String" := NE
    have F_u2_coder : Fld Z h2 u2 "java/lang/String" "coder" "B" (.int (0 : Int32)) := NC
    have F_u2_value : Fld Z h2 u2 "java/lang/String" "value" "[B" (.ref ub2) := NV
    have V_ub2 : Arv Z h2 ub2 kb2 .byte (0 : Int32) [] (.int (0 : Int32)) := NB
    refine GoV.st st2 ?_
    show GoV p e below s _ _ _ (T2.setTop (mkF m 11 #[.val (.ref x), .val (.ref b), .val (.int (0 : Int32)), .val (.int (0 : Int32)), .val .null, .unset] [(.ref u2), (.ref x)]))
    have ne_u_x : u2 ≠ x := own_fldne F_u2_value F_x_value
    have ne_x_ub : x ≠ ub2 := Exa.neArv E_x V_ub2 (own_w hw 7 rfl)
    obtain ⟨T3, X3, e3, st3⟩ := getF X2 hx hZ2 hown2 (host := "") (Or.inl (own_w hw 33 rfl)) Via.refl e2 F_u2_value (g := (mkF m 11 #[.val (.ref x), .val (.ref b), .val (.int (0 : Int32)), .val (.int (0 : Int32)), .val .null, .unset] [(.ref u2), (.ref x)])) rfl rfl (hb hby dev_11)
    refine GoV.st st3 ?_
    show GoV p e below s _ _ _ (T3.setTop (mkF m 14 #[.val (.ref x), .val (.ref b), .val (.int (0 : Int32)), .val (.int (0 : Int32)), .val .null, .unset] [(.ref ub2), (.ref x)]))
    obtain ⟨T4, h4, X4, e4, W4, st4⟩ := putF X3 hx hZ2 hown2 (host := "") (Or.inl (own_w hw 33 rfl)) Via.refl e3 F_x_value E_x (Or.inr ⟨(own_w hw 34 rfl), rfl, hnm⟩) (own_w hw 7 rfl) (ty := (.array .byte)) (by decide) rfl rfl (g := (mkF m 14 #[.val (.ref x), .val (.ref b), .val (.int (0 : Int32)), .val (.int (0 : Int32)), .val .null, .unset] [(.ref ub2), (.ref x)])) rfl rfl (hb hby dev_14)
    obtain ⟨lc4, X4, N4⟩ := own_gen X4 (Fr.snoc X4 N0 gx)
    have O4 := O2.wr W4 gx
    have K4 := K2.wr W4 (Or.inl (List.mem_of_getElem? (i := 0) rfl))
    have E_x := E_x.wr W4
    have F_x_coder := F_x_coder.other W4 (Or.inr (slot_ne (Or.inr (own_w hw 32 rfl)) (Or.inr (own_w hw 34 rfl)) (by decide) (by decide : parseFieldDescriptor "B" = some .byte) (by decide : parseFieldDescriptor "[B" = some (.array .byte))))
    have V_b := V_b.other W4 nbx
    have E_u2 := E_u2.wr W4
    have F_u2_coder := F_u2_coder.other W4 (Or.inl ne_u_x)
    have F_u2_value := F_u2_value.other W4 (Or.inl ne_u_x)
    have V_ub2 := V_ub2.other W4 (Ne.symm ne_x_ub)
    have hk4 := Nat.le_trans hk2 (Nat.le_of_eq W4.size.symm)
    have F_x_value := F_x_value.same W4
    refine GoV.st st4 ?_
    show GoV p e below s _ _ _ (T4.setTop (mkF m 17 #[.val (.ref x), .val (.ref b), .val (.int (0 : Int32)), .val (.int (0 : Int32)), .val .null, .unset] []))
    refine GoV.st (fun _ kq_ => XS.aloadN X4.here hx rfl (hb hby dev_17) rfl rfl kq_) ?_
    show GoV p e below s _ _ _ (T4.setTop (mkF m 18 #[.val (.ref x), .val (.ref b), .val (.int (0 : Int32)), .val (.int (0 : Int32)), .val .null, .unset] [(.ref x)]))
    refine GoV.st (fun _ kq_ => ldcAgain (vm0 := T2.vm) X4 hx hZ2 hown2 (own_w hw 113 rfl) LT2 (g := (mkF m 18 #[.val (.ref x), .val (.ref b), .val (.int (0 : Int32)), .val (.int (0 : Int32)), .val .null, .unset] [(.ref x)])) rfl (hb hby dev_18) _ kq_) ?_
    show GoV p e below s _ _ _ (T4.setTop (mkF m 20 #[.val (.ref x), .val (.ref b), .val (.int (0 : Int32)), .val (.int (0 : Int32)), .val .null, .unset] [(.ref u2), (.ref x)]))
    obtain ⟨T6, X6, e6, st6⟩ := getF X4 hx hZ2 hown2 (host := "") (Or.inl (own_w hw 31 rfl)) Via.refl e4 F_u2_coder (g := (mkF m 20 #[.val (.ref x), .val (.ref b), .val (.int (0 : Int32)), .val (.int (0 : Int32)), .val .null, .unset] [(.ref u2), (.ref x)])) rfl rfl (hb hby dev_20)
    refine GoV.st st6 ?_
    show GoV p e below s _ _ _ (T6.setTop (mkF m 23 #[.val (.ref x), .val (.ref b), .val (.int (0 : Int32)), .val (.int (0 : Int32)), .val .null, .unset] [(.int (0 : Int32)), (.ref x)]))
    obtain ⟨T7, h7, X7, e7, W7, st7⟩ := putF X6 hx hZ2 hown2 (host := "") (Or.inl (own_w hw 31 rfl)) Via.refl e6 F_x_coder E_x (Or.inr ⟨(own_w hw 32 rfl), rfl, hnm⟩) (own_w hw 7 rfl) (ty := .byte) (by decide) rfl rfl (g := (mkF m 23 #[.val (.ref x), .val (.ref b), .val (.int (0 : Int32)), .val (.int (0 : Int32)), .val .null, .unset] [(.int (0 : Int32)), (.ref x)])) rfl rfl (hb hby dev_23)
    obtain ⟨lc7, X7, N7⟩ := own_gen X7 (Fr.snoc X7 N4 gx)
    have O7 := O4.wr W7 gx
    have K7 := K4.wr W7 (Or.inl (List.mem_of_getElem? (i := 0) rfl))
    have E_x := E_x.wr W7
    have F_x_value := F_x_value.other W7 (Or.inr (slot_ne (Or.inr (own_w hw 34 rfl)) (Or.inr (own_w hw 32 rfl)) (by decide) (by decide : parseFieldDescriptor "[B" = some (.array .byte)) (by decide : parseFieldDescriptor "B" = some .byte)))
    have V_b := V_b.other W7 nbx
    have E_u2 := E_u2.wr W7
    have F_u2_coder := F_u2_coder.other W7 (Or.inl ne_u_x)
    have F_u2_value := F_u2_value.other W7 (Or.inl ne_u_x)
    have V_ub2 := V_ub2.other W7 (Ne.symm ne_x_ub)
    have hk7 := Nat.le_trans hk4 (Nat.le_of_eq W7.size.symm)
    have F_x_coder := F_x_coder.same W7
    refine GoV.st st7 ?_
    show GoV p e below s _ _ _ (T7.setTop (mkF m 26 #[.val (.ref x), .val (.ref b), .val (.int (0 : Int32)), .val (.int (0 : Int32)), .val .null, .unset] []))
    exact GoV.ret (vm1 := T2.vm) X7 hlk hS2 (by rw [e7]; exact hk7) (none) (fun _ => rfl) (by rw [e7]; exact ⟨rfl, N7, K7, ub2, _, E_x, F_x_coder, F_x_value, V_ub2, own_ibW (vm0 := T2.vm) I2 X7⟩) (by decide) (by decide) (fun fs hr => X7.returnOut hx Bd.returns (hb hby dev_26) hr)
  obtain ⟨s2, o2, st2, r2⟩ := G
  exact ⟨s2, o2, castTop (efev m x b (0 : Int32) (0 : Int32)) st2, r2⟩
theorem de_0 : decode jdk_42_method_3_code 0 = .ok (.aload_n 0, 1) := by decide +kernel
theorem de_1 : decode jdk_42_method_3_code 1 = .ok (.aload_n 1, 1) := by decide +kernel
theorem de_2 : decode jdk_42_method_3_code 2 = .ok (.iconst 0, 1) := by decide +kernel
theorem de_3 : decode jdk_42_method_3_code 3 = .ok (.aload_n 1, 1) := by decide +kernel
theorem de_4 : decode jdk_42_method_3_code 4 = .ok (.arraylength, 1) := by decide +kernel
theorem de_5 : decode jdk_42_method_3_code 5 = .ok (.aconst_null, 1) := by decide +kernel
theorem de_6 : decode jdk_42_method_3_code 6 = .ok (.invokespecial 27, 3) := by decide +kernel
theorem de_9 : decode jdk_42_method_3_code 9 = .ok (.return_, 1) := by decide +kernel
theorem pde_0 : parseMethodDescriptor "([CIILjava/lang/Void;)V" = some ⟨[(.array .char), .int, .int, (.object "java/lang/Void")], none⟩ := by decide +kernel
theorem pne : plainName "java/lang/String" = true := by first | (simp [plainName, overriddenIn]; done) | decide +kernel
theorem efe (m : MethodId) (x0 : Addr) (x1 : Addr) : entryFrame m #[(.ref x0), (.ref x1)] 2 = mkF m 0 #[.val (.ref x0), .val (.ref x1)] [] := by first | (simp [entryFrame, mkF, argsToLocals, Value.category, maxLocals]; done) | rfl
def Qe (Z : State) (x : Addr) (b : Addr) (kb : ClassId) (h0 : Heap) (n0 : Nat) (v : Option Value) (vm : Vm) (h : Heap) (L : List Loc) : Prop := v = none ∧ Fr n0 L ∧ Keep h0 h [x] ∧ ∃ (ub : Addr) (kb : ClassId), Exa Z h x "java/lang/String" ∧ Fld Z h x "java/lang/String" "coder" "B" (.int (0 : Int32)) ∧ Fld Z h x "java/lang/String" "value" "[B" (.ref ub) ∧ Arv Z h ub kb .byte (0 : Int32) [] (.int (0 : Int32)) ∧ IB Z vm [""]
set_option maxRecDepth 65536 in
set_option maxHeartbeats 40000000 in
theorem rme (l : Launch) (Z : State) (a0 : Array Value) (hw : ∀ d ∈ tables_1, d.before a0 Z = true) (ws : List Jvm.Cond) (x : Addr) (b : Addr) (kb : ClassId) (h0 : Heap) (n0 : Nat) (O0 : Old Z n0 h0) (E_x : Exa Z h0 x "java/lang/String") (F_x_coder : Fld Z h0 x "java/lang/String" "coder" "B" (.int (0 : Int32))) (F_x_value : Fld Z h0 x "java/lang/String" "value" "[B" .null) (V_b : Arv Z h0 b kb .char (0 : Int32) [] (.int (0 : Int32))) (gx : n0 ≤ x) (nbx : b ≠ x) (hE7 : Jvm.Lit.constHeld Z "java/lang/String" 7) (hcw : Jvm.Lit.compactW.before a0 Z = true) :
    MetFree l (⟨"java/lang/String", "<init>", "([C)V"⟩ : MethodName) (head1 (Jvm.Cond.code (⟨"java/lang/String", "<init>", "([C)V"⟩ : MethodName) jdk_42_method_3_code 2 none :: ws) ({ frames := 2, cells := 2, slots := 4, locals := 29 } : Room)) (fun A_ U_ => A_ = #[(.ref x), (.ref b)] ∧ Z.Warmed39 U_.vm ∧ U_.heap = h0 ∧ IB Z U_.vm []) (fun _ _ _ _ _ => True) (fun _ U o U' => ∃ v L, o = .returned v ∧ Qe Z x b kb h0 n0 v U'.vm U'.heap L ∧ ReturnedEndW U o U' L ({ frames := 2, cells := 2, slots := 4, locals := 29 } : Room).cells ({ frames := 2, cells := 2, slots := 4, locals := 29 } : Room).slots) := by
  refine MetFree.of_bodySF (plainFor_of_name pne) hisR ?_
  intro p e s m args below meth cd s₁ Bd hml0 hP hK
  obtain ⟨rfl, hZ, hh, I0⟩ := hP
  have hkp : ∀ (b : Addr) (cl : Cell), Z.heap[b]? = some cl → s.heap[b]? = some cl := fun b cl q => by rw [hh]; exact O0.2.2 b cl q
  have hS0 : s.Since s.vm h0.size := State.WarmedH.since (State.WarmedH.refl s) _
  have hk0 : h0.size ≤ h0.size := Nat.le_refl _
  have hx := Bd.exec
  have hby := Bd.bytes
  have hlk : meth.locks = false := BodyLoose.notSynchronized Bd
  have hml : cd.maxLocals = 2 := hml0
  have hown : s.vm.findClass "java/lang/String" = some m.cls := findClass_of_methodNamed Bd.named
  have hnm := (name_of_methodNamed Bd.named Bd.method).1
  have X0 : Stand p l e ({ frames := 2, cells := 2, slots := 4, locals := 29 } : Room) s m #[(.ref x), (.ref b)] below meth cd s₁ [] 0 0 := Stand.of_body Bd
  have e0 : s₁.heap = h0 := by rw [← hh, Bd.state]; rfl
  have N0 := Fr.nil n0
  have K0 : Keep h0 h0 [x] := Keep.refl _ _
  have G : GoV p e below s 2 4 (Qe Z x b kb h0 n0) (s₁.setTop (mkF m 0 #[.val (.ref x), .val (.ref b)] [])) := by
    show GoV p e below s _ _ _ (s₁.setTop (mkF m 0 #[.val (.ref x), .val (.ref b)] []))
    refine GoV.st (fun _ kq_ => XS.aloadN X0.here hx rfl (hb hby de_0) rfl rfl kq_) ?_
    show GoV p e below s _ _ _ (s₁.setTop (mkF m 1 #[.val (.ref x), .val (.ref b)] [(.ref x)]))
    refine GoV.st (fun _ kq_ => XS.aloadN X0.here hx rfl (hb hby de_1) rfl rfl kq_) ?_
    show GoV p e below s _ _ _ (s₁.setTop (mkF m 2 #[.val (.ref x), .val (.ref b)] [(.ref b), (.ref x)]))
    refine GoV.st (fun _ kq_ => XS.iconst X0.here hx rfl (hb hby de_2) kq_) ?_
    show GoV p e below s _ _ _ (s₁.setTop (mkF m 3 #[.val (.ref x), .val (.ref b)] [(.int (0 : Int32)), (.ref b), (.ref x)]))
    refine GoV.st (fun _ kq_ => XS.aloadN X0.here hx rfl (hb hby de_3) rfl rfl kq_) ?_
    show GoV p e below s _ _ _ (s₁.setTop (mkF m 4 #[.val (.ref x), .val (.ref b)] [(.ref b), (.int (0 : Int32)), (.ref b), (.ref x)]))
    refine GoV.st (fun _ kq_ => own_len X0 hx hZ e0 V_b (g := (mkF m 4 #[.val (.ref x), .val (.ref b)] [(.ref b), (.int (0 : Int32)), (.ref b), (.ref x)])) rfl rfl (hb hby de_4) _ kq_) ?_
    show GoV p e below s _ _ _ (s₁.setTop (mkF m 5 #[.val (.ref x), .val (.ref b)] [(.int (0 : Int32)), (.int (0 : Int32)), (.ref b), (.ref x)]))
    refine GoV.st (fun _ kq_ => XS.aconstNull X0.here hx rfl (hb hby de_5) kq_) ?_
    show GoV p e below s _ _ _ (s₁.setTop (mkF m 6 #[.val (.ref x), .val (.ref b)] [.null, (.int (0 : Int32)), (.int (0 : Int32)), (.ref b), (.ref x)]))
    obtain ⟨_, _, ⟨T1, L1, k1, n1⟩, -, X1, hSn1, gr1, ⟨Lc1, hQ1, l1, y1, z1⟩, st1⟩ := X0.specialBackS hx (y := (⟨"java/lang/String", "<init>", "([CIILjava/lang/Void;)V"⟩ : MethodName)) rfl hown (mvT hZ (own_w hw 12 rfl)) (mvT hZ (own_w hw 13 rfl)) (mvT hZ (own_w hw 15 rfl)) (by decide) (own_backIB (W := 0) (rmev l Z a0 hw [] x b kb h0 n0 O0 E_x F_x_coder F_x_value V_b gx nbx hE7 hcw) hZ I0 (own_w hw 15 rfl) (own_w hw 8 rfl) (by decide) (by decide)) (g := (mkF m 6 #[.val (.ref x), .val (.ref b)] [.null, (.int (0 : Int32)), (.int (0 : Int32)), (.ref b), (.ref x)])) rfl (by rw [hml]; rfl) (Steps.refl _) (a := x) (argsL := [(.ref b), (.int (0 : Int32)), (.int (0 : Int32)), .null]) (rest := []) (lenOf pde_0 rfl) rfl (by show 2 * 0 + _ ≤ _; exact Nat.le_of_eq rfl) (hb hby de_6) (fun _ _ => ⟨rfl, e0, (by decide : 0 + 2 ≤ _), (by decide : 0 + 4 ≤ _)⟩)
    dsimp only [Pt.U, Pt.locs, Pt.cells, Pt.slots] at X1 l1 y1 z1 st1 hQ1
    subst y1 z1
    dsimp only [Pt.U, Pt.locs, Pt.cells, Pt.slots] at hSn1 gr1
    obtain ⟨X1, hS1, hZ1, hown1⟩ := rebS (vm0 := s.vm) hS0 (by rw [e0]; exact hk0) X1 hSn1 gr1 hZ hown
    have hk1 : T1.heap.size ≤ T1.heap.size := Nat.le_refl _
    obtain ⟨rfl, Nc1, Kc1, ub1, kb1, NE, NC, NV, NB, I1⟩ := hQ1
    have N1 : Fr n0 L1 := by rw [l1]; exact Fr.app N0 Nc1
    have V_b := V_b.keep Kc1 (ninS nbx nin0)
    have O1 := O0.keep Kc1 (allS gx all0)
    have K1 := K0.trans Kc1 (allS (Or.inl (List.mem_of_getElem? (i := 0) rfl)) all0)
    have E_x : Exa Z T1.heap x "java/lang/String" := NE
    have F_x_coder : Fld Z T1.heap x "java/lang/String" "coder" "B" (.int (0 : Int32)) := NC
    have F_x_value : Fld Z T1.heap x "java/lang/String" "value" "[B" (.ref ub1) := NV
    have V_ub1 : Arv Z T1.heap ub1 kb1 .byte (0 : Int32) [] (.int (0 : Int32)) := NB
    refine GoV.tr st1 ?_
    show GoV p e below s _ _ _ (T1.setTop (mkF m 9 #[.val (.ref x), .val (.ref b)] []))
    exact GoV.ret (vm1 := T1.vm) X1 hlk hS1 (by exact hk1) (none) (fun _ => rfl) (by exact ⟨rfl, N1, K1, ub1, _, E_x, F_x_coder, F_x_value, V_ub1, own_ibW (vm0 := T1.vm) I1 X1⟩) (by decide) (by decide) (fun fs hr => X1.returnOut hx Bd.returns (hb hby de_9) hr)
  obtain ⟨s2, o2, st2, r2⟩ := G
  exact ⟨s2, o2, castTop (efe m x b) st2, r2⟩
theorem own_up {cs : List Int32} (hp : ∀ z ∈ cs, ¬ z < 0 ∧ ¬ (255 : Int32) < z) : ∀ c ∈ cs, ¬ c < 0 ∧ ¬ (65535 : Int32) < c := fun c hc => by
  have h := hp c hc
  simp only [own_lt, Int32.reduceToInt] at h ⊢
  omega
theorem dt_0 : decode method_2_code 0 = .ok (.iload_n 1, 1) := by decide +kernel
theorem dt_1 : decode method_2_code 1 = .ok (.ifCond .ne 14, 3) := by decide +kernel
theorem dt_4 : decode method_2_code 4 = .ok (.new 7, 3) := by decide +kernel
theorem dt_7 : decode method_2_code 7 = .ok (.dup, 1) := by decide +kernel
theorem dt_8 : decode method_2_code 8 = .ok (.iconst 0, 1) := by decide +kernel
theorem dt_9 : decode method_2_code 9 = .ok (.newarray .char, 2) := by decide +kernel
theorem dt_11 : decode method_2_code 11 = .ok (.invokespecial 9, 3) := by decide +kernel
theorem dt_14 : decode method_2_code 14 = .ok (.areturn, 1) := by decide +kernel
theorem dt_15 : decode method_2_code 15 = .ok (.iload_n 1, 1) := by decide +kernel
theorem dt_16 : decode method_2_code 16 = .ok (.iconst 1, 1) := by decide +kernel
theorem dt_17 : decode method_2_code 17 = .ok (.if_icmp .ne 20, 3) := by decide +kernel
theorem dt_20 : decode method_2_code 20 = .ok (.new 7, 3) := by decide +kernel
theorem dt_23 : decode method_2_code 23 = .ok (.dup, 1) := by decide +kernel
theorem dt_24 : decode method_2_code 24 = .ok (.iconst 1, 1) := by decide +kernel
theorem dt_25 : decode method_2_code 25 = .ok (.newarray .char, 2) := by decide +kernel
theorem dt_27 : decode method_2_code 27 = .ok (.dup, 1) := by decide +kernel
theorem dt_28 : decode method_2_code 28 = .ok (.iconst 0, 1) := by decide +kernel
theorem dt_29 : decode method_2_code 29 = .ok (.aload_n 0, 1) := by decide +kernel
theorem dt_30 : decode method_2_code 30 = .ok (.iconst 0, 1) := by decide +kernel
theorem dt_31 : decode method_2_code 31 = .ok (.caload, 1) := by decide +kernel
theorem dt_32 : decode method_2_code 32 = .ok (.castore, 1) := by decide +kernel
theorem dt_33 : decode method_2_code 33 = .ok (.invokespecial 9, 3) := by decide +kernel
theorem dt_36 : decode method_2_code 36 = .ok (.areturn, 1) := by decide +kernel
theorem dt_37 : decode method_2_code 37 = .ok (.iload_n 1, 1) := by decide +kernel
theorem dt_38 : decode method_2_code 38 = .ok (.iconst 2, 1) := by decide +kernel
theorem dt_39 : decode method_2_code 39 = .ok (.if_icmp .ne 26, 3) := by decide +kernel
theorem dt_42 : decode method_2_code 42 = .ok (.new 7, 3) := by decide +kernel
theorem dt_45 : decode method_2_code 45 = .ok (.dup, 1) := by decide +kernel
theorem dt_46 : decode method_2_code 46 = .ok (.iconst 2, 1) := by decide +kernel
theorem dt_47 : decode method_2_code 47 = .ok (.newarray .char, 2) := by decide +kernel
theorem dt_49 : decode method_2_code 49 = .ok (.dup, 1) := by decide +kernel
theorem dt_50 : decode method_2_code 50 = .ok (.iconst 0, 1) := by decide +kernel
theorem dt_51 : decode method_2_code 51 = .ok (.aload_n 0, 1) := by decide +kernel
theorem dt_52 : decode method_2_code 52 = .ok (.iconst 0, 1) := by decide +kernel
theorem dt_53 : decode method_2_code 53 = .ok (.caload, 1) := by decide +kernel
theorem dt_54 : decode method_2_code 54 = .ok (.castore, 1) := by decide +kernel
theorem dt_55 : decode method_2_code 55 = .ok (.dup, 1) := by decide +kernel
theorem dt_56 : decode method_2_code 56 = .ok (.iconst 1, 1) := by decide +kernel
theorem dt_57 : decode method_2_code 57 = .ok (.aload_n 0, 1) := by decide +kernel
theorem dt_58 : decode method_2_code 58 = .ok (.iconst 1, 1) := by decide +kernel
theorem dt_59 : decode method_2_code 59 = .ok (.caload, 1) := by decide +kernel
theorem dt_60 : decode method_2_code 60 = .ok (.castore, 1) := by decide +kernel
theorem dt_61 : decode method_2_code 61 = .ok (.invokespecial 9, 3) := by decide +kernel
theorem dt_64 : decode method_2_code 64 = .ok (.areturn, 1) := by decide +kernel
theorem dt_65 : decode method_2_code 65 = .ok (.iload_n 1, 1) := by decide +kernel
theorem dt_66 : decode method_2_code 66 = .ok (.iconst 3, 1) := by decide +kernel
theorem dt_67 : decode method_2_code 67 = .ok (.if_icmp .ne 32, 3) := by decide +kernel
theorem dt_70 : decode method_2_code 70 = .ok (.new 7, 3) := by decide +kernel
theorem dt_73 : decode method_2_code 73 = .ok (.dup, 1) := by decide +kernel
theorem dt_74 : decode method_2_code 74 = .ok (.iconst 3, 1) := by decide +kernel
theorem dt_75 : decode method_2_code 75 = .ok (.newarray .char, 2) := by decide +kernel
theorem dt_77 : decode method_2_code 77 = .ok (.dup, 1) := by decide +kernel
theorem dt_78 : decode method_2_code 78 = .ok (.iconst 0, 1) := by decide +kernel
theorem dt_79 : decode method_2_code 79 = .ok (.aload_n 0, 1) := by decide +kernel
theorem dt_80 : decode method_2_code 80 = .ok (.iconst 0, 1) := by decide +kernel
theorem dt_81 : decode method_2_code 81 = .ok (.caload, 1) := by decide +kernel
theorem dt_82 : decode method_2_code 82 = .ok (.castore, 1) := by decide +kernel
theorem dt_83 : decode method_2_code 83 = .ok (.dup, 1) := by decide +kernel
theorem dt_84 : decode method_2_code 84 = .ok (.iconst 1, 1) := by decide +kernel
theorem dt_85 : decode method_2_code 85 = .ok (.aload_n 0, 1) := by decide +kernel
theorem dt_86 : decode method_2_code 86 = .ok (.iconst 1, 1) := by decide +kernel
theorem dt_87 : decode method_2_code 87 = .ok (.caload, 1) := by decide +kernel
theorem dt_88 : decode method_2_code 88 = .ok (.castore, 1) := by decide +kernel
theorem dt_89 : decode method_2_code 89 = .ok (.dup, 1) := by decide +kernel
theorem dt_90 : decode method_2_code 90 = .ok (.iconst 2, 1) := by decide +kernel
theorem dt_91 : decode method_2_code 91 = .ok (.aload_n 0, 1) := by decide +kernel
theorem dt_92 : decode method_2_code 92 = .ok (.iconst 2, 1) := by decide +kernel
theorem dt_93 : decode method_2_code 93 = .ok (.caload, 1) := by decide +kernel
theorem dt_94 : decode method_2_code 94 = .ok (.castore, 1) := by decide +kernel
theorem dt_95 : decode method_2_code 95 = .ok (.invokespecial 9, 3) := by decide +kernel
theorem dt_98 : decode method_2_code 98 = .ok (.areturn, 1) := by decide +kernel
theorem dt_99 : decode method_2_code 99 = .ok (.iload_n 1, 1) := by decide +kernel
theorem dt_100 : decode method_2_code 100 = .ok (.iconst 4, 1) := by decide +kernel
theorem dt_101 : decode method_2_code 101 = .ok (.if_icmp .ne 38, 3) := by decide +kernel
theorem dt_104 : decode method_2_code 104 = .ok (.new 7, 3) := by decide +kernel
theorem dt_107 : decode method_2_code 107 = .ok (.dup, 1) := by decide +kernel
theorem dt_108 : decode method_2_code 108 = .ok (.iconst 4, 1) := by decide +kernel
theorem dt_109 : decode method_2_code 109 = .ok (.newarray .char, 2) := by decide +kernel
theorem dt_111 : decode method_2_code 111 = .ok (.dup, 1) := by decide +kernel
theorem dt_112 : decode method_2_code 112 = .ok (.iconst 0, 1) := by decide +kernel
theorem dt_113 : decode method_2_code 113 = .ok (.aload_n 0, 1) := by decide +kernel
theorem dt_114 : decode method_2_code 114 = .ok (.iconst 0, 1) := by decide +kernel
theorem dt_115 : decode method_2_code 115 = .ok (.caload, 1) := by decide +kernel
theorem dt_116 : decode method_2_code 116 = .ok (.castore, 1) := by decide +kernel
theorem dt_117 : decode method_2_code 117 = .ok (.dup, 1) := by decide +kernel
theorem dt_118 : decode method_2_code 118 = .ok (.iconst 1, 1) := by decide +kernel
theorem dt_119 : decode method_2_code 119 = .ok (.aload_n 0, 1) := by decide +kernel
theorem dt_120 : decode method_2_code 120 = .ok (.iconst 1, 1) := by decide +kernel
theorem dt_121 : decode method_2_code 121 = .ok (.caload, 1) := by decide +kernel
theorem dt_122 : decode method_2_code 122 = .ok (.castore, 1) := by decide +kernel
theorem dt_123 : decode method_2_code 123 = .ok (.dup, 1) := by decide +kernel
theorem dt_124 : decode method_2_code 124 = .ok (.iconst 2, 1) := by decide +kernel
theorem dt_125 : decode method_2_code 125 = .ok (.aload_n 0, 1) := by decide +kernel
theorem dt_126 : decode method_2_code 126 = .ok (.iconst 2, 1) := by decide +kernel
theorem dt_127 : decode method_2_code 127 = .ok (.caload, 1) := by decide +kernel
theorem dt_128 : decode method_2_code 128 = .ok (.castore, 1) := by decide +kernel
theorem dt_129 : decode method_2_code 129 = .ok (.dup, 1) := by decide +kernel
theorem dt_130 : decode method_2_code 130 = .ok (.iconst 3, 1) := by decide +kernel
theorem dt_131 : decode method_2_code 131 = .ok (.aload_n 0, 1) := by decide +kernel
theorem dt_132 : decode method_2_code 132 = .ok (.iconst 3, 1) := by decide +kernel
theorem dt_133 : decode method_2_code 133 = .ok (.caload, 1) := by decide +kernel
theorem dt_134 : decode method_2_code 134 = .ok (.castore, 1) := by decide +kernel
theorem dt_135 : decode method_2_code 135 = .ok (.invokespecial 9, 3) := by decide +kernel
theorem dt_138 : decode method_2_code 138 = .ok (.areturn, 1) := by decide +kernel
theorem dt_139 : decode method_2_code 139 = .ok (.iload_n 1, 1) := by decide +kernel
theorem dt_140 : decode method_2_code 140 = .ok (.iconst 5, 1) := by decide +kernel
theorem dt_141 : decode method_2_code 141 = .ok (.if_icmp .ne 44, 3) := by decide +kernel
theorem dt_144 : decode method_2_code 144 = .ok (.new 7, 3) := by decide +kernel
theorem dt_147 : decode method_2_code 147 = .ok (.dup, 1) := by decide +kernel
theorem dt_148 : decode method_2_code 148 = .ok (.iconst 5, 1) := by decide +kernel
theorem dt_149 : decode method_2_code 149 = .ok (.newarray .char, 2) := by decide +kernel
theorem dt_151 : decode method_2_code 151 = .ok (.dup, 1) := by decide +kernel
theorem dt_152 : decode method_2_code 152 = .ok (.iconst 0, 1) := by decide +kernel
theorem dt_153 : decode method_2_code 153 = .ok (.aload_n 0, 1) := by decide +kernel
theorem dt_154 : decode method_2_code 154 = .ok (.iconst 0, 1) := by decide +kernel
theorem dt_155 : decode method_2_code 155 = .ok (.caload, 1) := by decide +kernel
theorem dt_156 : decode method_2_code 156 = .ok (.castore, 1) := by decide +kernel
theorem dt_157 : decode method_2_code 157 = .ok (.dup, 1) := by decide +kernel
theorem dt_158 : decode method_2_code 158 = .ok (.iconst 1, 1) := by decide +kernel
theorem dt_159 : decode method_2_code 159 = .ok (.aload_n 0, 1) := by decide +kernel
theorem dt_160 : decode method_2_code 160 = .ok (.iconst 1, 1) := by decide +kernel
theorem dt_161 : decode method_2_code 161 = .ok (.caload, 1) := by decide +kernel
theorem dt_162 : decode method_2_code 162 = .ok (.castore, 1) := by decide +kernel
theorem dt_163 : decode method_2_code 163 = .ok (.dup, 1) := by decide +kernel
theorem dt_164 : decode method_2_code 164 = .ok (.iconst 2, 1) := by decide +kernel
theorem dt_165 : decode method_2_code 165 = .ok (.aload_n 0, 1) := by decide +kernel
theorem dt_166 : decode method_2_code 166 = .ok (.iconst 2, 1) := by decide +kernel
theorem dt_167 : decode method_2_code 167 = .ok (.caload, 1) := by decide +kernel
theorem dt_168 : decode method_2_code 168 = .ok (.castore, 1) := by decide +kernel
theorem dt_169 : decode method_2_code 169 = .ok (.dup, 1) := by decide +kernel
theorem dt_170 : decode method_2_code 170 = .ok (.iconst 3, 1) := by decide +kernel
theorem dt_171 : decode method_2_code 171 = .ok (.aload_n 0, 1) := by decide +kernel
theorem dt_172 : decode method_2_code 172 = .ok (.iconst 3, 1) := by decide +kernel
theorem dt_173 : decode method_2_code 173 = .ok (.caload, 1) := by decide +kernel
theorem dt_174 : decode method_2_code 174 = .ok (.castore, 1) := by decide +kernel
theorem dt_175 : decode method_2_code 175 = .ok (.dup, 1) := by decide +kernel
theorem dt_176 : decode method_2_code 176 = .ok (.iconst 4, 1) := by decide +kernel
theorem dt_177 : decode method_2_code 177 = .ok (.aload_n 0, 1) := by decide +kernel
theorem dt_178 : decode method_2_code 178 = .ok (.iconst 4, 1) := by decide +kernel
theorem dt_179 : decode method_2_code 179 = .ok (.caload, 1) := by decide +kernel
theorem dt_180 : decode method_2_code 180 = .ok (.castore, 1) := by decide +kernel
theorem dt_181 : decode method_2_code 181 = .ok (.invokespecial 9, 3) := by decide +kernel
theorem dt_184 : decode method_2_code 184 = .ok (.areturn, 1) := by decide +kernel
theorem dt_185 : decode method_2_code 185 = .ok (.iload_n 1, 1) := by decide +kernel
theorem dt_186 : decode method_2_code 186 = .ok (.bipush 6, 2) := by decide +kernel
theorem dt_188 : decode method_2_code 188 = .ok (.if_icmp .ne 51, 3) := by decide +kernel
theorem dt_191 : decode method_2_code 191 = .ok (.new 7, 3) := by decide +kernel
theorem dt_194 : decode method_2_code 194 = .ok (.dup, 1) := by decide +kernel
theorem dt_195 : decode method_2_code 195 = .ok (.bipush 6, 2) := by decide +kernel
theorem dt_197 : decode method_2_code 197 = .ok (.newarray .char, 2) := by decide +kernel
theorem dt_199 : decode method_2_code 199 = .ok (.dup, 1) := by decide +kernel
theorem dt_200 : decode method_2_code 200 = .ok (.iconst 0, 1) := by decide +kernel
theorem dt_201 : decode method_2_code 201 = .ok (.aload_n 0, 1) := by decide +kernel
theorem dt_202 : decode method_2_code 202 = .ok (.iconst 0, 1) := by decide +kernel
theorem dt_203 : decode method_2_code 203 = .ok (.caload, 1) := by decide +kernel
theorem dt_204 : decode method_2_code 204 = .ok (.castore, 1) := by decide +kernel
theorem dt_205 : decode method_2_code 205 = .ok (.dup, 1) := by decide +kernel
theorem dt_206 : decode method_2_code 206 = .ok (.iconst 1, 1) := by decide +kernel
theorem dt_207 : decode method_2_code 207 = .ok (.aload_n 0, 1) := by decide +kernel
theorem dt_208 : decode method_2_code 208 = .ok (.iconst 1, 1) := by decide +kernel
theorem dt_209 : decode method_2_code 209 = .ok (.caload, 1) := by decide +kernel
theorem dt_210 : decode method_2_code 210 = .ok (.castore, 1) := by decide +kernel
theorem dt_211 : decode method_2_code 211 = .ok (.dup, 1) := by decide +kernel
theorem dt_212 : decode method_2_code 212 = .ok (.iconst 2, 1) := by decide +kernel
theorem dt_213 : decode method_2_code 213 = .ok (.aload_n 0, 1) := by decide +kernel
theorem dt_214 : decode method_2_code 214 = .ok (.iconst 2, 1) := by decide +kernel
theorem dt_215 : decode method_2_code 215 = .ok (.caload, 1) := by decide +kernel
theorem dt_216 : decode method_2_code 216 = .ok (.castore, 1) := by decide +kernel
theorem dt_217 : decode method_2_code 217 = .ok (.dup, 1) := by decide +kernel
theorem dt_218 : decode method_2_code 218 = .ok (.iconst 3, 1) := by decide +kernel
theorem dt_219 : decode method_2_code 219 = .ok (.aload_n 0, 1) := by decide +kernel
theorem dt_220 : decode method_2_code 220 = .ok (.iconst 3, 1) := by decide +kernel
theorem dt_221 : decode method_2_code 221 = .ok (.caload, 1) := by decide +kernel
theorem dt_222 : decode method_2_code 222 = .ok (.castore, 1) := by decide +kernel
theorem dt_223 : decode method_2_code 223 = .ok (.dup, 1) := by decide +kernel
theorem dt_224 : decode method_2_code 224 = .ok (.iconst 4, 1) := by decide +kernel
theorem dt_225 : decode method_2_code 225 = .ok (.aload_n 0, 1) := by decide +kernel
theorem dt_226 : decode method_2_code 226 = .ok (.iconst 4, 1) := by decide +kernel
theorem dt_227 : decode method_2_code 227 = .ok (.caload, 1) := by decide +kernel
theorem dt_228 : decode method_2_code 228 = .ok (.castore, 1) := by decide +kernel
theorem dt_229 : decode method_2_code 229 = .ok (.dup, 1) := by decide +kernel
theorem dt_230 : decode method_2_code 230 = .ok (.iconst 5, 1) := by decide +kernel
theorem dt_231 : decode method_2_code 231 = .ok (.aload_n 0, 1) := by decide +kernel
theorem dt_232 : decode method_2_code 232 = .ok (.iconst 5, 1) := by decide +kernel
theorem dt_233 : decode method_2_code 233 = .ok (.caload, 1) := by decide +kernel
theorem dt_234 : decode method_2_code 234 = .ok (.castore, 1) := by decide +kernel
theorem dt_235 : decode method_2_code 235 = .ok (.invokespecial 9, 3) := by decide +kernel
theorem dt_238 : decode method_2_code 238 = .ok (.areturn, 1) := by decide +kernel
theorem dt_239 : decode method_2_code 239 = .ok (.iload_n 1, 1) := by decide +kernel
theorem dt_240 : decode method_2_code 240 = .ok (.bipush 7, 2) := by decide +kernel
theorem dt_242 : decode method_2_code 242 = .ok (.if_icmp .ne 59, 3) := by decide +kernel
theorem dt_245 : decode method_2_code 245 = .ok (.new 7, 3) := by decide +kernel
theorem dt_248 : decode method_2_code 248 = .ok (.dup, 1) := by decide +kernel
theorem dt_249 : decode method_2_code 249 = .ok (.bipush 7, 2) := by decide +kernel
theorem dt_251 : decode method_2_code 251 = .ok (.newarray .char, 2) := by decide +kernel
theorem dt_253 : decode method_2_code 253 = .ok (.dup, 1) := by decide +kernel
theorem dt_254 : decode method_2_code 254 = .ok (.iconst 0, 1) := by decide +kernel
theorem dt_255 : decode method_2_code 255 = .ok (.aload_n 0, 1) := by decide +kernel
theorem dt_256 : decode method_2_code 256 = .ok (.iconst 0, 1) := by decide +kernel
theorem dt_257 : decode method_2_code 257 = .ok (.caload, 1) := by decide +kernel
theorem dt_258 : decode method_2_code 258 = .ok (.castore, 1) := by decide +kernel
theorem dt_259 : decode method_2_code 259 = .ok (.dup, 1) := by decide +kernel
theorem dt_260 : decode method_2_code 260 = .ok (.iconst 1, 1) := by decide +kernel
theorem dt_261 : decode method_2_code 261 = .ok (.aload_n 0, 1) := by decide +kernel
theorem dt_262 : decode method_2_code 262 = .ok (.iconst 1, 1) := by decide +kernel
theorem dt_263 : decode method_2_code 263 = .ok (.caload, 1) := by decide +kernel
theorem dt_264 : decode method_2_code 264 = .ok (.castore, 1) := by decide +kernel
theorem dt_265 : decode method_2_code 265 = .ok (.dup, 1) := by decide +kernel
theorem dt_266 : decode method_2_code 266 = .ok (.iconst 2, 1) := by decide +kernel
theorem dt_267 : decode method_2_code 267 = .ok (.aload_n 0, 1) := by decide +kernel
theorem dt_268 : decode method_2_code 268 = .ok (.iconst 2, 1) := by decide +kernel
theorem dt_269 : decode method_2_code 269 = .ok (.caload, 1) := by decide +kernel
theorem dt_270 : decode method_2_code 270 = .ok (.castore, 1) := by decide +kernel
theorem dt_271 : decode method_2_code 271 = .ok (.dup, 1) := by decide +kernel
theorem dt_272 : decode method_2_code 272 = .ok (.iconst 3, 1) := by decide +kernel
theorem dt_273 : decode method_2_code 273 = .ok (.aload_n 0, 1) := by decide +kernel
theorem dt_274 : decode method_2_code 274 = .ok (.iconst 3, 1) := by decide +kernel
theorem dt_275 : decode method_2_code 275 = .ok (.caload, 1) := by decide +kernel
theorem dt_276 : decode method_2_code 276 = .ok (.castore, 1) := by decide +kernel
theorem dt_277 : decode method_2_code 277 = .ok (.dup, 1) := by decide +kernel
theorem dt_278 : decode method_2_code 278 = .ok (.iconst 4, 1) := by decide +kernel
theorem dt_279 : decode method_2_code 279 = .ok (.aload_n 0, 1) := by decide +kernel
theorem dt_280 : decode method_2_code 280 = .ok (.iconst 4, 1) := by decide +kernel
theorem dt_281 : decode method_2_code 281 = .ok (.caload, 1) := by decide +kernel
theorem dt_282 : decode method_2_code 282 = .ok (.castore, 1) := by decide +kernel
theorem dt_283 : decode method_2_code 283 = .ok (.dup, 1) := by decide +kernel
theorem dt_284 : decode method_2_code 284 = .ok (.iconst 5, 1) := by decide +kernel
theorem dt_285 : decode method_2_code 285 = .ok (.aload_n 0, 1) := by decide +kernel
theorem dt_286 : decode method_2_code 286 = .ok (.iconst 5, 1) := by decide +kernel
theorem dt_287 : decode method_2_code 287 = .ok (.caload, 1) := by decide +kernel
theorem dt_288 : decode method_2_code 288 = .ok (.castore, 1) := by decide +kernel
theorem dt_289 : decode method_2_code 289 = .ok (.dup, 1) := by decide +kernel
theorem dt_290 : decode method_2_code 290 = .ok (.bipush 6, 2) := by decide +kernel
theorem dt_292 : decode method_2_code 292 = .ok (.aload_n 0, 1) := by decide +kernel
theorem dt_293 : decode method_2_code 293 = .ok (.bipush 6, 2) := by decide +kernel
theorem dt_295 : decode method_2_code 295 = .ok (.caload, 1) := by decide +kernel
theorem dt_296 : decode method_2_code 296 = .ok (.castore, 1) := by decide +kernel
theorem dt_297 : decode method_2_code 297 = .ok (.invokespecial 9, 3) := by decide +kernel
theorem dt_300 : decode method_2_code 300 = .ok (.areturn, 1) := by decide +kernel
theorem dt_301 : decode method_2_code 301 = .ok (.iload_n 1, 1) := by decide +kernel
theorem dt_302 : decode method_2_code 302 = .ok (.bipush 8, 2) := by decide +kernel
theorem dt_304 : decode method_2_code 304 = .ok (.if_icmp .ne 67, 3) := by decide +kernel
theorem dt_307 : decode method_2_code 307 = .ok (.new 7, 3) := by decide +kernel
theorem dt_310 : decode method_2_code 310 = .ok (.dup, 1) := by decide +kernel
theorem dt_311 : decode method_2_code 311 = .ok (.bipush 8, 2) := by decide +kernel
theorem dt_313 : decode method_2_code 313 = .ok (.newarray .char, 2) := by decide +kernel
theorem dt_315 : decode method_2_code 315 = .ok (.dup, 1) := by decide +kernel
theorem dt_316 : decode method_2_code 316 = .ok (.iconst 0, 1) := by decide +kernel
theorem dt_317 : decode method_2_code 317 = .ok (.aload_n 0, 1) := by decide +kernel
theorem dt_318 : decode method_2_code 318 = .ok (.iconst 0, 1) := by decide +kernel
theorem dt_319 : decode method_2_code 319 = .ok (.caload, 1) := by decide +kernel
theorem dt_320 : decode method_2_code 320 = .ok (.castore, 1) := by decide +kernel
theorem dt_321 : decode method_2_code 321 = .ok (.dup, 1) := by decide +kernel
theorem dt_322 : decode method_2_code 322 = .ok (.iconst 1, 1) := by decide +kernel
theorem dt_323 : decode method_2_code 323 = .ok (.aload_n 0, 1) := by decide +kernel
theorem dt_324 : decode method_2_code 324 = .ok (.iconst 1, 1) := by decide +kernel
theorem dt_325 : decode method_2_code 325 = .ok (.caload, 1) := by decide +kernel
theorem dt_326 : decode method_2_code 326 = .ok (.castore, 1) := by decide +kernel
theorem dt_327 : decode method_2_code 327 = .ok (.dup, 1) := by decide +kernel
theorem dt_328 : decode method_2_code 328 = .ok (.iconst 2, 1) := by decide +kernel
theorem dt_329 : decode method_2_code 329 = .ok (.aload_n 0, 1) := by decide +kernel
theorem dt_330 : decode method_2_code 330 = .ok (.iconst 2, 1) := by decide +kernel
theorem dt_331 : decode method_2_code 331 = .ok (.caload, 1) := by decide +kernel
theorem dt_332 : decode method_2_code 332 = .ok (.castore, 1) := by decide +kernel
theorem dt_333 : decode method_2_code 333 = .ok (.dup, 1) := by decide +kernel
theorem dt_334 : decode method_2_code 334 = .ok (.iconst 3, 1) := by decide +kernel
theorem dt_335 : decode method_2_code 335 = .ok (.aload_n 0, 1) := by decide +kernel
theorem dt_336 : decode method_2_code 336 = .ok (.iconst 3, 1) := by decide +kernel
theorem dt_337 : decode method_2_code 337 = .ok (.caload, 1) := by decide +kernel
theorem dt_338 : decode method_2_code 338 = .ok (.castore, 1) := by decide +kernel
theorem dt_339 : decode method_2_code 339 = .ok (.dup, 1) := by decide +kernel
theorem dt_340 : decode method_2_code 340 = .ok (.iconst 4, 1) := by decide +kernel
theorem dt_341 : decode method_2_code 341 = .ok (.aload_n 0, 1) := by decide +kernel
theorem dt_342 : decode method_2_code 342 = .ok (.iconst 4, 1) := by decide +kernel
theorem dt_343 : decode method_2_code 343 = .ok (.caload, 1) := by decide +kernel
theorem dt_344 : decode method_2_code 344 = .ok (.castore, 1) := by decide +kernel
theorem dt_345 : decode method_2_code 345 = .ok (.dup, 1) := by decide +kernel
theorem dt_346 : decode method_2_code 346 = .ok (.iconst 5, 1) := by decide +kernel
theorem dt_347 : decode method_2_code 347 = .ok (.aload_n 0, 1) := by decide +kernel
theorem dt_348 : decode method_2_code 348 = .ok (.iconst 5, 1) := by decide +kernel
theorem dt_349 : decode method_2_code 349 = .ok (.caload, 1) := by decide +kernel
theorem dt_350 : decode method_2_code 350 = .ok (.castore, 1) := by decide +kernel
theorem dt_351 : decode method_2_code 351 = .ok (.dup, 1) := by decide +kernel
theorem dt_352 : decode method_2_code 352 = .ok (.bipush 6, 2) := by decide +kernel
theorem dt_354 : decode method_2_code 354 = .ok (.aload_n 0, 1) := by decide +kernel
theorem dt_355 : decode method_2_code 355 = .ok (.bipush 6, 2) := by decide +kernel
theorem dt_357 : decode method_2_code 357 = .ok (.caload, 1) := by decide +kernel
theorem dt_358 : decode method_2_code 358 = .ok (.castore, 1) := by decide +kernel
theorem dt_359 : decode method_2_code 359 = .ok (.dup, 1) := by decide +kernel
theorem dt_360 : decode method_2_code 360 = .ok (.bipush 7, 2) := by decide +kernel
theorem dt_362 : decode method_2_code 362 = .ok (.aload_n 0, 1) := by decide +kernel
theorem dt_363 : decode method_2_code 363 = .ok (.bipush 7, 2) := by decide +kernel
theorem dt_365 : decode method_2_code 365 = .ok (.caload, 1) := by decide +kernel
theorem dt_366 : decode method_2_code 366 = .ok (.castore, 1) := by decide +kernel
theorem dt_367 : decode method_2_code 367 = .ok (.invokespecial 9, 3) := by decide +kernel
theorem dt_370 : decode method_2_code 370 = .ok (.areturn, 1) := by decide +kernel
theorem dt_371 : decode method_2_code 371 = .ok (.new 7, 3) := by decide +kernel
theorem dt_374 : decode method_2_code 374 = .ok (.dup, 1) := by decide +kernel
theorem dt_375 : decode method_2_code 375 = .ok (.bipush 9, 2) := by decide +kernel
theorem dt_377 : decode method_2_code 377 = .ok (.newarray .char, 2) := by decide +kernel
theorem dt_379 : decode method_2_code 379 = .ok (.dup, 1) := by decide +kernel
theorem dt_380 : decode method_2_code 380 = .ok (.iconst 0, 1) := by decide +kernel
theorem dt_381 : decode method_2_code 381 = .ok (.aload_n 0, 1) := by decide +kernel
theorem dt_382 : decode method_2_code 382 = .ok (.iconst 0, 1) := by decide +kernel
theorem dt_383 : decode method_2_code 383 = .ok (.caload, 1) := by decide +kernel
theorem dt_384 : decode method_2_code 384 = .ok (.castore, 1) := by decide +kernel
theorem dt_385 : decode method_2_code 385 = .ok (.dup, 1) := by decide +kernel
theorem dt_386 : decode method_2_code 386 = .ok (.iconst 1, 1) := by decide +kernel
theorem dt_387 : decode method_2_code 387 = .ok (.aload_n 0, 1) := by decide +kernel
theorem dt_388 : decode method_2_code 388 = .ok (.iconst 1, 1) := by decide +kernel
theorem dt_389 : decode method_2_code 389 = .ok (.caload, 1) := by decide +kernel
theorem dt_390 : decode method_2_code 390 = .ok (.castore, 1) := by decide +kernel
theorem dt_391 : decode method_2_code 391 = .ok (.dup, 1) := by decide +kernel
theorem dt_392 : decode method_2_code 392 = .ok (.iconst 2, 1) := by decide +kernel
theorem dt_393 : decode method_2_code 393 = .ok (.aload_n 0, 1) := by decide +kernel
theorem dt_394 : decode method_2_code 394 = .ok (.iconst 2, 1) := by decide +kernel
theorem dt_395 : decode method_2_code 395 = .ok (.caload, 1) := by decide +kernel
theorem dt_396 : decode method_2_code 396 = .ok (.castore, 1) := by decide +kernel
theorem dt_397 : decode method_2_code 397 = .ok (.dup, 1) := by decide +kernel
theorem dt_398 : decode method_2_code 398 = .ok (.iconst 3, 1) := by decide +kernel
theorem dt_399 : decode method_2_code 399 = .ok (.aload_n 0, 1) := by decide +kernel
theorem dt_400 : decode method_2_code 400 = .ok (.iconst 3, 1) := by decide +kernel
theorem dt_401 : decode method_2_code 401 = .ok (.caload, 1) := by decide +kernel
theorem dt_402 : decode method_2_code 402 = .ok (.castore, 1) := by decide +kernel
theorem dt_403 : decode method_2_code 403 = .ok (.dup, 1) := by decide +kernel
theorem dt_404 : decode method_2_code 404 = .ok (.iconst 4, 1) := by decide +kernel
theorem dt_405 : decode method_2_code 405 = .ok (.aload_n 0, 1) := by decide +kernel
theorem dt_406 : decode method_2_code 406 = .ok (.iconst 4, 1) := by decide +kernel
theorem dt_407 : decode method_2_code 407 = .ok (.caload, 1) := by decide +kernel
theorem dt_408 : decode method_2_code 408 = .ok (.castore, 1) := by decide +kernel
theorem dt_409 : decode method_2_code 409 = .ok (.dup, 1) := by decide +kernel
theorem dt_410 : decode method_2_code 410 = .ok (.iconst 5, 1) := by decide +kernel
theorem dt_411 : decode method_2_code 411 = .ok (.aload_n 0, 1) := by decide +kernel
theorem dt_412 : decode method_2_code 412 = .ok (.iconst 5, 1) := by decide +kernel
theorem dt_413 : decode method_2_code 413 = .ok (.caload, 1) := by decide +kernel
theorem dt_414 : decode method_2_code 414 = .ok (.castore, 1) := by decide +kernel
theorem dt_415 : decode method_2_code 415 = .ok (.dup, 1) := by decide +kernel
theorem dt_416 : decode method_2_code 416 = .ok (.bipush 6, 2) := by decide +kernel
theorem dt_418 : decode method_2_code 418 = .ok (.aload_n 0, 1) := by decide +kernel
theorem dt_419 : decode method_2_code 419 = .ok (.bipush 6, 2) := by decide +kernel
theorem dt_421 : decode method_2_code 421 = .ok (.caload, 1) := by decide +kernel
theorem dt_422 : decode method_2_code 422 = .ok (.castore, 1) := by decide +kernel
theorem dt_423 : decode method_2_code 423 = .ok (.dup, 1) := by decide +kernel
theorem dt_424 : decode method_2_code 424 = .ok (.bipush 7, 2) := by decide +kernel
theorem dt_426 : decode method_2_code 426 = .ok (.aload_n 0, 1) := by decide +kernel
theorem dt_427 : decode method_2_code 427 = .ok (.bipush 7, 2) := by decide +kernel
theorem dt_429 : decode method_2_code 429 = .ok (.caload, 1) := by decide +kernel
theorem dt_430 : decode method_2_code 430 = .ok (.castore, 1) := by decide +kernel
theorem dt_431 : decode method_2_code 431 = .ok (.dup, 1) := by decide +kernel
theorem dt_432 : decode method_2_code 432 = .ok (.bipush 8, 2) := by decide +kernel
theorem dt_434 : decode method_2_code 434 = .ok (.aload_n 0, 1) := by decide +kernel
theorem dt_435 : decode method_2_code 435 = .ok (.bipush 8, 2) := by decide +kernel
theorem dt_437 : decode method_2_code 437 = .ok (.caload, 1) := by decide +kernel
theorem dt_438 : decode method_2_code 438 = .ok (.castore, 1) := by decide +kernel
theorem dt_439 : decode method_2_code 439 = .ok (.invokespecial 9, 3) := by decide +kernel
theorem dt_442 : decode method_2_code 442 = .ok (.areturn, 1) := by decide +kernel
theorem pdt_0 : parseMethodDescriptor "([C)V" = some ⟨[(.array .char)], none⟩ := by decide +kernel
theorem pnt : plainName "com/example/rootward/rootward/model/PolicyNamedPinLaw" = true := by first | (simp [plainName, overriddenIn]; done) | decide +kernel
theorem eft (m : MethodId) (x0 : Addr) (x1 : Int32) : entryFrame m #[(.ref x0), (.int x1)] 2 = mkF m 0 #[.val (.ref x0), .val (.int x1)] [] := by first | (simp [entryFrame, mkF, argsToLocals, Value.category, maxLocals]; done) | rfl
def Qt (Z : State) (a : Addr) (ka : ClassId) (n : Int32) (c0 : Int32) (c1 : Int32) (c2 : Int32) (c3 : Int32) (c4 : Int32) (c5 : Int32) (c6 : Int32) (c7 : Int32) (c8 : Int32) (zc : Int32) (h0 : Heap) (n0 : Nat) (v : Option Value) (vm : Vm) (h : Heap) (L : List Loc) : Prop := ∃ (x t : Addr) (kt : ClassId) (N : Int32) (vs : List Value) (cs : List Int32), v = some (.ref x) ∧ Fr n0 L ∧ Keep h0 h [] ∧ n0 ≤ x ∧ h0.size ≤ x ∧ Exa Z h x "java/lang/String" ∧ Fld Z h x "java/lang/String" "coder" "B" (.int (0 : Int32)) ∧ Fld Z h x "java/lang/String" "value" "[B" (.ref t) ∧ Arv Z h t kt .byte N vs (.int (0 : Int32)) ∧ StrChars.Road.CodA cs 0 N vs ∧ (∀ c ∈ cs, ¬ c < 0 ∧ ¬ (65535 : Int32) < c) ∧ cs.length ≤ 4000 ∧ IB Z vm [""]
set_option maxRecDepth 65536 in
set_option maxHeartbeats 40000000 in
theorem rmt (l : Launch) (Z : State) (a0 : Array Value) (hw : ∀ d ∈ tables_1, d.before a0 Z = true) (ws : List Jvm.Cond) (a : Addr) (ka : ClassId) (n : Int32) (c0 : Int32) (c1 : Int32) (c2 : Int32) (c3 : Int32) (c4 : Int32) (c5 : Int32) (c6 : Int32) (c7 : Int32) (c8 : Int32) (zc : Int32) (h0 : Heap) (n0 : Nat) (O0 : Old Z n0 h0) (V_a : Arv Z h0 a ka .char (9 : Int32) [(.int c0), (.int c1), (.int c2), (.int c3), (.int c4), (.int c5), (.int c6), (.int c7), (.int c8)] (.int (0 : Int32))) (hn : ¬ n < 0 ∧ n < 10) (hc0 : ¬ c0 < 0 ∧ ¬ (255 : Int32) < c0) (hc1 : ¬ c1 < 0 ∧ ¬ (255 : Int32) < c1) (hc2 : ¬ c2 < 0 ∧ ¬ (255 : Int32) < c2) (hc3 : ¬ c3 < 0 ∧ ¬ (255 : Int32) < c3) (hc4 : ¬ c4 < 0 ∧ ¬ (255 : Int32) < c4) (hc5 : ¬ c5 < 0 ∧ ¬ (255 : Int32) < c5) (hc6 : ¬ c6 < 0 ∧ ¬ (255 : Int32) < c6) (hc7 : ¬ c7 < 0 ∧ ¬ (255 : Int32) < c7) (hc8 : ¬ c8 < 0 ∧ ¬ (255 : Int32) < c8) (SC : Sta Z Z.heap "java/lang/String" "COMPACT_STRINGS" "Z" (.int zc)) (hcs : ¬ zc = 0) (hE7 : Jvm.Lit.constHeld Z "java/lang/String" 7) (hcw : Jvm.Lit.compactW.before a0 Z = true) :
    MetFree l (⟨"com/example/rootward/rootward/model/PolicyNamedPinLaw", "take", "([CI)Ljava/lang/String;"⟩ : MethodName) (head1 (Jvm.Cond.code (⟨"com/example/rootward/rootward/model/PolicyNamedPinLaw", "take", "([CI)Ljava/lang/String;"⟩ : MethodName) method_2_code 2 (some (.object "java/lang/String")) :: ws) ({ frames := 4, cells := 4, slots := 22, locals := 66 } : Room)) (fun A_ U_ => A_ = #[(.ref a), (.int n)] ∧ Z.Warmed39 U_.vm ∧ U_.heap = h0 ∧ IB Z U_.vm []) (fun _ _ _ _ _ => True) (fun _ U o U' => ∃ v L, o = .returned v ∧ Qt Z a ka n c0 c1 c2 c3 c4 c5 c6 c7 c8 zc h0 n0 v U'.vm U'.heap L ∧ ReturnedEndW U o U' L ({ frames := 4, cells := 4, slots := 22, locals := 66 } : Room).cells ({ frames := 4, cells := 4, slots := 22, locals := 66 } : Room).slots) := by
  refine MetFree.of_bodySF (plainFor_of_name pnt) hisR ?_
  intro p e s m args below meth cd s₁ Bd hml0 hP hK
  obtain ⟨rfl, hZ, hh, I0⟩ := hP
  have hkp : ∀ (b : Addr) (cl : Cell), Z.heap[b]? = some cl → s.heap[b]? = some cl := fun b cl q => by rw [hh]; exact O0.2.2 b cl q
  have hS0 : s.Since s.vm h0.size := State.WarmedH.since (State.WarmedH.refl s) _
  have hk0 : h0.size ≤ h0.size := Nat.le_refl _
  have hx := Bd.exec
  have hby := Bd.bytes
  have hlk : meth.locks = false := BodyLoose.notSynchronized Bd
  have hml : cd.maxLocals = 2 := hml0
  have hown : s.vm.findClass "com/example/rootward/rootward/model/PolicyNamedPinLaw" = some m.cls := findClass_of_methodNamed Bd.named
  have hnm := (name_of_methodNamed Bd.named Bd.method).1
  have X0 : Stand p l e ({ frames := 4, cells := 4, slots := 22, locals := 66 } : Room) s m #[(.ref a), (.int n)] below meth cd s₁ [] 0 0 := Stand.of_body Bd
  have e0 : s₁.heap = h0 := by rw [← hh, Bd.state]; rfl
  have N0 := Fr.nil n0
  have K0 : Keep h0 h0 [] := Keep.refl _ _
  have wS : ∀ a ∈ Bundle.stringAtoms, a.before a0 Z = true := fun d hd => hw d ((by decide +kernel : ∀ d ∈ Bundle.stringAtoms, d ∈ tables_1) d hd)
  have hws : ∀ d ∈ StrChars.Road.words, d.before a0 Z = true := fun d hd => hw d ((by decide +kernel : ∀ d ∈ StrChars.Road.words, d ∈ tables_1) d hd)
  have G : GoV p e below s 4 22 (Qt Z a ka n c0 c1 c2 c3 c4 c5 c6 c7 c8 zc h0 n0) (s₁.setTop (mkF m 0 #[.val (.ref a), .val (.int n)] [])) := by
    show GoV p e below s _ _ _ (s₁.setTop (mkF m 0 #[.val (.ref a), .val (.int n)] []))
    rcases own_10 hn with rfl | rfl | rfl | rfl | rfl | rfl | rfl | rfl | rfl | rfl
    · show GoV p e below s _ _ _ (s₁.setTop (mkF m 0 #[.val (.ref a), .val (.int (0 : Int32))] []))
      refine GoV.st (fun _ kq_ => XS.iloadN X0.here hx rfl (hb hby dt_0) rfl kq_) ?_
      show GoV p e below s _ _ _ (s₁.setTop (mkF m 1 #[.val (.ref a), .val (.int (0 : Int32))] [(.int (0 : Int32))]))
      refine GoV.st (fun _ kq_ => XS.ifNo X0.here hx rfl (hb hby dt_1) rfl (by decide) kq_) ?_
      show GoV p e below s _ _ _ (s₁.setTop (mkF m 4 #[.val (.ref a), .val (.int (0 : Int32))] []))
      obtain ⟨T1, h1, X1, e1, E1, A1, D1, -, st1⟩ := newO X0 hx hZ hown (own_w hw 6 rfl) (own_w hw 7 rfl) (own_w hw 8 rfl) e0 (g := (mkF m 4 #[.val (.ref a), .val (.int (0 : Int32))] [])) rfl (hb hby dt_4) (by decide) (by decide)
      obtain ⟨a1, g1⟩ : ∃ z, z = h0.size := ⟨_, rfl⟩
      rw [← g1] at A1 D1 st1
      have g_a1 : n0 ≤ a1 := Nat.le_trans (own_old O0) (Nat.le_of_eq g1.symm)
      have sz_a1 : h0.size ≤ a1 := Nat.le_trans K0.1 (Nat.le_of_eq g1.symm)
      have ne_a_a1 : a ≠ a1 := by rw [g1]; exact Nat.ne_of_lt V_a.lt
      have V_a := V_a.ext E1
      have hk1 := Nat.le_trans hk0 E1.1
      have O1 := O0.ext E1
      have K1 := K0.ext E1
      have E_a1 : Exa Z h1 a1 "java/lang/String" := A1
      have F_a1_coder : Fld Z h1 a1 "java/lang/String" "coder" "B" (.int (0 : Int32)) := D1 (Or.inr (own_w hw 32 rfl)) (ty := .byte) (by decide)
      have F_a1_value : Fld Z h1 a1 "java/lang/String" "value" "[B" .null := D1 (Or.inr (own_w hw 34 rfl)) (ty := (.array .byte)) (by decide)
      refine GoV.st st1 ?_
      show GoV p e below s _ _ _ (T1.setTop (mkF m 7 #[.val (.ref a), .val (.int (0 : Int32))] [(.ref a1)]))
      refine GoV.st (fun _ kq_ => XS.dup X1.here hx rfl (hb hby dt_7) rfl rfl kq_) ?_
      show GoV p e below s _ _ _ (T1.setTop (mkF m 8 #[.val (.ref a), .val (.int (0 : Int32))] [(.ref a1), (.ref a1)]))
      refine GoV.st (fun _ kq_ => XS.iconst X1.here hx rfl (hb hby dt_8) kq_) ?_
      show GoV p e below s _ _ _ (T1.setTop (mkF m 9 #[.val (.ref a), .val (.int (0 : Int32))] [(.int (0 : Int32)), (.ref a1), (.ref a1)]))
      obtain ⟨T2, h2, k2, X2, e2, E2, A2, st2⟩ := newP X1 hx hZ (own_w hw 0 rfl) e1 (g := (mkF m 9 #[.val (.ref a), .val (.int (0 : Int32))] [(.int (0 : Int32)), (.ref a1), (.ref a1)])) rfl (hb hby dt_9) rfl (by decide) (cap := 0) (by decide) (by decide) (by decide) (by decide)
      obtain ⟨b2, g2⟩ : ∃ z, z = h1.size := ⟨_, rfl⟩
      rw [← g2] at A2 st2
      have g_b2 : n0 ≤ b2 := Nat.le_trans (own_old O1) (Nat.le_of_eq g2.symm)
      have sz_b2 : h0.size ≤ b2 := Nat.le_trans K1.1 (Nat.le_of_eq g2.symm)
      have ne_a_b2 : a ≠ b2 := by rw [g2]; exact Nat.ne_of_lt V_a.lt
      have ne_a1_b2 : a1 ≠ b2 := by rw [g2]; exact Nat.ne_of_lt E_a1.lt
      have V_a := V_a.ext E2
      have E_a1 := E_a1.ext E2
      have F_a1_coder := F_a1_coder.ext E2
      have F_a1_value := F_a1_value.ext E2
      have hk2 := Nat.le_trans hk1 E2.1
      have O2 := O1.ext E2
      have K2 := K1.ext E2
      have V_b2 : Arv Z h2 b2 k2 .char (0 : Int32) [] (.int (0 : Int32)) := (Arv.new A2 (by decide)).pad (pad_rep [] (.int (0 : Int32)) 0)
      refine GoV.st st2 ?_
      show GoV p e below s _ _ _ (T2.setTop (mkF m 11 #[.val (.ref a), .val (.int (0 : Int32))] [(.ref b2), (.ref a1), (.ref a1)]))
      obtain ⟨_, _, ⟨T3, L3, k3, n3⟩, -, X3, hSn3, gr3, ⟨Lc3, hQ3, l3, y3, z3⟩, st3⟩ := X2.specialBackS hx (y := (⟨"java/lang/String", "<init>", "([C)V"⟩ : MethodName)) rfl hown (mvT hZ (own_w hw 9 rfl)) (mvT hZ (own_w hw 10 rfl)) (mvT hZ (own_w hw 11 rfl)) (by decide) (own_backIB (W := 1) (rme l Z a0 hw [] a1 b2 k2 h2 n0 O2 E_a1 F_a1_coder F_a1_value V_b2 g_a1 (Ne.symm ne_a1_b2) hE7 hcw) hZ I0 (own_w hw 11 rfl) (own_w hw 8 rfl) (by decide) (by decide)) (g := (mkF m 11 #[.val (.ref a), .val (.int (0 : Int32))] [(.ref b2), (.ref a1), (.ref a1)])) rfl (by rw [hml]; rfl) (Steps.refl _) (a := a1) (argsL := [(.ref b2)]) (rest := [(.ref a1)]) (lenOf pdt_0 rfl) rfl (by show 2 * 0 + _ ≤ _; exact Nat.le_of_eq rfl) (hb hby dt_11) (fun _ _ => ⟨rfl, e2, (by decide : 2 + 2 ≤ _), (by decide : 4 + 4 ≤ _)⟩)
      dsimp only [Pt.U, Pt.locs, Pt.cells, Pt.slots] at X3 l3 y3 z3 st3 hQ3
      subst y3 z3
      dsimp only [Pt.U, Pt.locs, Pt.cells, Pt.slots] at hSn3 gr3
      obtain ⟨X3, hS3, hZ3, hown3⟩ := rebS (vm0 := s.vm) hS0 (by rw [e2]; exact hk2) X3 hSn3 gr3 hZ hown
      have hk3 : T3.heap.size ≤ T3.heap.size := Nat.le_refl _
      obtain ⟨rfl, Nc3, Kc3, ub3, kb3, NE, NC, NV, NB, I3⟩ := hQ3
      have N3 : Fr n0 L3 := by rw [l3]; exact Fr.app N0 Nc3
      have V_a := V_a.keep Kc3 (ninS ne_a_a1 nin0)
      have V_b2 := V_b2.keep Kc3 (ninS (Ne.symm ne_a1_b2) nin0)
      have O3 := O2.keep Kc3 (allS g_a1 all0)
      have K3 := K2.trans Kc3 (allS (Or.inr sz_a1) all0)
      have E_a1 : Exa Z T3.heap a1 "java/lang/String" := NE
      have F_a1_coder : Fld Z T3.heap a1 "java/lang/String" "coder" "B" (.int (0 : Int32)) := NC
      have F_a1_value : Fld Z T3.heap a1 "java/lang/String" "value" "[B" (.ref ub3) := NV
      have V_ub3 : Arv Z T3.heap ub3 kb3 .byte (0 : Int32) [] (.int (0 : Int32)) := NB
      refine GoV.tr st3 ?_
      show GoV p e below s _ _ _ (T3.setTop (mkF m 14 #[.val (.ref a), .val (.int (0 : Int32))] [(.ref a1)]))
      exact GoV.ret (vm1 := T3.vm) X3 hlk hS3 (by exact hk3) (some (.ref a1)) (fun h => by rw [Bd.returns] at h; cases h) (by exact ⟨a1, ub3, _, _, _, [], rfl, N3, K3, g_a1, sz_a1, E_a1, F_a1_coder, F_a1_value, V_ub3, Or.inl ⟨rfl, by decide, rfl, by decide⟩, by decide, by decide, own_ibW (vm0 := T3.vm) I3 X3⟩) (by decide) (by decide) (fun fs hr => retOut X3 hx Bd.returns rfl (Or.inr (Or.inr (Or.inr (Or.inr ⟨rfl, rfl, rfl⟩)))) (hb hby dt_14) hr)
    · show GoV p e below s _ _ _ (s₁.setTop (mkF m 0 #[.val (.ref a), .val (.int (1 : Int32))] []))
      refine GoV.st (fun _ kq_ => XS.iloadN X0.here hx rfl (hb hby dt_0) rfl kq_) ?_
      show GoV p e below s _ _ _ (s₁.setTop (mkF m 1 #[.val (.ref a), .val (.int (1 : Int32))] [(.int (1 : Int32))]))
      refine GoV.st (fun _ kq_ => XS.ifYes X0.here hx rfl (pc0 := 1) (pc' := 15) rfl (hb hby dt_1) rfl (by decide) (by decide) (by decide) kq_) ?_
      show GoV p e below s _ _ _ (s₁.setTop (mkF m 15 #[.val (.ref a), .val (.int (1 : Int32))] []))
      refine GoV.st (fun _ kq_ => XS.iloadN X0.here hx rfl (hb hby dt_15) rfl kq_) ?_
      show GoV p e below s _ _ _ (s₁.setTop (mkF m 16 #[.val (.ref a), .val (.int (1 : Int32))] [(.int (1 : Int32))]))
      refine GoV.st (fun _ kq_ => XS.iconst X0.here hx rfl (hb hby dt_16) kq_) ?_
      show GoV p e below s _ _ _ (s₁.setTop (mkF m 17 #[.val (.ref a), .val (.int (1 : Int32))] [(.int (1 : Int32)), (.int (1 : Int32))]))
      refine GoV.st (fun _ kq_ => XS.icmpNo X0.here hx rfl (hb hby dt_17) rfl (by decide) kq_) ?_
      show GoV p e below s _ _ _ (s₁.setTop (mkF m 20 #[.val (.ref a), .val (.int (1 : Int32))] []))
      obtain ⟨T4, h4, X4, e4, E4, A4, D4, -, st4⟩ := newO X0 hx hZ hown (own_w hw 6 rfl) (own_w hw 7 rfl) (own_w hw 8 rfl) e0 (g := (mkF m 20 #[.val (.ref a), .val (.int (1 : Int32))] [])) rfl (hb hby dt_20) (by decide) (by decide)
      obtain ⟨a4, g4⟩ : ∃ z, z = h0.size := ⟨_, rfl⟩
      rw [← g4] at A4 D4 st4
      have g_a4 : n0 ≤ a4 := Nat.le_trans (own_old O0) (Nat.le_of_eq g4.symm)
      have sz_a4 : h0.size ≤ a4 := Nat.le_trans K0.1 (Nat.le_of_eq g4.symm)
      have ne_a_a4 : a ≠ a4 := by rw [g4]; exact Nat.ne_of_lt V_a.lt
      have V_a := V_a.ext E4
      have hk4 := Nat.le_trans hk0 E4.1
      have O4 := O0.ext E4
      have K4 := K0.ext E4
      have E_a4 : Exa Z h4 a4 "java/lang/String" := A4
      have F_a4_coder : Fld Z h4 a4 "java/lang/String" "coder" "B" (.int (0 : Int32)) := D4 (Or.inr (own_w hw 32 rfl)) (ty := .byte) (by decide)
      have F_a4_value : Fld Z h4 a4 "java/lang/String" "value" "[B" .null := D4 (Or.inr (own_w hw 34 rfl)) (ty := (.array .byte)) (by decide)
      refine GoV.st st4 ?_
      show GoV p e below s _ _ _ (T4.setTop (mkF m 23 #[.val (.ref a), .val (.int (1 : Int32))] [(.ref a4)]))
      refine GoV.st (fun _ kq_ => XS.dup X4.here hx rfl (hb hby dt_23) rfl rfl kq_) ?_
      show GoV p e below s _ _ _ (T4.setTop (mkF m 24 #[.val (.ref a), .val (.int (1 : Int32))] [(.ref a4), (.ref a4)]))
      refine GoV.st (fun _ kq_ => XS.iconst X4.here hx rfl (hb hby dt_24) kq_) ?_
      show GoV p e below s _ _ _ (T4.setTop (mkF m 25 #[.val (.ref a), .val (.int (1 : Int32))] [(.int (1 : Int32)), (.ref a4), (.ref a4)]))
      obtain ⟨T5, h5, k5, X5, e5, E5, A5, st5⟩ := newP X4 hx hZ (own_w hw 0 rfl) e4 (g := (mkF m 25 #[.val (.ref a), .val (.int (1 : Int32))] [(.int (1 : Int32)), (.ref a4), (.ref a4)])) rfl (hb hby dt_25) rfl (by decide) (cap := 1) (by decide) (by decide) (by decide) (by decide)
      obtain ⟨b5, g5⟩ : ∃ z, z = h4.size := ⟨_, rfl⟩
      rw [← g5] at A5 st5
      have g_b5 : n0 ≤ b5 := Nat.le_trans (own_old O4) (Nat.le_of_eq g5.symm)
      have sz_b5 : h0.size ≤ b5 := Nat.le_trans K4.1 (Nat.le_of_eq g5.symm)
      have ne_a_b5 : a ≠ b5 := by rw [g5]; exact Nat.ne_of_lt V_a.lt
      have ne_a4_b5 : a4 ≠ b5 := by rw [g5]; exact Nat.ne_of_lt E_a4.lt
      have V_a := V_a.ext E5
      have E_a4 := E_a4.ext E5
      have F_a4_coder := F_a4_coder.ext E5
      have F_a4_value := F_a4_value.ext E5
      have hk5 := Nat.le_trans hk4 E5.1
      have O5 := O4.ext E5
      have K5 := K4.ext E5
      have V_b5 : Arv Z h5 b5 k5 .char (1 : Int32) [(.int (0 : Int32))] (.int (0 : Int32)) := (Arv.new A5 (by decide)).pad (pad_rep [] (.int (0 : Int32)) 1)
      refine GoV.st st5 ?_
      show GoV p e below s _ _ _ (T5.setTop (mkF m 27 #[.val (.ref a), .val (.int (1 : Int32))] [(.ref b5), (.ref a4), (.ref a4)]))
      refine GoV.st (fun _ kq_ => XS.dup X5.here hx rfl (hb hby dt_27) rfl rfl kq_) ?_
      show GoV p e below s _ _ _ (T5.setTop (mkF m 28 #[.val (.ref a), .val (.int (1 : Int32))] [(.ref b5), (.ref b5), (.ref a4), (.ref a4)]))
      refine GoV.st (fun _ kq_ => XS.iconst X5.here hx rfl (hb hby dt_28) kq_) ?_
      show GoV p e below s _ _ _ (T5.setTop (mkF m 29 #[.val (.ref a), .val (.int (1 : Int32))] [(.int (0 : Int32)), (.ref b5), (.ref b5), (.ref a4), (.ref a4)]))
      refine GoV.st (fun _ kq_ => XS.aloadN X5.here hx rfl (hb hby dt_29) rfl rfl kq_) ?_
      show GoV p e below s _ _ _ (T5.setTop (mkF m 30 #[.val (.ref a), .val (.int (1 : Int32))] [(.ref a), (.int (0 : Int32)), (.ref b5), (.ref b5), (.ref a4), (.ref a4)]))
      refine GoV.st (fun _ kq_ => XS.iconst X5.here hx rfl (hb hby dt_30) kq_) ?_
      show GoV p e below s _ _ _ (T5.setTop (mkF m 31 #[.val (.ref a), .val (.int (1 : Int32))] [(.int (0 : Int32)), (.ref a), (.int (0 : Int32)), (.ref b5), (.ref b5), (.ref a4), (.ref a4)]))
      refine GoV.st (fun _ kq_ => own_caload X5 hx hZ e5 V_a (by decide) (by decide) (v := (.int c0)) rfl (g := (mkF m 31 #[.val (.ref a), .val (.int (1 : Int32))] [(.int (0 : Int32)), (.ref a), (.int (0 : Int32)), (.ref b5), (.ref b5), (.ref a4), (.ref a4)])) rfl rfl (hb hby dt_31) _ kq_) ?_
      show GoV p e below s _ _ _ (T5.setTop (mkF m 32 #[.val (.ref a), .val (.int (1 : Int32))] [(.int c0), (.int (0 : Int32)), (.ref b5), (.ref b5), (.ref a4), (.ref a4)]))
      obtain ⟨T6, h6, X6, e6, W6, V6, st6⟩ := own_stC X5 hx hZ e5 V_b5 (j := (0 : Int32)) (by decide) (by decide) 0 rfl (Nat.le_of_ble_eq_true rfl) (g := (mkF m 32 #[.val (.ref a), .val (.int (1 : Int32))] [(.int c0), (.int (0 : Int32)), (.ref b5), (.ref b5), (.ref a4), (.ref a4)])) rfl rfl (hb hby dt_32)
      obtain ⟨lc6, X6, N6⟩ := own_gen X6 (Fr.snoc X6 N0 g_b5)
      have O6 := O5.wr W6 g_b5
      have K6 := K5.wr W6 (Or.inr sz_b5)
      have V_a := V_a.other W6 ne_a_b5
      have E_a4 := E_a4.wr W6
      have F_a4_coder := F_a4_coder.other W6 (Or.inl ne_a4_b5)
      have F_a4_value := F_a4_value.other W6 (Or.inl ne_a4_b5)
      have hk6 := Nat.le_trans hk5 (Nat.le_of_eq W6.size.symm)
      have V_b5 : Arv Z h6 b5 k5 .char (1 : Int32) [(.int (nar .char c0))] (.int (0 : Int32)) := V6
      refine GoV.st st6 ?_
      show GoV p e below s _ _ _ (T6.setTop (mkF m 33 #[.val (.ref a), .val (.int (1 : Int32))] [(.ref b5), (.ref a4), (.ref a4)]))
      have hp : ∀ z ∈ ([(nar .char c0)] : List Int32), ¬ z < 0 ∧ ¬ (255 : Int32) < z := by
        intro z hz
        simp only [List.mem_cons, List.not_mem_nil, or_false] at hz
        rcases hz with rfl
        · exact (show ¬ nar .char c0 < 0 ∧ ¬ (255 : Int32) < nar .char c0 by rw [own_nc hc0]; exact hc0)
      obtain ⟨_, _, ⟨T7, L7, k7, n7⟩, -, X7, ⟨Lc7, hQ7, l7, y7, z7⟩, st7⟩ := X6.specialBack hx (y := (⟨"java/lang/String", "<init>", "([C)V"⟩ : MethodName)) rfl hown (mvT hZ (own_w hw 9 rfl)) (mvT hZ (own_w hw 10 rfl)) (mvT hZ (own_w hw 11 rfl)) (by decide) (StrChars.Road.backV (W := 1) hZ hws (kI := 4) (own_w hw 7 rfl) (cs := ([(nar .char c0)] : List Int32)) (bs := ([(nar .char c0)] : List Int32).map (fun c => c.toInt8.toInt32)) (n := 1) g_a4 (own_old O6) E_a4 F_a4_value F_a4_coder V_b5 (SC.ext O6.2) hcs rfl rfl (by decide) (by decide) hp rfl (by decide) (by decide)) (g := (mkF m 33 #[.val (.ref a), .val (.int (1 : Int32))] [(.ref b5), (.ref a4), (.ref a4)])) rfl (by rw [hml]; rfl) (Steps.refl _) (a := a4) (argsL := [(.ref b5)]) (rest := [(.ref a4)]) (lenOf pdt_0 rfl) rfl (by show 2 * 0 + _ ≤ _; exact Nat.le_of_eq rfl) (hb hby dt_33) (fun _ _ => ⟨rfl, e6, (by decide : 2 + 1 ≤ _), (by decide : 5 + 1 ≤ _)⟩)
      dsimp only [Pt.U, Pt.locs, Pt.cells, Pt.slots] at X7 l7 y7 z7 st7 hQ7
      subst y7 z7
      obtain ⟨rfl, Nc7, Kc7, NE, NC, t7, kt7, gt7, szt7, -, NV, NB⟩ := hQ7
      have N7 : Fr n0 L7 := by rw [l7]; exact Fr.app N6 Nc7
      have V_a := V_a.keep Kc7 (ninS ne_a_a4 nin0)
      have V_b5 := V_b5.keep Kc7 (ninS (Ne.symm ne_a4_b5) nin0)
      have hk7 := Nat.le_trans hk6 Kc7.1
      have O7 := O6.keep Kc7 (allS g_a4 all0)
      have K7 := K6.trans Kc7 (allS (Or.inr sz_a4) all0)
      have E_a4 : Exa Z T7.heap a4 "java/lang/String" := NE
      have F_a4_coder : Fld Z T7.heap a4 "java/lang/String" "coder" "B" (.int (0 : Int32)) := NC
      have F_a4_value : Fld Z T7.heap a4 "java/lang/String" "value" "[B" (.ref t7) := NV
      have V_t7 : Arv Z T7.heap t7 kt7 .byte (1 : Int32) ((([(nar .char c0)] : List Int32).map (fun c => c.toInt8.toInt32)).map Value.int) (.int (0 : Int32)) := NB
      refine GoV.tr st7 ?_
      show GoV p e below s _ _ _ (T7.setTop (mkF m 36 #[.val (.ref a), .val (.int (1 : Int32))] [(.ref a4)]))
      exact GoV.ret (vm1 := s.vm) X7 hlk hS0 (by exact hk7) (some (.ref a4)) (fun h => by rw [Bd.returns] at h; cases h) (by exact ⟨a4, t7, _, _, _, ([(nar .char c0)] : List Int32), rfl, N7, K7, g_a4, sz_a4, E_a4, F_a4_coder, F_a4_value, V_t7, StrChars.Road.codOf (n := 1) rfl (fun c hc => (hp c hc).2), own_up hp, Nat.le_of_ble_eq_true rfl, own_ibM (own_ibW (vm0 := s.vm) I0 X7) (by decide)⟩) (by decide) (by decide) (fun fs hr => retOut X7 hx Bd.returns rfl (Or.inr (Or.inr (Or.inr (Or.inr ⟨rfl, rfl, rfl⟩)))) (hb hby dt_36) hr)
    · show GoV p e below s _ _ _ (s₁.setTop (mkF m 0 #[.val (.ref a), .val (.int (2 : Int32))] []))
      refine GoV.st (fun _ kq_ => XS.iloadN X0.here hx rfl (hb hby dt_0) rfl kq_) ?_
      show GoV p e below s _ _ _ (s₁.setTop (mkF m 1 #[.val (.ref a), .val (.int (2 : Int32))] [(.int (2 : Int32))]))
      refine GoV.st (fun _ kq_ => XS.ifYes X0.here hx rfl (pc0 := 1) (pc' := 15) rfl (hb hby dt_1) rfl (by decide) (by decide) (by decide) kq_) ?_
      show GoV p e below s _ _ _ (s₁.setTop (mkF m 15 #[.val (.ref a), .val (.int (2 : Int32))] []))
      refine GoV.st (fun _ kq_ => XS.iloadN X0.here hx rfl (hb hby dt_15) rfl kq_) ?_
      show GoV p e below s _ _ _ (s₁.setTop (mkF m 16 #[.val (.ref a), .val (.int (2 : Int32))] [(.int (2 : Int32))]))
      refine GoV.st (fun _ kq_ => XS.iconst X0.here hx rfl (hb hby dt_16) kq_) ?_
      show GoV p e below s _ _ _ (s₁.setTop (mkF m 17 #[.val (.ref a), .val (.int (2 : Int32))] [(.int (1 : Int32)), (.int (2 : Int32))]))
      refine GoV.st (fun _ kq_ => XS.icmpYes X0.here hx rfl (pc0 := 17) (pc' := 37) rfl (hb hby dt_17) rfl (by decide) (by decide) (by decide) kq_) ?_
      show GoV p e below s _ _ _ (s₁.setTop (mkF m 37 #[.val (.ref a), .val (.int (2 : Int32))] []))
      refine GoV.st (fun _ kq_ => XS.iloadN X0.here hx rfl (hb hby dt_37) rfl kq_) ?_
      show GoV p e below s _ _ _ (s₁.setTop (mkF m 38 #[.val (.ref a), .val (.int (2 : Int32))] [(.int (2 : Int32))]))
      refine GoV.st (fun _ kq_ => XS.iconst X0.here hx rfl (hb hby dt_38) kq_) ?_
      show GoV p e below s _ _ _ (s₁.setTop (mkF m 39 #[.val (.ref a), .val (.int (2 : Int32))] [(.int (2 : Int32)), (.int (2 : Int32))]))
      refine GoV.st (fun _ kq_ => XS.icmpNo X0.here hx rfl (hb hby dt_39) rfl (by decide) kq_) ?_
      show GoV p e below s _ _ _ (s₁.setTop (mkF m 42 #[.val (.ref a), .val (.int (2 : Int32))] []))
      obtain ⟨T8, h8, X8, e8, E8, A8, D8, -, st8⟩ := newO X0 hx hZ hown (own_w hw 6 rfl) (own_w hw 7 rfl) (own_w hw 8 rfl) e0 (g := (mkF m 42 #[.val (.ref a), .val (.int (2 : Int32))] [])) rfl (hb hby dt_42) (by decide) (by decide)
      obtain ⟨a8, g8⟩ : ∃ z, z = h0.size := ⟨_, rfl⟩
      rw [← g8] at A8 D8 st8
      have g_a8 : n0 ≤ a8 := Nat.le_trans (own_old O0) (Nat.le_of_eq g8.symm)
      have sz_a8 : h0.size ≤ a8 := Nat.le_trans K0.1 (Nat.le_of_eq g8.symm)
      have ne_a_a8 : a ≠ a8 := by rw [g8]; exact Nat.ne_of_lt V_a.lt
      have V_a := V_a.ext E8
      have hk8 := Nat.le_trans hk0 E8.1
      have O8 := O0.ext E8
      have K8 := K0.ext E8
      have E_a8 : Exa Z h8 a8 "java/lang/String" := A8
      have F_a8_coder : Fld Z h8 a8 "java/lang/String" "coder" "B" (.int (0 : Int32)) := D8 (Or.inr (own_w hw 32 rfl)) (ty := .byte) (by decide)
      have F_a8_value : Fld Z h8 a8 "java/lang/String" "value" "[B" .null := D8 (Or.inr (own_w hw 34 rfl)) (ty := (.array .byte)) (by decide)
      refine GoV.st st8 ?_
      show GoV p e below s _ _ _ (T8.setTop (mkF m 45 #[.val (.ref a), .val (.int (2 : Int32))] [(.ref a8)]))
      refine GoV.st (fun _ kq_ => XS.dup X8.here hx rfl (hb hby dt_45) rfl rfl kq_) ?_
      show GoV p e below s _ _ _ (T8.setTop (mkF m 46 #[.val (.ref a), .val (.int (2 : Int32))] [(.ref a8), (.ref a8)]))
      refine GoV.st (fun _ kq_ => XS.iconst X8.here hx rfl (hb hby dt_46) kq_) ?_
      show GoV p e below s _ _ _ (T8.setTop (mkF m 47 #[.val (.ref a), .val (.int (2 : Int32))] [(.int (2 : Int32)), (.ref a8), (.ref a8)]))
      obtain ⟨T9, h9, k9, X9, e9, E9, A9, st9⟩ := newP X8 hx hZ (own_w hw 0 rfl) e8 (g := (mkF m 47 #[.val (.ref a), .val (.int (2 : Int32))] [(.int (2 : Int32)), (.ref a8), (.ref a8)])) rfl (hb hby dt_47) rfl (by decide) (cap := 2) (by decide) (by decide) (by decide) (by decide)
      obtain ⟨b9, g9⟩ : ∃ z, z = h8.size := ⟨_, rfl⟩
      rw [← g9] at A9 st9
      have g_b9 : n0 ≤ b9 := Nat.le_trans (own_old O8) (Nat.le_of_eq g9.symm)
      have sz_b9 : h0.size ≤ b9 := Nat.le_trans K8.1 (Nat.le_of_eq g9.symm)
      have ne_a_b9 : a ≠ b9 := by rw [g9]; exact Nat.ne_of_lt V_a.lt
      have ne_a8_b9 : a8 ≠ b9 := by rw [g9]; exact Nat.ne_of_lt E_a8.lt
      have V_a := V_a.ext E9
      have E_a8 := E_a8.ext E9
      have F_a8_coder := F_a8_coder.ext E9
      have F_a8_value := F_a8_value.ext E9
      have hk9 := Nat.le_trans hk8 E9.1
      have O9 := O8.ext E9
      have K9 := K8.ext E9
      have V_b9 : Arv Z h9 b9 k9 .char (2 : Int32) [(.int (0 : Int32)), (.int (0 : Int32))] (.int (0 : Int32)) := (Arv.new A9 (by decide)).pad (pad_rep [] (.int (0 : Int32)) 2)
      refine GoV.st st9 ?_
      show GoV p e below s _ _ _ (T9.setTop (mkF m 49 #[.val (.ref a), .val (.int (2 : Int32))] [(.ref b9), (.ref a8), (.ref a8)]))
      refine GoV.st (fun _ kq_ => XS.dup X9.here hx rfl (hb hby dt_49) rfl rfl kq_) ?_
      show GoV p e below s _ _ _ (T9.setTop (mkF m 50 #[.val (.ref a), .val (.int (2 : Int32))] [(.ref b9), (.ref b9), (.ref a8), (.ref a8)]))
      refine GoV.st (fun _ kq_ => XS.iconst X9.here hx rfl (hb hby dt_50) kq_) ?_
      show GoV p e below s _ _ _ (T9.setTop (mkF m 51 #[.val (.ref a), .val (.int (2 : Int32))] [(.int (0 : Int32)), (.ref b9), (.ref b9), (.ref a8), (.ref a8)]))
      refine GoV.st (fun _ kq_ => XS.aloadN X9.here hx rfl (hb hby dt_51) rfl rfl kq_) ?_
      show GoV p e below s _ _ _ (T9.setTop (mkF m 52 #[.val (.ref a), .val (.int (2 : Int32))] [(.ref a), (.int (0 : Int32)), (.ref b9), (.ref b9), (.ref a8), (.ref a8)]))
      refine GoV.st (fun _ kq_ => XS.iconst X9.here hx rfl (hb hby dt_52) kq_) ?_
      show GoV p e below s _ _ _ (T9.setTop (mkF m 53 #[.val (.ref a), .val (.int (2 : Int32))] [(.int (0 : Int32)), (.ref a), (.int (0 : Int32)), (.ref b9), (.ref b9), (.ref a8), (.ref a8)]))
      refine GoV.st (fun _ kq_ => own_caload X9 hx hZ e9 V_a (by decide) (by decide) (v := (.int c0)) rfl (g := (mkF m 53 #[.val (.ref a), .val (.int (2 : Int32))] [(.int (0 : Int32)), (.ref a), (.int (0 : Int32)), (.ref b9), (.ref b9), (.ref a8), (.ref a8)])) rfl rfl (hb hby dt_53) _ kq_) ?_
      show GoV p e below s _ _ _ (T9.setTop (mkF m 54 #[.val (.ref a), .val (.int (2 : Int32))] [(.int c0), (.int (0 : Int32)), (.ref b9), (.ref b9), (.ref a8), (.ref a8)]))
      obtain ⟨T10, h10, X10, e10, W10, V10, st10⟩ := own_stC X9 hx hZ e9 V_b9 (j := (0 : Int32)) (by decide) (by decide) 0 rfl (Nat.le_of_ble_eq_true rfl) (g := (mkF m 54 #[.val (.ref a), .val (.int (2 : Int32))] [(.int c0), (.int (0 : Int32)), (.ref b9), (.ref b9), (.ref a8), (.ref a8)])) rfl rfl (hb hby dt_54)
      obtain ⟨lc10, X10, N10⟩ := own_gen X10 (Fr.snoc X10 N0 g_b9)
      have O10 := O9.wr W10 g_b9
      have K10 := K9.wr W10 (Or.inr sz_b9)
      have V_a := V_a.other W10 ne_a_b9
      have E_a8 := E_a8.wr W10
      have F_a8_coder := F_a8_coder.other W10 (Or.inl ne_a8_b9)
      have F_a8_value := F_a8_value.other W10 (Or.inl ne_a8_b9)
      have hk10 := Nat.le_trans hk9 (Nat.le_of_eq W10.size.symm)
      have V_b9 : Arv Z h10 b9 k9 .char (2 : Int32) [(.int (nar .char c0)), (.int (0 : Int32))] (.int (0 : Int32)) := V10
      refine GoV.st st10 ?_
      show GoV p e below s _ _ _ (T10.setTop (mkF m 55 #[.val (.ref a), .val (.int (2 : Int32))] [(.ref b9), (.ref a8), (.ref a8)]))
      refine GoV.st (fun _ kq_ => XS.dup X10.here hx rfl (hb hby dt_55) rfl rfl kq_) ?_
      show GoV p e below s _ _ _ (T10.setTop (mkF m 56 #[.val (.ref a), .val (.int (2 : Int32))] [(.ref b9), (.ref b9), (.ref a8), (.ref a8)]))
      refine GoV.st (fun _ kq_ => XS.iconst X10.here hx rfl (hb hby dt_56) kq_) ?_
      show GoV p e below s _ _ _ (T10.setTop (mkF m 57 #[.val (.ref a), .val (.int (2 : Int32))] [(.int (1 : Int32)), (.ref b9), (.ref b9), (.ref a8), (.ref a8)]))
      refine GoV.st (fun _ kq_ => XS.aloadN X10.here hx rfl (hb hby dt_57) rfl rfl kq_) ?_
      show GoV p e below s _ _ _ (T10.setTop (mkF m 58 #[.val (.ref a), .val (.int (2 : Int32))] [(.ref a), (.int (1 : Int32)), (.ref b9), (.ref b9), (.ref a8), (.ref a8)]))
      refine GoV.st (fun _ kq_ => XS.iconst X10.here hx rfl (hb hby dt_58) kq_) ?_
      show GoV p e below s _ _ _ (T10.setTop (mkF m 59 #[.val (.ref a), .val (.int (2 : Int32))] [(.int (1 : Int32)), (.ref a), (.int (1 : Int32)), (.ref b9), (.ref b9), (.ref a8), (.ref a8)]))
      refine GoV.st (fun _ kq_ => own_caload X10 hx hZ e10 V_a (by decide) (by decide) (v := (.int c1)) rfl (g := (mkF m 59 #[.val (.ref a), .val (.int (2 : Int32))] [(.int (1 : Int32)), (.ref a), (.int (1 : Int32)), (.ref b9), (.ref b9), (.ref a8), (.ref a8)])) rfl rfl (hb hby dt_59) _ kq_) ?_
      show GoV p e below s _ _ _ (T10.setTop (mkF m 60 #[.val (.ref a), .val (.int (2 : Int32))] [(.int c1), (.int (1 : Int32)), (.ref b9), (.ref b9), (.ref a8), (.ref a8)]))
      obtain ⟨T11, h11, X11, e11, W11, V11, st11⟩ := own_stC X10 hx hZ e10 V_b9 (j := (1 : Int32)) (by decide) (by decide) 1 rfl (Nat.le_of_ble_eq_true rfl) (g := (mkF m 60 #[.val (.ref a), .val (.int (2 : Int32))] [(.int c1), (.int (1 : Int32)), (.ref b9), (.ref b9), (.ref a8), (.ref a8)])) rfl rfl (hb hby dt_60)
      obtain ⟨lc11, X11, N11⟩ := own_gen X11 (Fr.snoc X11 N10 g_b9)
      have O11 := O10.wr W11 g_b9
      have K11 := K10.wr W11 (Or.inr sz_b9)
      have V_a := V_a.other W11 ne_a_b9
      have E_a8 := E_a8.wr W11
      have F_a8_coder := F_a8_coder.other W11 (Or.inl ne_a8_b9)
      have F_a8_value := F_a8_value.other W11 (Or.inl ne_a8_b9)
      have hk11 := Nat.le_trans hk10 (Nat.le_of_eq W11.size.symm)
      have V_b9 : Arv Z h11 b9 k9 .char (2 : Int32) [(.int (nar .char c0)), (.int (nar .char c1))] (.int (0 : Int32)) := V11
      refine GoV.st st11 ?_
      show GoV p e below s _ _ _ (T11.setTop (mkF m 61 #[.val (.ref a), .val (.int (2 : Int32))] [(.ref b9), (.ref a8), (.ref a8)]))
      have hp : ∀ z ∈ ([(nar .char c0), (nar .char c1)] : List Int32), ¬ z < 0 ∧ ¬ (255 : Int32) < z := by
        intro z hz
        simp only [List.mem_cons, List.not_mem_nil, or_false] at hz
        rcases hz with rfl | rfl
        · exact (show ¬ nar .char c0 < 0 ∧ ¬ (255 : Int32) < nar .char c0 by rw [own_nc hc0]; exact hc0)
        · exact (show ¬ nar .char c1 < 0 ∧ ¬ (255 : Int32) < nar .char c1 by rw [own_nc hc1]; exact hc1)
      obtain ⟨_, _, ⟨T12, L12, k12, n12⟩, -, X12, ⟨Lc12, hQ12, l12, y12, z12⟩, st12⟩ := X11.specialBack hx (y := (⟨"java/lang/String", "<init>", "([C)V"⟩ : MethodName)) rfl hown (mvT hZ (own_w hw 9 rfl)) (mvT hZ (own_w hw 10 rfl)) (mvT hZ (own_w hw 11 rfl)) (by decide) (StrChars.Road.backV (W := 1) hZ hws (kI := 4) (own_w hw 7 rfl) (cs := ([(nar .char c0), (nar .char c1)] : List Int32)) (bs := ([(nar .char c0), (nar .char c1)] : List Int32).map (fun c => c.toInt8.toInt32)) (n := 2) g_a8 (own_old O11) E_a8 F_a8_value F_a8_coder V_b9 (SC.ext O11.2) hcs rfl rfl (by decide) (by decide) hp rfl (by decide) (by decide)) (g := (mkF m 61 #[.val (.ref a), .val (.int (2 : Int32))] [(.ref b9), (.ref a8), (.ref a8)])) rfl (by rw [hml]; rfl) (Steps.refl _) (a := a8) (argsL := [(.ref b9)]) (rest := [(.ref a8)]) (lenOf pdt_0 rfl) rfl (by show 2 * 0 + _ ≤ _; exact Nat.le_of_eq rfl) (hb hby dt_61) (fun _ _ => ⟨rfl, e11, (by decide : 2 + 1 ≤ _), (by decide : 6 + 2 ≤ _)⟩)
      dsimp only [Pt.U, Pt.locs, Pt.cells, Pt.slots] at X12 l12 y12 z12 st12 hQ12
      subst y12 z12
      obtain ⟨rfl, Nc12, Kc12, NE, NC, t12, kt12, gt12, szt12, -, NV, NB⟩ := hQ12
      have N12 : Fr n0 L12 := by rw [l12]; exact Fr.app N11 Nc12
      have V_a := V_a.keep Kc12 (ninS ne_a_a8 nin0)
      have V_b9 := V_b9.keep Kc12 (ninS (Ne.symm ne_a8_b9) nin0)
      have hk12 := Nat.le_trans hk11 Kc12.1
      have O12 := O11.keep Kc12 (allS g_a8 all0)
      have K12 := K11.trans Kc12 (allS (Or.inr sz_a8) all0)
      have E_a8 : Exa Z T12.heap a8 "java/lang/String" := NE
      have F_a8_coder : Fld Z T12.heap a8 "java/lang/String" "coder" "B" (.int (0 : Int32)) := NC
      have F_a8_value : Fld Z T12.heap a8 "java/lang/String" "value" "[B" (.ref t12) := NV
      have V_t12 : Arv Z T12.heap t12 kt12 .byte (2 : Int32) ((([(nar .char c0), (nar .char c1)] : List Int32).map (fun c => c.toInt8.toInt32)).map Value.int) (.int (0 : Int32)) := NB
      refine GoV.tr st12 ?_
      show GoV p e below s _ _ _ (T12.setTop (mkF m 64 #[.val (.ref a), .val (.int (2 : Int32))] [(.ref a8)]))
      exact GoV.ret (vm1 := s.vm) X12 hlk hS0 (by exact hk12) (some (.ref a8)) (fun h => by rw [Bd.returns] at h; cases h) (by exact ⟨a8, t12, _, _, _, ([(nar .char c0), (nar .char c1)] : List Int32), rfl, N12, K12, g_a8, sz_a8, E_a8, F_a8_coder, F_a8_value, V_t12, StrChars.Road.codOf (n := 2) rfl (fun c hc => (hp c hc).2), own_up hp, Nat.le_of_ble_eq_true rfl, own_ibM (own_ibW (vm0 := s.vm) I0 X12) (by decide)⟩) (by decide) (by decide) (fun fs hr => retOut X12 hx Bd.returns rfl (Or.inr (Or.inr (Or.inr (Or.inr ⟨rfl, rfl, rfl⟩)))) (hb hby dt_64) hr)
    · show GoV p e below s _ _ _ (s₁.setTop (mkF m 0 #[.val (.ref a), .val (.int (3 : Int32))] []))
      refine GoV.st (fun _ kq_ => XS.iloadN X0.here hx rfl (hb hby dt_0) rfl kq_) ?_
      show GoV p e below s _ _ _ (s₁.setTop (mkF m 1 #[.val (.ref a), .val (.int (3 : Int32))] [(.int (3 : Int32))]))
      refine GoV.st (fun _ kq_ => XS.ifYes X0.here hx rfl (pc0 := 1) (pc' := 15) rfl (hb hby dt_1) rfl (by decide) (by decide) (by decide) kq_) ?_
      show GoV p e below s _ _ _ (s₁.setTop (mkF m 15 #[.val (.ref a), .val (.int (3 : Int32))] []))
      refine GoV.st (fun _ kq_ => XS.iloadN X0.here hx rfl (hb hby dt_15) rfl kq_) ?_
      show GoV p e below s _ _ _ (s₁.setTop (mkF m 16 #[.val (.ref a), .val (.int (3 : Int32))] [(.int (3 : Int32))]))
      refine GoV.st (fun _ kq_ => XS.iconst X0.here hx rfl (hb hby dt_16) kq_) ?_
      show GoV p e below s _ _ _ (s₁.setTop (mkF m 17 #[.val (.ref a), .val (.int (3 : Int32))] [(.int (1 : Int32)), (.int (3 : Int32))]))
      refine GoV.st (fun _ kq_ => XS.icmpYes X0.here hx rfl (pc0 := 17) (pc' := 37) rfl (hb hby dt_17) rfl (by decide) (by decide) (by decide) kq_) ?_
      show GoV p e below s _ _ _ (s₁.setTop (mkF m 37 #[.val (.ref a), .val (.int (3 : Int32))] []))
      refine GoV.st (fun _ kq_ => XS.iloadN X0.here hx rfl (hb hby dt_37) rfl kq_) ?_
      show GoV p e below s _ _ _ (s₁.setTop (mkF m 38 #[.val (.ref a), .val (.int (3 : Int32))] [(.int (3 : Int32))]))
      refine GoV.st (fun _ kq_ => XS.iconst X0.here hx rfl (hb hby dt_38) kq_) ?_
      show GoV p e below s _ _ _ (s₁.setTop (mkF m 39 #[.val (.ref a), .val (.int (3 : Int32))] [(.int (2 : Int32)), (.int (3 : Int32))]))
      refine GoV.st (fun _ kq_ => XS.icmpYes X0.here hx rfl (pc0 := 39) (pc' := 65) rfl (hb hby dt_39) rfl (by decide) (by decide) (by decide) kq_) ?_
      show GoV p e below s _ _ _ (s₁.setTop (mkF m 65 #[.val (.ref a), .val (.int (3 : Int32))] []))
      refine GoV.st (fun _ kq_ => XS.iloadN X0.here hx rfl (hb hby dt_65) rfl kq_) ?_
      show GoV p e below s _ _ _ (s₁.setTop (mkF m 66 #[.val (.ref a), .val (.int (3 : Int32))] [(.int (3 : Int32))]))
      refine GoV.st (fun _ kq_ => XS.iconst X0.here hx rfl (hb hby dt_66) kq_) ?_
      show GoV p e below s _ _ _ (s₁.setTop (mkF m 67 #[.val (.ref a), .val (.int (3 : Int32))] [(.int (3 : Int32)), (.int (3 : Int32))]))
      refine GoV.st (fun _ kq_ => XS.icmpNo X0.here hx rfl (hb hby dt_67) rfl (by decide) kq_) ?_
      show GoV p e below s _ _ _ (s₁.setTop (mkF m 70 #[.val (.ref a), .val (.int (3 : Int32))] []))
      obtain ⟨T13, h13, X13, e13, E13, A13, D13, -, st13⟩ := newO X0 hx hZ hown (own_w hw 6 rfl) (own_w hw 7 rfl) (own_w hw 8 rfl) e0 (g := (mkF m 70 #[.val (.ref a), .val (.int (3 : Int32))] [])) rfl (hb hby dt_70) (by decide) (by decide)
      obtain ⟨a13, g13⟩ : ∃ z, z = h0.size := ⟨_, rfl⟩
      rw [← g13] at A13 D13 st13
      have g_a13 : n0 ≤ a13 := Nat.le_trans (own_old O0) (Nat.le_of_eq g13.symm)
      have sz_a13 : h0.size ≤ a13 := Nat.le_trans K0.1 (Nat.le_of_eq g13.symm)
      have ne_a_a13 : a ≠ a13 := by rw [g13]; exact Nat.ne_of_lt V_a.lt
      have V_a := V_a.ext E13
      have hk13 := Nat.le_trans hk0 E13.1
      have O13 := O0.ext E13
      have K13 := K0.ext E13
      have E_a13 : Exa Z h13 a13 "java/lang/String" := A13
      have F_a13_coder : Fld Z h13 a13 "java/lang/String" "coder" "B" (.int (0 : Int32)) := D13 (Or.inr (own_w hw 32 rfl)) (ty := .byte) (by decide)
      have F_a13_value : Fld Z h13 a13 "java/lang/String" "value" "[B" .null := D13 (Or.inr (own_w hw 34 rfl)) (ty := (.array .byte)) (by decide)
      refine GoV.st st13 ?_
      show GoV p e below s _ _ _ (T13.setTop (mkF m 73 #[.val (.ref a), .val (.int (3 : Int32))] [(.ref a13)]))
      refine GoV.st (fun _ kq_ => XS.dup X13.here hx rfl (hb hby dt_73) rfl rfl kq_) ?_
      show GoV p e below s _ _ _ (T13.setTop (mkF m 74 #[.val (.ref a), .val (.int (3 : Int32))] [(.ref a13), (.ref a13)]))
      refine GoV.st (fun _ kq_ => XS.iconst X13.here hx rfl (hb hby dt_74) kq_) ?_
      show GoV p e below s _ _ _ (T13.setTop (mkF m 75 #[.val (.ref a), .val (.int (3 : Int32))] [(.int (3 : Int32)), (.ref a13), (.ref a13)]))
      obtain ⟨T14, h14, k14, X14, e14, E14, A14, st14⟩ := newP X13 hx hZ (own_w hw 0 rfl) e13 (g := (mkF m 75 #[.val (.ref a), .val (.int (3 : Int32))] [(.int (3 : Int32)), (.ref a13), (.ref a13)])) rfl (hb hby dt_75) rfl (by decide) (cap := 3) (by decide) (by decide) (by decide) (by decide)
      obtain ⟨b14, g14⟩ : ∃ z, z = h13.size := ⟨_, rfl⟩
      rw [← g14] at A14 st14
      have g_b14 : n0 ≤ b14 := Nat.le_trans (own_old O13) (Nat.le_of_eq g14.symm)
      have sz_b14 : h0.size ≤ b14 := Nat.le_trans K13.1 (Nat.le_of_eq g14.symm)
      have ne_a_b14 : a ≠ b14 := by rw [g14]; exact Nat.ne_of_lt V_a.lt
      have ne_a13_b14 : a13 ≠ b14 := by rw [g14]; exact Nat.ne_of_lt E_a13.lt
      have V_a := V_a.ext E14
      have E_a13 := E_a13.ext E14
      have F_a13_coder := F_a13_coder.ext E14
      have F_a13_value := F_a13_value.ext E14
      have hk14 := Nat.le_trans hk13 E14.1
      have O14 := O13.ext E14
      have K14 := K13.ext E14
      have V_b14 : Arv Z h14 b14 k14 .char (3 : Int32) [(.int (0 : Int32)), (.int (0 : Int32)), (.int (0 : Int32))] (.int (0 : Int32)) := (Arv.new A14 (by decide)).pad (pad_rep [] (.int (0 : Int32)) 3)
      refine GoV.st st14 ?_
      show GoV p e below s _ _ _ (T14.setTop (mkF m 77 #[.val (.ref a), .val (.int (3 : Int32))] [(.ref b14), (.ref a13), (.ref a13)]))
      refine GoV.st (fun _ kq_ => XS.dup X14.here hx rfl (hb hby dt_77) rfl rfl kq_) ?_
      show GoV p e below s _ _ _ (T14.setTop (mkF m 78 #[.val (.ref a), .val (.int (3 : Int32))] [(.ref b14), (.ref b14), (.ref a13), (.ref a13)]))
      refine GoV.st (fun _ kq_ => XS.iconst X14.here hx rfl (hb hby dt_78) kq_) ?_
      show GoV p e below s _ _ _ (T14.setTop (mkF m 79 #[.val (.ref a), .val (.int (3 : Int32))] [(.int (0 : Int32)), (.ref b14), (.ref b14), (.ref a13), (.ref a13)]))
      refine GoV.st (fun _ kq_ => XS.aloadN X14.here hx rfl (hb hby dt_79) rfl rfl kq_) ?_
      show GoV p e below s _ _ _ (T14.setTop (mkF m 80 #[.val (.ref a), .val (.int (3 : Int32))] [(.ref a), (.int (0 : Int32)), (.ref b14), (.ref b14), (.ref a13), (.ref a13)]))
      refine GoV.st (fun _ kq_ => XS.iconst X14.here hx rfl (hb hby dt_80) kq_) ?_
      show GoV p e below s _ _ _ (T14.setTop (mkF m 81 #[.val (.ref a), .val (.int (3 : Int32))] [(.int (0 : Int32)), (.ref a), (.int (0 : Int32)), (.ref b14), (.ref b14), (.ref a13), (.ref a13)]))
      refine GoV.st (fun _ kq_ => own_caload X14 hx hZ e14 V_a (by decide) (by decide) (v := (.int c0)) rfl (g := (mkF m 81 #[.val (.ref a), .val (.int (3 : Int32))] [(.int (0 : Int32)), (.ref a), (.int (0 : Int32)), (.ref b14), (.ref b14), (.ref a13), (.ref a13)])) rfl rfl (hb hby dt_81) _ kq_) ?_
      show GoV p e below s _ _ _ (T14.setTop (mkF m 82 #[.val (.ref a), .val (.int (3 : Int32))] [(.int c0), (.int (0 : Int32)), (.ref b14), (.ref b14), (.ref a13), (.ref a13)]))
      obtain ⟨T15, h15, X15, e15, W15, V15, st15⟩ := own_stC X14 hx hZ e14 V_b14 (j := (0 : Int32)) (by decide) (by decide) 0 rfl (Nat.le_of_ble_eq_true rfl) (g := (mkF m 82 #[.val (.ref a), .val (.int (3 : Int32))] [(.int c0), (.int (0 : Int32)), (.ref b14), (.ref b14), (.ref a13), (.ref a13)])) rfl rfl (hb hby dt_82)
      obtain ⟨lc15, X15, N15⟩ := own_gen X15 (Fr.snoc X15 N0 g_b14)
      have O15 := O14.wr W15 g_b14
      have K15 := K14.wr W15 (Or.inr sz_b14)
      have V_a := V_a.other W15 ne_a_b14
      have E_a13 := E_a13.wr W15
      have F_a13_coder := F_a13_coder.other W15 (Or.inl ne_a13_b14)
      have F_a13_value := F_a13_value.other W15 (Or.inl ne_a13_b14)
      have hk15 := Nat.le_trans hk14 (Nat.le_of_eq W15.size.symm)
      have V_b14 : Arv Z h15 b14 k14 .char (3 : Int32) [(.int (nar .char c0)), (.int (0 : Int32)), (.int (0 : Int32))] (.int (0 : Int32)) := V15
      refine GoV.st st15 ?_
      show GoV p e below s _ _ _ (T15.setTop (mkF m 83 #[.val (.ref a), .val (.int (3 : Int32))] [(.ref b14), (.ref a13), (.ref a13)]))
      refine GoV.st (fun _ kq_ => XS.dup X15.here hx rfl (hb hby dt_83) rfl rfl kq_) ?_
      show GoV p e below s _ _ _ (T15.setTop (mkF m 84 #[.val (.ref a), .val (.int (3 : Int32))] [(.ref b14), (.ref b14), (.ref a13), (.ref a13)]))
      refine GoV.st (fun _ kq_ => XS.iconst X15.here hx rfl (hb hby dt_84) kq_) ?_
      show GoV p e below s _ _ _ (T15.setTop (mkF m 85 #[.val (.ref a), .val (.int (3 : Int32))] [(.int (1 : Int32)), (.ref b14), (.ref b14), (.ref a13), (.ref a13)]))
      refine GoV.st (fun _ kq_ => XS.aloadN X15.here hx rfl (hb hby dt_85) rfl rfl kq_) ?_
      show GoV p e below s _ _ _ (T15.setTop (mkF m 86 #[.val (.ref a), .val (.int (3 : Int32))] [(.ref a), (.int (1 : Int32)), (.ref b14), (.ref b14), (.ref a13), (.ref a13)]))
      refine GoV.st (fun _ kq_ => XS.iconst X15.here hx rfl (hb hby dt_86) kq_) ?_
      show GoV p e below s _ _ _ (T15.setTop (mkF m 87 #[.val (.ref a), .val (.int (3 : Int32))] [(.int (1 : Int32)), (.ref a), (.int (1 : Int32)), (.ref b14), (.ref b14), (.ref a13), (.ref a13)]))
      refine GoV.st (fun _ kq_ => own_caload X15 hx hZ e15 V_a (by decide) (by decide) (v := (.int c1)) rfl (g := (mkF m 87 #[.val (.ref a), .val (.int (3 : Int32))] [(.int (1 : Int32)), (.ref a), (.int (1 : Int32)), (.ref b14), (.ref b14), (.ref a13), (.ref a13)])) rfl rfl (hb hby dt_87) _ kq_) ?_
      show GoV p e below s _ _ _ (T15.setTop (mkF m 88 #[.val (.ref a), .val (.int (3 : Int32))] [(.int c1), (.int (1 : Int32)), (.ref b14), (.ref b14), (.ref a13), (.ref a13)]))
      obtain ⟨T16, h16, X16, e16, W16, V16, st16⟩ := own_stC X15 hx hZ e15 V_b14 (j := (1 : Int32)) (by decide) (by decide) 1 rfl (Nat.le_of_ble_eq_true rfl) (g := (mkF m 88 #[.val (.ref a), .val (.int (3 : Int32))] [(.int c1), (.int (1 : Int32)), (.ref b14), (.ref b14), (.ref a13), (.ref a13)])) rfl rfl (hb hby dt_88)
      obtain ⟨lc16, X16, N16⟩ := own_gen X16 (Fr.snoc X16 N15 g_b14)
      have O16 := O15.wr W16 g_b14
      have K16 := K15.wr W16 (Or.inr sz_b14)
      have V_a := V_a.other W16 ne_a_b14
      have E_a13 := E_a13.wr W16
      have F_a13_coder := F_a13_coder.other W16 (Or.inl ne_a13_b14)
      have F_a13_value := F_a13_value.other W16 (Or.inl ne_a13_b14)
      have hk16 := Nat.le_trans hk15 (Nat.le_of_eq W16.size.symm)
      have V_b14 : Arv Z h16 b14 k14 .char (3 : Int32) [(.int (nar .char c0)), (.int (nar .char c1)), (.int (0 : Int32))] (.int (0 : Int32)) := V16
      refine GoV.st st16 ?_
      show GoV p e below s _ _ _ (T16.setTop (mkF m 89 #[.val (.ref a), .val (.int (3 : Int32))] [(.ref b14), (.ref a13), (.ref a13)]))
      refine GoV.st (fun _ kq_ => XS.dup X16.here hx rfl (hb hby dt_89) rfl rfl kq_) ?_
      show GoV p e below s _ _ _ (T16.setTop (mkF m 90 #[.val (.ref a), .val (.int (3 : Int32))] [(.ref b14), (.ref b14), (.ref a13), (.ref a13)]))
      refine GoV.st (fun _ kq_ => XS.iconst X16.here hx rfl (hb hby dt_90) kq_) ?_
      show GoV p e below s _ _ _ (T16.setTop (mkF m 91 #[.val (.ref a), .val (.int (3 : Int32))] [(.int (2 : Int32)), (.ref b14), (.ref b14), (.ref a13), (.ref a13)]))
      refine GoV.st (fun _ kq_ => XS.aloadN X16.here hx rfl (hb hby dt_91) rfl rfl kq_) ?_
      show GoV p e below s _ _ _ (T16.setTop (mkF m 92 #[.val (.ref a), .val (.int (3 : Int32))] [(.ref a), (.int (2 : Int32)), (.ref b14), (.ref b14), (.ref a13), (.ref a13)]))
      refine GoV.st (fun _ kq_ => XS.iconst X16.here hx rfl (hb hby dt_92) kq_) ?_
      show GoV p e below s _ _ _ (T16.setTop (mkF m 93 #[.val (.ref a), .val (.int (3 : Int32))] [(.int (2 : Int32)), (.ref a), (.int (2 : Int32)), (.ref b14), (.ref b14), (.ref a13), (.ref a13)]))
      refine GoV.st (fun _ kq_ => own_caload X16 hx hZ e16 V_a (by decide) (by decide) (v := (.int c2)) rfl (g := (mkF m 93 #[.val (.ref a), .val (.int (3 : Int32))] [(.int (2 : Int32)), (.ref a), (.int (2 : Int32)), (.ref b14), (.ref b14), (.ref a13), (.ref a13)])) rfl rfl (hb hby dt_93) _ kq_) ?_
      show GoV p e below s _ _ _ (T16.setTop (mkF m 94 #[.val (.ref a), .val (.int (3 : Int32))] [(.int c2), (.int (2 : Int32)), (.ref b14), (.ref b14), (.ref a13), (.ref a13)]))
      obtain ⟨T17, h17, X17, e17, W17, V17, st17⟩ := own_stC X16 hx hZ e16 V_b14 (j := (2 : Int32)) (by decide) (by decide) 2 rfl (Nat.le_of_ble_eq_true rfl) (g := (mkF m 94 #[.val (.ref a), .val (.int (3 : Int32))] [(.int c2), (.int (2 : Int32)), (.ref b14), (.ref b14), (.ref a13), (.ref a13)])) rfl rfl (hb hby dt_94)
      obtain ⟨lc17, X17, N17⟩ := own_gen X17 (Fr.snoc X17 N16 g_b14)
      have O17 := O16.wr W17 g_b14
      have K17 := K16.wr W17 (Or.inr sz_b14)
      have V_a := V_a.other W17 ne_a_b14
      have E_a13 := E_a13.wr W17
      have F_a13_coder := F_a13_coder.other W17 (Or.inl ne_a13_b14)
      have F_a13_value := F_a13_value.other W17 (Or.inl ne_a13_b14)
      have hk17 := Nat.le_trans hk16 (Nat.le_of_eq W17.size.symm)
      have V_b14 : Arv Z h17 b14 k14 .char (3 : Int32) [(.int (nar .char c0)), (.int (nar .char c1)), (.int (nar .char c2))] (.int (0 : Int32)) := V17
      refine GoV.st st17 ?_
      show GoV p e below s _ _ _ (T17.setTop (mkF m 95 #[.val (.ref a), .val (.int (3 : Int32))] [(.ref b14), (.ref a13), (.ref a13)]))
      have hp : ∀ z ∈ ([(nar .char c0), (nar .char c1), (nar .char c2)] : List Int32), ¬ z < 0 ∧ ¬ (255 : Int32) < z := by
        intro z hz
        simp only [List.mem_cons, List.not_mem_nil, or_false] at hz
        rcases hz with rfl | rfl | rfl
        · exact (show ¬ nar .char c0 < 0 ∧ ¬ (255 : Int32) < nar .char c0 by rw [own_nc hc0]; exact hc0)
        · exact (show ¬ nar .char c1 < 0 ∧ ¬ (255 : Int32) < nar .char c1 by rw [own_nc hc1]; exact hc1)
        · exact (show ¬ nar .char c2 < 0 ∧ ¬ (255 : Int32) < nar .char c2 by rw [own_nc hc2]; exact hc2)
      obtain ⟨_, _, ⟨T18, L18, k18, n18⟩, -, X18, ⟨Lc18, hQ18, l18, y18, z18⟩, st18⟩ := X17.specialBack hx (y := (⟨"java/lang/String", "<init>", "([C)V"⟩ : MethodName)) rfl hown (mvT hZ (own_w hw 9 rfl)) (mvT hZ (own_w hw 10 rfl)) (mvT hZ (own_w hw 11 rfl)) (by decide) (StrChars.Road.backV (W := 1) hZ hws (kI := 4) (own_w hw 7 rfl) (cs := ([(nar .char c0), (nar .char c1), (nar .char c2)] : List Int32)) (bs := ([(nar .char c0), (nar .char c1), (nar .char c2)] : List Int32).map (fun c => c.toInt8.toInt32)) (n := 3) g_a13 (own_old O17) E_a13 F_a13_value F_a13_coder V_b14 (SC.ext O17.2) hcs rfl rfl (by decide) (by decide) hp rfl (by decide) (by decide)) (g := (mkF m 95 #[.val (.ref a), .val (.int (3 : Int32))] [(.ref b14), (.ref a13), (.ref a13)])) rfl (by rw [hml]; rfl) (Steps.refl _) (a := a13) (argsL := [(.ref b14)]) (rest := [(.ref a13)]) (lenOf pdt_0 rfl) rfl (by show 2 * 0 + _ ≤ _; exact Nat.le_of_eq rfl) (hb hby dt_95) (fun _ _ => ⟨rfl, e17, (by decide : 2 + 1 ≤ _), (by decide : 7 + 3 ≤ _)⟩)
      dsimp only [Pt.U, Pt.locs, Pt.cells, Pt.slots] at X18 l18 y18 z18 st18 hQ18
      subst y18 z18
      obtain ⟨rfl, Nc18, Kc18, NE, NC, t18, kt18, gt18, szt18, -, NV, NB⟩ := hQ18
      have N18 : Fr n0 L18 := by rw [l18]; exact Fr.app N17 Nc18
      have V_a := V_a.keep Kc18 (ninS ne_a_a13 nin0)
      have V_b14 := V_b14.keep Kc18 (ninS (Ne.symm ne_a13_b14) nin0)
      have hk18 := Nat.le_trans hk17 Kc18.1
      have O18 := O17.keep Kc18 (allS g_a13 all0)
      have K18 := K17.trans Kc18 (allS (Or.inr sz_a13) all0)
      have E_a13 : Exa Z T18.heap a13 "java/lang/String" := NE
      have F_a13_coder : Fld Z T18.heap a13 "java/lang/String" "coder" "B" (.int (0 : Int32)) := NC
      have F_a13_value : Fld Z T18.heap a13 "java/lang/String" "value" "[B" (.ref t18) := NV
      have V_t18 : Arv Z T18.heap t18 kt18 .byte (3 : Int32) ((([(nar .char c0), (nar .char c1), (nar .char c2)] : List Int32).map (fun c => c.toInt8.toInt32)).map Value.int) (.int (0 : Int32)) := NB
      refine GoV.tr st18 ?_
      show GoV p e below s _ _ _ (T18.setTop (mkF m 98 #[.val (.ref a), .val (.int (3 : Int32))] [(.ref a13)]))
      exact GoV.ret (vm1 := s.vm) X18 hlk hS0 (by exact hk18) (some (.ref a13)) (fun h => by rw [Bd.returns] at h; cases h) (by exact ⟨a13, t18, _, _, _, ([(nar .char c0), (nar .char c1), (nar .char c2)] : List Int32), rfl, N18, K18, g_a13, sz_a13, E_a13, F_a13_coder, F_a13_value, V_t18, StrChars.Road.codOf (n := 3) rfl (fun c hc => (hp c hc).2), own_up hp, Nat.le_of_ble_eq_true rfl, own_ibM (own_ibW (vm0 := s.vm) I0 X18) (by decide)⟩) (by decide) (by decide) (fun fs hr => retOut X18 hx Bd.returns rfl (Or.inr (Or.inr (Or.inr (Or.inr ⟨rfl, rfl, rfl⟩)))) (hb hby dt_98) hr)
    · show GoV p e below s _ _ _ (s₁.setTop (mkF m 0 #[.val (.ref a), .val (.int (4 : Int32))] []))
      refine GoV.st (fun _ kq_ => XS.iloadN X0.here hx rfl (hb hby dt_0) rfl kq_) ?_
      show GoV p e below s _ _ _ (s₁.setTop (mkF m 1 #[.val (.ref a), .val (.int (4 : Int32))] [(.int (4 : Int32))]))
      refine GoV.st (fun _ kq_ => XS.ifYes X0.here hx rfl (pc0 := 1) (pc' := 15) rfl (hb hby dt_1) rfl (by decide) (by decide) (by decide) kq_) ?_
      show GoV p e below s _ _ _ (s₁.setTop (mkF m 15 #[.val (.ref a), .val (.int (4 : Int32))] []))
      refine GoV.st (fun _ kq_ => XS.iloadN X0.here hx rfl (hb hby dt_15) rfl kq_) ?_
      show GoV p e below s _ _ _ (s₁.setTop (mkF m 16 #[.val (.ref a), .val (.int (4 : Int32))] [(.int (4 : Int32))]))
      refine GoV.st (fun _ kq_ => XS.iconst X0.here hx rfl (hb hby dt_16) kq_) ?_
      show GoV p e below s _ _ _ (s₁.setTop (mkF m 17 #[.val (.ref a), .val (.int (4 : Int32))] [(.int (1 : Int32)), (.int (4 : Int32))]))
      refine GoV.st (fun _ kq_ => XS.icmpYes X0.here hx rfl (pc0 := 17) (pc' := 37) rfl (hb hby dt_17) rfl (by decide) (by decide) (by decide) kq_) ?_
      show GoV p e below s _ _ _ (s₁.setTop (mkF m 37 #[.val (.ref a), .val (.int (4 : Int32))] []))
      refine GoV.st (fun _ kq_ => XS.iloadN X0.here hx rfl (hb hby dt_37) rfl kq_) ?_
      show GoV p e below s _ _ _ (s₁.setTop (mkF m 38 #[.val (.ref a), .val (.int (4 : Int32))] [(.int (4 : Int32))]))
      refine GoV.st (fun _ kq_ => XS.iconst X0.here hx rfl (hb hby dt_38) kq_) ?_
      show GoV p e below s _ _ _ (s₁.setTop (mkF m 39 #[.val (.ref a), .val (.int (4 : Int32))] [(.int (2 : Int32)), (.int (4 : Int32))]))
      refine GoV.st (fun _ kq_ => XS.icmpYes X0.here hx rfl (pc0 := 39) (pc' := 65) rfl (hb hby dt_39) rfl (by decide) (by decide) (by decide) kq_) ?_
      show GoV p e below s _ _ _ (s₁.setTop (mkF m 65 #[.val (.ref a), .val (.int (4 : Int32))] []))
      refine GoV.st (fun _ kq_ => XS.iloadN X0.here hx rfl (hb hby dt_65) rfl kq_) ?_
      show GoV p e below s _ _ _ (s₁.setTop (mkF m 66 #[.val (.ref a), .val (.int (4 : Int32))] [(.int (4 : Int32))]))
      refine GoV.st (fun _ kq_ => XS.iconst X0.here hx rfl (hb hby dt_66) kq_) ?_
      show GoV p e below s _ _ _ (s₁.setTop (mkF m 67 #[.val (.ref a), .val (.int (4 : Int32))] [(.int (3 : Int32)), (.int (4 : Int32))]))
      refine GoV.st (fun _ kq_ => XS.icmpYes X0.here hx rfl (pc0 := 67) (pc' := 99) rfl (hb hby dt_67) rfl (by decide) (by decide) (by decide) kq_) ?_
      show GoV p e below s _ _ _ (s₁.setTop (mkF m 99 #[.val (.ref a), .val (.int (4 : Int32))] []))
      refine GoV.st (fun _ kq_ => XS.iloadN X0.here hx rfl (hb hby dt_99) rfl kq_) ?_
      show GoV p e below s _ _ _ (s₁.setTop (mkF m 100 #[.val (.ref a), .val (.int (4 : Int32))] [(.int (4 : Int32))]))
      refine GoV.st (fun _ kq_ => XS.iconst X0.here hx rfl (hb hby dt_100) kq_) ?_
      show GoV p e below s _ _ _ (s₁.setTop (mkF m 101 #[.val (.ref a), .val (.int (4 : Int32))] [(.int (4 : Int32)), (.int (4 : Int32))]))
      refine GoV.st (fun _ kq_ => XS.icmpNo X0.here hx rfl (hb hby dt_101) rfl (by decide) kq_) ?_
      show GoV p e below s _ _ _ (s₁.setTop (mkF m 104 #[.val (.ref a), .val (.int (4 : Int32))] []))
      obtain ⟨T19, h19, X19, e19, E19, A19, D19, -, st19⟩ := newO X0 hx hZ hown (own_w hw 6 rfl) (own_w hw 7 rfl) (own_w hw 8 rfl) e0 (g := (mkF m 104 #[.val (.ref a), .val (.int (4 : Int32))] [])) rfl (hb hby dt_104) (by decide) (by decide)
      obtain ⟨a19, g19⟩ : ∃ z, z = h0.size := ⟨_, rfl⟩
      rw [← g19] at A19 D19 st19
      have g_a19 : n0 ≤ a19 := Nat.le_trans (own_old O0) (Nat.le_of_eq g19.symm)
      have sz_a19 : h0.size ≤ a19 := Nat.le_trans K0.1 (Nat.le_of_eq g19.symm)
      have ne_a_a19 : a ≠ a19 := by rw [g19]; exact Nat.ne_of_lt V_a.lt
      have V_a := V_a.ext E19
      have hk19 := Nat.le_trans hk0 E19.1
      have O19 := O0.ext E19
      have K19 := K0.ext E19
      have E_a19 : Exa Z h19 a19 "java/lang/String" := A19
      have F_a19_coder : Fld Z h19 a19 "java/lang/String" "coder" "B" (.int (0 : Int32)) := D19 (Or.inr (own_w hw 32 rfl)) (ty := .byte) (by decide)
      have F_a19_value : Fld Z h19 a19 "java/lang/String" "value" "[B" .null := D19 (Or.inr (own_w hw 34 rfl)) (ty := (.array .byte)) (by decide)
      refine GoV.st st19 ?_
      show GoV p e below s _ _ _ (T19.setTop (mkF m 107 #[.val (.ref a), .val (.int (4 : Int32))] [(.ref a19)]))
      refine GoV.st (fun _ kq_ => XS.dup X19.here hx rfl (hb hby dt_107) rfl rfl kq_) ?_
      show GoV p e below s _ _ _ (T19.setTop (mkF m 108 #[.val (.ref a), .val (.int (4 : Int32))] [(.ref a19), (.ref a19)]))
      refine GoV.st (fun _ kq_ => XS.iconst X19.here hx rfl (hb hby dt_108) kq_) ?_
      show GoV p e below s _ _ _ (T19.setTop (mkF m 109 #[.val (.ref a), .val (.int (4 : Int32))] [(.int (4 : Int32)), (.ref a19), (.ref a19)]))
      obtain ⟨T20, h20, k20, X20, e20, E20, A20, st20⟩ := newP X19 hx hZ (own_w hw 0 rfl) e19 (g := (mkF m 109 #[.val (.ref a), .val (.int (4 : Int32))] [(.int (4 : Int32)), (.ref a19), (.ref a19)])) rfl (hb hby dt_109) rfl (by decide) (cap := 4) (by decide) (by decide) (by decide) (by decide)
      obtain ⟨b20, g20⟩ : ∃ z, z = h19.size := ⟨_, rfl⟩
      rw [← g20] at A20 st20
      have g_b20 : n0 ≤ b20 := Nat.le_trans (own_old O19) (Nat.le_of_eq g20.symm)
      have sz_b20 : h0.size ≤ b20 := Nat.le_trans K19.1 (Nat.le_of_eq g20.symm)
      have ne_a_b20 : a ≠ b20 := by rw [g20]; exact Nat.ne_of_lt V_a.lt
      have ne_a19_b20 : a19 ≠ b20 := by rw [g20]; exact Nat.ne_of_lt E_a19.lt
      have V_a := V_a.ext E20
      have E_a19 := E_a19.ext E20
      have F_a19_coder := F_a19_coder.ext E20
      have F_a19_value := F_a19_value.ext E20
      have hk20 := Nat.le_trans hk19 E20.1
      have O20 := O19.ext E20
      have K20 := K19.ext E20
      have V_b20 : Arv Z h20 b20 k20 .char (4 : Int32) [(.int (0 : Int32)), (.int (0 : Int32)), (.int (0 : Int32)), (.int (0 : Int32))] (.int (0 : Int32)) := (Arv.new A20 (by decide)).pad (pad_rep [] (.int (0 : Int32)) 4)
      refine GoV.st st20 ?_
      show GoV p e below s _ _ _ (T20.setTop (mkF m 111 #[.val (.ref a), .val (.int (4 : Int32))] [(.ref b20), (.ref a19), (.ref a19)]))
      refine GoV.st (fun _ kq_ => XS.dup X20.here hx rfl (hb hby dt_111) rfl rfl kq_) ?_
      show GoV p e below s _ _ _ (T20.setTop (mkF m 112 #[.val (.ref a), .val (.int (4 : Int32))] [(.ref b20), (.ref b20), (.ref a19), (.ref a19)]))
      refine GoV.st (fun _ kq_ => XS.iconst X20.here hx rfl (hb hby dt_112) kq_) ?_
      show GoV p e below s _ _ _ (T20.setTop (mkF m 113 #[.val (.ref a), .val (.int (4 : Int32))] [(.int (0 : Int32)), (.ref b20), (.ref b20), (.ref a19), (.ref a19)]))
      refine GoV.st (fun _ kq_ => XS.aloadN X20.here hx rfl (hb hby dt_113) rfl rfl kq_) ?_
      show GoV p e below s _ _ _ (T20.setTop (mkF m 114 #[.val (.ref a), .val (.int (4 : Int32))] [(.ref a), (.int (0 : Int32)), (.ref b20), (.ref b20), (.ref a19), (.ref a19)]))
      refine GoV.st (fun _ kq_ => XS.iconst X20.here hx rfl (hb hby dt_114) kq_) ?_
      show GoV p e below s _ _ _ (T20.setTop (mkF m 115 #[.val (.ref a), .val (.int (4 : Int32))] [(.int (0 : Int32)), (.ref a), (.int (0 : Int32)), (.ref b20), (.ref b20), (.ref a19), (.ref a19)]))
      refine GoV.st (fun _ kq_ => own_caload X20 hx hZ e20 V_a (by decide) (by decide) (v := (.int c0)) rfl (g := (mkF m 115 #[.val (.ref a), .val (.int (4 : Int32))] [(.int (0 : Int32)), (.ref a), (.int (0 : Int32)), (.ref b20), (.ref b20), (.ref a19), (.ref a19)])) rfl rfl (hb hby dt_115) _ kq_) ?_
      show GoV p e below s _ _ _ (T20.setTop (mkF m 116 #[.val (.ref a), .val (.int (4 : Int32))] [(.int c0), (.int (0 : Int32)), (.ref b20), (.ref b20), (.ref a19), (.ref a19)]))
      obtain ⟨T21, h21, X21, e21, W21, V21, st21⟩ := own_stC X20 hx hZ e20 V_b20 (j := (0 : Int32)) (by decide) (by decide) 0 rfl (Nat.le_of_ble_eq_true rfl) (g := (mkF m 116 #[.val (.ref a), .val (.int (4 : Int32))] [(.int c0), (.int (0 : Int32)), (.ref b20), (.ref b20), (.ref a19), (.ref a19)])) rfl rfl (hb hby dt_116)
      obtain ⟨lc21, X21, N21⟩ := own_gen X21 (Fr.snoc X21 N0 g_b20)
      have O21 := O20.wr W21 g_b20
      have K21 := K20.wr W21 (Or.inr sz_b20)
      have V_a := V_a.other W21 ne_a_b20
      have E_a19 := E_a19.wr W21
      have F_a19_coder := F_a19_coder.other W21 (Or.inl ne_a19_b20)
      have F_a19_value := F_a19_value.other W21 (Or.inl ne_a19_b20)
      have hk21 := Nat.le_trans hk20 (Nat.le_of_eq W21.size.symm)
      have V_b20 : Arv Z h21 b20 k20 .char (4 : Int32) [(.int (nar .char c0)), (.int (0 : Int32)), (.int (0 : Int32)), (.int (0 : Int32))] (.int (0 : Int32)) := V21
      refine GoV.st st21 ?_
      show GoV p e below s _ _ _ (T21.setTop (mkF m 117 #[.val (.ref a), .val (.int (4 : Int32))] [(.ref b20), (.ref a19), (.ref a19)]))
      refine GoV.st (fun _ kq_ => XS.dup X21.here hx rfl (hb hby dt_117) rfl rfl kq_) ?_
      show GoV p e below s _ _ _ (T21.setTop (mkF m 118 #[.val (.ref a), .val (.int (4 : Int32))] [(.ref b20), (.ref b20), (.ref a19), (.ref a19)]))
      refine GoV.st (fun _ kq_ => XS.iconst X21.here hx rfl (hb hby dt_118) kq_) ?_
      show GoV p e below s _ _ _ (T21.setTop (mkF m 119 #[.val (.ref a), .val (.int (4 : Int32))] [(.int (1 : Int32)), (.ref b20), (.ref b20), (.ref a19), (.ref a19)]))
      refine GoV.st (fun _ kq_ => XS.aloadN X21.here hx rfl (hb hby dt_119) rfl rfl kq_) ?_
      show GoV p e below s _ _ _ (T21.setTop (mkF m 120 #[.val (.ref a), .val (.int (4 : Int32))] [(.ref a), (.int (1 : Int32)), (.ref b20), (.ref b20), (.ref a19), (.ref a19)]))
      refine GoV.st (fun _ kq_ => XS.iconst X21.here hx rfl (hb hby dt_120) kq_) ?_
      show GoV p e below s _ _ _ (T21.setTop (mkF m 121 #[.val (.ref a), .val (.int (4 : Int32))] [(.int (1 : Int32)), (.ref a), (.int (1 : Int32)), (.ref b20), (.ref b20), (.ref a19), (.ref a19)]))
      refine GoV.st (fun _ kq_ => own_caload X21 hx hZ e21 V_a (by decide) (by decide) (v := (.int c1)) rfl (g := (mkF m 121 #[.val (.ref a), .val (.int (4 : Int32))] [(.int (1 : Int32)), (.ref a), (.int (1 : Int32)), (.ref b20), (.ref b20), (.ref a19), (.ref a19)])) rfl rfl (hb hby dt_121) _ kq_) ?_
      show GoV p e below s _ _ _ (T21.setTop (mkF m 122 #[.val (.ref a), .val (.int (4 : Int32))] [(.int c1), (.int (1 : Int32)), (.ref b20), (.ref b20), (.ref a19), (.ref a19)]))
      obtain ⟨T22, h22, X22, e22, W22, V22, st22⟩ := own_stC X21 hx hZ e21 V_b20 (j := (1 : Int32)) (by decide) (by decide) 1 rfl (Nat.le_of_ble_eq_true rfl) (g := (mkF m 122 #[.val (.ref a), .val (.int (4 : Int32))] [(.int c1), (.int (1 : Int32)), (.ref b20), (.ref b20), (.ref a19), (.ref a19)])) rfl rfl (hb hby dt_122)
      obtain ⟨lc22, X22, N22⟩ := own_gen X22 (Fr.snoc X22 N21 g_b20)
      have O22 := O21.wr W22 g_b20
      have K22 := K21.wr W22 (Or.inr sz_b20)
      have V_a := V_a.other W22 ne_a_b20
      have E_a19 := E_a19.wr W22
      have F_a19_coder := F_a19_coder.other W22 (Or.inl ne_a19_b20)
      have F_a19_value := F_a19_value.other W22 (Or.inl ne_a19_b20)
      have hk22 := Nat.le_trans hk21 (Nat.le_of_eq W22.size.symm)
      have V_b20 : Arv Z h22 b20 k20 .char (4 : Int32) [(.int (nar .char c0)), (.int (nar .char c1)), (.int (0 : Int32)), (.int (0 : Int32))] (.int (0 : Int32)) := V22
      refine GoV.st st22 ?_
      show GoV p e below s _ _ _ (T22.setTop (mkF m 123 #[.val (.ref a), .val (.int (4 : Int32))] [(.ref b20), (.ref a19), (.ref a19)]))
      refine GoV.st (fun _ kq_ => XS.dup X22.here hx rfl (hb hby dt_123) rfl rfl kq_) ?_
      show GoV p e below s _ _ _ (T22.setTop (mkF m 124 #[.val (.ref a), .val (.int (4 : Int32))] [(.ref b20), (.ref b20), (.ref a19), (.ref a19)]))
      refine GoV.st (fun _ kq_ => XS.iconst X22.here hx rfl (hb hby dt_124) kq_) ?_
      show GoV p e below s _ _ _ (T22.setTop (mkF m 125 #[.val (.ref a), .val (.int (4 : Int32))] [(.int (2 : Int32)), (.ref b20), (.ref b20), (.ref a19), (.ref a19)]))
      refine GoV.st (fun _ kq_ => XS.aloadN X22.here hx rfl (hb hby dt_125) rfl rfl kq_) ?_
      show GoV p e below s _ _ _ (T22.setTop (mkF m 126 #[.val (.ref a), .val (.int (4 : Int32))] [(.ref a), (.int (2 : Int32)), (.ref b20), (.ref b20), (.ref a19), (.ref a19)]))
      refine GoV.st (fun _ kq_ => XS.iconst X22.here hx rfl (hb hby dt_126) kq_) ?_
      show GoV p e below s _ _ _ (T22.setTop (mkF m 127 #[.val (.ref a), .val (.int (4 : Int32))] [(.int (2 : Int32)), (.ref a), (.int (2 : Int32)), (.ref b20), (.ref b20), (.ref a19), (.ref a19)]))
      refine GoV.st (fun _ kq_ => own_caload X22 hx hZ e22 V_a (by decide) (by decide) (v := (.int c2)) rfl (g := (mkF m 127 #[.val (.ref a), .val (.int (4 : Int32))] [(.int (2 : Int32)), (.ref a), (.int (2 : Int32)), (.ref b20), (.ref b20), (.ref a19), (.ref a19)])) rfl rfl (hb hby dt_127) _ kq_) ?_
      show GoV p e below s _ _ _ (T22.setTop (mkF m 128 #[.val (.ref a), .val (.int (4 : Int32))] [(.int c2), (.int (2 : Int32)), (.ref b20), (.ref b20), (.ref a19), (.ref a19)]))
      obtain ⟨T23, h23, X23, e23, W23, V23, st23⟩ := own_stC X22 hx hZ e22 V_b20 (j := (2 : Int32)) (by decide) (by decide) 2 rfl (Nat.le_of_ble_eq_true rfl) (g := (mkF m 128 #[.val (.ref a), .val (.int (4 : Int32))] [(.int c2), (.int (2 : Int32)), (.ref b20), (.ref b20), (.ref a19), (.ref a19)])) rfl rfl (hb hby dt_128)
      obtain ⟨lc23, X23, N23⟩ := own_gen X23 (Fr.snoc X23 N22 g_b20)
      have O23 := O22.wr W23 g_b20
      have K23 := K22.wr W23 (Or.inr sz_b20)
      have V_a := V_a.other W23 ne_a_b20
      have E_a19 := E_a19.wr W23
      have F_a19_coder := F_a19_coder.other W23 (Or.inl ne_a19_b20)
      have F_a19_value := F_a19_value.other W23 (Or.inl ne_a19_b20)
      have hk23 := Nat.le_trans hk22 (Nat.le_of_eq W23.size.symm)
      have V_b20 : Arv Z h23 b20 k20 .char (4 : Int32) [(.int (nar .char c0)), (.int (nar .char c1)), (.int (nar .char c2)), (.int (0 : Int32))] (.int (0 : Int32)) := V23
      refine GoV.st st23 ?_
      show GoV p e below s _ _ _ (T23.setTop (mkF m 129 #[.val (.ref a), .val (.int (4 : Int32))] [(.ref b20), (.ref a19), (.ref a19)]))
      refine GoV.st (fun _ kq_ => XS.dup X23.here hx rfl (hb hby dt_129) rfl rfl kq_) ?_
      show GoV p e below s _ _ _ (T23.setTop (mkF m 130 #[.val (.ref a), .val (.int (4 : Int32))] [(.ref b20), (.ref b20), (.ref a19), (.ref a19)]))
      refine GoV.st (fun _ kq_ => XS.iconst X23.here hx rfl (hb hby dt_130) kq_) ?_
      show GoV p e below s _ _ _ (T23.setTop (mkF m 131 #[.val (.ref a), .val (.int (4 : Int32))] [(.int (3 : Int32)), (.ref b20), (.ref b20), (.ref a19), (.ref a19)]))
      refine GoV.st (fun _ kq_ => XS.aloadN X23.here hx rfl (hb hby dt_131) rfl rfl kq_) ?_
      show GoV p e below s _ _ _ (T23.setTop (mkF m 132 #[.val (.ref a), .val (.int (4 : Int32))] [(.ref a), (.int (3 : Int32)), (.ref b20), (.ref b20), (.ref a19), (.ref a19)]))
      refine GoV.st (fun _ kq_ => XS.iconst X23.here hx rfl (hb hby dt_132) kq_) ?_
      show GoV p e below s _ _ _ (T23.setTop (mkF m 133 #[.val (.ref a), .val (.int (4 : Int32))] [(.int (3 : Int32)), (.ref a), (.int (3 : Int32)), (.ref b20), (.ref b20), (.ref a19), (.ref a19)]))
      refine GoV.st (fun _ kq_ => own_caload X23 hx hZ e23 V_a (by decide) (by decide) (v := (.int c3)) rfl (g := (mkF m 133 #[.val (.ref a), .val (.int (4 : Int32))] [(.int (3 : Int32)), (.ref a), (.int (3 : Int32)), (.ref b20), (.ref b20), (.ref a19), (.ref a19)])) rfl rfl (hb hby dt_133) _ kq_) ?_
      show GoV p e below s _ _ _ (T23.setTop (mkF m 134 #[.val (.ref a), .val (.int (4 : Int32))] [(.int c3), (.int (3 : Int32)), (.ref b20), (.ref b20), (.ref a19), (.ref a19)]))
      obtain ⟨T24, h24, X24, e24, W24, V24, st24⟩ := own_stC X23 hx hZ e23 V_b20 (j := (3 : Int32)) (by decide) (by decide) 3 rfl (Nat.le_of_ble_eq_true rfl) (g := (mkF m 134 #[.val (.ref a), .val (.int (4 : Int32))] [(.int c3), (.int (3 : Int32)), (.ref b20), (.ref b20), (.ref a19), (.ref a19)])) rfl rfl (hb hby dt_134)
      obtain ⟨lc24, X24, N24⟩ := own_gen X24 (Fr.snoc X24 N23 g_b20)
      have O24 := O23.wr W24 g_b20
      have K24 := K23.wr W24 (Or.inr sz_b20)
      have V_a := V_a.other W24 ne_a_b20
      have E_a19 := E_a19.wr W24
      have F_a19_coder := F_a19_coder.other W24 (Or.inl ne_a19_b20)
      have F_a19_value := F_a19_value.other W24 (Or.inl ne_a19_b20)
      have hk24 := Nat.le_trans hk23 (Nat.le_of_eq W24.size.symm)
      have V_b20 : Arv Z h24 b20 k20 .char (4 : Int32) [(.int (nar .char c0)), (.int (nar .char c1)), (.int (nar .char c2)), (.int (nar .char c3))] (.int (0 : Int32)) := V24
      refine GoV.st st24 ?_
      show GoV p e below s _ _ _ (T24.setTop (mkF m 135 #[.val (.ref a), .val (.int (4 : Int32))] [(.ref b20), (.ref a19), (.ref a19)]))
      have hp : ∀ z ∈ ([(nar .char c0), (nar .char c1), (nar .char c2), (nar .char c3)] : List Int32), ¬ z < 0 ∧ ¬ (255 : Int32) < z := by
        intro z hz
        simp only [List.mem_cons, List.not_mem_nil, or_false] at hz
        rcases hz with rfl | rfl | rfl | rfl
        · exact (show ¬ nar .char c0 < 0 ∧ ¬ (255 : Int32) < nar .char c0 by rw [own_nc hc0]; exact hc0)
        · exact (show ¬ nar .char c1 < 0 ∧ ¬ (255 : Int32) < nar .char c1 by rw [own_nc hc1]; exact hc1)
        · exact (show ¬ nar .char c2 < 0 ∧ ¬ (255 : Int32) < nar .char c2 by rw [own_nc hc2]; exact hc2)
        · exact (show ¬ nar .char c3 < 0 ∧ ¬ (255 : Int32) < nar .char c3 by rw [own_nc hc3]; exact hc3)
      obtain ⟨_, _, ⟨T25, L25, k25, n25⟩, -, X25, ⟨Lc25, hQ25, l25, y25, z25⟩, st25⟩ := X24.specialBack hx (y := (⟨"java/lang/String", "<init>", "([C)V"⟩ : MethodName)) rfl hown (mvT hZ (own_w hw 9 rfl)) (mvT hZ (own_w hw 10 rfl)) (mvT hZ (own_w hw 11 rfl)) (by decide) (StrChars.Road.backV (W := 1) hZ hws (kI := 4) (own_w hw 7 rfl) (cs := ([(nar .char c0), (nar .char c1), (nar .char c2), (nar .char c3)] : List Int32)) (bs := ([(nar .char c0), (nar .char c1), (nar .char c2), (nar .char c3)] : List Int32).map (fun c => c.toInt8.toInt32)) (n := 4) g_a19 (own_old O24) E_a19 F_a19_value F_a19_coder V_b20 (SC.ext O24.2) hcs rfl rfl (by decide) (by decide) hp rfl (by decide) (by decide)) (g := (mkF m 135 #[.val (.ref a), .val (.int (4 : Int32))] [(.ref b20), (.ref a19), (.ref a19)])) rfl (by rw [hml]; rfl) (Steps.refl _) (a := a19) (argsL := [(.ref b20)]) (rest := [(.ref a19)]) (lenOf pdt_0 rfl) rfl (by show 2 * 0 + _ ≤ _; exact Nat.le_of_eq rfl) (hb hby dt_135) (fun _ _ => ⟨rfl, e24, (by decide : 2 + 1 ≤ _), (by decide : 8 + 4 ≤ _)⟩)
      dsimp only [Pt.U, Pt.locs, Pt.cells, Pt.slots] at X25 l25 y25 z25 st25 hQ25
      subst y25 z25
      obtain ⟨rfl, Nc25, Kc25, NE, NC, t25, kt25, gt25, szt25, -, NV, NB⟩ := hQ25
      have N25 : Fr n0 L25 := by rw [l25]; exact Fr.app N24 Nc25
      have V_a := V_a.keep Kc25 (ninS ne_a_a19 nin0)
      have V_b20 := V_b20.keep Kc25 (ninS (Ne.symm ne_a19_b20) nin0)
      have hk25 := Nat.le_trans hk24 Kc25.1
      have O25 := O24.keep Kc25 (allS g_a19 all0)
      have K25 := K24.trans Kc25 (allS (Or.inr sz_a19) all0)
      have E_a19 : Exa Z T25.heap a19 "java/lang/String" := NE
      have F_a19_coder : Fld Z T25.heap a19 "java/lang/String" "coder" "B" (.int (0 : Int32)) := NC
      have F_a19_value : Fld Z T25.heap a19 "java/lang/String" "value" "[B" (.ref t25) := NV
      have V_t25 : Arv Z T25.heap t25 kt25 .byte (4 : Int32) ((([(nar .char c0), (nar .char c1), (nar .char c2), (nar .char c3)] : List Int32).map (fun c => c.toInt8.toInt32)).map Value.int) (.int (0 : Int32)) := NB
      refine GoV.tr st25 ?_
      show GoV p e below s _ _ _ (T25.setTop (mkF m 138 #[.val (.ref a), .val (.int (4 : Int32))] [(.ref a19)]))
      exact GoV.ret (vm1 := s.vm) X25 hlk hS0 (by exact hk25) (some (.ref a19)) (fun h => by rw [Bd.returns] at h; cases h) (by exact ⟨a19, t25, _, _, _, ([(nar .char c0), (nar .char c1), (nar .char c2), (nar .char c3)] : List Int32), rfl, N25, K25, g_a19, sz_a19, E_a19, F_a19_coder, F_a19_value, V_t25, StrChars.Road.codOf (n := 4) rfl (fun c hc => (hp c hc).2), own_up hp, Nat.le_of_ble_eq_true rfl, own_ibM (own_ibW (vm0 := s.vm) I0 X25) (by decide)⟩) (by decide) (by decide) (fun fs hr => retOut X25 hx Bd.returns rfl (Or.inr (Or.inr (Or.inr (Or.inr ⟨rfl, rfl, rfl⟩)))) (hb hby dt_138) hr)
    · show GoV p e below s _ _ _ (s₁.setTop (mkF m 0 #[.val (.ref a), .val (.int (5 : Int32))] []))
      refine GoV.st (fun _ kq_ => XS.iloadN X0.here hx rfl (hb hby dt_0) rfl kq_) ?_
      show GoV p e below s _ _ _ (s₁.setTop (mkF m 1 #[.val (.ref a), .val (.int (5 : Int32))] [(.int (5 : Int32))]))
      refine GoV.st (fun _ kq_ => XS.ifYes X0.here hx rfl (pc0 := 1) (pc' := 15) rfl (hb hby dt_1) rfl (by decide) (by decide) (by decide) kq_) ?_
      show GoV p e below s _ _ _ (s₁.setTop (mkF m 15 #[.val (.ref a), .val (.int (5 : Int32))] []))
      refine GoV.st (fun _ kq_ => XS.iloadN X0.here hx rfl (hb hby dt_15) rfl kq_) ?_
      show GoV p e below s _ _ _ (s₁.setTop (mkF m 16 #[.val (.ref a), .val (.int (5 : Int32))] [(.int (5 : Int32))]))
      refine GoV.st (fun _ kq_ => XS.iconst X0.here hx rfl (hb hby dt_16) kq_) ?_
      show GoV p e below s _ _ _ (s₁.setTop (mkF m 17 #[.val (.ref a), .val (.int (5 : Int32))] [(.int (1 : Int32)), (.int (5 : Int32))]))
      refine GoV.st (fun _ kq_ => XS.icmpYes X0.here hx rfl (pc0 := 17) (pc' := 37) rfl (hb hby dt_17) rfl (by decide) (by decide) (by decide) kq_) ?_
      show GoV p e below s _ _ _ (s₁.setTop (mkF m 37 #[.val (.ref a), .val (.int (5 : Int32))] []))
      refine GoV.st (fun _ kq_ => XS.iloadN X0.here hx rfl (hb hby dt_37) rfl kq_) ?_
      show GoV p e below s _ _ _ (s₁.setTop (mkF m 38 #[.val (.ref a), .val (.int (5 : Int32))] [(.int (5 : Int32))]))
      refine GoV.st (fun _ kq_ => XS.iconst X0.here hx rfl (hb hby dt_38) kq_) ?_
      show GoV p e below s _ _ _ (s₁.setTop (mkF m 39 #[.val (.ref a), .val (.int (5 : Int32))] [(.int (2 : Int32)), (.int (5 : Int32))]))
      refine GoV.st (fun _ kq_ => XS.icmpYes X0.here hx rfl (pc0 := 39) (pc' := 65) rfl (hb hby dt_39) rfl (by decide) (by decide) (by decide) kq_) ?_
      show GoV p e below s _ _ _ (s₁.setTop (mkF m 65 #[.val (.ref a), .val (.int (5 : Int32))] []))
      refine GoV.st (fun _ kq_ => XS.iloadN X0.here hx rfl (hb hby dt_65) rfl kq_) ?_
      show GoV p e below s _ _ _ (s₁.setTop (mkF m 66 #[.val (.ref a), .val (.int (5 : Int32))] [(.int (5 : Int32))]))
      refine GoV.st (fun _ kq_ => XS.iconst X0.here hx rfl (hb hby dt_66) kq_) ?_
      show GoV p e below s _ _ _ (s₁.setTop (mkF m 67 #[.val (.ref a), .val (.int (5 : Int32))] [(.int (3 : Int32)), (.int (5 : Int32))]))
      refine GoV.st (fun _ kq_ => XS.icmpYes X0.here hx rfl (pc0 := 67) (pc' := 99) rfl (hb hby dt_67) rfl (by decide) (by decide) (by decide) kq_) ?_
      show GoV p e below s _ _ _ (s₁.setTop (mkF m 99 #[.val (.ref a), .val (.int (5 : Int32))] []))
      refine GoV.st (fun _ kq_ => XS.iloadN X0.here hx rfl (hb hby dt_99) rfl kq_) ?_
      show GoV p e below s _ _ _ (s₁.setTop (mkF m 100 #[.val (.ref a), .val (.int (5 : Int32))] [(.int (5 : Int32))]))
      refine GoV.st (fun _ kq_ => XS.iconst X0.here hx rfl (hb hby dt_100) kq_) ?_
      show GoV p e below s _ _ _ (s₁.setTop (mkF m 101 #[.val (.ref a), .val (.int (5 : Int32))] [(.int (4 : Int32)), (.int (5 : Int32))]))
      refine GoV.st (fun _ kq_ => XS.icmpYes X0.here hx rfl (pc0 := 101) (pc' := 139) rfl (hb hby dt_101) rfl (by decide) (by decide) (by decide) kq_) ?_
      show GoV p e below s _ _ _ (s₁.setTop (mkF m 139 #[.val (.ref a), .val (.int (5 : Int32))] []))
      refine GoV.st (fun _ kq_ => XS.iloadN X0.here hx rfl (hb hby dt_139) rfl kq_) ?_
      show GoV p e below s _ _ _ (s₁.setTop (mkF m 140 #[.val (.ref a), .val (.int (5 : Int32))] [(.int (5 : Int32))]))
      refine GoV.st (fun _ kq_ => XS.iconst X0.here hx rfl (hb hby dt_140) kq_) ?_
      show GoV p e below s _ _ _ (s₁.setTop (mkF m 141 #[.val (.ref a), .val (.int (5 : Int32))] [(.int (5 : Int32)), (.int (5 : Int32))]))
      refine GoV.st (fun _ kq_ => XS.icmpNo X0.here hx rfl (hb hby dt_141) rfl (by decide) kq_) ?_
      show GoV p e below s _ _ _ (s₁.setTop (mkF m 144 #[.val (.ref a), .val (.int (5 : Int32))] []))
      obtain ⟨T26, h26, X26, e26, E26, A26, D26, -, st26⟩ := newO X0 hx hZ hown (own_w hw 6 rfl) (own_w hw 7 rfl) (own_w hw 8 rfl) e0 (g := (mkF m 144 #[.val (.ref a), .val (.int (5 : Int32))] [])) rfl (hb hby dt_144) (by decide) (by decide)
      obtain ⟨a26, g26⟩ : ∃ z, z = h0.size := ⟨_, rfl⟩
      rw [← g26] at A26 D26 st26
      have g_a26 : n0 ≤ a26 := Nat.le_trans (own_old O0) (Nat.le_of_eq g26.symm)
      have sz_a26 : h0.size ≤ a26 := Nat.le_trans K0.1 (Nat.le_of_eq g26.symm)
      have ne_a_a26 : a ≠ a26 := by rw [g26]; exact Nat.ne_of_lt V_a.lt
      have V_a := V_a.ext E26
      have hk26 := Nat.le_trans hk0 E26.1
      have O26 := O0.ext E26
      have K26 := K0.ext E26
      have E_a26 : Exa Z h26 a26 "java/lang/String" := A26
      have F_a26_coder : Fld Z h26 a26 "java/lang/String" "coder" "B" (.int (0 : Int32)) := D26 (Or.inr (own_w hw 32 rfl)) (ty := .byte) (by decide)
      have F_a26_value : Fld Z h26 a26 "java/lang/String" "value" "[B" .null := D26 (Or.inr (own_w hw 34 rfl)) (ty := (.array .byte)) (by decide)
      refine GoV.st st26 ?_
      show GoV p e below s _ _ _ (T26.setTop (mkF m 147 #[.val (.ref a), .val (.int (5 : Int32))] [(.ref a26)]))
      refine GoV.st (fun _ kq_ => XS.dup X26.here hx rfl (hb hby dt_147) rfl rfl kq_) ?_
      show GoV p e below s _ _ _ (T26.setTop (mkF m 148 #[.val (.ref a), .val (.int (5 : Int32))] [(.ref a26), (.ref a26)]))
      refine GoV.st (fun _ kq_ => XS.iconst X26.here hx rfl (hb hby dt_148) kq_) ?_
      show GoV p e below s _ _ _ (T26.setTop (mkF m 149 #[.val (.ref a), .val (.int (5 : Int32))] [(.int (5 : Int32)), (.ref a26), (.ref a26)]))
      obtain ⟨T27, h27, k27, X27, e27, E27, A27, st27⟩ := newP X26 hx hZ (own_w hw 0 rfl) e26 (g := (mkF m 149 #[.val (.ref a), .val (.int (5 : Int32))] [(.int (5 : Int32)), (.ref a26), (.ref a26)])) rfl (hb hby dt_149) rfl (by decide) (cap := 5) (by decide) (by decide) (by decide) (by decide)
      obtain ⟨b27, g27⟩ : ∃ z, z = h26.size := ⟨_, rfl⟩
      rw [← g27] at A27 st27
      have g_b27 : n0 ≤ b27 := Nat.le_trans (own_old O26) (Nat.le_of_eq g27.symm)
      have sz_b27 : h0.size ≤ b27 := Nat.le_trans K26.1 (Nat.le_of_eq g27.symm)
      have ne_a_b27 : a ≠ b27 := by rw [g27]; exact Nat.ne_of_lt V_a.lt
      have ne_a26_b27 : a26 ≠ b27 := by rw [g27]; exact Nat.ne_of_lt E_a26.lt
      have V_a := V_a.ext E27
      have E_a26 := E_a26.ext E27
      have F_a26_coder := F_a26_coder.ext E27
      have F_a26_value := F_a26_value.ext E27
      have hk27 := Nat.le_trans hk26 E27.1
      have O27 := O26.ext E27
      have K27 := K26.ext E27
      have V_b27 : Arv Z h27 b27 k27 .char (5 : Int32) [(.int (0 : Int32)), (.int (0 : Int32)), (.int (0 : Int32)), (.int (0 : Int32)), (.int (0 : Int32))] (.int (0 : Int32)) := (Arv.new A27 (by decide)).pad (pad_rep [] (.int (0 : Int32)) 5)
      refine GoV.st st27 ?_
      show GoV p e below s _ _ _ (T27.setTop (mkF m 151 #[.val (.ref a), .val (.int (5 : Int32))] [(.ref b27), (.ref a26), (.ref a26)]))
      refine GoV.st (fun _ kq_ => XS.dup X27.here hx rfl (hb hby dt_151) rfl rfl kq_) ?_
      show GoV p e below s _ _ _ (T27.setTop (mkF m 152 #[.val (.ref a), .val (.int (5 : Int32))] [(.ref b27), (.ref b27), (.ref a26), (.ref a26)]))
      refine GoV.st (fun _ kq_ => XS.iconst X27.here hx rfl (hb hby dt_152) kq_) ?_
      show GoV p e below s _ _ _ (T27.setTop (mkF m 153 #[.val (.ref a), .val (.int (5 : Int32))] [(.int (0 : Int32)), (.ref b27), (.ref b27), (.ref a26), (.ref a26)]))
      refine GoV.st (fun _ kq_ => XS.aloadN X27.here hx rfl (hb hby dt_153) rfl rfl kq_) ?_
      show GoV p e below s _ _ _ (T27.setTop (mkF m 154 #[.val (.ref a), .val (.int (5 : Int32))] [(.ref a), (.int (0 : Int32)), (.ref b27), (.ref b27), (.ref a26), (.ref a26)]))
      refine GoV.st (fun _ kq_ => XS.iconst X27.here hx rfl (hb hby dt_154) kq_) ?_
      show GoV p e below s _ _ _ (T27.setTop (mkF m 155 #[.val (.ref a), .val (.int (5 : Int32))] [(.int (0 : Int32)), (.ref a), (.int (0 : Int32)), (.ref b27), (.ref b27), (.ref a26), (.ref a26)]))
      refine GoV.st (fun _ kq_ => own_caload X27 hx hZ e27 V_a (by decide) (by decide) (v := (.int c0)) rfl (g := (mkF m 155 #[.val (.ref a), .val (.int (5 : Int32))] [(.int (0 : Int32)), (.ref a), (.int (0 : Int32)), (.ref b27), (.ref b27), (.ref a26), (.ref a26)])) rfl rfl (hb hby dt_155) _ kq_) ?_
      show GoV p e below s _ _ _ (T27.setTop (mkF m 156 #[.val (.ref a), .val (.int (5 : Int32))] [(.int c0), (.int (0 : Int32)), (.ref b27), (.ref b27), (.ref a26), (.ref a26)]))
      obtain ⟨T28, h28, X28, e28, W28, V28, st28⟩ := own_stC X27 hx hZ e27 V_b27 (j := (0 : Int32)) (by decide) (by decide) 0 rfl (Nat.le_of_ble_eq_true rfl) (g := (mkF m 156 #[.val (.ref a), .val (.int (5 : Int32))] [(.int c0), (.int (0 : Int32)), (.ref b27), (.ref b27), (.ref a26), (.ref a26)])) rfl rfl (hb hby dt_156)
      obtain ⟨lc28, X28, N28⟩ := own_gen X28 (Fr.snoc X28 N0 g_b27)
      have O28 := O27.wr W28 g_b27
      have K28 := K27.wr W28 (Or.inr sz_b27)
      have V_a := V_a.other W28 ne_a_b27
      have E_a26 := E_a26.wr W28
      have F_a26_coder := F_a26_coder.other W28 (Or.inl ne_a26_b27)
      have F_a26_value := F_a26_value.other W28 (Or.inl ne_a26_b27)
      have hk28 := Nat.le_trans hk27 (Nat.le_of_eq W28.size.symm)
      have V_b27 : Arv Z h28 b27 k27 .char (5 : Int32) [(.int (nar .char c0)), (.int (0 : Int32)), (.int (0 : Int32)), (.int (0 : Int32)), (.int (0 : Int32))] (.int (0 : Int32)) := V28
      refine GoV.st st28 ?_
      show GoV p e below s _ _ _ (T28.setTop (mkF m 157 #[.val (.ref a), .val (.int (5 : Int32))] [(.ref b27), (.ref a26), (.ref a26)]))
      refine GoV.st (fun _ kq_ => XS.dup X28.here hx rfl (hb hby dt_157) rfl rfl kq_) ?_
      show GoV p e below s _ _ _ (T28.setTop (mkF m 158 #[.val (.ref a), .val (.int (5 : Int32))] [(.ref b27), (.ref b27), (.ref a26), (.ref a26)]))
      refine GoV.st (fun _ kq_ => XS.iconst X28.here hx rfl (hb hby dt_158) kq_) ?_
      show GoV p e below s _ _ _ (T28.setTop (mkF m 159 #[.val (.ref a), .val (.int (5 : Int32))] [(.int (1 : Int32)), (.ref b27), (.ref b27), (.ref a26), (.ref a26)]))
      refine GoV.st (fun _ kq_ => XS.aloadN X28.here hx rfl (hb hby dt_159) rfl rfl kq_) ?_
      show GoV p e below s _ _ _ (T28.setTop (mkF m 160 #[.val (.ref a), .val (.int (5 : Int32))] [(.ref a), (.int (1 : Int32)), (.ref b27), (.ref b27), (.ref a26), (.ref a26)]))
      refine GoV.st (fun _ kq_ => XS.iconst X28.here hx rfl (hb hby dt_160) kq_) ?_
      show GoV p e below s _ _ _ (T28.setTop (mkF m 161 #[.val (.ref a), .val (.int (5 : Int32))] [(.int (1 : Int32)), (.ref a), (.int (1 : Int32)), (.ref b27), (.ref b27), (.ref a26), (.ref a26)]))
      refine GoV.st (fun _ kq_ => own_caload X28 hx hZ e28 V_a (by decide) (by decide) (v := (.int c1)) rfl (g := (mkF m 161 #[.val (.ref a), .val (.int (5 : Int32))] [(.int (1 : Int32)), (.ref a), (.int (1 : Int32)), (.ref b27), (.ref b27), (.ref a26), (.ref a26)])) rfl rfl (hb hby dt_161) _ kq_) ?_
      show GoV p e below s _ _ _ (T28.setTop (mkF m 162 #[.val (.ref a), .val (.int (5 : Int32))] [(.int c1), (.int (1 : Int32)), (.ref b27), (.ref b27), (.ref a26), (.ref a26)]))
      obtain ⟨T29, h29, X29, e29, W29, V29, st29⟩ := own_stC X28 hx hZ e28 V_b27 (j := (1 : Int32)) (by decide) (by decide) 1 rfl (Nat.le_of_ble_eq_true rfl) (g := (mkF m 162 #[.val (.ref a), .val (.int (5 : Int32))] [(.int c1), (.int (1 : Int32)), (.ref b27), (.ref b27), (.ref a26), (.ref a26)])) rfl rfl (hb hby dt_162)
      obtain ⟨lc29, X29, N29⟩ := own_gen X29 (Fr.snoc X29 N28 g_b27)
      have O29 := O28.wr W29 g_b27
      have K29 := K28.wr W29 (Or.inr sz_b27)
      have V_a := V_a.other W29 ne_a_b27
      have E_a26 := E_a26.wr W29
      have F_a26_coder := F_a26_coder.other W29 (Or.inl ne_a26_b27)
      have F_a26_value := F_a26_value.other W29 (Or.inl ne_a26_b27)
      have hk29 := Nat.le_trans hk28 (Nat.le_of_eq W29.size.symm)
      have V_b27 : Arv Z h29 b27 k27 .char (5 : Int32) [(.int (nar .char c0)), (.int (nar .char c1)), (.int (0 : Int32)), (.int (0 : Int32)), (.int (0 : Int32))] (.int (0 : Int32)) := V29
      refine GoV.st st29 ?_
      show GoV p e below s _ _ _ (T29.setTop (mkF m 163 #[.val (.ref a), .val (.int (5 : Int32))] [(.ref b27), (.ref a26), (.ref a26)]))
      refine GoV.st (fun _ kq_ => XS.dup X29.here hx rfl (hb hby dt_163) rfl rfl kq_) ?_
      show GoV p e below s _ _ _ (T29.setTop (mkF m 164 #[.val (.ref a), .val (.int (5 : Int32))] [(.ref b27), (.ref b27), (.ref a26), (.ref a26)]))
      refine GoV.st (fun _ kq_ => XS.iconst X29.here hx rfl (hb hby dt_164) kq_) ?_
      show GoV p e below s _ _ _ (T29.setTop (mkF m 165 #[.val (.ref a), .val (.int (5 : Int32))] [(.int (2 : Int32)), (.ref b27), (.ref b27), (.ref a26), (.ref a26)]))
      refine GoV.st (fun _ kq_ => XS.aloadN X29.here hx rfl (hb hby dt_165) rfl rfl kq_) ?_
      show GoV p e below s _ _ _ (T29.setTop (mkF m 166 #[.val (.ref a), .val (.int (5 : Int32))] [(.ref a), (.int (2 : Int32)), (.ref b27), (.ref b27), (.ref a26), (.ref a26)]))
      refine GoV.st (fun _ kq_ => XS.iconst X29.here hx rfl (hb hby dt_166) kq_) ?_
      show GoV p e below s _ _ _ (T29.setTop (mkF m 167 #[.val (.ref a), .val (.int (5 : Int32))] [(.int (2 : Int32)), (.ref a), (.int (2 : Int32)), (.ref b27), (.ref b27), (.ref a26), (.ref a26)]))
      refine GoV.st (fun _ kq_ => own_caload X29 hx hZ e29 V_a (by decide) (by decide) (v := (.int c2)) rfl (g := (mkF m 167 #[.val (.ref a), .val (.int (5 : Int32))] [(.int (2 : Int32)), (.ref a), (.int (2 : Int32)), (.ref b27), (.ref b27), (.ref a26), (.ref a26)])) rfl rfl (hb hby dt_167) _ kq_) ?_
      show GoV p e below s _ _ _ (T29.setTop (mkF m 168 #[.val (.ref a), .val (.int (5 : Int32))] [(.int c2), (.int (2 : Int32)), (.ref b27), (.ref b27), (.ref a26), (.ref a26)]))
      obtain ⟨T30, h30, X30, e30, W30, V30, st30⟩ := own_stC X29 hx hZ e29 V_b27 (j := (2 : Int32)) (by decide) (by decide) 2 rfl (Nat.le_of_ble_eq_true rfl) (g := (mkF m 168 #[.val (.ref a), .val (.int (5 : Int32))] [(.int c2), (.int (2 : Int32)), (.ref b27), (.ref b27), (.ref a26), (.ref a26)])) rfl rfl (hb hby dt_168)
      obtain ⟨lc30, X30, N30⟩ := own_gen X30 (Fr.snoc X30 N29 g_b27)
      have O30 := O29.wr W30 g_b27
      have K30 := K29.wr W30 (Or.inr sz_b27)
      have V_a := V_a.other W30 ne_a_b27
      have E_a26 := E_a26.wr W30
      have F_a26_coder := F_a26_coder.other W30 (Or.inl ne_a26_b27)
      have F_a26_value := F_a26_value.other W30 (Or.inl ne_a26_b27)
      have hk30 := Nat.le_trans hk29 (Nat.le_of_eq W30.size.symm)
      have V_b27 : Arv Z h30 b27 k27 .char (5 : Int32) [(.int (nar .char c0)), (.int (nar .char c1)), (.int (nar .char c2)), (.int (0 : Int32)), (.int (0 : Int32))] (.int (0 : Int32)) := V30
      refine GoV.st st30 ?_
      show GoV p e below s _ _ _ (T30.setTop (mkF m 169 #[.val (.ref a), .val (.int (5 : Int32))] [(.ref b27), (.ref a26), (.ref a26)]))
      refine GoV.st (fun _ kq_ => XS.dup X30.here hx rfl (hb hby dt_169) rfl rfl kq_) ?_
      show GoV p e below s _ _ _ (T30.setTop (mkF m 170 #[.val (.ref a), .val (.int (5 : Int32))] [(.ref b27), (.ref b27), (.ref a26), (.ref a26)]))
      refine GoV.st (fun _ kq_ => XS.iconst X30.here hx rfl (hb hby dt_170) kq_) ?_
      show GoV p e below s _ _ _ (T30.setTop (mkF m 171 #[.val (.ref a), .val (.int (5 : Int32))] [(.int (3 : Int32)), (.ref b27), (.ref b27), (.ref a26), (.ref a26)]))
      refine GoV.st (fun _ kq_ => XS.aloadN X30.here hx rfl (hb hby dt_171) rfl rfl kq_) ?_
      show GoV p e below s _ _ _ (T30.setTop (mkF m 172 #[.val (.ref a), .val (.int (5 : Int32))] [(.ref a), (.int (3 : Int32)), (.ref b27), (.ref b27), (.ref a26), (.ref a26)]))
      refine GoV.st (fun _ kq_ => XS.iconst X30.here hx rfl (hb hby dt_172) kq_) ?_
      show GoV p e below s _ _ _ (T30.setTop (mkF m 173 #[.val (.ref a), .val (.int (5 : Int32))] [(.int (3 : Int32)), (.ref a), (.int (3 : Int32)), (.ref b27), (.ref b27), (.ref a26), (.ref a26)]))
      refine GoV.st (fun _ kq_ => own_caload X30 hx hZ e30 V_a (by decide) (by decide) (v := (.int c3)) rfl (g := (mkF m 173 #[.val (.ref a), .val (.int (5 : Int32))] [(.int (3 : Int32)), (.ref a), (.int (3 : Int32)), (.ref b27), (.ref b27), (.ref a26), (.ref a26)])) rfl rfl (hb hby dt_173) _ kq_) ?_
      show GoV p e below s _ _ _ (T30.setTop (mkF m 174 #[.val (.ref a), .val (.int (5 : Int32))] [(.int c3), (.int (3 : Int32)), (.ref b27), (.ref b27), (.ref a26), (.ref a26)]))
      obtain ⟨T31, h31, X31, e31, W31, V31, st31⟩ := own_stC X30 hx hZ e30 V_b27 (j := (3 : Int32)) (by decide) (by decide) 3 rfl (Nat.le_of_ble_eq_true rfl) (g := (mkF m 174 #[.val (.ref a), .val (.int (5 : Int32))] [(.int c3), (.int (3 : Int32)), (.ref b27), (.ref b27), (.ref a26), (.ref a26)])) rfl rfl (hb hby dt_174)
      obtain ⟨lc31, X31, N31⟩ := own_gen X31 (Fr.snoc X31 N30 g_b27)
      have O31 := O30.wr W31 g_b27
      have K31 := K30.wr W31 (Or.inr sz_b27)
      have V_a := V_a.other W31 ne_a_b27
      have E_a26 := E_a26.wr W31
      have F_a26_coder := F_a26_coder.other W31 (Or.inl ne_a26_b27)
      have F_a26_value := F_a26_value.other W31 (Or.inl ne_a26_b27)
      have hk31 := Nat.le_trans hk30 (Nat.le_of_eq W31.size.symm)
      have V_b27 : Arv Z h31 b27 k27 .char (5 : Int32) [(.int (nar .char c0)), (.int (nar .char c1)), (.int (nar .char c2)), (.int (nar .char c3)), (.int (0 : Int32))] (.int (0 : Int32)) := V31
      refine GoV.st st31 ?_
      show GoV p e below s _ _ _ (T31.setTop (mkF m 175 #[.val (.ref a), .val (.int (5 : Int32))] [(.ref b27), (.ref a26), (.ref a26)]))
      refine GoV.st (fun _ kq_ => XS.dup X31.here hx rfl (hb hby dt_175) rfl rfl kq_) ?_
      show GoV p e below s _ _ _ (T31.setTop (mkF m 176 #[.val (.ref a), .val (.int (5 : Int32))] [(.ref b27), (.ref b27), (.ref a26), (.ref a26)]))
      refine GoV.st (fun _ kq_ => XS.iconst X31.here hx rfl (hb hby dt_176) kq_) ?_
      show GoV p e below s _ _ _ (T31.setTop (mkF m 177 #[.val (.ref a), .val (.int (5 : Int32))] [(.int (4 : Int32)), (.ref b27), (.ref b27), (.ref a26), (.ref a26)]))
      refine GoV.st (fun _ kq_ => XS.aloadN X31.here hx rfl (hb hby dt_177) rfl rfl kq_) ?_
      show GoV p e below s _ _ _ (T31.setTop (mkF m 178 #[.val (.ref a), .val (.int (5 : Int32))] [(.ref a), (.int (4 : Int32)), (.ref b27), (.ref b27), (.ref a26), (.ref a26)]))
      refine GoV.st (fun _ kq_ => XS.iconst X31.here hx rfl (hb hby dt_178) kq_) ?_
      show GoV p e below s _ _ _ (T31.setTop (mkF m 179 #[.val (.ref a), .val (.int (5 : Int32))] [(.int (4 : Int32)), (.ref a), (.int (4 : Int32)), (.ref b27), (.ref b27), (.ref a26), (.ref a26)]))
      refine GoV.st (fun _ kq_ => own_caload X31 hx hZ e31 V_a (by decide) (by decide) (v := (.int c4)) rfl (g := (mkF m 179 #[.val (.ref a), .val (.int (5 : Int32))] [(.int (4 : Int32)), (.ref a), (.int (4 : Int32)), (.ref b27), (.ref b27), (.ref a26), (.ref a26)])) rfl rfl (hb hby dt_179) _ kq_) ?_
      show GoV p e below s _ _ _ (T31.setTop (mkF m 180 #[.val (.ref a), .val (.int (5 : Int32))] [(.int c4), (.int (4 : Int32)), (.ref b27), (.ref b27), (.ref a26), (.ref a26)]))
      obtain ⟨T32, h32, X32, e32, W32, V32, st32⟩ := own_stC X31 hx hZ e31 V_b27 (j := (4 : Int32)) (by decide) (by decide) 4 rfl (Nat.le_of_ble_eq_true rfl) (g := (mkF m 180 #[.val (.ref a), .val (.int (5 : Int32))] [(.int c4), (.int (4 : Int32)), (.ref b27), (.ref b27), (.ref a26), (.ref a26)])) rfl rfl (hb hby dt_180)
      obtain ⟨lc32, X32, N32⟩ := own_gen X32 (Fr.snoc X32 N31 g_b27)
      have O32 := O31.wr W32 g_b27
      have K32 := K31.wr W32 (Or.inr sz_b27)
      have V_a := V_a.other W32 ne_a_b27
      have E_a26 := E_a26.wr W32
      have F_a26_coder := F_a26_coder.other W32 (Or.inl ne_a26_b27)
      have F_a26_value := F_a26_value.other W32 (Or.inl ne_a26_b27)
      have hk32 := Nat.le_trans hk31 (Nat.le_of_eq W32.size.symm)
      have V_b27 : Arv Z h32 b27 k27 .char (5 : Int32) [(.int (nar .char c0)), (.int (nar .char c1)), (.int (nar .char c2)), (.int (nar .char c3)), (.int (nar .char c4))] (.int (0 : Int32)) := V32
      refine GoV.st st32 ?_
      show GoV p e below s _ _ _ (T32.setTop (mkF m 181 #[.val (.ref a), .val (.int (5 : Int32))] [(.ref b27), (.ref a26), (.ref a26)]))
      have hp : ∀ z ∈ ([(nar .char c0), (nar .char c1), (nar .char c2), (nar .char c3), (nar .char c4)] : List Int32), ¬ z < 0 ∧ ¬ (255 : Int32) < z := by
        intro z hz
        simp only [List.mem_cons, List.not_mem_nil, or_false] at hz
        rcases hz with rfl | rfl | rfl | rfl | rfl
        · exact (show ¬ nar .char c0 < 0 ∧ ¬ (255 : Int32) < nar .char c0 by rw [own_nc hc0]; exact hc0)
        · exact (show ¬ nar .char c1 < 0 ∧ ¬ (255 : Int32) < nar .char c1 by rw [own_nc hc1]; exact hc1)
        · exact (show ¬ nar .char c2 < 0 ∧ ¬ (255 : Int32) < nar .char c2 by rw [own_nc hc2]; exact hc2)
        · exact (show ¬ nar .char c3 < 0 ∧ ¬ (255 : Int32) < nar .char c3 by rw [own_nc hc3]; exact hc3)
        · exact (show ¬ nar .char c4 < 0 ∧ ¬ (255 : Int32) < nar .char c4 by rw [own_nc hc4]; exact hc4)
      obtain ⟨_, _, ⟨T33, L33, k33, n33⟩, -, X33, ⟨Lc33, hQ33, l33, y33, z33⟩, st33⟩ := X32.specialBack hx (y := (⟨"java/lang/String", "<init>", "([C)V"⟩ : MethodName)) rfl hown (mvT hZ (own_w hw 9 rfl)) (mvT hZ (own_w hw 10 rfl)) (mvT hZ (own_w hw 11 rfl)) (by decide) (StrChars.Road.backV (W := 1) hZ hws (kI := 4) (own_w hw 7 rfl) (cs := ([(nar .char c0), (nar .char c1), (nar .char c2), (nar .char c3), (nar .char c4)] : List Int32)) (bs := ([(nar .char c0), (nar .char c1), (nar .char c2), (nar .char c3), (nar .char c4)] : List Int32).map (fun c => c.toInt8.toInt32)) (n := 5) g_a26 (own_old O32) E_a26 F_a26_value F_a26_coder V_b27 (SC.ext O32.2) hcs rfl rfl (by decide) (by decide) hp rfl (by decide) (by decide)) (g := (mkF m 181 #[.val (.ref a), .val (.int (5 : Int32))] [(.ref b27), (.ref a26), (.ref a26)])) rfl (by rw [hml]; rfl) (Steps.refl _) (a := a26) (argsL := [(.ref b27)]) (rest := [(.ref a26)]) (lenOf pdt_0 rfl) rfl (by show 2 * 0 + _ ≤ _; exact Nat.le_of_eq rfl) (hb hby dt_181) (fun _ _ => ⟨rfl, e32, (by decide : 2 + 1 ≤ _), (by decide : 9 + 5 ≤ _)⟩)
      dsimp only [Pt.U, Pt.locs, Pt.cells, Pt.slots] at X33 l33 y33 z33 st33 hQ33
      subst y33 z33
      obtain ⟨rfl, Nc33, Kc33, NE, NC, t33, kt33, gt33, szt33, -, NV, NB⟩ := hQ33
      have N33 : Fr n0 L33 := by rw [l33]; exact Fr.app N32 Nc33
      have V_a := V_a.keep Kc33 (ninS ne_a_a26 nin0)
      have V_b27 := V_b27.keep Kc33 (ninS (Ne.symm ne_a26_b27) nin0)
      have hk33 := Nat.le_trans hk32 Kc33.1
      have O33 := O32.keep Kc33 (allS g_a26 all0)
      have K33 := K32.trans Kc33 (allS (Or.inr sz_a26) all0)
      have E_a26 : Exa Z T33.heap a26 "java/lang/String" := NE
      have F_a26_coder : Fld Z T33.heap a26 "java/lang/String" "coder" "B" (.int (0 : Int32)) := NC
      have F_a26_value : Fld Z T33.heap a26 "java/lang/String" "value" "[B" (.ref t33) := NV
      have V_t33 : Arv Z T33.heap t33 kt33 .byte (5 : Int32) ((([(nar .char c0), (nar .char c1), (nar .char c2), (nar .char c3), (nar .char c4)] : List Int32).map (fun c => c.toInt8.toInt32)).map Value.int) (.int (0 : Int32)) := NB
      refine GoV.tr st33 ?_
      show GoV p e below s _ _ _ (T33.setTop (mkF m 184 #[.val (.ref a), .val (.int (5 : Int32))] [(.ref a26)]))
      exact GoV.ret (vm1 := s.vm) X33 hlk hS0 (by exact hk33) (some (.ref a26)) (fun h => by rw [Bd.returns] at h; cases h) (by exact ⟨a26, t33, _, _, _, ([(nar .char c0), (nar .char c1), (nar .char c2), (nar .char c3), (nar .char c4)] : List Int32), rfl, N33, K33, g_a26, sz_a26, E_a26, F_a26_coder, F_a26_value, V_t33, StrChars.Road.codOf (n := 5) rfl (fun c hc => (hp c hc).2), own_up hp, Nat.le_of_ble_eq_true rfl, own_ibM (own_ibW (vm0 := s.vm) I0 X33) (by decide)⟩) (by decide) (by decide) (fun fs hr => retOut X33 hx Bd.returns rfl (Or.inr (Or.inr (Or.inr (Or.inr ⟨rfl, rfl, rfl⟩)))) (hb hby dt_184) hr)
    · show GoV p e below s _ _ _ (s₁.setTop (mkF m 0 #[.val (.ref a), .val (.int (6 : Int32))] []))
      refine GoV.st (fun _ kq_ => XS.iloadN X0.here hx rfl (hb hby dt_0) rfl kq_) ?_
      show GoV p e below s _ _ _ (s₁.setTop (mkF m 1 #[.val (.ref a), .val (.int (6 : Int32))] [(.int (6 : Int32))]))
      refine GoV.st (fun _ kq_ => XS.ifYes X0.here hx rfl (pc0 := 1) (pc' := 15) rfl (hb hby dt_1) rfl (by decide) (by decide) (by decide) kq_) ?_
      show GoV p e below s _ _ _ (s₁.setTop (mkF m 15 #[.val (.ref a), .val (.int (6 : Int32))] []))
      refine GoV.st (fun _ kq_ => XS.iloadN X0.here hx rfl (hb hby dt_15) rfl kq_) ?_
      show GoV p e below s _ _ _ (s₁.setTop (mkF m 16 #[.val (.ref a), .val (.int (6 : Int32))] [(.int (6 : Int32))]))
      refine GoV.st (fun _ kq_ => XS.iconst X0.here hx rfl (hb hby dt_16) kq_) ?_
      show GoV p e below s _ _ _ (s₁.setTop (mkF m 17 #[.val (.ref a), .val (.int (6 : Int32))] [(.int (1 : Int32)), (.int (6 : Int32))]))
      refine GoV.st (fun _ kq_ => XS.icmpYes X0.here hx rfl (pc0 := 17) (pc' := 37) rfl (hb hby dt_17) rfl (by decide) (by decide) (by decide) kq_) ?_
      show GoV p e below s _ _ _ (s₁.setTop (mkF m 37 #[.val (.ref a), .val (.int (6 : Int32))] []))
      refine GoV.st (fun _ kq_ => XS.iloadN X0.here hx rfl (hb hby dt_37) rfl kq_) ?_
      show GoV p e below s _ _ _ (s₁.setTop (mkF m 38 #[.val (.ref a), .val (.int (6 : Int32))] [(.int (6 : Int32))]))
      refine GoV.st (fun _ kq_ => XS.iconst X0.here hx rfl (hb hby dt_38) kq_) ?_
      show GoV p e below s _ _ _ (s₁.setTop (mkF m 39 #[.val (.ref a), .val (.int (6 : Int32))] [(.int (2 : Int32)), (.int (6 : Int32))]))
      refine GoV.st (fun _ kq_ => XS.icmpYes X0.here hx rfl (pc0 := 39) (pc' := 65) rfl (hb hby dt_39) rfl (by decide) (by decide) (by decide) kq_) ?_
      show GoV p e below s _ _ _ (s₁.setTop (mkF m 65 #[.val (.ref a), .val (.int (6 : Int32))] []))
      refine GoV.st (fun _ kq_ => XS.iloadN X0.here hx rfl (hb hby dt_65) rfl kq_) ?_
      show GoV p e below s _ _ _ (s₁.setTop (mkF m 66 #[.val (.ref a), .val (.int (6 : Int32))] [(.int (6 : Int32))]))
      refine GoV.st (fun _ kq_ => XS.iconst X0.here hx rfl (hb hby dt_66) kq_) ?_
      show GoV p e below s _ _ _ (s₁.setTop (mkF m 67 #[.val (.ref a), .val (.int (6 : Int32))] [(.int (3 : Int32)), (.int (6 : Int32))]))
      refine GoV.st (fun _ kq_ => XS.icmpYes X0.here hx rfl (pc0 := 67) (pc' := 99) rfl (hb hby dt_67) rfl (by decide) (by decide) (by decide) kq_) ?_
      show GoV p e below s _ _ _ (s₁.setTop (mkF m 99 #[.val (.ref a), .val (.int (6 : Int32))] []))
      refine GoV.st (fun _ kq_ => XS.iloadN X0.here hx rfl (hb hby dt_99) rfl kq_) ?_
      show GoV p e below s _ _ _ (s₁.setTop (mkF m 100 #[.val (.ref a), .val (.int (6 : Int32))] [(.int (6 : Int32))]))
      refine GoV.st (fun _ kq_ => XS.iconst X0.here hx rfl (hb hby dt_100) kq_) ?_
      show GoV p e below s _ _ _ (s₁.setTop (mkF m 101 #[.val (.ref a), .val (.int (6 : Int32))] [(.int (4 : Int32)), (.int (6 : Int32))]))
      refine GoV.st (fun _ kq_ => XS.icmpYes X0.here hx rfl (pc0 := 101) (pc' := 139) rfl (hb hby dt_101) rfl (by decide) (by decide) (by decide) kq_) ?_
      show GoV p e below s _ _ _ (s₁.setTop (mkF m 139 #[.val (.ref a), .val (.int (6 : Int32))] []))
      refine GoV.st (fun _ kq_ => XS.iloadN X0.here hx rfl (hb hby dt_139) rfl kq_) ?_
      show GoV p e below s _ _ _ (s₁.setTop (mkF m 140 #[.val (.ref a), .val (.int (6 : Int32))] [(.int (6 : Int32))]))
      refine GoV.st (fun _ kq_ => XS.iconst X0.here hx rfl (hb hby dt_140) kq_) ?_
      show GoV p e below s _ _ _ (s₁.setTop (mkF m 141 #[.val (.ref a), .val (.int (6 : Int32))] [(.int (5 : Int32)), (.int (6 : Int32))]))
      refine GoV.st (fun _ kq_ => XS.icmpYes X0.here hx rfl (pc0 := 141) (pc' := 185) rfl (hb hby dt_141) rfl (by decide) (by decide) (by decide) kq_) ?_
      show GoV p e below s _ _ _ (s₁.setTop (mkF m 185 #[.val (.ref a), .val (.int (6 : Int32))] []))
      refine GoV.st (fun _ kq_ => XS.iloadN X0.here hx rfl (hb hby dt_185) rfl kq_) ?_
      show GoV p e below s _ _ _ (s₁.setTop (mkF m 186 #[.val (.ref a), .val (.int (6 : Int32))] [(.int (6 : Int32))]))
      refine GoV.st (fun _ kq_ => XS.bipush X0.here hx rfl (hb hby dt_186) kq_) ?_
      show GoV p e below s _ _ _ (s₁.setTop (mkF m 188 #[.val (.ref a), .val (.int (6 : Int32))] [(.int (6 : Int32)), (.int (6 : Int32))]))
      refine GoV.st (fun _ kq_ => XS.icmpNo X0.here hx rfl (hb hby dt_188) rfl (by decide) kq_) ?_
      show GoV p e below s _ _ _ (s₁.setTop (mkF m 191 #[.val (.ref a), .val (.int (6 : Int32))] []))
      obtain ⟨T34, h34, X34, e34, E34, A34, D34, -, st34⟩ := newO X0 hx hZ hown (own_w hw 6 rfl) (own_w hw 7 rfl) (own_w hw 8 rfl) e0 (g := (mkF m 191 #[.val (.ref a), .val (.int (6 : Int32))] [])) rfl (hb hby dt_191) (by decide) (by decide)
      obtain ⟨a34, g34⟩ : ∃ z, z = h0.size := ⟨_, rfl⟩
      rw [← g34] at A34 D34 st34
      have g_a34 : n0 ≤ a34 := Nat.le_trans (own_old O0) (Nat.le_of_eq g34.symm)
      have sz_a34 : h0.size ≤ a34 := Nat.le_trans K0.1 (Nat.le_of_eq g34.symm)
      have ne_a_a34 : a ≠ a34 := by rw [g34]; exact Nat.ne_of_lt V_a.lt
      have V_a := V_a.ext E34
      have hk34 := Nat.le_trans hk0 E34.1
      have O34 := O0.ext E34
      have K34 := K0.ext E34
      have E_a34 : Exa Z h34 a34 "java/lang/String" := A34
      have F_a34_coder : Fld Z h34 a34 "java/lang/String" "coder" "B" (.int (0 : Int32)) := D34 (Or.inr (own_w hw 32 rfl)) (ty := .byte) (by decide)
      have F_a34_value : Fld Z h34 a34 "java/lang/String" "value" "[B" .null := D34 (Or.inr (own_w hw 34 rfl)) (ty := (.array .byte)) (by decide)
      refine GoV.st st34 ?_
      show GoV p e below s _ _ _ (T34.setTop (mkF m 194 #[.val (.ref a), .val (.int (6 : Int32))] [(.ref a34)]))
      refine GoV.st (fun _ kq_ => XS.dup X34.here hx rfl (hb hby dt_194) rfl rfl kq_) ?_
      show GoV p e below s _ _ _ (T34.setTop (mkF m 195 #[.val (.ref a), .val (.int (6 : Int32))] [(.ref a34), (.ref a34)]))
      refine GoV.st (fun _ kq_ => XS.bipush X34.here hx rfl (hb hby dt_195) kq_) ?_
      show GoV p e below s _ _ _ (T34.setTop (mkF m 197 #[.val (.ref a), .val (.int (6 : Int32))] [(.int (6 : Int32)), (.ref a34), (.ref a34)]))
      obtain ⟨T35, h35, k35, X35, e35, E35, A35, st35⟩ := newP X34 hx hZ (own_w hw 0 rfl) e34 (g := (mkF m 197 #[.val (.ref a), .val (.int (6 : Int32))] [(.int (6 : Int32)), (.ref a34), (.ref a34)])) rfl (hb hby dt_197) rfl (by decide) (cap := 6) (by decide) (by decide) (by decide) (by decide)
      obtain ⟨b35, g35⟩ : ∃ z, z = h34.size := ⟨_, rfl⟩
      rw [← g35] at A35 st35
      have g_b35 : n0 ≤ b35 := Nat.le_trans (own_old O34) (Nat.le_of_eq g35.symm)
      have sz_b35 : h0.size ≤ b35 := Nat.le_trans K34.1 (Nat.le_of_eq g35.symm)
      have ne_a_b35 : a ≠ b35 := by rw [g35]; exact Nat.ne_of_lt V_a.lt
      have ne_a34_b35 : a34 ≠ b35 := by rw [g35]; exact Nat.ne_of_lt E_a34.lt
      have V_a := V_a.ext E35
      have E_a34 := E_a34.ext E35
      have F_a34_coder := F_a34_coder.ext E35
      have F_a34_value := F_a34_value.ext E35
      have hk35 := Nat.le_trans hk34 E35.1
      have O35 := O34.ext E35
      have K35 := K34.ext E35
      have V_b35 : Arv Z h35 b35 k35 .char (6 : Int32) [(.int (0 : Int32)), (.int (0 : Int32)), (.int (0 : Int32)), (.int (0 : Int32)), (.int (0 : Int32)), (.int (0 : Int32))] (.int (0 : Int32)) := (Arv.new A35 (by decide)).pad (pad_rep [] (.int (0 : Int32)) 6)
      refine GoV.st st35 ?_
      show GoV p e below s _ _ _ (T35.setTop (mkF m 199 #[.val (.ref a), .val (.int (6 : Int32))] [(.ref b35), (.ref a34), (.ref a34)]))
      refine GoV.st (fun _ kq_ => XS.dup X35.here hx rfl (hb hby dt_199) rfl rfl kq_) ?_
      show GoV p e below s _ _ _ (T35.setTop (mkF m 200 #[.val (.ref a), .val (.int (6 : Int32))] [(.ref b35), (.ref b35), (.ref a34), (.ref a34)]))
      refine GoV.st (fun _ kq_ => XS.iconst X35.here hx rfl (hb hby dt_200) kq_) ?_
      show GoV p e below s _ _ _ (T35.setTop (mkF m 201 #[.val (.ref a), .val (.int (6 : Int32))] [(.int (0 : Int32)), (.ref b35), (.ref b35), (.ref a34), (.ref a34)]))
      refine GoV.st (fun _ kq_ => XS.aloadN X35.here hx rfl (hb hby dt_201) rfl rfl kq_) ?_
      show GoV p e below s _ _ _ (T35.setTop (mkF m 202 #[.val (.ref a), .val (.int (6 : Int32))] [(.ref a), (.int (0 : Int32)), (.ref b35), (.ref b35), (.ref a34), (.ref a34)]))
      refine GoV.st (fun _ kq_ => XS.iconst X35.here hx rfl (hb hby dt_202) kq_) ?_
      show GoV p e below s _ _ _ (T35.setTop (mkF m 203 #[.val (.ref a), .val (.int (6 : Int32))] [(.int (0 : Int32)), (.ref a), (.int (0 : Int32)), (.ref b35), (.ref b35), (.ref a34), (.ref a34)]))
      refine GoV.st (fun _ kq_ => own_caload X35 hx hZ e35 V_a (by decide) (by decide) (v := (.int c0)) rfl (g := (mkF m 203 #[.val (.ref a), .val (.int (6 : Int32))] [(.int (0 : Int32)), (.ref a), (.int (0 : Int32)), (.ref b35), (.ref b35), (.ref a34), (.ref a34)])) rfl rfl (hb hby dt_203) _ kq_) ?_
      show GoV p e below s _ _ _ (T35.setTop (mkF m 204 #[.val (.ref a), .val (.int (6 : Int32))] [(.int c0), (.int (0 : Int32)), (.ref b35), (.ref b35), (.ref a34), (.ref a34)]))
      obtain ⟨T36, h36, X36, e36, W36, V36, st36⟩ := own_stC X35 hx hZ e35 V_b35 (j := (0 : Int32)) (by decide) (by decide) 0 rfl (Nat.le_of_ble_eq_true rfl) (g := (mkF m 204 #[.val (.ref a), .val (.int (6 : Int32))] [(.int c0), (.int (0 : Int32)), (.ref b35), (.ref b35), (.ref a34), (.ref a34)])) rfl rfl (hb hby dt_204)
      obtain ⟨lc36, X36, N36⟩ := own_gen X36 (Fr.snoc X36 N0 g_b35)
      have O36 := O35.wr W36 g_b35
      have K36 := K35.wr W36 (Or.inr sz_b35)
      have V_a := V_a.other W36 ne_a_b35
      have E_a34 := E_a34.wr W36
      have F_a34_coder := F_a34_coder.other W36 (Or.inl ne_a34_b35)
      have F_a34_value := F_a34_value.other W36 (Or.inl ne_a34_b35)
      have hk36 := Nat.le_trans hk35 (Nat.le_of_eq W36.size.symm)
      have V_b35 : Arv Z h36 b35 k35 .char (6 : Int32) [(.int (nar .char c0)), (.int (0 : Int32)), (.int (0 : Int32)), (.int (0 : Int32)), (.int (0 : Int32)), (.int (0 : Int32))] (.int (0 : Int32)) := V36
      refine GoV.st st36 ?_
      show GoV p e below s _ _ _ (T36.setTop (mkF m 205 #[.val (.ref a), .val (.int (6 : Int32))] [(.ref b35), (.ref a34), (.ref a34)]))
      refine GoV.st (fun _ kq_ => XS.dup X36.here hx rfl (hb hby dt_205) rfl rfl kq_) ?_
      show GoV p e below s _ _ _ (T36.setTop (mkF m 206 #[.val (.ref a), .val (.int (6 : Int32))] [(.ref b35), (.ref b35), (.ref a34), (.ref a34)]))
      refine GoV.st (fun _ kq_ => XS.iconst X36.here hx rfl (hb hby dt_206) kq_) ?_
      show GoV p e below s _ _ _ (T36.setTop (mkF m 207 #[.val (.ref a), .val (.int (6 : Int32))] [(.int (1 : Int32)), (.ref b35), (.ref b35), (.ref a34), (.ref a34)]))
      refine GoV.st (fun _ kq_ => XS.aloadN X36.here hx rfl (hb hby dt_207) rfl rfl kq_) ?_
      show GoV p e below s _ _ _ (T36.setTop (mkF m 208 #[.val (.ref a), .val (.int (6 : Int32))] [(.ref a), (.int (1 : Int32)), (.ref b35), (.ref b35), (.ref a34), (.ref a34)]))
      refine GoV.st (fun _ kq_ => XS.iconst X36.here hx rfl (hb hby dt_208) kq_) ?_
      show GoV p e below s _ _ _ (T36.setTop (mkF m 209 #[.val (.ref a), .val (.int (6 : Int32))] [(.int (1 : Int32)), (.ref a), (.int (1 : Int32)), (.ref b35), (.ref b35), (.ref a34), (.ref a34)]))
      refine GoV.st (fun _ kq_ => own_caload X36 hx hZ e36 V_a (by decide) (by decide) (v := (.int c1)) rfl (g := (mkF m 209 #[.val (.ref a), .val (.int (6 : Int32))] [(.int (1 : Int32)), (.ref a), (.int (1 : Int32)), (.ref b35), (.ref b35), (.ref a34), (.ref a34)])) rfl rfl (hb hby dt_209) _ kq_) ?_
      show GoV p e below s _ _ _ (T36.setTop (mkF m 210 #[.val (.ref a), .val (.int (6 : Int32))] [(.int c1), (.int (1 : Int32)), (.ref b35), (.ref b35), (.ref a34), (.ref a34)]))
      obtain ⟨T37, h37, X37, e37, W37, V37, st37⟩ := own_stC X36 hx hZ e36 V_b35 (j := (1 : Int32)) (by decide) (by decide) 1 rfl (Nat.le_of_ble_eq_true rfl) (g := (mkF m 210 #[.val (.ref a), .val (.int (6 : Int32))] [(.int c1), (.int (1 : Int32)), (.ref b35), (.ref b35), (.ref a34), (.ref a34)])) rfl rfl (hb hby dt_210)
      obtain ⟨lc37, X37, N37⟩ := own_gen X37 (Fr.snoc X37 N36 g_b35)
      have O37 := O36.wr W37 g_b35
      have K37 := K36.wr W37 (Or.inr sz_b35)
      have V_a := V_a.other W37 ne_a_b35
      have E_a34 := E_a34.wr W37
      have F_a34_coder := F_a34_coder.other W37 (Or.inl ne_a34_b35)
      have F_a34_value := F_a34_value.other W37 (Or.inl ne_a34_b35)
      have hk37 := Nat.le_trans hk36 (Nat.le_of_eq W37.size.symm)
      have V_b35 : Arv Z h37 b35 k35 .char (6 : Int32) [(.int (nar .char c0)), (.int (nar .char c1)), (.int (0 : Int32)), (.int (0 : Int32)), (.int (0 : Int32)), (.int (0 : Int32))] (.int (0 : Int32)) := V37
      refine GoV.st st37 ?_
      show GoV p e below s _ _ _ (T37.setTop (mkF m 211 #[.val (.ref a), .val (.int (6 : Int32))] [(.ref b35), (.ref a34), (.ref a34)]))
      refine GoV.st (fun _ kq_ => XS.dup X37.here hx rfl (hb hby dt_211) rfl rfl kq_) ?_
      show GoV p e below s _ _ _ (T37.setTop (mkF m 212 #[.val (.ref a), .val (.int (6 : Int32))] [(.ref b35), (.ref b35), (.ref a34), (.ref a34)]))
      refine GoV.st (fun _ kq_ => XS.iconst X37.here hx rfl (hb hby dt_212) kq_) ?_
      show GoV p e below s _ _ _ (T37.setTop (mkF m 213 #[.val (.ref a), .val (.int (6 : Int32))] [(.int (2 : Int32)), (.ref b35), (.ref b35), (.ref a34), (.ref a34)]))
      refine GoV.st (fun _ kq_ => XS.aloadN X37.here hx rfl (hb hby dt_213) rfl rfl kq_) ?_
      show GoV p e below s _ _ _ (T37.setTop (mkF m 214 #[.val (.ref a), .val (.int (6 : Int32))] [(.ref a), (.int (2 : Int32)), (.ref b35), (.ref b35), (.ref a34), (.ref a34)]))
      refine GoV.st (fun _ kq_ => XS.iconst X37.here hx rfl (hb hby dt_214) kq_) ?_
      show GoV p e below s _ _ _ (T37.setTop (mkF m 215 #[.val (.ref a), .val (.int (6 : Int32))] [(.int (2 : Int32)), (.ref a), (.int (2 : Int32)), (.ref b35), (.ref b35), (.ref a34), (.ref a34)]))
      refine GoV.st (fun _ kq_ => own_caload X37 hx hZ e37 V_a (by decide) (by decide) (v := (.int c2)) rfl (g := (mkF m 215 #[.val (.ref a), .val (.int (6 : Int32))] [(.int (2 : Int32)), (.ref a), (.int (2 : Int32)), (.ref b35), (.ref b35), (.ref a34), (.ref a34)])) rfl rfl (hb hby dt_215) _ kq_) ?_
      show GoV p e below s _ _ _ (T37.setTop (mkF m 216 #[.val (.ref a), .val (.int (6 : Int32))] [(.int c2), (.int (2 : Int32)), (.ref b35), (.ref b35), (.ref a34), (.ref a34)]))
      obtain ⟨T38, h38, X38, e38, W38, V38, st38⟩ := own_stC X37 hx hZ e37 V_b35 (j := (2 : Int32)) (by decide) (by decide) 2 rfl (Nat.le_of_ble_eq_true rfl) (g := (mkF m 216 #[.val (.ref a), .val (.int (6 : Int32))] [(.int c2), (.int (2 : Int32)), (.ref b35), (.ref b35), (.ref a34), (.ref a34)])) rfl rfl (hb hby dt_216)
      obtain ⟨lc38, X38, N38⟩ := own_gen X38 (Fr.snoc X38 N37 g_b35)
      have O38 := O37.wr W38 g_b35
      have K38 := K37.wr W38 (Or.inr sz_b35)
      have V_a := V_a.other W38 ne_a_b35
      have E_a34 := E_a34.wr W38
      have F_a34_coder := F_a34_coder.other W38 (Or.inl ne_a34_b35)
      have F_a34_value := F_a34_value.other W38 (Or.inl ne_a34_b35)
      have hk38 := Nat.le_trans hk37 (Nat.le_of_eq W38.size.symm)
      have V_b35 : Arv Z h38 b35 k35 .char (6 : Int32) [(.int (nar .char c0)), (.int (nar .char c1)), (.int (nar .char c2)), (.int (0 : Int32)), (.int (0 : Int32)), (.int (0 : Int32))] (.int (0 : Int32)) := V38
      refine GoV.st st38 ?_
      show GoV p e below s _ _ _ (T38.setTop (mkF m 217 #[.val (.ref a), .val (.int (6 : Int32))] [(.ref b35), (.ref a34), (.ref a34)]))
      refine GoV.st (fun _ kq_ => XS.dup X38.here hx rfl (hb hby dt_217) rfl rfl kq_) ?_
      show GoV p e below s _ _ _ (T38.setTop (mkF m 218 #[.val (.ref a), .val (.int (6 : Int32))] [(.ref b35), (.ref b35), (.ref a34), (.ref a34)]))
      refine GoV.st (fun _ kq_ => XS.iconst X38.here hx rfl (hb hby dt_218) kq_) ?_
      show GoV p e below s _ _ _ (T38.setTop (mkF m 219 #[.val (.ref a), .val (.int (6 : Int32))] [(.int (3 : Int32)), (.ref b35), (.ref b35), (.ref a34), (.ref a34)]))
      refine GoV.st (fun _ kq_ => XS.aloadN X38.here hx rfl (hb hby dt_219) rfl rfl kq_) ?_
      show GoV p e below s _ _ _ (T38.setTop (mkF m 220 #[.val (.ref a), .val (.int (6 : Int32))] [(.ref a), (.int (3 : Int32)), (.ref b35), (.ref b35), (.ref a34), (.ref a34)]))
      refine GoV.st (fun _ kq_ => XS.iconst X38.here hx rfl (hb hby dt_220) kq_) ?_
      show GoV p e below s _ _ _ (T38.setTop (mkF m 221 #[.val (.ref a), .val (.int (6 : Int32))] [(.int (3 : Int32)), (.ref a), (.int (3 : Int32)), (.ref b35), (.ref b35), (.ref a34), (.ref a34)]))
      refine GoV.st (fun _ kq_ => own_caload X38 hx hZ e38 V_a (by decide) (by decide) (v := (.int c3)) rfl (g := (mkF m 221 #[.val (.ref a), .val (.int (6 : Int32))] [(.int (3 : Int32)), (.ref a), (.int (3 : Int32)), (.ref b35), (.ref b35), (.ref a34), (.ref a34)])) rfl rfl (hb hby dt_221) _ kq_) ?_
      show GoV p e below s _ _ _ (T38.setTop (mkF m 222 #[.val (.ref a), .val (.int (6 : Int32))] [(.int c3), (.int (3 : Int32)), (.ref b35), (.ref b35), (.ref a34), (.ref a34)]))
      obtain ⟨T39, h39, X39, e39, W39, V39, st39⟩ := own_stC X38 hx hZ e38 V_b35 (j := (3 : Int32)) (by decide) (by decide) 3 rfl (Nat.le_of_ble_eq_true rfl) (g := (mkF m 222 #[.val (.ref a), .val (.int (6 : Int32))] [(.int c3), (.int (3 : Int32)), (.ref b35), (.ref b35), (.ref a34), (.ref a34)])) rfl rfl (hb hby dt_222)
      obtain ⟨lc39, X39, N39⟩ := own_gen X39 (Fr.snoc X39 N38 g_b35)
      have O39 := O38.wr W39 g_b35
      have K39 := K38.wr W39 (Or.inr sz_b35)
      have V_a := V_a.other W39 ne_a_b35
      have E_a34 := E_a34.wr W39
      have F_a34_coder := F_a34_coder.other W39 (Or.inl ne_a34_b35)
      have F_a34_value := F_a34_value.other W39 (Or.inl ne_a34_b35)
      have hk39 := Nat.le_trans hk38 (Nat.le_of_eq W39.size.symm)
      have V_b35 : Arv Z h39 b35 k35 .char (6 : Int32) [(.int (nar .char c0)), (.int (nar .char c1)), (.int (nar .char c2)), (.int (nar .char c3)), (.int (0 : Int32)), (.int (0 : Int32))] (.int (0 : Int32)) := V39
      refine GoV.st st39 ?_
      show GoV p e below s _ _ _ (T39.setTop (mkF m 223 #[.val (.ref a), .val (.int (6 : Int32))] [(.ref b35), (.ref a34), (.ref a34)]))
      refine GoV.st (fun _ kq_ => XS.dup X39.here hx rfl (hb hby dt_223) rfl rfl kq_) ?_
      show GoV p e below s _ _ _ (T39.setTop (mkF m 224 #[.val (.ref a), .val (.int (6 : Int32))] [(.ref b35), (.ref b35), (.ref a34), (.ref a34)]))
      refine GoV.st (fun _ kq_ => XS.iconst X39.here hx rfl (hb hby dt_224) kq_) ?_
      show GoV p e below s _ _ _ (T39.setTop (mkF m 225 #[.val (.ref a), .val (.int (6 : Int32))] [(.int (4 : Int32)), (.ref b35), (.ref b35), (.ref a34), (.ref a34)]))
      refine GoV.st (fun _ kq_ => XS.aloadN X39.here hx rfl (hb hby dt_225) rfl rfl kq_) ?_
      show GoV p e below s _ _ _ (T39.setTop (mkF m 226 #[.val (.ref a), .val (.int (6 : Int32))] [(.ref a), (.int (4 : Int32)), (.ref b35), (.ref b35), (.ref a34), (.ref a34)]))
      refine GoV.st (fun _ kq_ => XS.iconst X39.here hx rfl (hb hby dt_226) kq_) ?_
      show GoV p e below s _ _ _ (T39.setTop (mkF m 227 #[.val (.ref a), .val (.int (6 : Int32))] [(.int (4 : Int32)), (.ref a), (.int (4 : Int32)), (.ref b35), (.ref b35), (.ref a34), (.ref a34)]))
      refine GoV.st (fun _ kq_ => own_caload X39 hx hZ e39 V_a (by decide) (by decide) (v := (.int c4)) rfl (g := (mkF m 227 #[.val (.ref a), .val (.int (6 : Int32))] [(.int (4 : Int32)), (.ref a), (.int (4 : Int32)), (.ref b35), (.ref b35), (.ref a34), (.ref a34)])) rfl rfl (hb hby dt_227) _ kq_) ?_
      show GoV p e below s _ _ _ (T39.setTop (mkF m 228 #[.val (.ref a), .val (.int (6 : Int32))] [(.int c4), (.int (4 : Int32)), (.ref b35), (.ref b35), (.ref a34), (.ref a34)]))
      obtain ⟨T40, h40, X40, e40, W40, V40, st40⟩ := own_stC X39 hx hZ e39 V_b35 (j := (4 : Int32)) (by decide) (by decide) 4 rfl (Nat.le_of_ble_eq_true rfl) (g := (mkF m 228 #[.val (.ref a), .val (.int (6 : Int32))] [(.int c4), (.int (4 : Int32)), (.ref b35), (.ref b35), (.ref a34), (.ref a34)])) rfl rfl (hb hby dt_228)
      obtain ⟨lc40, X40, N40⟩ := own_gen X40 (Fr.snoc X40 N39 g_b35)
      have O40 := O39.wr W40 g_b35
      have K40 := K39.wr W40 (Or.inr sz_b35)
      have V_a := V_a.other W40 ne_a_b35
      have E_a34 := E_a34.wr W40
      have F_a34_coder := F_a34_coder.other W40 (Or.inl ne_a34_b35)
      have F_a34_value := F_a34_value.other W40 (Or.inl ne_a34_b35)
      have hk40 := Nat.le_trans hk39 (Nat.le_of_eq W40.size.symm)
      have V_b35 : Arv Z h40 b35 k35 .char (6 : Int32) [(.int (nar .char c0)), (.int (nar .char c1)), (.int (nar .char c2)), (.int (nar .char c3)), (.int (nar .char c4)), (.int (0 : Int32))] (.int (0 : Int32)) := V40
      refine GoV.st st40 ?_
      show GoV p e below s _ _ _ (T40.setTop (mkF m 229 #[.val (.ref a), .val (.int (6 : Int32))] [(.ref b35), (.ref a34), (.ref a34)]))
      refine GoV.st (fun _ kq_ => XS.dup X40.here hx rfl (hb hby dt_229) rfl rfl kq_) ?_
      show GoV p e below s _ _ _ (T40.setTop (mkF m 230 #[.val (.ref a), .val (.int (6 : Int32))] [(.ref b35), (.ref b35), (.ref a34), (.ref a34)]))
      refine GoV.st (fun _ kq_ => XS.iconst X40.here hx rfl (hb hby dt_230) kq_) ?_
      show GoV p e below s _ _ _ (T40.setTop (mkF m 231 #[.val (.ref a), .val (.int (6 : Int32))] [(.int (5 : Int32)), (.ref b35), (.ref b35), (.ref a34), (.ref a34)]))
      refine GoV.st (fun _ kq_ => XS.aloadN X40.here hx rfl (hb hby dt_231) rfl rfl kq_) ?_
      show GoV p e below s _ _ _ (T40.setTop (mkF m 232 #[.val (.ref a), .val (.int (6 : Int32))] [(.ref a), (.int (5 : Int32)), (.ref b35), (.ref b35), (.ref a34), (.ref a34)]))
      refine GoV.st (fun _ kq_ => XS.iconst X40.here hx rfl (hb hby dt_232) kq_) ?_
      show GoV p e below s _ _ _ (T40.setTop (mkF m 233 #[.val (.ref a), .val (.int (6 : Int32))] [(.int (5 : Int32)), (.ref a), (.int (5 : Int32)), (.ref b35), (.ref b35), (.ref a34), (.ref a34)]))
      refine GoV.st (fun _ kq_ => own_caload X40 hx hZ e40 V_a (by decide) (by decide) (v := (.int c5)) rfl (g := (mkF m 233 #[.val (.ref a), .val (.int (6 : Int32))] [(.int (5 : Int32)), (.ref a), (.int (5 : Int32)), (.ref b35), (.ref b35), (.ref a34), (.ref a34)])) rfl rfl (hb hby dt_233) _ kq_) ?_
      show GoV p e below s _ _ _ (T40.setTop (mkF m 234 #[.val (.ref a), .val (.int (6 : Int32))] [(.int c5), (.int (5 : Int32)), (.ref b35), (.ref b35), (.ref a34), (.ref a34)]))
      obtain ⟨T41, h41, X41, e41, W41, V41, st41⟩ := own_stC X40 hx hZ e40 V_b35 (j := (5 : Int32)) (by decide) (by decide) 5 rfl (Nat.le_of_ble_eq_true rfl) (g := (mkF m 234 #[.val (.ref a), .val (.int (6 : Int32))] [(.int c5), (.int (5 : Int32)), (.ref b35), (.ref b35), (.ref a34), (.ref a34)])) rfl rfl (hb hby dt_234)
      obtain ⟨lc41, X41, N41⟩ := own_gen X41 (Fr.snoc X41 N40 g_b35)
      have O41 := O40.wr W41 g_b35
      have K41 := K40.wr W41 (Or.inr sz_b35)
      have V_a := V_a.other W41 ne_a_b35
      have E_a34 := E_a34.wr W41
      have F_a34_coder := F_a34_coder.other W41 (Or.inl ne_a34_b35)
      have F_a34_value := F_a34_value.other W41 (Or.inl ne_a34_b35)
      have hk41 := Nat.le_trans hk40 (Nat.le_of_eq W41.size.symm)
      have V_b35 : Arv Z h41 b35 k35 .char (6 : Int32) [(.int (nar .char c0)), (.int (nar .char c1)), (.int (nar .char c2)), (.int (nar .char c3)), (.int (nar .char c4)), (.int (nar .char c5))] (.int (0 : Int32)) := V41
      refine GoV.st st41 ?_
      show GoV p e below s _ _ _ (T41.setTop (mkF m 235 #[.val (.ref a), .val (.int (6 : Int32))] [(.ref b35), (.ref a34), (.ref a34)]))
      have hp : ∀ z ∈ ([(nar .char c0), (nar .char c1), (nar .char c2), (nar .char c3), (nar .char c4), (nar .char c5)] : List Int32), ¬ z < 0 ∧ ¬ (255 : Int32) < z := by
        intro z hz
        simp only [List.mem_cons, List.not_mem_nil, or_false] at hz
        rcases hz with rfl | rfl | rfl | rfl | rfl | rfl
        · exact (show ¬ nar .char c0 < 0 ∧ ¬ (255 : Int32) < nar .char c0 by rw [own_nc hc0]; exact hc0)
        · exact (show ¬ nar .char c1 < 0 ∧ ¬ (255 : Int32) < nar .char c1 by rw [own_nc hc1]; exact hc1)
        · exact (show ¬ nar .char c2 < 0 ∧ ¬ (255 : Int32) < nar .char c2 by rw [own_nc hc2]; exact hc2)
        · exact (show ¬ nar .char c3 < 0 ∧ ¬ (255 : Int32) < nar .char c3 by rw [own_nc hc3]; exact hc3)
        · exact (show ¬ nar .char c4 < 0 ∧ ¬ (255 : Int32) < nar .char c4 by rw [own_nc hc4]; exact hc4)
        · exact (show ¬ nar .char c5 < 0 ∧ ¬ (255 : Int32) < nar .char c5 by rw [own_nc hc5]; exact hc5)
      obtain ⟨_, _, ⟨T42, L42, k42, n42⟩, -, X42, ⟨Lc42, hQ42, l42, y42, z42⟩, st42⟩ := X41.specialBack hx (y := (⟨"java/lang/String", "<init>", "([C)V"⟩ : MethodName)) rfl hown (mvT hZ (own_w hw 9 rfl)) (mvT hZ (own_w hw 10 rfl)) (mvT hZ (own_w hw 11 rfl)) (by decide) (StrChars.Road.backV (W := 1) hZ hws (kI := 4) (own_w hw 7 rfl) (cs := ([(nar .char c0), (nar .char c1), (nar .char c2), (nar .char c3), (nar .char c4), (nar .char c5)] : List Int32)) (bs := ([(nar .char c0), (nar .char c1), (nar .char c2), (nar .char c3), (nar .char c4), (nar .char c5)] : List Int32).map (fun c => c.toInt8.toInt32)) (n := 6) g_a34 (own_old O41) E_a34 F_a34_value F_a34_coder V_b35 (SC.ext O41.2) hcs rfl rfl (by decide) (by decide) hp rfl (by decide) (by decide)) (g := (mkF m 235 #[.val (.ref a), .val (.int (6 : Int32))] [(.ref b35), (.ref a34), (.ref a34)])) rfl (by rw [hml]; rfl) (Steps.refl _) (a := a34) (argsL := [(.ref b35)]) (rest := [(.ref a34)]) (lenOf pdt_0 rfl) rfl (by show 2 * 0 + _ ≤ _; exact Nat.le_of_eq rfl) (hb hby dt_235) (fun _ _ => ⟨rfl, e41, (by decide : 2 + 1 ≤ _), (by decide : 10 + 6 ≤ _)⟩)
      dsimp only [Pt.U, Pt.locs, Pt.cells, Pt.slots] at X42 l42 y42 z42 st42 hQ42
      subst y42 z42
      obtain ⟨rfl, Nc42, Kc42, NE, NC, t42, kt42, gt42, szt42, -, NV, NB⟩ := hQ42
      have N42 : Fr n0 L42 := by rw [l42]; exact Fr.app N41 Nc42
      have V_a := V_a.keep Kc42 (ninS ne_a_a34 nin0)
      have V_b35 := V_b35.keep Kc42 (ninS (Ne.symm ne_a34_b35) nin0)
      have hk42 := Nat.le_trans hk41 Kc42.1
      have O42 := O41.keep Kc42 (allS g_a34 all0)
      have K42 := K41.trans Kc42 (allS (Or.inr sz_a34) all0)
      have E_a34 : Exa Z T42.heap a34 "java/lang/String" := NE
      have F_a34_coder : Fld Z T42.heap a34 "java/lang/String" "coder" "B" (.int (0 : Int32)) := NC
      have F_a34_value : Fld Z T42.heap a34 "java/lang/String" "value" "[B" (.ref t42) := NV
      have V_t42 : Arv Z T42.heap t42 kt42 .byte (6 : Int32) ((([(nar .char c0), (nar .char c1), (nar .char c2), (nar .char c3), (nar .char c4), (nar .char c5)] : List Int32).map (fun c => c.toInt8.toInt32)).map Value.int) (.int (0 : Int32)) := NB
      refine GoV.tr st42 ?_
      show GoV p e below s _ _ _ (T42.setTop (mkF m 238 #[.val (.ref a), .val (.int (6 : Int32))] [(.ref a34)]))
      exact GoV.ret (vm1 := s.vm) X42 hlk hS0 (by exact hk42) (some (.ref a34)) (fun h => by rw [Bd.returns] at h; cases h) (by exact ⟨a34, t42, _, _, _, ([(nar .char c0), (nar .char c1), (nar .char c2), (nar .char c3), (nar .char c4), (nar .char c5)] : List Int32), rfl, N42, K42, g_a34, sz_a34, E_a34, F_a34_coder, F_a34_value, V_t42, StrChars.Road.codOf (n := 6) rfl (fun c hc => (hp c hc).2), own_up hp, Nat.le_of_ble_eq_true rfl, own_ibM (own_ibW (vm0 := s.vm) I0 X42) (by decide)⟩) (by decide) (by decide) (fun fs hr => retOut X42 hx Bd.returns rfl (Or.inr (Or.inr (Or.inr (Or.inr ⟨rfl, rfl, rfl⟩)))) (hb hby dt_238) hr)
    · show GoV p e below s _ _ _ (s₁.setTop (mkF m 0 #[.val (.ref a), .val (.int (7 : Int32))] []))
      refine GoV.st (fun _ kq_ => XS.iloadN X0.here hx rfl (hb hby dt_0) rfl kq_) ?_
      show GoV p e below s _ _ _ (s₁.setTop (mkF m 1 #[.val (.ref a), .val (.int (7 : Int32))] [(.int (7 : Int32))]))
      refine GoV.st (fun _ kq_ => XS.ifYes X0.here hx rfl (pc0 := 1) (pc' := 15) rfl (hb hby dt_1) rfl (by decide) (by decide) (by decide) kq_) ?_
      show GoV p e below s _ _ _ (s₁.setTop (mkF m 15 #[.val (.ref a), .val (.int (7 : Int32))] []))
      refine GoV.st (fun _ kq_ => XS.iloadN X0.here hx rfl (hb hby dt_15) rfl kq_) ?_
      show GoV p e below s _ _ _ (s₁.setTop (mkF m 16 #[.val (.ref a), .val (.int (7 : Int32))] [(.int (7 : Int32))]))
      refine GoV.st (fun _ kq_ => XS.iconst X0.here hx rfl (hb hby dt_16) kq_) ?_
      show GoV p e below s _ _ _ (s₁.setTop (mkF m 17 #[.val (.ref a), .val (.int (7 : Int32))] [(.int (1 : Int32)), (.int (7 : Int32))]))
      refine GoV.st (fun _ kq_ => XS.icmpYes X0.here hx rfl (pc0 := 17) (pc' := 37) rfl (hb hby dt_17) rfl (by decide) (by decide) (by decide) kq_) ?_
      show GoV p e below s _ _ _ (s₁.setTop (mkF m 37 #[.val (.ref a), .val (.int (7 : Int32))] []))
      refine GoV.st (fun _ kq_ => XS.iloadN X0.here hx rfl (hb hby dt_37) rfl kq_) ?_
      show GoV p e below s _ _ _ (s₁.setTop (mkF m 38 #[.val (.ref a), .val (.int (7 : Int32))] [(.int (7 : Int32))]))
      refine GoV.st (fun _ kq_ => XS.iconst X0.here hx rfl (hb hby dt_38) kq_) ?_
      show GoV p e below s _ _ _ (s₁.setTop (mkF m 39 #[.val (.ref a), .val (.int (7 : Int32))] [(.int (2 : Int32)), (.int (7 : Int32))]))
      refine GoV.st (fun _ kq_ => XS.icmpYes X0.here hx rfl (pc0 := 39) (pc' := 65) rfl (hb hby dt_39) rfl (by decide) (by decide) (by decide) kq_) ?_
      show GoV p e below s _ _ _ (s₁.setTop (mkF m 65 #[.val (.ref a), .val (.int (7 : Int32))] []))
      refine GoV.st (fun _ kq_ => XS.iloadN X0.here hx rfl (hb hby dt_65) rfl kq_) ?_
      show GoV p e below s _ _ _ (s₁.setTop (mkF m 66 #[.val (.ref a), .val (.int (7 : Int32))] [(.int (7 : Int32))]))
      refine GoV.st (fun _ kq_ => XS.iconst X0.here hx rfl (hb hby dt_66) kq_) ?_
      show GoV p e below s _ _ _ (s₁.setTop (mkF m 67 #[.val (.ref a), .val (.int (7 : Int32))] [(.int (3 : Int32)), (.int (7 : Int32))]))
      refine GoV.st (fun _ kq_ => XS.icmpYes X0.here hx rfl (pc0 := 67) (pc' := 99) rfl (hb hby dt_67) rfl (by decide) (by decide) (by decide) kq_) ?_
      show GoV p e below s _ _ _ (s₁.setTop (mkF m 99 #[.val (.ref a), .val (.int (7 : Int32))] []))
      refine GoV.st (fun _ kq_ => XS.iloadN X0.here hx rfl (hb hby dt_99) rfl kq_) ?_
      show GoV p e below s _ _ _ (s₁.setTop (mkF m 100 #[.val (.ref a), .val (.int (7 : Int32))] [(.int (7 : Int32))]))
      refine GoV.st (fun _ kq_ => XS.iconst X0.here hx rfl (hb hby dt_100) kq_) ?_
      show GoV p e below s _ _ _ (s₁.setTop (mkF m 101 #[.val (.ref a), .val (.int (7 : Int32))] [(.int (4 : Int32)), (.int (7 : Int32))]))
      refine GoV.st (fun _ kq_ => XS.icmpYes X0.here hx rfl (pc0 := 101) (pc' := 139) rfl (hb hby dt_101) rfl (by decide) (by decide) (by decide) kq_) ?_
      show GoV p e below s _ _ _ (s₁.setTop (mkF m 139 #[.val (.ref a), .val (.int (7 : Int32))] []))
      refine GoV.st (fun _ kq_ => XS.iloadN X0.here hx rfl (hb hby dt_139) rfl kq_) ?_
      show GoV p e below s _ _ _ (s₁.setTop (mkF m 140 #[.val (.ref a), .val (.int (7 : Int32))] [(.int (7 : Int32))]))
      refine GoV.st (fun _ kq_ => XS.iconst X0.here hx rfl (hb hby dt_140) kq_) ?_
      show GoV p e below s _ _ _ (s₁.setTop (mkF m 141 #[.val (.ref a), .val (.int (7 : Int32))] [(.int (5 : Int32)), (.int (7 : Int32))]))
      refine GoV.st (fun _ kq_ => XS.icmpYes X0.here hx rfl (pc0 := 141) (pc' := 185) rfl (hb hby dt_141) rfl (by decide) (by decide) (by decide) kq_) ?_
      show GoV p e below s _ _ _ (s₁.setTop (mkF m 185 #[.val (.ref a), .val (.int (7 : Int32))] []))
      refine GoV.st (fun _ kq_ => XS.iloadN X0.here hx rfl (hb hby dt_185) rfl kq_) ?_
      show GoV p e below s _ _ _ (s₁.setTop (mkF m 186 #[.val (.ref a), .val (.int (7 : Int32))] [(.int (7 : Int32))]))
      refine GoV.st (fun _ kq_ => XS.bipush X0.here hx rfl (hb hby dt_186) kq_) ?_
      show GoV p e below s _ _ _ (s₁.setTop (mkF m 188 #[.val (.ref a), .val (.int (7 : Int32))] [(.int (6 : Int32)), (.int (7 : Int32))]))
      refine GoV.st (fun _ kq_ => XS.icmpYes X0.here hx rfl (pc0 := 188) (pc' := 239) rfl (hb hby dt_188) rfl (by decide) (by decide) (by decide) kq_) ?_
      show GoV p e below s _ _ _ (s₁.setTop (mkF m 239 #[.val (.ref a), .val (.int (7 : Int32))] []))
      refine GoV.st (fun _ kq_ => XS.iloadN X0.here hx rfl (hb hby dt_239) rfl kq_) ?_
      show GoV p e below s _ _ _ (s₁.setTop (mkF m 240 #[.val (.ref a), .val (.int (7 : Int32))] [(.int (7 : Int32))]))
      refine GoV.st (fun _ kq_ => XS.bipush X0.here hx rfl (hb hby dt_240) kq_) ?_
      show GoV p e below s _ _ _ (s₁.setTop (mkF m 242 #[.val (.ref a), .val (.int (7 : Int32))] [(.int (7 : Int32)), (.int (7 : Int32))]))
      refine GoV.st (fun _ kq_ => XS.icmpNo X0.here hx rfl (hb hby dt_242) rfl (by decide) kq_) ?_
      show GoV p e below s _ _ _ (s₁.setTop (mkF m 245 #[.val (.ref a), .val (.int (7 : Int32))] []))
      obtain ⟨T43, h43, X43, e43, E43, A43, D43, -, st43⟩ := newO X0 hx hZ hown (own_w hw 6 rfl) (own_w hw 7 rfl) (own_w hw 8 rfl) e0 (g := (mkF m 245 #[.val (.ref a), .val (.int (7 : Int32))] [])) rfl (hb hby dt_245) (by decide) (by decide)
      obtain ⟨a43, g43⟩ : ∃ z, z = h0.size := ⟨_, rfl⟩
      rw [← g43] at A43 D43 st43
      have g_a43 : n0 ≤ a43 := Nat.le_trans (own_old O0) (Nat.le_of_eq g43.symm)
      have sz_a43 : h0.size ≤ a43 := Nat.le_trans K0.1 (Nat.le_of_eq g43.symm)
      have ne_a_a43 : a ≠ a43 := by rw [g43]; exact Nat.ne_of_lt V_a.lt
      have V_a := V_a.ext E43
      have hk43 := Nat.le_trans hk0 E43.1
      have O43 := O0.ext E43
      have K43 := K0.ext E43
      have E_a43 : Exa Z h43 a43 "java/lang/String" := A43
      have F_a43_coder : Fld Z h43 a43 "java/lang/String" "coder" "B" (.int (0 : Int32)) := D43 (Or.inr (own_w hw 32 rfl)) (ty := .byte) (by decide)
      have F_a43_value : Fld Z h43 a43 "java/lang/String" "value" "[B" .null := D43 (Or.inr (own_w hw 34 rfl)) (ty := (.array .byte)) (by decide)
      refine GoV.st st43 ?_
      show GoV p e below s _ _ _ (T43.setTop (mkF m 248 #[.val (.ref a), .val (.int (7 : Int32))] [(.ref a43)]))
      refine GoV.st (fun _ kq_ => XS.dup X43.here hx rfl (hb hby dt_248) rfl rfl kq_) ?_
      show GoV p e below s _ _ _ (T43.setTop (mkF m 249 #[.val (.ref a), .val (.int (7 : Int32))] [(.ref a43), (.ref a43)]))
      refine GoV.st (fun _ kq_ => XS.bipush X43.here hx rfl (hb hby dt_249) kq_) ?_
      show GoV p e below s _ _ _ (T43.setTop (mkF m 251 #[.val (.ref a), .val (.int (7 : Int32))] [(.int (7 : Int32)), (.ref a43), (.ref a43)]))
      obtain ⟨T44, h44, k44, X44, e44, E44, A44, st44⟩ := newP X43 hx hZ (own_w hw 0 rfl) e43 (g := (mkF m 251 #[.val (.ref a), .val (.int (7 : Int32))] [(.int (7 : Int32)), (.ref a43), (.ref a43)])) rfl (hb hby dt_251) rfl (by decide) (cap := 7) (by decide) (by decide) (by decide) (by decide)
      obtain ⟨b44, g44⟩ : ∃ z, z = h43.size := ⟨_, rfl⟩
      rw [← g44] at A44 st44
      have g_b44 : n0 ≤ b44 := Nat.le_trans (own_old O43) (Nat.le_of_eq g44.symm)
      have sz_b44 : h0.size ≤ b44 := Nat.le_trans K43.1 (Nat.le_of_eq g44.symm)
      have ne_a_b44 : a ≠ b44 := by rw [g44]; exact Nat.ne_of_lt V_a.lt
      have ne_a43_b44 : a43 ≠ b44 := by rw [g44]; exact Nat.ne_of_lt E_a43.lt
      have V_a := V_a.ext E44
      have E_a43 := E_a43.ext E44
      have F_a43_coder := F_a43_coder.ext E44
      have F_a43_value := F_a43_value.ext E44
      have hk44 := Nat.le_trans hk43 E44.1
      have O44 := O43.ext E44
      have K44 := K43.ext E44
      have V_b44 : Arv Z h44 b44 k44 .char (7 : Int32) [(.int (0 : Int32)), (.int (0 : Int32)), (.int (0 : Int32)), (.int (0 : Int32)), (.int (0 : Int32)), (.int (0 : Int32)), (.int (0 : Int32))] (.int (0 : Int32)) := (Arv.new A44 (by decide)).pad (pad_rep [] (.int (0 : Int32)) 7)
      refine GoV.st st44 ?_
      show GoV p e below s _ _ _ (T44.setTop (mkF m 253 #[.val (.ref a), .val (.int (7 : Int32))] [(.ref b44), (.ref a43), (.ref a43)]))
      refine GoV.st (fun _ kq_ => XS.dup X44.here hx rfl (hb hby dt_253) rfl rfl kq_) ?_
      show GoV p e below s _ _ _ (T44.setTop (mkF m 254 #[.val (.ref a), .val (.int (7 : Int32))] [(.ref b44), (.ref b44), (.ref a43), (.ref a43)]))
      refine GoV.st (fun _ kq_ => XS.iconst X44.here hx rfl (hb hby dt_254) kq_) ?_
      show GoV p e below s _ _ _ (T44.setTop (mkF m 255 #[.val (.ref a), .val (.int (7 : Int32))] [(.int (0 : Int32)), (.ref b44), (.ref b44), (.ref a43), (.ref a43)]))
      refine GoV.st (fun _ kq_ => XS.aloadN X44.here hx rfl (hb hby dt_255) rfl rfl kq_) ?_
      show GoV p e below s _ _ _ (T44.setTop (mkF m 256 #[.val (.ref a), .val (.int (7 : Int32))] [(.ref a), (.int (0 : Int32)), (.ref b44), (.ref b44), (.ref a43), (.ref a43)]))
      refine GoV.st (fun _ kq_ => XS.iconst X44.here hx rfl (hb hby dt_256) kq_) ?_
      show GoV p e below s _ _ _ (T44.setTop (mkF m 257 #[.val (.ref a), .val (.int (7 : Int32))] [(.int (0 : Int32)), (.ref a), (.int (0 : Int32)), (.ref b44), (.ref b44), (.ref a43), (.ref a43)]))
      refine GoV.st (fun _ kq_ => own_caload X44 hx hZ e44 V_a (by decide) (by decide) (v := (.int c0)) rfl (g := (mkF m 257 #[.val (.ref a), .val (.int (7 : Int32))] [(.int (0 : Int32)), (.ref a), (.int (0 : Int32)), (.ref b44), (.ref b44), (.ref a43), (.ref a43)])) rfl rfl (hb hby dt_257) _ kq_) ?_
      show GoV p e below s _ _ _ (T44.setTop (mkF m 258 #[.val (.ref a), .val (.int (7 : Int32))] [(.int c0), (.int (0 : Int32)), (.ref b44), (.ref b44), (.ref a43), (.ref a43)]))
      obtain ⟨T45, h45, X45, e45, W45, V45, st45⟩ := own_stC X44 hx hZ e44 V_b44 (j := (0 : Int32)) (by decide) (by decide) 0 rfl (Nat.le_of_ble_eq_true rfl) (g := (mkF m 258 #[.val (.ref a), .val (.int (7 : Int32))] [(.int c0), (.int (0 : Int32)), (.ref b44), (.ref b44), (.ref a43), (.ref a43)])) rfl rfl (hb hby dt_258)
      obtain ⟨lc45, X45, N45⟩ := own_gen X45 (Fr.snoc X45 N0 g_b44)
      have O45 := O44.wr W45 g_b44
      have K45 := K44.wr W45 (Or.inr sz_b44)
      have V_a := V_a.other W45 ne_a_b44
      have E_a43 := E_a43.wr W45
      have F_a43_coder := F_a43_coder.other W45 (Or.inl ne_a43_b44)
      have F_a43_value := F_a43_value.other W45 (Or.inl ne_a43_b44)
      have hk45 := Nat.le_trans hk44 (Nat.le_of_eq W45.size.symm)
      have V_b44 : Arv Z h45 b44 k44 .char (7 : Int32) [(.int (nar .char c0)), (.int (0 : Int32)), (.int (0 : Int32)), (.int (0 : Int32)), (.int (0 : Int32)), (.int (0 : Int32)), (.int (0 : Int32))] (.int (0 : Int32)) := V45
      refine GoV.st st45 ?_
      show GoV p e below s _ _ _ (T45.setTop (mkF m 259 #[.val (.ref a), .val (.int (7 : Int32))] [(.ref b44), (.ref a43), (.ref a43)]))
      refine GoV.st (fun _ kq_ => XS.dup X45.here hx rfl (hb hby dt_259) rfl rfl kq_) ?_
      show GoV p e below s _ _ _ (T45.setTop (mkF m 260 #[.val (.ref a), .val (.int (7 : Int32))] [(.ref b44), (.ref b44), (.ref a43), (.ref a43)]))
      refine GoV.st (fun _ kq_ => XS.iconst X45.here hx rfl (hb hby dt_260) kq_) ?_
      show GoV p e below s _ _ _ (T45.setTop (mkF m 261 #[.val (.ref a), .val (.int (7 : Int32))] [(.int (1 : Int32)), (.ref b44), (.ref b44), (.ref a43), (.ref a43)]))
      refine GoV.st (fun _ kq_ => XS.aloadN X45.here hx rfl (hb hby dt_261) rfl rfl kq_) ?_
      show GoV p e below s _ _ _ (T45.setTop (mkF m 262 #[.val (.ref a), .val (.int (7 : Int32))] [(.ref a), (.int (1 : Int32)), (.ref b44), (.ref b44), (.ref a43), (.ref a43)]))
      refine GoV.st (fun _ kq_ => XS.iconst X45.here hx rfl (hb hby dt_262) kq_) ?_
      show GoV p e below s _ _ _ (T45.setTop (mkF m 263 #[.val (.ref a), .val (.int (7 : Int32))] [(.int (1 : Int32)), (.ref a), (.int (1 : Int32)), (.ref b44), (.ref b44), (.ref a43), (.ref a43)]))
      refine GoV.st (fun _ kq_ => own_caload X45 hx hZ e45 V_a (by decide) (by decide) (v := (.int c1)) rfl (g := (mkF m 263 #[.val (.ref a), .val (.int (7 : Int32))] [(.int (1 : Int32)), (.ref a), (.int (1 : Int32)), (.ref b44), (.ref b44), (.ref a43), (.ref a43)])) rfl rfl (hb hby dt_263) _ kq_) ?_
      show GoV p e below s _ _ _ (T45.setTop (mkF m 264 #[.val (.ref a), .val (.int (7 : Int32))] [(.int c1), (.int (1 : Int32)), (.ref b44), (.ref b44), (.ref a43), (.ref a43)]))
      obtain ⟨T46, h46, X46, e46, W46, V46, st46⟩ := own_stC X45 hx hZ e45 V_b44 (j := (1 : Int32)) (by decide) (by decide) 1 rfl (Nat.le_of_ble_eq_true rfl) (g := (mkF m 264 #[.val (.ref a), .val (.int (7 : Int32))] [(.int c1), (.int (1 : Int32)), (.ref b44), (.ref b44), (.ref a43), (.ref a43)])) rfl rfl (hb hby dt_264)
      obtain ⟨lc46, X46, N46⟩ := own_gen X46 (Fr.snoc X46 N45 g_b44)
      have O46 := O45.wr W46 g_b44
      have K46 := K45.wr W46 (Or.inr sz_b44)
      have V_a := V_a.other W46 ne_a_b44
      have E_a43 := E_a43.wr W46
      have F_a43_coder := F_a43_coder.other W46 (Or.inl ne_a43_b44)
      have F_a43_value := F_a43_value.other W46 (Or.inl ne_a43_b44)
      have hk46 := Nat.le_trans hk45 (Nat.le_of_eq W46.size.symm)
      have V_b44 : Arv Z h46 b44 k44 .char (7 : Int32) [(.int (nar .char c0)), (.int (nar .char c1)), (.int (0 : Int32)), (.int (0 : Int32)), (.int (0 : Int32)), (.int (0 : Int32)), (.int (0 : Int32))] (.int (0 : Int32)) := V46
      refine GoV.st st46 ?_
      show GoV p e below s _ _ _ (T46.setTop (mkF m 265 #[.val (.ref a), .val (.int (7 : Int32))] [(.ref b44), (.ref a43), (.ref a43)]))
      refine GoV.st (fun _ kq_ => XS.dup X46.here hx rfl (hb hby dt_265) rfl rfl kq_) ?_
      show GoV p e below s _ _ _ (T46.setTop (mkF m 266 #[.val (.ref a), .val (.int (7 : Int32))] [(.ref b44), (.ref b44), (.ref a43), (.ref a43)]))
      refine GoV.st (fun _ kq_ => XS.iconst X46.here hx rfl (hb hby dt_266) kq_) ?_
      show GoV p e below s _ _ _ (T46.setTop (mkF m 267 #[.val (.ref a), .val (.int (7 : Int32))] [(.int (2 : Int32)), (.ref b44), (.ref b44), (.ref a43), (.ref a43)]))
      refine GoV.st (fun _ kq_ => XS.aloadN X46.here hx rfl (hb hby dt_267) rfl rfl kq_) ?_
      show GoV p e below s _ _ _ (T46.setTop (mkF m 268 #[.val (.ref a), .val (.int (7 : Int32))] [(.ref a), (.int (2 : Int32)), (.ref b44), (.ref b44), (.ref a43), (.ref a43)]))
      refine GoV.st (fun _ kq_ => XS.iconst X46.here hx rfl (hb hby dt_268) kq_) ?_
      show GoV p e below s _ _ _ (T46.setTop (mkF m 269 #[.val (.ref a), .val (.int (7 : Int32))] [(.int (2 : Int32)), (.ref a), (.int (2 : Int32)), (.ref b44), (.ref b44), (.ref a43), (.ref a43)]))
      refine GoV.st (fun _ kq_ => own_caload X46 hx hZ e46 V_a (by decide) (by decide) (v := (.int c2)) rfl (g := (mkF m 269 #[.val (.ref a), .val (.int (7 : Int32))] [(.int (2 : Int32)), (.ref a), (.int (2 : Int32)), (.ref b44), (.ref b44), (.ref a43), (.ref a43)])) rfl rfl (hb hby dt_269) _ kq_) ?_
      show GoV p e below s _ _ _ (T46.setTop (mkF m 270 #[.val (.ref a), .val (.int (7 : Int32))] [(.int c2), (.int (2 : Int32)), (.ref b44), (.ref b44), (.ref a43), (.ref a43)]))
      obtain ⟨T47, h47, X47, e47, W47, V47, st47⟩ := own_stC X46 hx hZ e46 V_b44 (j := (2 : Int32)) (by decide) (by decide) 2 rfl (Nat.le_of_ble_eq_true rfl) (g := (mkF m 270 #[.val (.ref a), .val (.int (7 : Int32))] [(.int c2), (.int (2 : Int32)), (.ref b44), (.ref b44), (.ref a43), (.ref a43)])) rfl rfl (hb hby dt_270)
      obtain ⟨lc47, X47, N47⟩ := own_gen X47 (Fr.snoc X47 N46 g_b44)
      have O47 := O46.wr W47 g_b44
      have K47 := K46.wr W47 (Or.inr sz_b44)
      have V_a := V_a.other W47 ne_a_b44
      have E_a43 := E_a43.wr W47
      have F_a43_coder := F_a43_coder.other W47 (Or.inl ne_a43_b44)
      have F_a43_value := F_a43_value.other W47 (Or.inl ne_a43_b44)
      have hk47 := Nat.le_trans hk46 (Nat.le_of_eq W47.size.symm)
      have V_b44 : Arv Z h47 b44 k44 .char (7 : Int32) [(.int (nar .char c0)), (.int (nar .char c1)), (.int (nar .char c2)), (.int (0 : Int32)), (.int (0 : Int32)), (.int (0 : Int32)), (.int (0 : Int32))] (.int (0 : Int32)) := V47
      refine GoV.st st47 ?_
      show GoV p e below s _ _ _ (T47.setTop (mkF m 271 #[.val (.ref a), .val (.int (7 : Int32))] [(.ref b44), (.ref a43), (.ref a43)]))
      refine GoV.st (fun _ kq_ => XS.dup X47.here hx rfl (hb hby dt_271) rfl rfl kq_) ?_
      show GoV p e below s _ _ _ (T47.setTop (mkF m 272 #[.val (.ref a), .val (.int (7 : Int32))] [(.ref b44), (.ref b44), (.ref a43), (.ref a43)]))
      refine GoV.st (fun _ kq_ => XS.iconst X47.here hx rfl (hb hby dt_272) kq_) ?_
      show GoV p e below s _ _ _ (T47.setTop (mkF m 273 #[.val (.ref a), .val (.int (7 : Int32))] [(.int (3 : Int32)), (.ref b44), (.ref b44), (.ref a43), (.ref a43)]))
      refine GoV.st (fun _ kq_ => XS.aloadN X47.here hx rfl (hb hby dt_273) rfl rfl kq_) ?_
      show GoV p e below s _ _ _ (T47.setTop (mkF m 274 #[.val (.ref a), .val (.int (7 : Int32))] [(.ref a), (.int (3 : Int32)), (.ref b44), (.ref b44), (.ref a43), (.ref a43)]))
      refine GoV.st (fun _ kq_ => XS.iconst X47.here hx rfl (hb hby dt_274) kq_) ?_
      show GoV p e below s _ _ _ (T47.setTop (mkF m 275 #[.val (.ref a), .val (.int (7 : Int32))] [(.int (3 : Int32)), (.ref a), (.int (3 : Int32)), (.ref b44), (.ref b44), (.ref a43), (.ref a43)]))
      refine GoV.st (fun _ kq_ => own_caload X47 hx hZ e47 V_a (by decide) (by decide) (v := (.int c3)) rfl (g := (mkF m 275 #[.val (.ref a), .val (.int (7 : Int32))] [(.int (3 : Int32)), (.ref a), (.int (3 : Int32)), (.ref b44), (.ref b44), (.ref a43), (.ref a43)])) rfl rfl (hb hby dt_275) _ kq_) ?_
      show GoV p e below s _ _ _ (T47.setTop (mkF m 276 #[.val (.ref a), .val (.int (7 : Int32))] [(.int c3), (.int (3 : Int32)), (.ref b44), (.ref b44), (.ref a43), (.ref a43)]))
      obtain ⟨T48, h48, X48, e48, W48, V48, st48⟩ := own_stC X47 hx hZ e47 V_b44 (j := (3 : Int32)) (by decide) (by decide) 3 rfl (Nat.le_of_ble_eq_true rfl) (g := (mkF m 276 #[.val (.ref a), .val (.int (7 : Int32))] [(.int c3), (.int (3 : Int32)), (.ref b44), (.ref b44), (.ref a43), (.ref a43)])) rfl rfl (hb hby dt_276)
      obtain ⟨lc48, X48, N48⟩ := own_gen X48 (Fr.snoc X48 N47 g_b44)
      have O48 := O47.wr W48 g_b44
      have K48 := K47.wr W48 (Or.inr sz_b44)
      have V_a := V_a.other W48 ne_a_b44
      have E_a43 := E_a43.wr W48
      have F_a43_coder := F_a43_coder.other W48 (Or.inl ne_a43_b44)
      have F_a43_value := F_a43_value.other W48 (Or.inl ne_a43_b44)
      have hk48 := Nat.le_trans hk47 (Nat.le_of_eq W48.size.symm)
      have V_b44 : Arv Z h48 b44 k44 .char (7 : Int32) [(.int (nar .char c0)), (.int (nar .char c1)), (.int (nar .char c2)), (.int (nar .char c3)), (.int (0 : Int32)), (.int (0 : Int32)), (.int (0 : Int32))] (.int (0 : Int32)) := V48
      refine GoV.st st48 ?_
      show GoV p e below s _ _ _ (T48.setTop (mkF m 277 #[.val (.ref a), .val (.int (7 : Int32))] [(.ref b44), (.ref a43), (.ref a43)]))
      refine GoV.st (fun _ kq_ => XS.dup X48.here hx rfl (hb hby dt_277) rfl rfl kq_) ?_
      show GoV p e below s _ _ _ (T48.setTop (mkF m 278 #[.val (.ref a), .val (.int (7 : Int32))] [(.ref b44), (.ref b44), (.ref a43), (.ref a43)]))
      refine GoV.st (fun _ kq_ => XS.iconst X48.here hx rfl (hb hby dt_278) kq_) ?_
      show GoV p e below s _ _ _ (T48.setTop (mkF m 279 #[.val (.ref a), .val (.int (7 : Int32))] [(.int (4 : Int32)), (.ref b44), (.ref b44), (.ref a43), (.ref a43)]))
      refine GoV.st (fun _ kq_ => XS.aloadN X48.here hx rfl (hb hby dt_279) rfl rfl kq_) ?_
      show GoV p e below s _ _ _ (T48.setTop (mkF m 280 #[.val (.ref a), .val (.int (7 : Int32))] [(.ref a), (.int (4 : Int32)), (.ref b44), (.ref b44), (.ref a43), (.ref a43)]))
      refine GoV.st (fun _ kq_ => XS.iconst X48.here hx rfl (hb hby dt_280) kq_) ?_
      show GoV p e below s _ _ _ (T48.setTop (mkF m 281 #[.val (.ref a), .val (.int (7 : Int32))] [(.int (4 : Int32)), (.ref a), (.int (4 : Int32)), (.ref b44), (.ref b44), (.ref a43), (.ref a43)]))
      refine GoV.st (fun _ kq_ => own_caload X48 hx hZ e48 V_a (by decide) (by decide) (v := (.int c4)) rfl (g := (mkF m 281 #[.val (.ref a), .val (.int (7 : Int32))] [(.int (4 : Int32)), (.ref a), (.int (4 : Int32)), (.ref b44), (.ref b44), (.ref a43), (.ref a43)])) rfl rfl (hb hby dt_281) _ kq_) ?_
      show GoV p e below s _ _ _ (T48.setTop (mkF m 282 #[.val (.ref a), .val (.int (7 : Int32))] [(.int c4), (.int (4 : Int32)), (.ref b44), (.ref b44), (.ref a43), (.ref a43)]))
      obtain ⟨T49, h49, X49, e49, W49, V49, st49⟩ := own_stC X48 hx hZ e48 V_b44 (j := (4 : Int32)) (by decide) (by decide) 4 rfl (Nat.le_of_ble_eq_true rfl) (g := (mkF m 282 #[.val (.ref a), .val (.int (7 : Int32))] [(.int c4), (.int (4 : Int32)), (.ref b44), (.ref b44), (.ref a43), (.ref a43)])) rfl rfl (hb hby dt_282)
      obtain ⟨lc49, X49, N49⟩ := own_gen X49 (Fr.snoc X49 N48 g_b44)
      have O49 := O48.wr W49 g_b44
      have K49 := K48.wr W49 (Or.inr sz_b44)
      have V_a := V_a.other W49 ne_a_b44
      have E_a43 := E_a43.wr W49
      have F_a43_coder := F_a43_coder.other W49 (Or.inl ne_a43_b44)
      have F_a43_value := F_a43_value.other W49 (Or.inl ne_a43_b44)
      have hk49 := Nat.le_trans hk48 (Nat.le_of_eq W49.size.symm)
      have V_b44 : Arv Z h49 b44 k44 .char (7 : Int32) [(.int (nar .char c0)), (.int (nar .char c1)), (.int (nar .char c2)), (.int (nar .char c3)), (.int (nar .char c4)), (.int (0 : Int32)), (.int (0 : Int32))] (.int (0 : Int32)) := V49
      refine GoV.st st49 ?_
      show GoV p e below s _ _ _ (T49.setTop (mkF m 283 #[.val (.ref a), .val (.int (7 : Int32))] [(.ref b44), (.ref a43), (.ref a43)]))
      refine GoV.st (fun _ kq_ => XS.dup X49.here hx rfl (hb hby dt_283) rfl rfl kq_) ?_
      show GoV p e below s _ _ _ (T49.setTop (mkF m 284 #[.val (.ref a), .val (.int (7 : Int32))] [(.ref b44), (.ref b44), (.ref a43), (.ref a43)]))
      refine GoV.st (fun _ kq_ => XS.iconst X49.here hx rfl (hb hby dt_284) kq_) ?_
      show GoV p e below s _ _ _ (T49.setTop (mkF m 285 #[.val (.ref a), .val (.int (7 : Int32))] [(.int (5 : Int32)), (.ref b44), (.ref b44), (.ref a43), (.ref a43)]))
      refine GoV.st (fun _ kq_ => XS.aloadN X49.here hx rfl (hb hby dt_285) rfl rfl kq_) ?_
      show GoV p e below s _ _ _ (T49.setTop (mkF m 286 #[.val (.ref a), .val (.int (7 : Int32))] [(.ref a), (.int (5 : Int32)), (.ref b44), (.ref b44), (.ref a43), (.ref a43)]))
      refine GoV.st (fun _ kq_ => XS.iconst X49.here hx rfl (hb hby dt_286) kq_) ?_
      show GoV p e below s _ _ _ (T49.setTop (mkF m 287 #[.val (.ref a), .val (.int (7 : Int32))] [(.int (5 : Int32)), (.ref a), (.int (5 : Int32)), (.ref b44), (.ref b44), (.ref a43), (.ref a43)]))
      refine GoV.st (fun _ kq_ => own_caload X49 hx hZ e49 V_a (by decide) (by decide) (v := (.int c5)) rfl (g := (mkF m 287 #[.val (.ref a), .val (.int (7 : Int32))] [(.int (5 : Int32)), (.ref a), (.int (5 : Int32)), (.ref b44), (.ref b44), (.ref a43), (.ref a43)])) rfl rfl (hb hby dt_287) _ kq_) ?_
      show GoV p e below s _ _ _ (T49.setTop (mkF m 288 #[.val (.ref a), .val (.int (7 : Int32))] [(.int c5), (.int (5 : Int32)), (.ref b44), (.ref b44), (.ref a43), (.ref a43)]))
      obtain ⟨T50, h50, X50, e50, W50, V50, st50⟩ := own_stC X49 hx hZ e49 V_b44 (j := (5 : Int32)) (by decide) (by decide) 5 rfl (Nat.le_of_ble_eq_true rfl) (g := (mkF m 288 #[.val (.ref a), .val (.int (7 : Int32))] [(.int c5), (.int (5 : Int32)), (.ref b44), (.ref b44), (.ref a43), (.ref a43)])) rfl rfl (hb hby dt_288)
      obtain ⟨lc50, X50, N50⟩ := own_gen X50 (Fr.snoc X50 N49 g_b44)
      have O50 := O49.wr W50 g_b44
      have K50 := K49.wr W50 (Or.inr sz_b44)
      have V_a := V_a.other W50 ne_a_b44
      have E_a43 := E_a43.wr W50
      have F_a43_coder := F_a43_coder.other W50 (Or.inl ne_a43_b44)
      have F_a43_value := F_a43_value.other W50 (Or.inl ne_a43_b44)
      have hk50 := Nat.le_trans hk49 (Nat.le_of_eq W50.size.symm)
      have V_b44 : Arv Z h50 b44 k44 .char (7 : Int32) [(.int (nar .char c0)), (.int (nar .char c1)), (.int (nar .char c2)), (.int (nar .char c3)), (.int (nar .char c4)), (.int (nar .char c5)), (.int (0 : Int32))] (.int (0 : Int32)) := V50
      refine GoV.st st50 ?_
      show GoV p e below s _ _ _ (T50.setTop (mkF m 289 #[.val (.ref a), .val (.int (7 : Int32))] [(.ref b44), (.ref a43), (.ref a43)]))
      refine GoV.st (fun _ kq_ => XS.dup X50.here hx rfl (hb hby dt_289) rfl rfl kq_) ?_
      show GoV p e below s _ _ _ (T50.setTop (mkF m 290 #[.val (.ref a), .val (.int (7 : Int32))] [(.ref b44), (.ref b44), (.ref a43), (.ref a43)]))
      refine GoV.st (fun _ kq_ => XS.bipush X50.here hx rfl (hb hby dt_290) kq_) ?_
      show GoV p e below s _ _ _ (T50.setTop (mkF m 292 #[.val (.ref a), .val (.int (7 : Int32))] [(.int (6 : Int32)), (.ref b44), (.ref b44), (.ref a43), (.ref a43)]))
      refine GoV.st (fun _ kq_ => XS.aloadN X50.here hx rfl (hb hby dt_292) rfl rfl kq_) ?_
      show GoV p e below s _ _ _ (T50.setTop (mkF m 293 #[.val (.ref a), .val (.int (7 : Int32))] [(.ref a), (.int (6 : Int32)), (.ref b44), (.ref b44), (.ref a43), (.ref a43)]))
      refine GoV.st (fun _ kq_ => XS.bipush X50.here hx rfl (hb hby dt_293) kq_) ?_
      show GoV p e below s _ _ _ (T50.setTop (mkF m 295 #[.val (.ref a), .val (.int (7 : Int32))] [(.int (6 : Int32)), (.ref a), (.int (6 : Int32)), (.ref b44), (.ref b44), (.ref a43), (.ref a43)]))
      refine GoV.st (fun _ kq_ => own_caload X50 hx hZ e50 V_a (by decide) (by decide) (v := (.int c6)) rfl (g := (mkF m 295 #[.val (.ref a), .val (.int (7 : Int32))] [(.int (6 : Int32)), (.ref a), (.int (6 : Int32)), (.ref b44), (.ref b44), (.ref a43), (.ref a43)])) rfl rfl (hb hby dt_295) _ kq_) ?_
      show GoV p e below s _ _ _ (T50.setTop (mkF m 296 #[.val (.ref a), .val (.int (7 : Int32))] [(.int c6), (.int (6 : Int32)), (.ref b44), (.ref b44), (.ref a43), (.ref a43)]))
      obtain ⟨T51, h51, X51, e51, W51, V51, st51⟩ := own_stC X50 hx hZ e50 V_b44 (j := (6 : Int32)) (by decide) (by decide) 6 rfl (Nat.le_of_ble_eq_true rfl) (g := (mkF m 296 #[.val (.ref a), .val (.int (7 : Int32))] [(.int c6), (.int (6 : Int32)), (.ref b44), (.ref b44), (.ref a43), (.ref a43)])) rfl rfl (hb hby dt_296)
      obtain ⟨lc51, X51, N51⟩ := own_gen X51 (Fr.snoc X51 N50 g_b44)
      have O51 := O50.wr W51 g_b44
      have K51 := K50.wr W51 (Or.inr sz_b44)
      have V_a := V_a.other W51 ne_a_b44
      have E_a43 := E_a43.wr W51
      have F_a43_coder := F_a43_coder.other W51 (Or.inl ne_a43_b44)
      have F_a43_value := F_a43_value.other W51 (Or.inl ne_a43_b44)
      have hk51 := Nat.le_trans hk50 (Nat.le_of_eq W51.size.symm)
      have V_b44 : Arv Z h51 b44 k44 .char (7 : Int32) [(.int (nar .char c0)), (.int (nar .char c1)), (.int (nar .char c2)), (.int (nar .char c3)), (.int (nar .char c4)), (.int (nar .char c5)), (.int (nar .char c6))] (.int (0 : Int32)) := V51
      refine GoV.st st51 ?_
      show GoV p e below s _ _ _ (T51.setTop (mkF m 297 #[.val (.ref a), .val (.int (7 : Int32))] [(.ref b44), (.ref a43), (.ref a43)]))
      have hp : ∀ z ∈ ([(nar .char c0), (nar .char c1), (nar .char c2), (nar .char c3), (nar .char c4), (nar .char c5), (nar .char c6)] : List Int32), ¬ z < 0 ∧ ¬ (255 : Int32) < z := by
        intro z hz
        simp only [List.mem_cons, List.not_mem_nil, or_false] at hz
        rcases hz with rfl | rfl | rfl | rfl | rfl | rfl | rfl
        · exact (show ¬ nar .char c0 < 0 ∧ ¬ (255 : Int32) < nar .char c0 by rw [own_nc hc0]; exact hc0)
        · exact (show ¬ nar .char c1 < 0 ∧ ¬ (255 : Int32) < nar .char c1 by rw [own_nc hc1]; exact hc1)
        · exact (show ¬ nar .char c2 < 0 ∧ ¬ (255 : Int32) < nar .char c2 by rw [own_nc hc2]; exact hc2)
        · exact (show ¬ nar .char c3 < 0 ∧ ¬ (255 : Int32) < nar .char c3 by rw [own_nc hc3]; exact hc3)
        · exact (show ¬ nar .char c4 < 0 ∧ ¬ (255 : Int32) < nar .char c4 by rw [own_nc hc4]; exact hc4)
        · exact (show ¬ nar .char c5 < 0 ∧ ¬ (255 : Int32) < nar .char c5 by rw [own_nc hc5]; exact hc5)
        · exact (show ¬ nar .char c6 < 0 ∧ ¬ (255 : Int32) < nar .char c6 by rw [own_nc hc6]; exact hc6)
      obtain ⟨_, _, ⟨T52, L52, k52, n52⟩, -, X52, ⟨Lc52, hQ52, l52, y52, z52⟩, st52⟩ := X51.specialBack hx (y := (⟨"java/lang/String", "<init>", "([C)V"⟩ : MethodName)) rfl hown (mvT hZ (own_w hw 9 rfl)) (mvT hZ (own_w hw 10 rfl)) (mvT hZ (own_w hw 11 rfl)) (by decide) (StrChars.Road.backV (W := 1) hZ hws (kI := 4) (own_w hw 7 rfl) (cs := ([(nar .char c0), (nar .char c1), (nar .char c2), (nar .char c3), (nar .char c4), (nar .char c5), (nar .char c6)] : List Int32)) (bs := ([(nar .char c0), (nar .char c1), (nar .char c2), (nar .char c3), (nar .char c4), (nar .char c5), (nar .char c6)] : List Int32).map (fun c => c.toInt8.toInt32)) (n := 7) g_a43 (own_old O51) E_a43 F_a43_value F_a43_coder V_b44 (SC.ext O51.2) hcs rfl rfl (by decide) (by decide) hp rfl (by decide) (by decide)) (g := (mkF m 297 #[.val (.ref a), .val (.int (7 : Int32))] [(.ref b44), (.ref a43), (.ref a43)])) rfl (by rw [hml]; rfl) (Steps.refl _) (a := a43) (argsL := [(.ref b44)]) (rest := [(.ref a43)]) (lenOf pdt_0 rfl) rfl (by show 2 * 0 + _ ≤ _; exact Nat.le_of_eq rfl) (hb hby dt_297) (fun _ _ => ⟨rfl, e51, (by decide : 2 + 1 ≤ _), (by decide : 11 + 7 ≤ _)⟩)
      dsimp only [Pt.U, Pt.locs, Pt.cells, Pt.slots] at X52 l52 y52 z52 st52 hQ52
      subst y52 z52
      obtain ⟨rfl, Nc52, Kc52, NE, NC, t52, kt52, gt52, szt52, -, NV, NB⟩ := hQ52
      have N52 : Fr n0 L52 := by rw [l52]; exact Fr.app N51 Nc52
      have V_a := V_a.keep Kc52 (ninS ne_a_a43 nin0)
      have V_b44 := V_b44.keep Kc52 (ninS (Ne.symm ne_a43_b44) nin0)
      have hk52 := Nat.le_trans hk51 Kc52.1
      have O52 := O51.keep Kc52 (allS g_a43 all0)
      have K52 := K51.trans Kc52 (allS (Or.inr sz_a43) all0)
      have E_a43 : Exa Z T52.heap a43 "java/lang/String" := NE
      have F_a43_coder : Fld Z T52.heap a43 "java/lang/String" "coder" "B" (.int (0 : Int32)) := NC
      have F_a43_value : Fld Z T52.heap a43 "java/lang/String" "value" "[B" (.ref t52) := NV
      have V_t52 : Arv Z T52.heap t52 kt52 .byte (7 : Int32) ((([(nar .char c0), (nar .char c1), (nar .char c2), (nar .char c3), (nar .char c4), (nar .char c5), (nar .char c6)] : List Int32).map (fun c => c.toInt8.toInt32)).map Value.int) (.int (0 : Int32)) := NB
      refine GoV.tr st52 ?_
      show GoV p e below s _ _ _ (T52.setTop (mkF m 300 #[.val (.ref a), .val (.int (7 : Int32))] [(.ref a43)]))
      exact GoV.ret (vm1 := s.vm) X52 hlk hS0 (by exact hk52) (some (.ref a43)) (fun h => by rw [Bd.returns] at h; cases h) (by exact ⟨a43, t52, _, _, _, ([(nar .char c0), (nar .char c1), (nar .char c2), (nar .char c3), (nar .char c4), (nar .char c5), (nar .char c6)] : List Int32), rfl, N52, K52, g_a43, sz_a43, E_a43, F_a43_coder, F_a43_value, V_t52, StrChars.Road.codOf (n := 7) rfl (fun c hc => (hp c hc).2), own_up hp, Nat.le_of_ble_eq_true rfl, own_ibM (own_ibW (vm0 := s.vm) I0 X52) (by decide)⟩) (by decide) (by decide) (fun fs hr => retOut X52 hx Bd.returns rfl (Or.inr (Or.inr (Or.inr (Or.inr ⟨rfl, rfl, rfl⟩)))) (hb hby dt_300) hr)
    · show GoV p e below s _ _ _ (s₁.setTop (mkF m 0 #[.val (.ref a), .val (.int (8 : Int32))] []))
      refine GoV.st (fun _ kq_ => XS.iloadN X0.here hx rfl (hb hby dt_0) rfl kq_) ?_
      show GoV p e below s _ _ _ (s₁.setTop (mkF m 1 #[.val (.ref a), .val (.int (8 : Int32))] [(.int (8 : Int32))]))
      refine GoV.st (fun _ kq_ => XS.ifYes X0.here hx rfl (pc0 := 1) (pc' := 15) rfl (hb hby dt_1) rfl (by decide) (by decide) (by decide) kq_) ?_
      show GoV p e below s _ _ _ (s₁.setTop (mkF m 15 #[.val (.ref a), .val (.int (8 : Int32))] []))
      refine GoV.st (fun _ kq_ => XS.iloadN X0.here hx rfl (hb hby dt_15) rfl kq_) ?_
      show GoV p e below s _ _ _ (s₁.setTop (mkF m 16 #[.val (.ref a), .val (.int (8 : Int32))] [(.int (8 : Int32))]))
      refine GoV.st (fun _ kq_ => XS.iconst X0.here hx rfl (hb hby dt_16) kq_) ?_
      show GoV p e below s _ _ _ (s₁.setTop (mkF m 17 #[.val (.ref a), .val (.int (8 : Int32))] [(.int (1 : Int32)), (.int (8 : Int32))]))
      refine GoV.st (fun _ kq_ => XS.icmpYes X0.here hx rfl (pc0 := 17) (pc' := 37) rfl (hb hby dt_17) rfl (by decide) (by decide) (by decide) kq_) ?_
      show GoV p e below s _ _ _ (s₁.setTop (mkF m 37 #[.val (.ref a), .val (.int (8 : Int32))] []))
      refine GoV.st (fun _ kq_ => XS.iloadN X0.here hx rfl (hb hby dt_37) rfl kq_) ?_
      show GoV p e below s _ _ _ (s₁.setTop (mkF m 38 #[.val (.ref a), .val (.int (8 : Int32))] [(.int (8 : Int32))]))
      refine GoV.st (fun _ kq_ => XS.iconst X0.here hx rfl (hb hby dt_38) kq_) ?_
      show GoV p e below s _ _ _ (s₁.setTop (mkF m 39 #[.val (.ref a), .val (.int (8 : Int32))] [(.int (2 : Int32)), (.int (8 : Int32))]))
      refine GoV.st (fun _ kq_ => XS.icmpYes X0.here hx rfl (pc0 := 39) (pc' := 65) rfl (hb hby dt_39) rfl (by decide) (by decide) (by decide) kq_) ?_
      show GoV p e below s _ _ _ (s₁.setTop (mkF m 65 #[.val (.ref a), .val (.int (8 : Int32))] []))
      refine GoV.st (fun _ kq_ => XS.iloadN X0.here hx rfl (hb hby dt_65) rfl kq_) ?_
      show GoV p e below s _ _ _ (s₁.setTop (mkF m 66 #[.val (.ref a), .val (.int (8 : Int32))] [(.int (8 : Int32))]))
      refine GoV.st (fun _ kq_ => XS.iconst X0.here hx rfl (hb hby dt_66) kq_) ?_
      show GoV p e below s _ _ _ (s₁.setTop (mkF m 67 #[.val (.ref a), .val (.int (8 : Int32))] [(.int (3 : Int32)), (.int (8 : Int32))]))
      refine GoV.st (fun _ kq_ => XS.icmpYes X0.here hx rfl (pc0 := 67) (pc' := 99) rfl (hb hby dt_67) rfl (by decide) (by decide) (by decide) kq_) ?_
      show GoV p e below s _ _ _ (s₁.setTop (mkF m 99 #[.val (.ref a), .val (.int (8 : Int32))] []))
      refine GoV.st (fun _ kq_ => XS.iloadN X0.here hx rfl (hb hby dt_99) rfl kq_) ?_
      show GoV p e below s _ _ _ (s₁.setTop (mkF m 100 #[.val (.ref a), .val (.int (8 : Int32))] [(.int (8 : Int32))]))
      refine GoV.st (fun _ kq_ => XS.iconst X0.here hx rfl (hb hby dt_100) kq_) ?_
      show GoV p e below s _ _ _ (s₁.setTop (mkF m 101 #[.val (.ref a), .val (.int (8 : Int32))] [(.int (4 : Int32)), (.int (8 : Int32))]))
      refine GoV.st (fun _ kq_ => XS.icmpYes X0.here hx rfl (pc0 := 101) (pc' := 139) rfl (hb hby dt_101) rfl (by decide) (by decide) (by decide) kq_) ?_
      show GoV p e below s _ _ _ (s₁.setTop (mkF m 139 #[.val (.ref a), .val (.int (8 : Int32))] []))
      refine GoV.st (fun _ kq_ => XS.iloadN X0.here hx rfl (hb hby dt_139) rfl kq_) ?_
      show GoV p e below s _ _ _ (s₁.setTop (mkF m 140 #[.val (.ref a), .val (.int (8 : Int32))] [(.int (8 : Int32))]))
      refine GoV.st (fun _ kq_ => XS.iconst X0.here hx rfl (hb hby dt_140) kq_) ?_
      show GoV p e below s _ _ _ (s₁.setTop (mkF m 141 #[.val (.ref a), .val (.int (8 : Int32))] [(.int (5 : Int32)), (.int (8 : Int32))]))
      refine GoV.st (fun _ kq_ => XS.icmpYes X0.here hx rfl (pc0 := 141) (pc' := 185) rfl (hb hby dt_141) rfl (by decide) (by decide) (by decide) kq_) ?_
      show GoV p e below s _ _ _ (s₁.setTop (mkF m 185 #[.val (.ref a), .val (.int (8 : Int32))] []))
      refine GoV.st (fun _ kq_ => XS.iloadN X0.here hx rfl (hb hby dt_185) rfl kq_) ?_
      show GoV p e below s _ _ _ (s₁.setTop (mkF m 186 #[.val (.ref a), .val (.int (8 : Int32))] [(.int (8 : Int32))]))
      refine GoV.st (fun _ kq_ => XS.bipush X0.here hx rfl (hb hby dt_186) kq_) ?_
      show GoV p e below s _ _ _ (s₁.setTop (mkF m 188 #[.val (.ref a), .val (.int (8 : Int32))] [(.int (6 : Int32)), (.int (8 : Int32))]))
      refine GoV.st (fun _ kq_ => XS.icmpYes X0.here hx rfl (pc0 := 188) (pc' := 239) rfl (hb hby dt_188) rfl (by decide) (by decide) (by decide) kq_) ?_
      show GoV p e below s _ _ _ (s₁.setTop (mkF m 239 #[.val (.ref a), .val (.int (8 : Int32))] []))
      refine GoV.st (fun _ kq_ => XS.iloadN X0.here hx rfl (hb hby dt_239) rfl kq_) ?_
      show GoV p e below s _ _ _ (s₁.setTop (mkF m 240 #[.val (.ref a), .val (.int (8 : Int32))] [(.int (8 : Int32))]))
      refine GoV.st (fun _ kq_ => XS.bipush X0.here hx rfl (hb hby dt_240) kq_) ?_
      show GoV p e below s _ _ _ (s₁.setTop (mkF m 242 #[.val (.ref a), .val (.int (8 : Int32))] [(.int (7 : Int32)), (.int (8 : Int32))]))
      refine GoV.st (fun _ kq_ => XS.icmpYes X0.here hx rfl (pc0 := 242) (pc' := 301) rfl (hb hby dt_242) rfl (by decide) (by decide) (by decide) kq_) ?_
      show GoV p e below s _ _ _ (s₁.setTop (mkF m 301 #[.val (.ref a), .val (.int (8 : Int32))] []))
      refine GoV.st (fun _ kq_ => XS.iloadN X0.here hx rfl (hb hby dt_301) rfl kq_) ?_
      show GoV p e below s _ _ _ (s₁.setTop (mkF m 302 #[.val (.ref a), .val (.int (8 : Int32))] [(.int (8 : Int32))]))
      refine GoV.st (fun _ kq_ => XS.bipush X0.here hx rfl (hb hby dt_302) kq_) ?_
      show GoV p e below s _ _ _ (s₁.setTop (mkF m 304 #[.val (.ref a), .val (.int (8 : Int32))] [(.int (8 : Int32)), (.int (8 : Int32))]))
      refine GoV.st (fun _ kq_ => XS.icmpNo X0.here hx rfl (hb hby dt_304) rfl (by decide) kq_) ?_
      show GoV p e below s _ _ _ (s₁.setTop (mkF m 307 #[.val (.ref a), .val (.int (8 : Int32))] []))
      obtain ⟨T53, h53, X53, e53, E53, A53, D53, -, st53⟩ := newO X0 hx hZ hown (own_w hw 6 rfl) (own_w hw 7 rfl) (own_w hw 8 rfl) e0 (g := (mkF m 307 #[.val (.ref a), .val (.int (8 : Int32))] [])) rfl (hb hby dt_307) (by decide) (by decide)
      obtain ⟨a53, g53⟩ : ∃ z, z = h0.size := ⟨_, rfl⟩
      rw [← g53] at A53 D53 st53
      have g_a53 : n0 ≤ a53 := Nat.le_trans (own_old O0) (Nat.le_of_eq g53.symm)
      have sz_a53 : h0.size ≤ a53 := Nat.le_trans K0.1 (Nat.le_of_eq g53.symm)
      have ne_a_a53 : a ≠ a53 := by rw [g53]; exact Nat.ne_of_lt V_a.lt
      have V_a := V_a.ext E53
      have hk53 := Nat.le_trans hk0 E53.1
      have O53 := O0.ext E53
      have K53 := K0.ext E53
      have E_a53 : Exa Z h53 a53 "java/lang/String" := A53
      have F_a53_coder : Fld Z h53 a53 "java/lang/String" "coder" "B" (.int (0 : Int32)) := D53 (Or.inr (own_w hw 32 rfl)) (ty := .byte) (by decide)
      have F_a53_value : Fld Z h53 a53 "java/lang/String" "value" "[B" .null := D53 (Or.inr (own_w hw 34 rfl)) (ty := (.array .byte)) (by decide)
      refine GoV.st st53 ?_
      show GoV p e below s _ _ _ (T53.setTop (mkF m 310 #[.val (.ref a), .val (.int (8 : Int32))] [(.ref a53)]))
      refine GoV.st (fun _ kq_ => XS.dup X53.here hx rfl (hb hby dt_310) rfl rfl kq_) ?_
      show GoV p e below s _ _ _ (T53.setTop (mkF m 311 #[.val (.ref a), .val (.int (8 : Int32))] [(.ref a53), (.ref a53)]))
      refine GoV.st (fun _ kq_ => XS.bipush X53.here hx rfl (hb hby dt_311) kq_) ?_
      show GoV p e below s _ _ _ (T53.setTop (mkF m 313 #[.val (.ref a), .val (.int (8 : Int32))] [(.int (8 : Int32)), (.ref a53), (.ref a53)]))
      obtain ⟨T54, h54, k54, X54, e54, E54, A54, st54⟩ := newP X53 hx hZ (own_w hw 0 rfl) e53 (g := (mkF m 313 #[.val (.ref a), .val (.int (8 : Int32))] [(.int (8 : Int32)), (.ref a53), (.ref a53)])) rfl (hb hby dt_313) rfl (by decide) (cap := 8) (by decide) (by decide) (by decide) (by decide)
      obtain ⟨b54, g54⟩ : ∃ z, z = h53.size := ⟨_, rfl⟩
      rw [← g54] at A54 st54
      have g_b54 : n0 ≤ b54 := Nat.le_trans (own_old O53) (Nat.le_of_eq g54.symm)
      have sz_b54 : h0.size ≤ b54 := Nat.le_trans K53.1 (Nat.le_of_eq g54.symm)
      have ne_a_b54 : a ≠ b54 := by rw [g54]; exact Nat.ne_of_lt V_a.lt
      have ne_a53_b54 : a53 ≠ b54 := by rw [g54]; exact Nat.ne_of_lt E_a53.lt
      have V_a := V_a.ext E54
      have E_a53 := E_a53.ext E54
      have F_a53_coder := F_a53_coder.ext E54
      have F_a53_value := F_a53_value.ext E54
      have hk54 := Nat.le_trans hk53 E54.1
      have O54 := O53.ext E54
      have K54 := K53.ext E54
      have V_b54 : Arv Z h54 b54 k54 .char (8 : Int32) [(.int (0 : Int32)), (.int (0 : Int32)), (.int (0 : Int32)), (.int (0 : Int32)), (.int (0 : Int32)), (.int (0 : Int32)), (.int (0 : Int32)), (.int (0 : Int32))] (.int (0 : Int32)) := (Arv.new A54 (by decide)).pad (pad_rep [] (.int (0 : Int32)) 8)
      refine GoV.st st54 ?_
      show GoV p e below s _ _ _ (T54.setTop (mkF m 315 #[.val (.ref a), .val (.int (8 : Int32))] [(.ref b54), (.ref a53), (.ref a53)]))
      refine GoV.st (fun _ kq_ => XS.dup X54.here hx rfl (hb hby dt_315) rfl rfl kq_) ?_
      show GoV p e below s _ _ _ (T54.setTop (mkF m 316 #[.val (.ref a), .val (.int (8 : Int32))] [(.ref b54), (.ref b54), (.ref a53), (.ref a53)]))
      refine GoV.st (fun _ kq_ => XS.iconst X54.here hx rfl (hb hby dt_316) kq_) ?_
      show GoV p e below s _ _ _ (T54.setTop (mkF m 317 #[.val (.ref a), .val (.int (8 : Int32))] [(.int (0 : Int32)), (.ref b54), (.ref b54), (.ref a53), (.ref a53)]))
      refine GoV.st (fun _ kq_ => XS.aloadN X54.here hx rfl (hb hby dt_317) rfl rfl kq_) ?_
      show GoV p e below s _ _ _ (T54.setTop (mkF m 318 #[.val (.ref a), .val (.int (8 : Int32))] [(.ref a), (.int (0 : Int32)), (.ref b54), (.ref b54), (.ref a53), (.ref a53)]))
      refine GoV.st (fun _ kq_ => XS.iconst X54.here hx rfl (hb hby dt_318) kq_) ?_
      show GoV p e below s _ _ _ (T54.setTop (mkF m 319 #[.val (.ref a), .val (.int (8 : Int32))] [(.int (0 : Int32)), (.ref a), (.int (0 : Int32)), (.ref b54), (.ref b54), (.ref a53), (.ref a53)]))
      refine GoV.st (fun _ kq_ => own_caload X54 hx hZ e54 V_a (by decide) (by decide) (v := (.int c0)) rfl (g := (mkF m 319 #[.val (.ref a), .val (.int (8 : Int32))] [(.int (0 : Int32)), (.ref a), (.int (0 : Int32)), (.ref b54), (.ref b54), (.ref a53), (.ref a53)])) rfl rfl (hb hby dt_319) _ kq_) ?_
      show GoV p e below s _ _ _ (T54.setTop (mkF m 320 #[.val (.ref a), .val (.int (8 : Int32))] [(.int c0), (.int (0 : Int32)), (.ref b54), (.ref b54), (.ref a53), (.ref a53)]))
      obtain ⟨T55, h55, X55, e55, W55, V55, st55⟩ := own_stC X54 hx hZ e54 V_b54 (j := (0 : Int32)) (by decide) (by decide) 0 rfl (Nat.le_of_ble_eq_true rfl) (g := (mkF m 320 #[.val (.ref a), .val (.int (8 : Int32))] [(.int c0), (.int (0 : Int32)), (.ref b54), (.ref b54), (.ref a53), (.ref a53)])) rfl rfl (hb hby dt_320)
      obtain ⟨lc55, X55, N55⟩ := own_gen X55 (Fr.snoc X55 N0 g_b54)
      have O55 := O54.wr W55 g_b54
      have K55 := K54.wr W55 (Or.inr sz_b54)
      have V_a := V_a.other W55 ne_a_b54
      have E_a53 := E_a53.wr W55
      have F_a53_coder := F_a53_coder.other W55 (Or.inl ne_a53_b54)
      have F_a53_value := F_a53_value.other W55 (Or.inl ne_a53_b54)
      have hk55 := Nat.le_trans hk54 (Nat.le_of_eq W55.size.symm)
      have V_b54 : Arv Z h55 b54 k54 .char (8 : Int32) [(.int (nar .char c0)), (.int (0 : Int32)), (.int (0 : Int32)), (.int (0 : Int32)), (.int (0 : Int32)), (.int (0 : Int32)), (.int (0 : Int32)), (.int (0 : Int32))] (.int (0 : Int32)) := V55
      refine GoV.st st55 ?_
      show GoV p e below s _ _ _ (T55.setTop (mkF m 321 #[.val (.ref a), .val (.int (8 : Int32))] [(.ref b54), (.ref a53), (.ref a53)]))
      refine GoV.st (fun _ kq_ => XS.dup X55.here hx rfl (hb hby dt_321) rfl rfl kq_) ?_
      show GoV p e below s _ _ _ (T55.setTop (mkF m 322 #[.val (.ref a), .val (.int (8 : Int32))] [(.ref b54), (.ref b54), (.ref a53), (.ref a53)]))
      refine GoV.st (fun _ kq_ => XS.iconst X55.here hx rfl (hb hby dt_322) kq_) ?_
      show GoV p e below s _ _ _ (T55.setTop (mkF m 323 #[.val (.ref a), .val (.int (8 : Int32))] [(.int (1 : Int32)), (.ref b54), (.ref b54), (.ref a53), (.ref a53)]))
      refine GoV.st (fun _ kq_ => XS.aloadN X55.here hx rfl (hb hby dt_323) rfl rfl kq_) ?_
      show GoV p e below s _ _ _ (T55.setTop (mkF m 324 #[.val (.ref a), .val (.int (8 : Int32))] [(.ref a), (.int (1 : Int32)), (.ref b54), (.ref b54), (.ref a53), (.ref a53)]))
      refine GoV.st (fun _ kq_ => XS.iconst X55.here hx rfl (hb hby dt_324) kq_) ?_
      show GoV p e below s _ _ _ (T55.setTop (mkF m 325 #[.val (.ref a), .val (.int (8 : Int32))] [(.int (1 : Int32)), (.ref a), (.int (1 : Int32)), (.ref b54), (.ref b54), (.ref a53), (.ref a53)]))
      refine GoV.st (fun _ kq_ => own_caload X55 hx hZ e55 V_a (by decide) (by decide) (v := (.int c1)) rfl (g := (mkF m 325 #[.val (.ref a), .val (.int (8 : Int32))] [(.int (1 : Int32)), (.ref a), (.int (1 : Int32)), (.ref b54), (.ref b54), (.ref a53), (.ref a53)])) rfl rfl (hb hby dt_325) _ kq_) ?_
      show GoV p e below s _ _ _ (T55.setTop (mkF m 326 #[.val (.ref a), .val (.int (8 : Int32))] [(.int c1), (.int (1 : Int32)), (.ref b54), (.ref b54), (.ref a53), (.ref a53)]))
      obtain ⟨T56, h56, X56, e56, W56, V56, st56⟩ := own_stC X55 hx hZ e55 V_b54 (j := (1 : Int32)) (by decide) (by decide) 1 rfl (Nat.le_of_ble_eq_true rfl) (g := (mkF m 326 #[.val (.ref a), .val (.int (8 : Int32))] [(.int c1), (.int (1 : Int32)), (.ref b54), (.ref b54), (.ref a53), (.ref a53)])) rfl rfl (hb hby dt_326)
      obtain ⟨lc56, X56, N56⟩ := own_gen X56 (Fr.snoc X56 N55 g_b54)
      have O56 := O55.wr W56 g_b54
      have K56 := K55.wr W56 (Or.inr sz_b54)
      have V_a := V_a.other W56 ne_a_b54
      have E_a53 := E_a53.wr W56
      have F_a53_coder := F_a53_coder.other W56 (Or.inl ne_a53_b54)
      have F_a53_value := F_a53_value.other W56 (Or.inl ne_a53_b54)
      have hk56 := Nat.le_trans hk55 (Nat.le_of_eq W56.size.symm)
      have V_b54 : Arv Z h56 b54 k54 .char (8 : Int32) [(.int (nar .char c0)), (.int (nar .char c1)), (.int (0 : Int32)), (.int (0 : Int32)), (.int (0 : Int32)), (.int (0 : Int32)), (.int (0 : Int32)), (.int (0 : Int32))] (.int (0 : Int32)) := V56
      refine GoV.st st56 ?_
      show GoV p e below s _ _ _ (T56.setTop (mkF m 327 #[.val (.ref a), .val (.int (8 : Int32))] [(.ref b54), (.ref a53), (.ref a53)]))
      refine GoV.st (fun _ kq_ => XS.dup X56.here hx rfl (hb hby dt_327) rfl rfl kq_) ?_
      show GoV p e below s _ _ _ (T56.setTop (mkF m 328 #[.val (.ref a), .val (.int (8 : Int32))] [(.ref b54), (.ref b54), (.ref a53), (.ref a53)]))
      refine GoV.st (fun _ kq_ => XS.iconst X56.here hx rfl (hb hby dt_328) kq_) ?_
      show GoV p e below s _ _ _ (T56.setTop (mkF m 329 #[.val (.ref a), .val (.int (8 : Int32))] [(.int (2 : Int32)), (.ref b54), (.ref b54), (.ref a53), (.ref a53)]))
      refine GoV.st (fun _ kq_ => XS.aloadN X56.here hx rfl (hb hby dt_329) rfl rfl kq_) ?_
      show GoV p e below s _ _ _ (T56.setTop (mkF m 330 #[.val (.ref a), .val (.int (8 : Int32))] [(.ref a), (.int (2 : Int32)), (.ref b54), (.ref b54), (.ref a53), (.ref a53)]))
      refine GoV.st (fun _ kq_ => XS.iconst X56.here hx rfl (hb hby dt_330) kq_) ?_
      show GoV p e below s _ _ _ (T56.setTop (mkF m 331 #[.val (.ref a), .val (.int (8 : Int32))] [(.int (2 : Int32)), (.ref a), (.int (2 : Int32)), (.ref b54), (.ref b54), (.ref a53), (.ref a53)]))
      refine GoV.st (fun _ kq_ => own_caload X56 hx hZ e56 V_a (by decide) (by decide) (v := (.int c2)) rfl (g := (mkF m 331 #[.val (.ref a), .val (.int (8 : Int32))] [(.int (2 : Int32)), (.ref a), (.int (2 : Int32)), (.ref b54), (.ref b54), (.ref a53), (.ref a53)])) rfl rfl (hb hby dt_331) _ kq_) ?_
      show GoV p e below s _ _ _ (T56.setTop (mkF m 332 #[.val (.ref a), .val (.int (8 : Int32))] [(.int c2), (.int (2 : Int32)), (.ref b54), (.ref b54), (.ref a53), (.ref a53)]))
      obtain ⟨T57, h57, X57, e57, W57, V57, st57⟩ := own_stC X56 hx hZ e56 V_b54 (j := (2 : Int32)) (by decide) (by decide) 2 rfl (Nat.le_of_ble_eq_true rfl) (g := (mkF m 332 #[.val (.ref a), .val (.int (8 : Int32))] [(.int c2), (.int (2 : Int32)), (.ref b54), (.ref b54), (.ref a53), (.ref a53)])) rfl rfl (hb hby dt_332)
      obtain ⟨lc57, X57, N57⟩ := own_gen X57 (Fr.snoc X57 N56 g_b54)
      have O57 := O56.wr W57 g_b54
      have K57 := K56.wr W57 (Or.inr sz_b54)
      have V_a := V_a.other W57 ne_a_b54
      have E_a53 := E_a53.wr W57
      have F_a53_coder := F_a53_coder.other W57 (Or.inl ne_a53_b54)
      have F_a53_value := F_a53_value.other W57 (Or.inl ne_a53_b54)
      have hk57 := Nat.le_trans hk56 (Nat.le_of_eq W57.size.symm)
      have V_b54 : Arv Z h57 b54 k54 .char (8 : Int32) [(.int (nar .char c0)), (.int (nar .char c1)), (.int (nar .char c2)), (.int (0 : Int32)), (.int (0 : Int32)), (.int (0 : Int32)), (.int (0 : Int32)), (.int (0 : Int32))] (.int (0 : Int32)) := V57
      refine GoV.st st57 ?_
      show GoV p e below s _ _ _ (T57.setTop (mkF m 333 #[.val (.ref a), .val (.int (8 : Int32))] [(.ref b54), (.ref a53), (.ref a53)]))
      refine GoV.st (fun _ kq_ => XS.dup X57.here hx rfl (hb hby dt_333) rfl rfl kq_) ?_
      show GoV p e below s _ _ _ (T57.setTop (mkF m 334 #[.val (.ref a), .val (.int (8 : Int32))] [(.ref b54), (.ref b54), (.ref a53), (.ref a53)]))
      refine GoV.st (fun _ kq_ => XS.iconst X57.here hx rfl (hb hby dt_334) kq_) ?_
      show GoV p e below s _ _ _ (T57.setTop (mkF m 335 #[.val (.ref a), .val (.int (8 : Int32))] [(.int (3 : Int32)), (.ref b54), (.ref b54), (.ref a53), (.ref a53)]))
      refine GoV.st (fun _ kq_ => XS.aloadN X57.here hx rfl (hb hby dt_335) rfl rfl kq_) ?_
      show GoV p e below s _ _ _ (T57.setTop (mkF m 336 #[.val (.ref a), .val (.int (8 : Int32))] [(.ref a), (.int (3 : Int32)), (.ref b54), (.ref b54), (.ref a53), (.ref a53)]))
      refine GoV.st (fun _ kq_ => XS.iconst X57.here hx rfl (hb hby dt_336) kq_) ?_
      show GoV p e below s _ _ _ (T57.setTop (mkF m 337 #[.val (.ref a), .val (.int (8 : Int32))] [(.int (3 : Int32)), (.ref a), (.int (3 : Int32)), (.ref b54), (.ref b54), (.ref a53), (.ref a53)]))
      refine GoV.st (fun _ kq_ => own_caload X57 hx hZ e57 V_a (by decide) (by decide) (v := (.int c3)) rfl (g := (mkF m 337 #[.val (.ref a), .val (.int (8 : Int32))] [(.int (3 : Int32)), (.ref a), (.int (3 : Int32)), (.ref b54), (.ref b54), (.ref a53), (.ref a53)])) rfl rfl (hb hby dt_337) _ kq_) ?_
      show GoV p e below s _ _ _ (T57.setTop (mkF m 338 #[.val (.ref a), .val (.int (8 : Int32))] [(.int c3), (.int (3 : Int32)), (.ref b54), (.ref b54), (.ref a53), (.ref a53)]))
      obtain ⟨T58, h58, X58, e58, W58, V58, st58⟩ := own_stC X57 hx hZ e57 V_b54 (j := (3 : Int32)) (by decide) (by decide) 3 rfl (Nat.le_of_ble_eq_true rfl) (g := (mkF m 338 #[.val (.ref a), .val (.int (8 : Int32))] [(.int c3), (.int (3 : Int32)), (.ref b54), (.ref b54), (.ref a53), (.ref a53)])) rfl rfl (hb hby dt_338)
      obtain ⟨lc58, X58, N58⟩ := own_gen X58 (Fr.snoc X58 N57 g_b54)
      have O58 := O57.wr W58 g_b54
      have K58 := K57.wr W58 (Or.inr sz_b54)
      have V_a := V_a.other W58 ne_a_b54
      have E_a53 := E_a53.wr W58
      have F_a53_coder := F_a53_coder.other W58 (Or.inl ne_a53_b54)
      have F_a53_value := F_a53_value.other W58 (Or.inl ne_a53_b54)
      have hk58 := Nat.le_trans hk57 (Nat.le_of_eq W58.size.symm)
      have V_b54 : Arv Z h58 b54 k54 .char (8 : Int32) [(.int (nar .char c0)), (.int (nar .char c1)), (.int (nar .char c2)), (.int (nar .char c3)), (.int (0 : Int32)), (.int (0 : Int32)), (.int (0 : Int32)), (.int (0 : Int32))] (.int (0 : Int32)) := V58
      refine GoV.st st58 ?_
      show GoV p e below s _ _ _ (T58.setTop (mkF m 339 #[.val (.ref a), .val (.int (8 : Int32))] [(.ref b54), (.ref a53), (.ref a53)]))
      refine GoV.st (fun _ kq_ => XS.dup X58.here hx rfl (hb hby dt_339) rfl rfl kq_) ?_
      show GoV p e below s _ _ _ (T58.setTop (mkF m 340 #[.val (.ref a), .val (.int (8 : Int32))] [(.ref b54), (.ref b54), (.ref a53), (.ref a53)]))
      refine GoV.st (fun _ kq_ => XS.iconst X58.here hx rfl (hb hby dt_340) kq_) ?_
      show GoV p e below s _ _ _ (T58.setTop (mkF m 341 #[.val (.ref a), .val (.int (8 : Int32))] [(.int (4 : Int32)), (.ref b54), (.ref b54), (.ref a53), (.ref a53)]))
      refine GoV.st (fun _ kq_ => XS.aloadN X58.here hx rfl (hb hby dt_341) rfl rfl kq_) ?_
      show GoV p e below s _ _ _ (T58.setTop (mkF m 342 #[.val (.ref a), .val (.int (8 : Int32))] [(.ref a), (.int (4 : Int32)), (.ref b54), (.ref b54), (.ref a53), (.ref a53)]))
      refine GoV.st (fun _ kq_ => XS.iconst X58.here hx rfl (hb hby dt_342) kq_) ?_
      show GoV p e below s _ _ _ (T58.setTop (mkF m 343 #[.val (.ref a), .val (.int (8 : Int32))] [(.int (4 : Int32)), (.ref a), (.int (4 : Int32)), (.ref b54), (.ref b54), (.ref a53), (.ref a53)]))
      refine GoV.st (fun _ kq_ => own_caload X58 hx hZ e58 V_a (by decide) (by decide) (v := (.int c4)) rfl (g := (mkF m 343 #[.val (.ref a), .val (.int (8 : Int32))] [(.int (4 : Int32)), (.ref a), (.int (4 : Int32)), (.ref b54), (.ref b54), (.ref a53), (.ref a53)])) rfl rfl (hb hby dt_343) _ kq_) ?_
      show GoV p e below s _ _ _ (T58.setTop (mkF m 344 #[.val (.ref a), .val (.int (8 : Int32))] [(.int c4), (.int (4 : Int32)), (.ref b54), (.ref b54), (.ref a53), (.ref a53)]))
      obtain ⟨T59, h59, X59, e59, W59, V59, st59⟩ := own_stC X58 hx hZ e58 V_b54 (j := (4 : Int32)) (by decide) (by decide) 4 rfl (Nat.le_of_ble_eq_true rfl) (g := (mkF m 344 #[.val (.ref a), .val (.int (8 : Int32))] [(.int c4), (.int (4 : Int32)), (.ref b54), (.ref b54), (.ref a53), (.ref a53)])) rfl rfl (hb hby dt_344)
      obtain ⟨lc59, X59, N59⟩ := own_gen X59 (Fr.snoc X59 N58 g_b54)
      have O59 := O58.wr W59 g_b54
      have K59 := K58.wr W59 (Or.inr sz_b54)
      have V_a := V_a.other W59 ne_a_b54
      have E_a53 := E_a53.wr W59
      have F_a53_coder := F_a53_coder.other W59 (Or.inl ne_a53_b54)
      have F_a53_value := F_a53_value.other W59 (Or.inl ne_a53_b54)
      have hk59 := Nat.le_trans hk58 (Nat.le_of_eq W59.size.symm)
      have V_b54 : Arv Z h59 b54 k54 .char (8 : Int32) [(.int (nar .char c0)), (.int (nar .char c1)), (.int (nar .char c2)), (.int (nar .char c3)), (.int (nar .char c4)), (.int (0 : Int32)), (.int (0 : Int32)), (.int (0 : Int32))] (.int (0 : Int32)) := V59
      refine GoV.st st59 ?_
      show GoV p e below s _ _ _ (T59.setTop (mkF m 345 #[.val (.ref a), .val (.int (8 : Int32))] [(.ref b54), (.ref a53), (.ref a53)]))
      refine GoV.st (fun _ kq_ => XS.dup X59.here hx rfl (hb hby dt_345) rfl rfl kq_) ?_
      show GoV p e below s _ _ _ (T59.setTop (mkF m 346 #[.val (.ref a), .val (.int (8 : Int32))] [(.ref b54), (.ref b54), (.ref a53), (.ref a53)]))
      refine GoV.st (fun _ kq_ => XS.iconst X59.here hx rfl (hb hby dt_346) kq_) ?_
      show GoV p e below s _ _ _ (T59.setTop (mkF m 347 #[.val (.ref a), .val (.int (8 : Int32))] [(.int (5 : Int32)), (.ref b54), (.ref b54), (.ref a53), (.ref a53)]))
      refine GoV.st (fun _ kq_ => XS.aloadN X59.here hx rfl (hb hby dt_347) rfl rfl kq_) ?_
      show GoV p e below s _ _ _ (T59.setTop (mkF m 348 #[.val (.ref a), .val (.int (8 : Int32))] [(.ref a), (.int (5 : Int32)), (.ref b54), (.ref b54), (.ref a53), (.ref a53)]))
      refine GoV.st (fun _ kq_ => XS.iconst X59.here hx rfl (hb hby dt_348) kq_) ?_
      show GoV p e below s _ _ _ (T59.setTop (mkF m 349 #[.val (.ref a), .val (.int (8 : Int32))] [(.int (5 : Int32)), (.ref a), (.int (5 : Int32)), (.ref b54), (.ref b54), (.ref a53), (.ref a53)]))
      refine GoV.st (fun _ kq_ => own_caload X59 hx hZ e59 V_a (by decide) (by decide) (v := (.int c5)) rfl (g := (mkF m 349 #[.val (.ref a), .val (.int (8 : Int32))] [(.int (5 : Int32)), (.ref a), (.int (5 : Int32)), (.ref b54), (.ref b54), (.ref a53), (.ref a53)])) rfl rfl (hb hby dt_349) _ kq_) ?_
      show GoV p e below s _ _ _ (T59.setTop (mkF m 350 #[.val (.ref a), .val (.int (8 : Int32))] [(.int c5), (.int (5 : Int32)), (.ref b54), (.ref b54), (.ref a53), (.ref a53)]))
      obtain ⟨T60, h60, X60, e60, W60, V60, st60⟩ := own_stC X59 hx hZ e59 V_b54 (j := (5 : Int32)) (by decide) (by decide) 5 rfl (Nat.le_of_ble_eq_true rfl) (g := (mkF m 350 #[.val (.ref a), .val (.int (8 : Int32))] [(.int c5), (.int (5 : Int32)), (.ref b54), (.ref b54), (.ref a53), (.ref a53)])) rfl rfl (hb hby dt_350)
      obtain ⟨lc60, X60, N60⟩ := own_gen X60 (Fr.snoc X60 N59 g_b54)
      have O60 := O59.wr W60 g_b54
      have K60 := K59.wr W60 (Or.inr sz_b54)
      have V_a := V_a.other W60 ne_a_b54
      have E_a53 := E_a53.wr W60
      have F_a53_coder := F_a53_coder.other W60 (Or.inl ne_a53_b54)
      have F_a53_value := F_a53_value.other W60 (Or.inl ne_a53_b54)
      have hk60 := Nat.le_trans hk59 (Nat.le_of_eq W60.size.symm)
      have V_b54 : Arv Z h60 b54 k54 .char (8 : Int32) [(.int (nar .char c0)), (.int (nar .char c1)), (.int (nar .char c2)), (.int (nar .char c3)), (.int (nar .char c4)), (.int (nar .char c5)), (.int (0 : Int32)), (.int (0 : Int32))] (.int (0 : Int32)) := V60
      refine GoV.st st60 ?_
      show GoV p e below s _ _ _ (T60.setTop (mkF m 351 #[.val (.ref a), .val (.int (8 : Int32))] [(.ref b54), (.ref a53), (.ref a53)]))
      refine GoV.st (fun _ kq_ => XS.dup X60.here hx rfl (hb hby dt_351) rfl rfl kq_) ?_
      show GoV p e below s _ _ _ (T60.setTop (mkF m 352 #[.val (.ref a), .val (.int (8 : Int32))] [(.ref b54), (.ref b54), (.ref a53), (.ref a53)]))
      refine GoV.st (fun _ kq_ => XS.bipush X60.here hx rfl (hb hby dt_352) kq_) ?_
      show GoV p e below s _ _ _ (T60.setTop (mkF m 354 #[.val (.ref a), .val (.int (8 : Int32))] [(.int (6 : Int32)), (.ref b54), (.ref b54), (.ref a53), (.ref a53)]))
      refine GoV.st (fun _ kq_ => XS.aloadN X60.here hx rfl (hb hby dt_354) rfl rfl kq_) ?_
      show GoV p e below s _ _ _ (T60.setTop (mkF m 355 #[.val (.ref a), .val (.int (8 : Int32))] [(.ref a), (.int (6 : Int32)), (.ref b54), (.ref b54), (.ref a53), (.ref a53)]))
      refine GoV.st (fun _ kq_ => XS.bipush X60.here hx rfl (hb hby dt_355) kq_) ?_
      show GoV p e below s _ _ _ (T60.setTop (mkF m 357 #[.val (.ref a), .val (.int (8 : Int32))] [(.int (6 : Int32)), (.ref a), (.int (6 : Int32)), (.ref b54), (.ref b54), (.ref a53), (.ref a53)]))
      refine GoV.st (fun _ kq_ => own_caload X60 hx hZ e60 V_a (by decide) (by decide) (v := (.int c6)) rfl (g := (mkF m 357 #[.val (.ref a), .val (.int (8 : Int32))] [(.int (6 : Int32)), (.ref a), (.int (6 : Int32)), (.ref b54), (.ref b54), (.ref a53), (.ref a53)])) rfl rfl (hb hby dt_357) _ kq_) ?_
      show GoV p e below s _ _ _ (T60.setTop (mkF m 358 #[.val (.ref a), .val (.int (8 : Int32))] [(.int c6), (.int (6 : Int32)), (.ref b54), (.ref b54), (.ref a53), (.ref a53)]))
      obtain ⟨T61, h61, X61, e61, W61, V61, st61⟩ := own_stC X60 hx hZ e60 V_b54 (j := (6 : Int32)) (by decide) (by decide) 6 rfl (Nat.le_of_ble_eq_true rfl) (g := (mkF m 358 #[.val (.ref a), .val (.int (8 : Int32))] [(.int c6), (.int (6 : Int32)), (.ref b54), (.ref b54), (.ref a53), (.ref a53)])) rfl rfl (hb hby dt_358)
      obtain ⟨lc61, X61, N61⟩ := own_gen X61 (Fr.snoc X61 N60 g_b54)
      have O61 := O60.wr W61 g_b54
      have K61 := K60.wr W61 (Or.inr sz_b54)
      have V_a := V_a.other W61 ne_a_b54
      have E_a53 := E_a53.wr W61
      have F_a53_coder := F_a53_coder.other W61 (Or.inl ne_a53_b54)
      have F_a53_value := F_a53_value.other W61 (Or.inl ne_a53_b54)
      have hk61 := Nat.le_trans hk60 (Nat.le_of_eq W61.size.symm)
      have V_b54 : Arv Z h61 b54 k54 .char (8 : Int32) [(.int (nar .char c0)), (.int (nar .char c1)), (.int (nar .char c2)), (.int (nar .char c3)), (.int (nar .char c4)), (.int (nar .char c5)), (.int (nar .char c6)), (.int (0 : Int32))] (.int (0 : Int32)) := V61
      refine GoV.st st61 ?_
      show GoV p e below s _ _ _ (T61.setTop (mkF m 359 #[.val (.ref a), .val (.int (8 : Int32))] [(.ref b54), (.ref a53), (.ref a53)]))
      refine GoV.st (fun _ kq_ => XS.dup X61.here hx rfl (hb hby dt_359) rfl rfl kq_) ?_
      show GoV p e below s _ _ _ (T61.setTop (mkF m 360 #[.val (.ref a), .val (.int (8 : Int32))] [(.ref b54), (.ref b54), (.ref a53), (.ref a53)]))
      refine GoV.st (fun _ kq_ => XS.bipush X61.here hx rfl (hb hby dt_360) kq_) ?_
      show GoV p e below s _ _ _ (T61.setTop (mkF m 362 #[.val (.ref a), .val (.int (8 : Int32))] [(.int (7 : Int32)), (.ref b54), (.ref b54), (.ref a53), (.ref a53)]))
      refine GoV.st (fun _ kq_ => XS.aloadN X61.here hx rfl (hb hby dt_362) rfl rfl kq_) ?_
      show GoV p e below s _ _ _ (T61.setTop (mkF m 363 #[.val (.ref a), .val (.int (8 : Int32))] [(.ref a), (.int (7 : Int32)), (.ref b54), (.ref b54), (.ref a53), (.ref a53)]))
      refine GoV.st (fun _ kq_ => XS.bipush X61.here hx rfl (hb hby dt_363) kq_) ?_
      show GoV p e below s _ _ _ (T61.setTop (mkF m 365 #[.val (.ref a), .val (.int (8 : Int32))] [(.int (7 : Int32)), (.ref a), (.int (7 : Int32)), (.ref b54), (.ref b54), (.ref a53), (.ref a53)]))
      refine GoV.st (fun _ kq_ => own_caload X61 hx hZ e61 V_a (by decide) (by decide) (v := (.int c7)) rfl (g := (mkF m 365 #[.val (.ref a), .val (.int (8 : Int32))] [(.int (7 : Int32)), (.ref a), (.int (7 : Int32)), (.ref b54), (.ref b54), (.ref a53), (.ref a53)])) rfl rfl (hb hby dt_365) _ kq_) ?_
      show GoV p e below s _ _ _ (T61.setTop (mkF m 366 #[.val (.ref a), .val (.int (8 : Int32))] [(.int c7), (.int (7 : Int32)), (.ref b54), (.ref b54), (.ref a53), (.ref a53)]))
      obtain ⟨T62, h62, X62, e62, W62, V62, st62⟩ := own_stC X61 hx hZ e61 V_b54 (j := (7 : Int32)) (by decide) (by decide) 7 rfl (Nat.le_of_ble_eq_true rfl) (g := (mkF m 366 #[.val (.ref a), .val (.int (8 : Int32))] [(.int c7), (.int (7 : Int32)), (.ref b54), (.ref b54), (.ref a53), (.ref a53)])) rfl rfl (hb hby dt_366)
      obtain ⟨lc62, X62, N62⟩ := own_gen X62 (Fr.snoc X62 N61 g_b54)
      have O62 := O61.wr W62 g_b54
      have K62 := K61.wr W62 (Or.inr sz_b54)
      have V_a := V_a.other W62 ne_a_b54
      have E_a53 := E_a53.wr W62
      have F_a53_coder := F_a53_coder.other W62 (Or.inl ne_a53_b54)
      have F_a53_value := F_a53_value.other W62 (Or.inl ne_a53_b54)
      have hk62 := Nat.le_trans hk61 (Nat.le_of_eq W62.size.symm)
      have V_b54 : Arv Z h62 b54 k54 .char (8 : Int32) [(.int (nar .char c0)), (.int (nar .char c1)), (.int (nar .char c2)), (.int (nar .char c3)), (.int (nar .char c4)), (.int (nar .char c5)), (.int (nar .char c6)), (.int (nar .char c7))] (.int (0 : Int32)) := V62
      refine GoV.st st62 ?_
      show GoV p e below s _ _ _ (T62.setTop (mkF m 367 #[.val (.ref a), .val (.int (8 : Int32))] [(.ref b54), (.ref a53), (.ref a53)]))
      have hp : ∀ z ∈ ([(nar .char c0), (nar .char c1), (nar .char c2), (nar .char c3), (nar .char c4), (nar .char c5), (nar .char c6), (nar .char c7)] : List Int32), ¬ z < 0 ∧ ¬ (255 : Int32) < z := by
        intro z hz
        simp only [List.mem_cons, List.not_mem_nil, or_false] at hz
        rcases hz with rfl | rfl | rfl | rfl | rfl | rfl | rfl | rfl
        · exact (show ¬ nar .char c0 < 0 ∧ ¬ (255 : Int32) < nar .char c0 by rw [own_nc hc0]; exact hc0)
        · exact (show ¬ nar .char c1 < 0 ∧ ¬ (255 : Int32) < nar .char c1 by rw [own_nc hc1]; exact hc1)
        · exact (show ¬ nar .char c2 < 0 ∧ ¬ (255 : Int32) < nar .char c2 by rw [own_nc hc2]; exact hc2)
        · exact (show ¬ nar .char c3 < 0 ∧ ¬ (255 : Int32) < nar .char c3 by rw [own_nc hc3]; exact hc3)
        · exact (show ¬ nar .char c4 < 0 ∧ ¬ (255 : Int32) < nar .char c4 by rw [own_nc hc4]; exact hc4)
        · exact (show ¬ nar .char c5 < 0 ∧ ¬ (255 : Int32) < nar .char c5 by rw [own_nc hc5]; exact hc5)
        · exact (show ¬ nar .char c6 < 0 ∧ ¬ (255 : Int32) < nar .char c6 by rw [own_nc hc6]; exact hc6)
        · exact (show ¬ nar .char c7 < 0 ∧ ¬ (255 : Int32) < nar .char c7 by rw [own_nc hc7]; exact hc7)
      obtain ⟨_, _, ⟨T63, L63, k63, n63⟩, -, X63, ⟨Lc63, hQ63, l63, y63, z63⟩, st63⟩ := X62.specialBack hx (y := (⟨"java/lang/String", "<init>", "([C)V"⟩ : MethodName)) rfl hown (mvT hZ (own_w hw 9 rfl)) (mvT hZ (own_w hw 10 rfl)) (mvT hZ (own_w hw 11 rfl)) (by decide) (StrChars.Road.backV (W := 1) hZ hws (kI := 4) (own_w hw 7 rfl) (cs := ([(nar .char c0), (nar .char c1), (nar .char c2), (nar .char c3), (nar .char c4), (nar .char c5), (nar .char c6), (nar .char c7)] : List Int32)) (bs := ([(nar .char c0), (nar .char c1), (nar .char c2), (nar .char c3), (nar .char c4), (nar .char c5), (nar .char c6), (nar .char c7)] : List Int32).map (fun c => c.toInt8.toInt32)) (n := 8) g_a53 (own_old O62) E_a53 F_a53_value F_a53_coder V_b54 (SC.ext O62.2) hcs rfl rfl (by decide) (by decide) hp rfl (by decide) (by decide)) (g := (mkF m 367 #[.val (.ref a), .val (.int (8 : Int32))] [(.ref b54), (.ref a53), (.ref a53)])) rfl (by rw [hml]; rfl) (Steps.refl _) (a := a53) (argsL := [(.ref b54)]) (rest := [(.ref a53)]) (lenOf pdt_0 rfl) rfl (by show 2 * 0 + _ ≤ _; exact Nat.le_of_eq rfl) (hb hby dt_367) (fun _ _ => ⟨rfl, e62, (by decide : 2 + 1 ≤ _), (by decide : 12 + 8 ≤ _)⟩)
      dsimp only [Pt.U, Pt.locs, Pt.cells, Pt.slots] at X63 l63 y63 z63 st63 hQ63
      subst y63 z63
      obtain ⟨rfl, Nc63, Kc63, NE, NC, t63, kt63, gt63, szt63, -, NV, NB⟩ := hQ63
      have N63 : Fr n0 L63 := by rw [l63]; exact Fr.app N62 Nc63
      have V_a := V_a.keep Kc63 (ninS ne_a_a53 nin0)
      have V_b54 := V_b54.keep Kc63 (ninS (Ne.symm ne_a53_b54) nin0)
      have hk63 := Nat.le_trans hk62 Kc63.1
      have O63 := O62.keep Kc63 (allS g_a53 all0)
      have K63 := K62.trans Kc63 (allS (Or.inr sz_a53) all0)
      have E_a53 : Exa Z T63.heap a53 "java/lang/String" := NE
      have F_a53_coder : Fld Z T63.heap a53 "java/lang/String" "coder" "B" (.int (0 : Int32)) := NC
      have F_a53_value : Fld Z T63.heap a53 "java/lang/String" "value" "[B" (.ref t63) := NV
      have V_t63 : Arv Z T63.heap t63 kt63 .byte (8 : Int32) ((([(nar .char c0), (nar .char c1), (nar .char c2), (nar .char c3), (nar .char c4), (nar .char c5), (nar .char c6), (nar .char c7)] : List Int32).map (fun c => c.toInt8.toInt32)).map Value.int) (.int (0 : Int32)) := NB
      refine GoV.tr st63 ?_
      show GoV p e below s _ _ _ (T63.setTop (mkF m 370 #[.val (.ref a), .val (.int (8 : Int32))] [(.ref a53)]))
      exact GoV.ret (vm1 := s.vm) X63 hlk hS0 (by exact hk63) (some (.ref a53)) (fun h => by rw [Bd.returns] at h; cases h) (by exact ⟨a53, t63, _, _, _, ([(nar .char c0), (nar .char c1), (nar .char c2), (nar .char c3), (nar .char c4), (nar .char c5), (nar .char c6), (nar .char c7)] : List Int32), rfl, N63, K63, g_a53, sz_a53, E_a53, F_a53_coder, F_a53_value, V_t63, StrChars.Road.codOf (n := 8) rfl (fun c hc => (hp c hc).2), own_up hp, Nat.le_of_ble_eq_true rfl, own_ibM (own_ibW (vm0 := s.vm) I0 X63) (by decide)⟩) (by decide) (by decide) (fun fs hr => retOut X63 hx Bd.returns rfl (Or.inr (Or.inr (Or.inr (Or.inr ⟨rfl, rfl, rfl⟩)))) (hb hby dt_370) hr)
    · show GoV p e below s _ _ _ (s₁.setTop (mkF m 0 #[.val (.ref a), .val (.int (9 : Int32))] []))
      refine GoV.st (fun _ kq_ => XS.iloadN X0.here hx rfl (hb hby dt_0) rfl kq_) ?_
      show GoV p e below s _ _ _ (s₁.setTop (mkF m 1 #[.val (.ref a), .val (.int (9 : Int32))] [(.int (9 : Int32))]))
      refine GoV.st (fun _ kq_ => XS.ifYes X0.here hx rfl (pc0 := 1) (pc' := 15) rfl (hb hby dt_1) rfl (by decide) (by decide) (by decide) kq_) ?_
      show GoV p e below s _ _ _ (s₁.setTop (mkF m 15 #[.val (.ref a), .val (.int (9 : Int32))] []))
      refine GoV.st (fun _ kq_ => XS.iloadN X0.here hx rfl (hb hby dt_15) rfl kq_) ?_
      show GoV p e below s _ _ _ (s₁.setTop (mkF m 16 #[.val (.ref a), .val (.int (9 : Int32))] [(.int (9 : Int32))]))
      refine GoV.st (fun _ kq_ => XS.iconst X0.here hx rfl (hb hby dt_16) kq_) ?_
      show GoV p e below s _ _ _ (s₁.setTop (mkF m 17 #[.val (.ref a), .val (.int (9 : Int32))] [(.int (1 : Int32)), (.int (9 : Int32))]))
      refine GoV.st (fun _ kq_ => XS.icmpYes X0.here hx rfl (pc0 := 17) (pc' := 37) rfl (hb hby dt_17) rfl (by decide) (by decide) (by decide) kq_) ?_
      show GoV p e below s _ _ _ (s₁.setTop (mkF m 37 #[.val (.ref a), .val (.int (9 : Int32))] []))
      refine GoV.st (fun _ kq_ => XS.iloadN X0.here hx rfl (hb hby dt_37) rfl kq_) ?_
      show GoV p e below s _ _ _ (s₁.setTop (mkF m 38 #[.val (.ref a), .val (.int (9 : Int32))] [(.int (9 : Int32))]))
      refine GoV.st (fun _ kq_ => XS.iconst X0.here hx rfl (hb hby dt_38) kq_) ?_
      show GoV p e below s _ _ _ (s₁.setTop (mkF m 39 #[.val (.ref a), .val (.int (9 : Int32))] [(.int (2 : Int32)), (.int (9 : Int32))]))
      refine GoV.st (fun _ kq_ => XS.icmpYes X0.here hx rfl (pc0 := 39) (pc' := 65) rfl (hb hby dt_39) rfl (by decide) (by decide) (by decide) kq_) ?_
      show GoV p e below s _ _ _ (s₁.setTop (mkF m 65 #[.val (.ref a), .val (.int (9 : Int32))] []))
      refine GoV.st (fun _ kq_ => XS.iloadN X0.here hx rfl (hb hby dt_65) rfl kq_) ?_
      show GoV p e below s _ _ _ (s₁.setTop (mkF m 66 #[.val (.ref a), .val (.int (9 : Int32))] [(.int (9 : Int32))]))
      refine GoV.st (fun _ kq_ => XS.iconst X0.here hx rfl (hb hby dt_66) kq_) ?_
      show GoV p e below s _ _ _ (s₁.setTop (mkF m 67 #[.val (.ref a), .val (.int (9 : Int32))] [(.int (3 : Int32)), (.int (9 : Int32))]))
      refine GoV.st (fun _ kq_ => XS.icmpYes X0.here hx rfl (pc0 := 67) (pc' := 99) rfl (hb hby dt_67) rfl (by decide) (by decide) (by decide) kq_) ?_
      show GoV p e below s _ _ _ (s₁.setTop (mkF m 99 #[.val (.ref a), .val (.int (9 : Int32))] []))
      refine GoV.st (fun _ kq_ => XS.iloadN X0.here hx rfl (hb hby dt_99) rfl kq_) ?_
      show GoV p e below s _ _ _ (s₁.setTop (mkF m 100 #[.val (.ref a), .val (.int (9 : Int32))] [(.int (9 : Int32))]))
      refine GoV.st (fun _ kq_ => XS.iconst X0.here hx rfl (hb hby dt_100) kq_) ?_
      show GoV p e below s _ _ _ (s₁.setTop (mkF m 101 #[.val (.ref a), .val (.int (9 : Int32))] [(.int (4 : Int32)), (.int (9 : Int32))]))
      refine GoV.st (fun _ kq_ => XS.icmpYes X0.here hx rfl (pc0 := 101) (pc' := 139) rfl (hb hby dt_101) rfl (by decide) (by decide) (by decide) kq_) ?_
      show GoV p e below s _ _ _ (s₁.setTop (mkF m 139 #[.val (.ref a), .val (.int (9 : Int32))] []))
      refine GoV.st (fun _ kq_ => XS.iloadN X0.here hx rfl (hb hby dt_139) rfl kq_) ?_
      show GoV p e below s _ _ _ (s₁.setTop (mkF m 140 #[.val (.ref a), .val (.int (9 : Int32))] [(.int (9 : Int32))]))
      refine GoV.st (fun _ kq_ => XS.iconst X0.here hx rfl (hb hby dt_140) kq_) ?_
      show GoV p e below s _ _ _ (s₁.setTop (mkF m 141 #[.val (.ref a), .val (.int (9 : Int32))] [(.int (5 : Int32)), (.int (9 : Int32))]))
      refine GoV.st (fun _ kq_ => XS.icmpYes X0.here hx rfl (pc0 := 141) (pc' := 185) rfl (hb hby dt_141) rfl (by decide) (by decide) (by decide) kq_) ?_
      show GoV p e below s _ _ _ (s₁.setTop (mkF m 185 #[.val (.ref a), .val (.int (9 : Int32))] []))
      refine GoV.st (fun _ kq_ => XS.iloadN X0.here hx rfl (hb hby dt_185) rfl kq_) ?_
      show GoV p e below s _ _ _ (s₁.setTop (mkF m 186 #[.val (.ref a), .val (.int (9 : Int32))] [(.int (9 : Int32))]))
      refine GoV.st (fun _ kq_ => XS.bipush X0.here hx rfl (hb hby dt_186) kq_) ?_
      show GoV p e below s _ _ _ (s₁.setTop (mkF m 188 #[.val (.ref a), .val (.int (9 : Int32))] [(.int (6 : Int32)), (.int (9 : Int32))]))
      refine GoV.st (fun _ kq_ => XS.icmpYes X0.here hx rfl (pc0 := 188) (pc' := 239) rfl (hb hby dt_188) rfl (by decide) (by decide) (by decide) kq_) ?_
      show GoV p e below s _ _ _ (s₁.setTop (mkF m 239 #[.val (.ref a), .val (.int (9 : Int32))] []))
      refine GoV.st (fun _ kq_ => XS.iloadN X0.here hx rfl (hb hby dt_239) rfl kq_) ?_
      show GoV p e below s _ _ _ (s₁.setTop (mkF m 240 #[.val (.ref a), .val (.int (9 : Int32))] [(.int (9 : Int32))]))
      refine GoV.st (fun _ kq_ => XS.bipush X0.here hx rfl (hb hby dt_240) kq_) ?_
      show GoV p e below s _ _ _ (s₁.setTop (mkF m 242 #[.val (.ref a), .val (.int (9 : Int32))] [(.int (7 : Int32)), (.int (9 : Int32))]))
      refine GoV.st (fun _ kq_ => XS.icmpYes X0.here hx rfl (pc0 := 242) (pc' := 301) rfl (hb hby dt_242) rfl (by decide) (by decide) (by decide) kq_) ?_
      show GoV p e below s _ _ _ (s₁.setTop (mkF m 301 #[.val (.ref a), .val (.int (9 : Int32))] []))
      refine GoV.st (fun _ kq_ => XS.iloadN X0.here hx rfl (hb hby dt_301) rfl kq_) ?_
      show GoV p e below s _ _ _ (s₁.setTop (mkF m 302 #[.val (.ref a), .val (.int (9 : Int32))] [(.int (9 : Int32))]))
      refine GoV.st (fun _ kq_ => XS.bipush X0.here hx rfl (hb hby dt_302) kq_) ?_
      show GoV p e below s _ _ _ (s₁.setTop (mkF m 304 #[.val (.ref a), .val (.int (9 : Int32))] [(.int (8 : Int32)), (.int (9 : Int32))]))
      refine GoV.st (fun _ kq_ => XS.icmpYes X0.here hx rfl (pc0 := 304) (pc' := 371) rfl (hb hby dt_304) rfl (by decide) (by decide) (by decide) kq_) ?_
      show GoV p e below s _ _ _ (s₁.setTop (mkF m 371 #[.val (.ref a), .val (.int (9 : Int32))] []))
      obtain ⟨T64, h64, X64, e64, E64, A64, D64, -, st64⟩ := newO X0 hx hZ hown (own_w hw 6 rfl) (own_w hw 7 rfl) (own_w hw 8 rfl) e0 (g := (mkF m 371 #[.val (.ref a), .val (.int (9 : Int32))] [])) rfl (hb hby dt_371) (by decide) (by decide)
      obtain ⟨a64, g64⟩ : ∃ z, z = h0.size := ⟨_, rfl⟩
      rw [← g64] at A64 D64 st64
      have g_a64 : n0 ≤ a64 := Nat.le_trans (own_old O0) (Nat.le_of_eq g64.symm)
      have sz_a64 : h0.size ≤ a64 := Nat.le_trans K0.1 (Nat.le_of_eq g64.symm)
      have ne_a_a64 : a ≠ a64 := by rw [g64]; exact Nat.ne_of_lt V_a.lt
      have V_a := V_a.ext E64
      have hk64 := Nat.le_trans hk0 E64.1
      have O64 := O0.ext E64
      have K64 := K0.ext E64
      have E_a64 : Exa Z h64 a64 "java/lang/String" := A64
      have F_a64_coder : Fld Z h64 a64 "java/lang/String" "coder" "B" (.int (0 : Int32)) := D64 (Or.inr (own_w hw 32 rfl)) (ty := .byte) (by decide)
      have F_a64_value : Fld Z h64 a64 "java/lang/String" "value" "[B" .null := D64 (Or.inr (own_w hw 34 rfl)) (ty := (.array .byte)) (by decide)
      refine GoV.st st64 ?_
      show GoV p e below s _ _ _ (T64.setTop (mkF m 374 #[.val (.ref a), .val (.int (9 : Int32))] [(.ref a64)]))
      refine GoV.st (fun _ kq_ => XS.dup X64.here hx rfl (hb hby dt_374) rfl rfl kq_) ?_
      show GoV p e below s _ _ _ (T64.setTop (mkF m 375 #[.val (.ref a), .val (.int (9 : Int32))] [(.ref a64), (.ref a64)]))
      refine GoV.st (fun _ kq_ => XS.bipush X64.here hx rfl (hb hby dt_375) kq_) ?_
      show GoV p e below s _ _ _ (T64.setTop (mkF m 377 #[.val (.ref a), .val (.int (9 : Int32))] [(.int (9 : Int32)), (.ref a64), (.ref a64)]))
      obtain ⟨T65, h65, k65, X65, e65, E65, A65, st65⟩ := newP X64 hx hZ (own_w hw 0 rfl) e64 (g := (mkF m 377 #[.val (.ref a), .val (.int (9 : Int32))] [(.int (9 : Int32)), (.ref a64), (.ref a64)])) rfl (hb hby dt_377) rfl (by decide) (cap := 9) (by decide) (by decide) (by decide) (by decide)
      obtain ⟨b65, g65⟩ : ∃ z, z = h64.size := ⟨_, rfl⟩
      rw [← g65] at A65 st65
      have g_b65 : n0 ≤ b65 := Nat.le_trans (own_old O64) (Nat.le_of_eq g65.symm)
      have sz_b65 : h0.size ≤ b65 := Nat.le_trans K64.1 (Nat.le_of_eq g65.symm)
      have ne_a_b65 : a ≠ b65 := by rw [g65]; exact Nat.ne_of_lt V_a.lt
      have ne_a64_b65 : a64 ≠ b65 := by rw [g65]; exact Nat.ne_of_lt E_a64.lt
      have V_a := V_a.ext E65
      have E_a64 := E_a64.ext E65
      have F_a64_coder := F_a64_coder.ext E65
      have F_a64_value := F_a64_value.ext E65
      have hk65 := Nat.le_trans hk64 E65.1
      have O65 := O64.ext E65
      have K65 := K64.ext E65
      have V_b65 : Arv Z h65 b65 k65 .char (9 : Int32) [(.int (0 : Int32)), (.int (0 : Int32)), (.int (0 : Int32)), (.int (0 : Int32)), (.int (0 : Int32)), (.int (0 : Int32)), (.int (0 : Int32)), (.int (0 : Int32)), (.int (0 : Int32))] (.int (0 : Int32)) := (Arv.new A65 (by decide)).pad (pad_rep [] (.int (0 : Int32)) 9)
      refine GoV.st st65 ?_
      show GoV p e below s _ _ _ (T65.setTop (mkF m 379 #[.val (.ref a), .val (.int (9 : Int32))] [(.ref b65), (.ref a64), (.ref a64)]))
      refine GoV.st (fun _ kq_ => XS.dup X65.here hx rfl (hb hby dt_379) rfl rfl kq_) ?_
      show GoV p e below s _ _ _ (T65.setTop (mkF m 380 #[.val (.ref a), .val (.int (9 : Int32))] [(.ref b65), (.ref b65), (.ref a64), (.ref a64)]))
      refine GoV.st (fun _ kq_ => XS.iconst X65.here hx rfl (hb hby dt_380) kq_) ?_
      show GoV p e below s _ _ _ (T65.setTop (mkF m 381 #[.val (.ref a), .val (.int (9 : Int32))] [(.int (0 : Int32)), (.ref b65), (.ref b65), (.ref a64), (.ref a64)]))
      refine GoV.st (fun _ kq_ => XS.aloadN X65.here hx rfl (hb hby dt_381) rfl rfl kq_) ?_
      show GoV p e below s _ _ _ (T65.setTop (mkF m 382 #[.val (.ref a), .val (.int (9 : Int32))] [(.ref a), (.int (0 : Int32)), (.ref b65), (.ref b65), (.ref a64), (.ref a64)]))
      refine GoV.st (fun _ kq_ => XS.iconst X65.here hx rfl (hb hby dt_382) kq_) ?_
      show GoV p e below s _ _ _ (T65.setTop (mkF m 383 #[.val (.ref a), .val (.int (9 : Int32))] [(.int (0 : Int32)), (.ref a), (.int (0 : Int32)), (.ref b65), (.ref b65), (.ref a64), (.ref a64)]))
      refine GoV.st (fun _ kq_ => own_caload X65 hx hZ e65 V_a (by decide) (by decide) (v := (.int c0)) rfl (g := (mkF m 383 #[.val (.ref a), .val (.int (9 : Int32))] [(.int (0 : Int32)), (.ref a), (.int (0 : Int32)), (.ref b65), (.ref b65), (.ref a64), (.ref a64)])) rfl rfl (hb hby dt_383) _ kq_) ?_
      show GoV p e below s _ _ _ (T65.setTop (mkF m 384 #[.val (.ref a), .val (.int (9 : Int32))] [(.int c0), (.int (0 : Int32)), (.ref b65), (.ref b65), (.ref a64), (.ref a64)]))
      obtain ⟨T66, h66, X66, e66, W66, V66, st66⟩ := own_stC X65 hx hZ e65 V_b65 (j := (0 : Int32)) (by decide) (by decide) 0 rfl (Nat.le_of_ble_eq_true rfl) (g := (mkF m 384 #[.val (.ref a), .val (.int (9 : Int32))] [(.int c0), (.int (0 : Int32)), (.ref b65), (.ref b65), (.ref a64), (.ref a64)])) rfl rfl (hb hby dt_384)
      obtain ⟨lc66, X66, N66⟩ := own_gen X66 (Fr.snoc X66 N0 g_b65)
      have O66 := O65.wr W66 g_b65
      have K66 := K65.wr W66 (Or.inr sz_b65)
      have V_a := V_a.other W66 ne_a_b65
      have E_a64 := E_a64.wr W66
      have F_a64_coder := F_a64_coder.other W66 (Or.inl ne_a64_b65)
      have F_a64_value := F_a64_value.other W66 (Or.inl ne_a64_b65)
      have hk66 := Nat.le_trans hk65 (Nat.le_of_eq W66.size.symm)
      have V_b65 : Arv Z h66 b65 k65 .char (9 : Int32) [(.int (nar .char c0)), (.int (0 : Int32)), (.int (0 : Int32)), (.int (0 : Int32)), (.int (0 : Int32)), (.int (0 : Int32)), (.int (0 : Int32)), (.int (0 : Int32)), (.int (0 : Int32))] (.int (0 : Int32)) := V66
      refine GoV.st st66 ?_
      show GoV p e below s _ _ _ (T66.setTop (mkF m 385 #[.val (.ref a), .val (.int (9 : Int32))] [(.ref b65), (.ref a64), (.ref a64)]))
      refine GoV.st (fun _ kq_ => XS.dup X66.here hx rfl (hb hby dt_385) rfl rfl kq_) ?_
      show GoV p e below s _ _ _ (T66.setTop (mkF m 386 #[.val (.ref a), .val (.int (9 : Int32))] [(.ref b65), (.ref b65), (.ref a64), (.ref a64)]))
      refine GoV.st (fun _ kq_ => XS.iconst X66.here hx rfl (hb hby dt_386) kq_) ?_
      show GoV p e below s _ _ _ (T66.setTop (mkF m 387 #[.val (.ref a), .val (.int (9 : Int32))] [(.int (1 : Int32)), (.ref b65), (.ref b65), (.ref a64), (.ref a64)]))
      refine GoV.st (fun _ kq_ => XS.aloadN X66.here hx rfl (hb hby dt_387) rfl rfl kq_) ?_
      show GoV p e below s _ _ _ (T66.setTop (mkF m 388 #[.val (.ref a), .val (.int (9 : Int32))] [(.ref a), (.int (1 : Int32)), (.ref b65), (.ref b65), (.ref a64), (.ref a64)]))
      refine GoV.st (fun _ kq_ => XS.iconst X66.here hx rfl (hb hby dt_388) kq_) ?_
      show GoV p e below s _ _ _ (T66.setTop (mkF m 389 #[.val (.ref a), .val (.int (9 : Int32))] [(.int (1 : Int32)), (.ref a), (.int (1 : Int32)), (.ref b65), (.ref b65), (.ref a64), (.ref a64)]))
      refine GoV.st (fun _ kq_ => own_caload X66 hx hZ e66 V_a (by decide) (by decide) (v := (.int c1)) rfl (g := (mkF m 389 #[.val (.ref a), .val (.int (9 : Int32))] [(.int (1 : Int32)), (.ref a), (.int (1 : Int32)), (.ref b65), (.ref b65), (.ref a64), (.ref a64)])) rfl rfl (hb hby dt_389) _ kq_) ?_
      show GoV p e below s _ _ _ (T66.setTop (mkF m 390 #[.val (.ref a), .val (.int (9 : Int32))] [(.int c1), (.int (1 : Int32)), (.ref b65), (.ref b65), (.ref a64), (.ref a64)]))
      obtain ⟨T67, h67, X67, e67, W67, V67, st67⟩ := own_stC X66 hx hZ e66 V_b65 (j := (1 : Int32)) (by decide) (by decide) 1 rfl (Nat.le_of_ble_eq_true rfl) (g := (mkF m 390 #[.val (.ref a), .val (.int (9 : Int32))] [(.int c1), (.int (1 : Int32)), (.ref b65), (.ref b65), (.ref a64), (.ref a64)])) rfl rfl (hb hby dt_390)
      obtain ⟨lc67, X67, N67⟩ := own_gen X67 (Fr.snoc X67 N66 g_b65)
      have O67 := O66.wr W67 g_b65
      have K67 := K66.wr W67 (Or.inr sz_b65)
      have V_a := V_a.other W67 ne_a_b65
      have E_a64 := E_a64.wr W67
      have F_a64_coder := F_a64_coder.other W67 (Or.inl ne_a64_b65)
      have F_a64_value := F_a64_value.other W67 (Or.inl ne_a64_b65)
      have hk67 := Nat.le_trans hk66 (Nat.le_of_eq W67.size.symm)
      have V_b65 : Arv Z h67 b65 k65 .char (9 : Int32) [(.int (nar .char c0)), (.int (nar .char c1)), (.int (0 : Int32)), (.int (0 : Int32)), (.int (0 : Int32)), (.int (0 : Int32)), (.int (0 : Int32)), (.int (0 : Int32)), (.int (0 : Int32))] (.int (0 : Int32)) := V67
      refine GoV.st st67 ?_
      show GoV p e below s _ _ _ (T67.setTop (mkF m 391 #[.val (.ref a), .val (.int (9 : Int32))] [(.ref b65), (.ref a64), (.ref a64)]))
      refine GoV.st (fun _ kq_ => XS.dup X67.here hx rfl (hb hby dt_391) rfl rfl kq_) ?_
      show GoV p e below s _ _ _ (T67.setTop (mkF m 392 #[.val (.ref a), .val (.int (9 : Int32))] [(.ref b65), (.ref b65), (.ref a64), (.ref a64)]))
      refine GoV.st (fun _ kq_ => XS.iconst X67.here hx rfl (hb hby dt_392) kq_) ?_
      show GoV p e below s _ _ _ (T67.setTop (mkF m 393 #[.val (.ref a), .val (.int (9 : Int32))] [(.int (2 : Int32)), (.ref b65), (.ref b65), (.ref a64), (.ref a64)]))
      refine GoV.st (fun _ kq_ => XS.aloadN X67.here hx rfl (hb hby dt_393) rfl rfl kq_) ?_
      show GoV p e below s _ _ _ (T67.setTop (mkF m 394 #[.val (.ref a), .val (.int (9 : Int32))] [(.ref a), (.int (2 : Int32)), (.ref b65), (.ref b65), (.ref a64), (.ref a64)]))
      refine GoV.st (fun _ kq_ => XS.iconst X67.here hx rfl (hb hby dt_394) kq_) ?_
      show GoV p e below s _ _ _ (T67.setTop (mkF m 395 #[.val (.ref a), .val (.int (9 : Int32))] [(.int (2 : Int32)), (.ref a), (.int (2 : Int32)), (.ref b65), (.ref b65), (.ref a64), (.ref a64)]))
      refine GoV.st (fun _ kq_ => own_caload X67 hx hZ e67 V_a (by decide) (by decide) (v := (.int c2)) rfl (g := (mkF m 395 #[.val (.ref a), .val (.int (9 : Int32))] [(.int (2 : Int32)), (.ref a), (.int (2 : Int32)), (.ref b65), (.ref b65), (.ref a64), (.ref a64)])) rfl rfl (hb hby dt_395) _ kq_) ?_
      show GoV p e below s _ _ _ (T67.setTop (mkF m 396 #[.val (.ref a), .val (.int (9 : Int32))] [(.int c2), (.int (2 : Int32)), (.ref b65), (.ref b65), (.ref a64), (.ref a64)]))
      obtain ⟨T68, h68, X68, e68, W68, V68, st68⟩ := own_stC X67 hx hZ e67 V_b65 (j := (2 : Int32)) (by decide) (by decide) 2 rfl (Nat.le_of_ble_eq_true rfl) (g := (mkF m 396 #[.val (.ref a), .val (.int (9 : Int32))] [(.int c2), (.int (2 : Int32)), (.ref b65), (.ref b65), (.ref a64), (.ref a64)])) rfl rfl (hb hby dt_396)
      obtain ⟨lc68, X68, N68⟩ := own_gen X68 (Fr.snoc X68 N67 g_b65)
      have O68 := O67.wr W68 g_b65
      have K68 := K67.wr W68 (Or.inr sz_b65)
      have V_a := V_a.other W68 ne_a_b65
      have E_a64 := E_a64.wr W68
      have F_a64_coder := F_a64_coder.other W68 (Or.inl ne_a64_b65)
      have F_a64_value := F_a64_value.other W68 (Or.inl ne_a64_b65)
      have hk68 := Nat.le_trans hk67 (Nat.le_of_eq W68.size.symm)
      have V_b65 : Arv Z h68 b65 k65 .char (9 : Int32) [(.int (nar .char c0)), (.int (nar .char c1)), (.int (nar .char c2)), (.int (0 : Int32)), (.int (0 : Int32)), (.int (0 : Int32)), (.int (0 : Int32)), (.int (0 : Int32)), (.int (0 : Int32))] (.int (0 : Int32)) := V68
      refine GoV.st st68 ?_
      show GoV p e below s _ _ _ (T68.setTop (mkF m 397 #[.val (.ref a), .val (.int (9 : Int32))] [(.ref b65), (.ref a64), (.ref a64)]))
      refine GoV.st (fun _ kq_ => XS.dup X68.here hx rfl (hb hby dt_397) rfl rfl kq_) ?_
      show GoV p e below s _ _ _ (T68.setTop (mkF m 398 #[.val (.ref a), .val (.int (9 : Int32))] [(.ref b65), (.ref b65), (.ref a64), (.ref a64)]))
      refine GoV.st (fun _ kq_ => XS.iconst X68.here hx rfl (hb hby dt_398) kq_) ?_
      show GoV p e below s _ _ _ (T68.setTop (mkF m 399 #[.val (.ref a), .val (.int (9 : Int32))] [(.int (3 : Int32)), (.ref b65), (.ref b65), (.ref a64), (.ref a64)]))
      refine GoV.st (fun _ kq_ => XS.aloadN X68.here hx rfl (hb hby dt_399) rfl rfl kq_) ?_
      show GoV p e below s _ _ _ (T68.setTop (mkF m 400 #[.val (.ref a), .val (.int (9 : Int32))] [(.ref a), (.int (3 : Int32)), (.ref b65), (.ref b65), (.ref a64), (.ref a64)]))
      refine GoV.st (fun _ kq_ => XS.iconst X68.here hx rfl (hb hby dt_400) kq_) ?_
      show GoV p e below s _ _ _ (T68.setTop (mkF m 401 #[.val (.ref a), .val (.int (9 : Int32))] [(.int (3 : Int32)), (.ref a), (.int (3 : Int32)), (.ref b65), (.ref b65), (.ref a64), (.ref a64)]))
      refine GoV.st (fun _ kq_ => own_caload X68 hx hZ e68 V_a (by decide) (by decide) (v := (.int c3)) rfl (g := (mkF m 401 #[.val (.ref a), .val (.int (9 : Int32))] [(.int (3 : Int32)), (.ref a), (.int (3 : Int32)), (.ref b65), (.ref b65), (.ref a64), (.ref a64)])) rfl rfl (hb hby dt_401) _ kq_) ?_
      show GoV p e below s _ _ _ (T68.setTop (mkF m 402 #[.val (.ref a), .val (.int (9 : Int32))] [(.int c3), (.int (3 : Int32)), (.ref b65), (.ref b65), (.ref a64), (.ref a64)]))
      obtain ⟨T69, h69, X69, e69, W69, V69, st69⟩ := own_stC X68 hx hZ e68 V_b65 (j := (3 : Int32)) (by decide) (by decide) 3 rfl (Nat.le_of_ble_eq_true rfl) (g := (mkF m 402 #[.val (.ref a), .val (.int (9 : Int32))] [(.int c3), (.int (3 : Int32)), (.ref b65), (.ref b65), (.ref a64), (.ref a64)])) rfl rfl (hb hby dt_402)
      obtain ⟨lc69, X69, N69⟩ := own_gen X69 (Fr.snoc X69 N68 g_b65)
      have O69 := O68.wr W69 g_b65
      have K69 := K68.wr W69 (Or.inr sz_b65)
      have V_a := V_a.other W69 ne_a_b65
      have E_a64 := E_a64.wr W69
      have F_a64_coder := F_a64_coder.other W69 (Or.inl ne_a64_b65)
      have F_a64_value := F_a64_value.other W69 (Or.inl ne_a64_b65)
      have hk69 := Nat.le_trans hk68 (Nat.le_of_eq W69.size.symm)
      have V_b65 : Arv Z h69 b65 k65 .char (9 : Int32) [(.int (nar .char c0)), (.int (nar .char c1)), (.int (nar .char c2)), (.int (nar .char c3)), (.int (0 : Int32)), (.int (0 : Int32)), (.int (0 : Int32)), (.int (0 : Int32)), (.int (0 : Int32))] (.int (0 : Int32)) := V69
      refine GoV.st st69 ?_
      show GoV p e below s _ _ _ (T69.setTop (mkF m 403 #[.val (.ref a), .val (.int (9 : Int32))] [(.ref b65), (.ref a64), (.ref a64)]))
      refine GoV.st (fun _ kq_ => XS.dup X69.here hx rfl (hb hby dt_403) rfl rfl kq_) ?_
      show GoV p e below s _ _ _ (T69.setTop (mkF m 404 #[.val (.ref a), .val (.int (9 : Int32))] [(.ref b65), (.ref b65), (.ref a64), (.ref a64)]))
      refine GoV.st (fun _ kq_ => XS.iconst X69.here hx rfl (hb hby dt_404) kq_) ?_
      show GoV p e below s _ _ _ (T69.setTop (mkF m 405 #[.val (.ref a), .val (.int (9 : Int32))] [(.int (4 : Int32)), (.ref b65), (.ref b65), (.ref a64), (.ref a64)]))
      refine GoV.st (fun _ kq_ => XS.aloadN X69.here hx rfl (hb hby dt_405) rfl rfl kq_) ?_
      show GoV p e below s _ _ _ (T69.setTop (mkF m 406 #[.val (.ref a), .val (.int (9 : Int32))] [(.ref a), (.int (4 : Int32)), (.ref b65), (.ref b65), (.ref a64), (.ref a64)]))
      refine GoV.st (fun _ kq_ => XS.iconst X69.here hx rfl (hb hby dt_406) kq_) ?_
      show GoV p e below s _ _ _ (T69.setTop (mkF m 407 #[.val (.ref a), .val (.int (9 : Int32))] [(.int (4 : Int32)), (.ref a), (.int (4 : Int32)), (.ref b65), (.ref b65), (.ref a64), (.ref a64)]))
      refine GoV.st (fun _ kq_ => own_caload X69 hx hZ e69 V_a (by decide) (by decide) (v := (.int c4)) rfl (g := (mkF m 407 #[.val (.ref a), .val (.int (9 : Int32))] [(.int (4 : Int32)), (.ref a), (.int (4 : Int32)), (.ref b65), (.ref b65), (.ref a64), (.ref a64)])) rfl rfl (hb hby dt_407) _ kq_) ?_
      show GoV p e below s _ _ _ (T69.setTop (mkF m 408 #[.val (.ref a), .val (.int (9 : Int32))] [(.int c4), (.int (4 : Int32)), (.ref b65), (.ref b65), (.ref a64), (.ref a64)]))
      obtain ⟨T70, h70, X70, e70, W70, V70, st70⟩ := own_stC X69 hx hZ e69 V_b65 (j := (4 : Int32)) (by decide) (by decide) 4 rfl (Nat.le_of_ble_eq_true rfl) (g := (mkF m 408 #[.val (.ref a), .val (.int (9 : Int32))] [(.int c4), (.int (4 : Int32)), (.ref b65), (.ref b65), (.ref a64), (.ref a64)])) rfl rfl (hb hby dt_408)
      obtain ⟨lc70, X70, N70⟩ := own_gen X70 (Fr.snoc X70 N69 g_b65)
      have O70 := O69.wr W70 g_b65
      have K70 := K69.wr W70 (Or.inr sz_b65)
      have V_a := V_a.other W70 ne_a_b65
      have E_a64 := E_a64.wr W70
      have F_a64_coder := F_a64_coder.other W70 (Or.inl ne_a64_b65)
      have F_a64_value := F_a64_value.other W70 (Or.inl ne_a64_b65)
      have hk70 := Nat.le_trans hk69 (Nat.le_of_eq W70.size.symm)
      have V_b65 : Arv Z h70 b65 k65 .char (9 : Int32) [(.int (nar .char c0)), (.int (nar .char c1)), (.int (nar .char c2)), (.int (nar .char c3)), (.int (nar .char c4)), (.int (0 : Int32)), (.int (0 : Int32)), (.int (0 : Int32)), (.int (0 : Int32))] (.int (0 : Int32)) := V70
      refine GoV.st st70 ?_
      show GoV p e below s _ _ _ (T70.setTop (mkF m 409 #[.val (.ref a), .val (.int (9 : Int32))] [(.ref b65), (.ref a64), (.ref a64)]))
      refine GoV.st (fun _ kq_ => XS.dup X70.here hx rfl (hb hby dt_409) rfl rfl kq_) ?_
      show GoV p e below s _ _ _ (T70.setTop (mkF m 410 #[.val (.ref a), .val (.int (9 : Int32))] [(.ref b65), (.ref b65), (.ref a64), (.ref a64)]))
      refine GoV.st (fun _ kq_ => XS.iconst X70.here hx rfl (hb hby dt_410) kq_) ?_
      show GoV p e below s _ _ _ (T70.setTop (mkF m 411 #[.val (.ref a), .val (.int (9 : Int32))] [(.int (5 : Int32)), (.ref b65), (.ref b65), (.ref a64), (.ref a64)]))
      refine GoV.st (fun _ kq_ => XS.aloadN X70.here hx rfl (hb hby dt_411) rfl rfl kq_) ?_
      show GoV p e below s _ _ _ (T70.setTop (mkF m 412 #[.val (.ref a), .val (.int (9 : Int32))] [(.ref a), (.int (5 : Int32)), (.ref b65), (.ref b65), (.ref a64), (.ref a64)]))
      refine GoV.st (fun _ kq_ => XS.iconst X70.here hx rfl (hb hby dt_412) kq_) ?_
      show GoV p e below s _ _ _ (T70.setTop (mkF m 413 #[.val (.ref a), .val (.int (9 : Int32))] [(.int (5 : Int32)), (.ref a), (.int (5 : Int32)), (.ref b65), (.ref b65), (.ref a64), (.ref a64)]))
      refine GoV.st (fun _ kq_ => own_caload X70 hx hZ e70 V_a (by decide) (by decide) (v := (.int c5)) rfl (g := (mkF m 413 #[.val (.ref a), .val (.int (9 : Int32))] [(.int (5 : Int32)), (.ref a), (.int (5 : Int32)), (.ref b65), (.ref b65), (.ref a64), (.ref a64)])) rfl rfl (hb hby dt_413) _ kq_) ?_
      show GoV p e below s _ _ _ (T70.setTop (mkF m 414 #[.val (.ref a), .val (.int (9 : Int32))] [(.int c5), (.int (5 : Int32)), (.ref b65), (.ref b65), (.ref a64), (.ref a64)]))
      obtain ⟨T71, h71, X71, e71, W71, V71, st71⟩ := own_stC X70 hx hZ e70 V_b65 (j := (5 : Int32)) (by decide) (by decide) 5 rfl (Nat.le_of_ble_eq_true rfl) (g := (mkF m 414 #[.val (.ref a), .val (.int (9 : Int32))] [(.int c5), (.int (5 : Int32)), (.ref b65), (.ref b65), (.ref a64), (.ref a64)])) rfl rfl (hb hby dt_414)
      obtain ⟨lc71, X71, N71⟩ := own_gen X71 (Fr.snoc X71 N70 g_b65)
      have O71 := O70.wr W71 g_b65
      have K71 := K70.wr W71 (Or.inr sz_b65)
      have V_a := V_a.other W71 ne_a_b65
      have E_a64 := E_a64.wr W71
      have F_a64_coder := F_a64_coder.other W71 (Or.inl ne_a64_b65)
      have F_a64_value := F_a64_value.other W71 (Or.inl ne_a64_b65)
      have hk71 := Nat.le_trans hk70 (Nat.le_of_eq W71.size.symm)
      have V_b65 : Arv Z h71 b65 k65 .char (9 : Int32) [(.int (nar .char c0)), (.int (nar .char c1)), (.int (nar .char c2)), (.int (nar .char c3)), (.int (nar .char c4)), (.int (nar .char c5)), (.int (0 : Int32)), (.int (0 : Int32)), (.int (0 : Int32))] (.int (0 : Int32)) := V71
      refine GoV.st st71 ?_
      show GoV p e below s _ _ _ (T71.setTop (mkF m 415 #[.val (.ref a), .val (.int (9 : Int32))] [(.ref b65), (.ref a64), (.ref a64)]))
      refine GoV.st (fun _ kq_ => XS.dup X71.here hx rfl (hb hby dt_415) rfl rfl kq_) ?_
      show GoV p e below s _ _ _ (T71.setTop (mkF m 416 #[.val (.ref a), .val (.int (9 : Int32))] [(.ref b65), (.ref b65), (.ref a64), (.ref a64)]))
      refine GoV.st (fun _ kq_ => XS.bipush X71.here hx rfl (hb hby dt_416) kq_) ?_
      show GoV p e below s _ _ _ (T71.setTop (mkF m 418 #[.val (.ref a), .val (.int (9 : Int32))] [(.int (6 : Int32)), (.ref b65), (.ref b65), (.ref a64), (.ref a64)]))
      refine GoV.st (fun _ kq_ => XS.aloadN X71.here hx rfl (hb hby dt_418) rfl rfl kq_) ?_
      show GoV p e below s _ _ _ (T71.setTop (mkF m 419 #[.val (.ref a), .val (.int (9 : Int32))] [(.ref a), (.int (6 : Int32)), (.ref b65), (.ref b65), (.ref a64), (.ref a64)]))
      refine GoV.st (fun _ kq_ => XS.bipush X71.here hx rfl (hb hby dt_419) kq_) ?_
      show GoV p e below s _ _ _ (T71.setTop (mkF m 421 #[.val (.ref a), .val (.int (9 : Int32))] [(.int (6 : Int32)), (.ref a), (.int (6 : Int32)), (.ref b65), (.ref b65), (.ref a64), (.ref a64)]))
      refine GoV.st (fun _ kq_ => own_caload X71 hx hZ e71 V_a (by decide) (by decide) (v := (.int c6)) rfl (g := (mkF m 421 #[.val (.ref a), .val (.int (9 : Int32))] [(.int (6 : Int32)), (.ref a), (.int (6 : Int32)), (.ref b65), (.ref b65), (.ref a64), (.ref a64)])) rfl rfl (hb hby dt_421) _ kq_) ?_
      show GoV p e below s _ _ _ (T71.setTop (mkF m 422 #[.val (.ref a), .val (.int (9 : Int32))] [(.int c6), (.int (6 : Int32)), (.ref b65), (.ref b65), (.ref a64), (.ref a64)]))
      obtain ⟨T72, h72, X72, e72, W72, V72, st72⟩ := own_stC X71 hx hZ e71 V_b65 (j := (6 : Int32)) (by decide) (by decide) 6 rfl (Nat.le_of_ble_eq_true rfl) (g := (mkF m 422 #[.val (.ref a), .val (.int (9 : Int32))] [(.int c6), (.int (6 : Int32)), (.ref b65), (.ref b65), (.ref a64), (.ref a64)])) rfl rfl (hb hby dt_422)
      obtain ⟨lc72, X72, N72⟩ := own_gen X72 (Fr.snoc X72 N71 g_b65)
      have O72 := O71.wr W72 g_b65
      have K72 := K71.wr W72 (Or.inr sz_b65)
      have V_a := V_a.other W72 ne_a_b65
      have E_a64 := E_a64.wr W72
      have F_a64_coder := F_a64_coder.other W72 (Or.inl ne_a64_b65)
      have F_a64_value := F_a64_value.other W72 (Or.inl ne_a64_b65)
      have hk72 := Nat.le_trans hk71 (Nat.le_of_eq W72.size.symm)
      have V_b65 : Arv Z h72 b65 k65 .char (9 : Int32) [(.int (nar .char c0)), (.int (nar .char c1)), (.int (nar .char c2)), (.int (nar .char c3)), (.int (nar .char c4)), (.int (nar .char c5)), (.int (nar .char c6)), (.int (0 : Int32)), (.int (0 : Int32))] (.int (0 : Int32)) := V72
      refine GoV.st st72 ?_
      show GoV p e below s _ _ _ (T72.setTop (mkF m 423 #[.val (.ref a), .val (.int (9 : Int32))] [(.ref b65), (.ref a64), (.ref a64)]))
      refine GoV.st (fun _ kq_ => XS.dup X72.here hx rfl (hb hby dt_423) rfl rfl kq_) ?_
      show GoV p e below s _ _ _ (T72.setTop (mkF m 424 #[.val (.ref a), .val (.int (9 : Int32))] [(.ref b65), (.ref b65), (.ref a64), (.ref a64)]))
      refine GoV.st (fun _ kq_ => XS.bipush X72.here hx rfl (hb hby dt_424) kq_) ?_
      show GoV p e below s _ _ _ (T72.setTop (mkF m 426 #[.val (.ref a), .val (.int (9 : Int32))] [(.int (7 : Int32)), (.ref b65), (.ref b65), (.ref a64), (.ref a64)]))
      refine GoV.st (fun _ kq_ => XS.aloadN X72.here hx rfl (hb hby dt_426) rfl rfl kq_) ?_
      show GoV p e below s _ _ _ (T72.setTop (mkF m 427 #[.val (.ref a), .val (.int (9 : Int32))] [(.ref a), (.int (7 : Int32)), (.ref b65), (.ref b65), (.ref a64), (.ref a64)]))
      refine GoV.st (fun _ kq_ => XS.bipush X72.here hx rfl (hb hby dt_427) kq_) ?_
      show GoV p e below s _ _ _ (T72.setTop (mkF m 429 #[.val (.ref a), .val (.int (9 : Int32))] [(.int (7 : Int32)), (.ref a), (.int (7 : Int32)), (.ref b65), (.ref b65), (.ref a64), (.ref a64)]))
      refine GoV.st (fun _ kq_ => own_caload X72 hx hZ e72 V_a (by decide) (by decide) (v := (.int c7)) rfl (g := (mkF m 429 #[.val (.ref a), .val (.int (9 : Int32))] [(.int (7 : Int32)), (.ref a), (.int (7 : Int32)), (.ref b65), (.ref b65), (.ref a64), (.ref a64)])) rfl rfl (hb hby dt_429) _ kq_) ?_
      show GoV p e below s _ _ _ (T72.setTop (mkF m 430 #[.val (.ref a), .val (.int (9 : Int32))] [(.int c7), (.int (7 : Int32)), (.ref b65), (.ref b65), (.ref a64), (.ref a64)]))
      obtain ⟨T73, h73, X73, e73, W73, V73, st73⟩ := own_stC X72 hx hZ e72 V_b65 (j := (7 : Int32)) (by decide) (by decide) 7 rfl (Nat.le_of_ble_eq_true rfl) (g := (mkF m 430 #[.val (.ref a), .val (.int (9 : Int32))] [(.int c7), (.int (7 : Int32)), (.ref b65), (.ref b65), (.ref a64), (.ref a64)])) rfl rfl (hb hby dt_430)
      obtain ⟨lc73, X73, N73⟩ := own_gen X73 (Fr.snoc X73 N72 g_b65)
      have O73 := O72.wr W73 g_b65
      have K73 := K72.wr W73 (Or.inr sz_b65)
      have V_a := V_a.other W73 ne_a_b65
      have E_a64 := E_a64.wr W73
      have F_a64_coder := F_a64_coder.other W73 (Or.inl ne_a64_b65)
      have F_a64_value := F_a64_value.other W73 (Or.inl ne_a64_b65)
      have hk73 := Nat.le_trans hk72 (Nat.le_of_eq W73.size.symm)
      have V_b65 : Arv Z h73 b65 k65 .char (9 : Int32) [(.int (nar .char c0)), (.int (nar .char c1)), (.int (nar .char c2)), (.int (nar .char c3)), (.int (nar .char c4)), (.int (nar .char c5)), (.int (nar .char c6)), (.int (nar .char c7)), (.int (0 : Int32))] (.int (0 : Int32)) := V73
      refine GoV.st st73 ?_
      show GoV p e below s _ _ _ (T73.setTop (mkF m 431 #[.val (.ref a), .val (.int (9 : Int32))] [(.ref b65), (.ref a64), (.ref a64)]))
      refine GoV.st (fun _ kq_ => XS.dup X73.here hx rfl (hb hby dt_431) rfl rfl kq_) ?_
      show GoV p e below s _ _ _ (T73.setTop (mkF m 432 #[.val (.ref a), .val (.int (9 : Int32))] [(.ref b65), (.ref b65), (.ref a64), (.ref a64)]))
      refine GoV.st (fun _ kq_ => XS.bipush X73.here hx rfl (hb hby dt_432) kq_) ?_
      show GoV p e below s _ _ _ (T73.setTop (mkF m 434 #[.val (.ref a), .val (.int (9 : Int32))] [(.int (8 : Int32)), (.ref b65), (.ref b65), (.ref a64), (.ref a64)]))
      refine GoV.st (fun _ kq_ => XS.aloadN X73.here hx rfl (hb hby dt_434) rfl rfl kq_) ?_
      show GoV p e below s _ _ _ (T73.setTop (mkF m 435 #[.val (.ref a), .val (.int (9 : Int32))] [(.ref a), (.int (8 : Int32)), (.ref b65), (.ref b65), (.ref a64), (.ref a64)]))
      refine GoV.st (fun _ kq_ => XS.bipush X73.here hx rfl (hb hby dt_435) kq_) ?_
      show GoV p e below s _ _ _ (T73.setTop (mkF m 437 #[.val (.ref a), .val (.int (9 : Int32))] [(.int (8 : Int32)), (.ref a), (.int (8 : Int32)), (.ref b65), (.ref b65), (.ref a64), (.ref a64)]))
      refine GoV.st (fun _ kq_ => own_caload X73 hx hZ e73 V_a (by decide) (by decide) (v := (.int c8)) rfl (g := (mkF m 437 #[.val (.ref a), .val (.int (9 : Int32))] [(.int (8 : Int32)), (.ref a), (.int (8 : Int32)), (.ref b65), (.ref b65), (.ref a64), (.ref a64)])) rfl rfl (hb hby dt_437) _ kq_) ?_
      show GoV p e below s _ _ _ (T73.setTop (mkF m 438 #[.val (.ref a), .val (.int (9 : Int32))] [(.int c8), (.int (8 : Int32)), (.ref b65), (.ref b65), (.ref a64), (.ref a64)]))
      obtain ⟨T74, h74, X74, e74, W74, V74, st74⟩ := own_stC X73 hx hZ e73 V_b65 (j := (8 : Int32)) (by decide) (by decide) 8 rfl (Nat.le_of_ble_eq_true rfl) (g := (mkF m 438 #[.val (.ref a), .val (.int (9 : Int32))] [(.int c8), (.int (8 : Int32)), (.ref b65), (.ref b65), (.ref a64), (.ref a64)])) rfl rfl (hb hby dt_438)
      obtain ⟨lc74, X74, N74⟩ := own_gen X74 (Fr.snoc X74 N73 g_b65)
      have O74 := O73.wr W74 g_b65
      have K74 := K73.wr W74 (Or.inr sz_b65)
      have V_a := V_a.other W74 ne_a_b65
      have E_a64 := E_a64.wr W74
      have F_a64_coder := F_a64_coder.other W74 (Or.inl ne_a64_b65)
      have F_a64_value := F_a64_value.other W74 (Or.inl ne_a64_b65)
      have hk74 := Nat.le_trans hk73 (Nat.le_of_eq W74.size.symm)
      have V_b65 : Arv Z h74 b65 k65 .char (9 : Int32) [(.int (nar .char c0)), (.int (nar .char c1)), (.int (nar .char c2)), (.int (nar .char c3)), (.int (nar .char c4)), (.int (nar .char c5)), (.int (nar .char c6)), (.int (nar .char c7)), (.int (nar .char c8))] (.int (0 : Int32)) := V74
      refine GoV.st st74 ?_
      show GoV p e below s _ _ _ (T74.setTop (mkF m 439 #[.val (.ref a), .val (.int (9 : Int32))] [(.ref b65), (.ref a64), (.ref a64)]))
      have hp : ∀ z ∈ ([(nar .char c0), (nar .char c1), (nar .char c2), (nar .char c3), (nar .char c4), (nar .char c5), (nar .char c6), (nar .char c7), (nar .char c8)] : List Int32), ¬ z < 0 ∧ ¬ (255 : Int32) < z := by
        intro z hz
        simp only [List.mem_cons, List.not_mem_nil, or_false] at hz
        rcases hz with rfl | rfl | rfl | rfl | rfl | rfl | rfl | rfl | rfl
        · exact (show ¬ nar .char c0 < 0 ∧ ¬ (255 : Int32) < nar .char c0 by rw [own_nc hc0]; exact hc0)
        · exact (show ¬ nar .char c1 < 0 ∧ ¬ (255 : Int32) < nar .char c1 by rw [own_nc hc1]; exact hc1)
        · exact (show ¬ nar .char c2 < 0 ∧ ¬ (255 : Int32) < nar .char c2 by rw [own_nc hc2]; exact hc2)
        · exact (show ¬ nar .char c3 < 0 ∧ ¬ (255 : Int32) < nar .char c3 by rw [own_nc hc3]; exact hc3)
        · exact (show ¬ nar .char c4 < 0 ∧ ¬ (255 : Int32) < nar .char c4 by rw [own_nc hc4]; exact hc4)
        · exact (show ¬ nar .char c5 < 0 ∧ ¬ (255 : Int32) < nar .char c5 by rw [own_nc hc5]; exact hc5)
        · exact (show ¬ nar .char c6 < 0 ∧ ¬ (255 : Int32) < nar .char c6 by rw [own_nc hc6]; exact hc6)
        · exact (show ¬ nar .char c7 < 0 ∧ ¬ (255 : Int32) < nar .char c7 by rw [own_nc hc7]; exact hc7)
        · exact (show ¬ nar .char c8 < 0 ∧ ¬ (255 : Int32) < nar .char c8 by rw [own_nc hc8]; exact hc8)
      obtain ⟨_, _, ⟨T75, L75, k75, n75⟩, -, X75, ⟨Lc75, hQ75, l75, y75, z75⟩, st75⟩ := X74.specialBack hx (y := (⟨"java/lang/String", "<init>", "([C)V"⟩ : MethodName)) rfl hown (mvT hZ (own_w hw 9 rfl)) (mvT hZ (own_w hw 10 rfl)) (mvT hZ (own_w hw 11 rfl)) (by decide) (StrChars.Road.backV (W := 1) hZ hws (kI := 4) (own_w hw 7 rfl) (cs := ([(nar .char c0), (nar .char c1), (nar .char c2), (nar .char c3), (nar .char c4), (nar .char c5), (nar .char c6), (nar .char c7), (nar .char c8)] : List Int32)) (bs := ([(nar .char c0), (nar .char c1), (nar .char c2), (nar .char c3), (nar .char c4), (nar .char c5), (nar .char c6), (nar .char c7), (nar .char c8)] : List Int32).map (fun c => c.toInt8.toInt32)) (n := 9) g_a64 (own_old O74) E_a64 F_a64_value F_a64_coder V_b65 (SC.ext O74.2) hcs rfl rfl (by decide) (by decide) hp rfl (by decide) (by decide)) (g := (mkF m 439 #[.val (.ref a), .val (.int (9 : Int32))] [(.ref b65), (.ref a64), (.ref a64)])) rfl (by rw [hml]; rfl) (Steps.refl _) (a := a64) (argsL := [(.ref b65)]) (rest := [(.ref a64)]) (lenOf pdt_0 rfl) rfl (by show 2 * 0 + _ ≤ _; exact Nat.le_of_eq rfl) (hb hby dt_439) (fun _ _ => ⟨rfl, e74, (by decide : 2 + 1 ≤ _), (by decide : 13 + 9 ≤ _)⟩)
      dsimp only [Pt.U, Pt.locs, Pt.cells, Pt.slots] at X75 l75 y75 z75 st75 hQ75
      subst y75 z75
      obtain ⟨rfl, Nc75, Kc75, NE, NC, t75, kt75, gt75, szt75, -, NV, NB⟩ := hQ75
      have N75 : Fr n0 L75 := by rw [l75]; exact Fr.app N74 Nc75
      have V_a := V_a.keep Kc75 (ninS ne_a_a64 nin0)
      have V_b65 := V_b65.keep Kc75 (ninS (Ne.symm ne_a64_b65) nin0)
      have hk75 := Nat.le_trans hk74 Kc75.1
      have O75 := O74.keep Kc75 (allS g_a64 all0)
      have K75 := K74.trans Kc75 (allS (Or.inr sz_a64) all0)
      have E_a64 : Exa Z T75.heap a64 "java/lang/String" := NE
      have F_a64_coder : Fld Z T75.heap a64 "java/lang/String" "coder" "B" (.int (0 : Int32)) := NC
      have F_a64_value : Fld Z T75.heap a64 "java/lang/String" "value" "[B" (.ref t75) := NV
      have V_t75 : Arv Z T75.heap t75 kt75 .byte (9 : Int32) ((([(nar .char c0), (nar .char c1), (nar .char c2), (nar .char c3), (nar .char c4), (nar .char c5), (nar .char c6), (nar .char c7), (nar .char c8)] : List Int32).map (fun c => c.toInt8.toInt32)).map Value.int) (.int (0 : Int32)) := NB
      refine GoV.tr st75 ?_
      show GoV p e below s _ _ _ (T75.setTop (mkF m 442 #[.val (.ref a), .val (.int (9 : Int32))] [(.ref a64)]))
      exact GoV.ret (vm1 := s.vm) X75 hlk hS0 (by exact hk75) (some (.ref a64)) (fun h => by rw [Bd.returns] at h; cases h) (by exact ⟨a64, t75, _, _, _, ([(nar .char c0), (nar .char c1), (nar .char c2), (nar .char c3), (nar .char c4), (nar .char c5), (nar .char c6), (nar .char c7), (nar .char c8)] : List Int32), rfl, N75, K75, g_a64, sz_a64, E_a64, F_a64_coder, F_a64_value, V_t75, StrChars.Road.codOf (n := 9) rfl (fun c hc => (hp c hc).2), own_up hp, Nat.le_of_ble_eq_true rfl, own_ibM (own_ibW (vm0 := s.vm) I0 X75) (by decide)⟩) (by decide) (by decide) (fun fs hr => retOut X75 hx Bd.returns rfl (Or.inr (Or.inr (Or.inr (Or.inr ⟨rfl, rfl, rfl⟩)))) (hb hby dt_442) hr)
  obtain ⟨s2, o2, st2, r2⟩ := G
  exact ⟨s2, o2, castTop (eft m a n) st2, r2⟩
theorem dv_0 : decode prog_21_method_1_code 0 = .ok (.getstatic 10, 3) := by decide +kernel
theorem dv_3 : decode prog_21_method_1_code 3 = .ok (.invokevirtual 14, 3) := by decide +kernel
theorem dv_6 : decode prog_21_method_1_code 6 = .ok (.checkcast 15, 3) := by decide +kernel
theorem dv_9 : decode prog_21_method_1_code 9 = .ok (.areturn, 1) := by decide +kernel
theorem pnv : plainName "com/example/rootward/rootward/model/Policy" = true := by first | (simp [plainName, overriddenIn]; done) | decide +kernel
theorem efv (m : MethodId)  : entryFrame m #[] 0 = mkF m 0 #[] [] := by first | (simp [entryFrame, mkF, argsToLocals, Value.category, maxLocals]; done) | rfl
def Qv (Z : State) (va : Addr) (kv : ClassId) (sg : Addr) (mu : Addr) (h0 : Heap) (n0 : Nat) (v : Option Value) (h : Heap) (L : List Loc) : Prop := ∃ (q : Addr) (kq : ClassId), v = some (.ref q) ∧ Fr n0 L ∧ Keep h0 h [] ∧ n0 ≤ q ∧ h0.size ≤ q ∧ Arv Z h q kq (.object "com/example/rootward/rootward/model/Policy") (2 : Int32) [(.ref sg), (.ref mu)] .null
set_option maxRecDepth 65536 in
set_option maxHeartbeats 40000000 in
theorem rmv (l : Launch) (Z : State) (a0 : Array Value) (hw : ∀ d ∈ tables_1, d.before a0 Z = true) (ws : List Jvm.Cond) (va : Addr) (kv : ClassId) (sg : Addr) (mu : Addr) (h0 : Heap) (n0 : Nat) (O0 : Old Z n0 h0) (EV : Exa Z Z.heap va "[Lcom/example/rootward/rootward/model/Policy;") (VV : Arv Z Z.heap va kv (.object "com/example/rootward/rootward/model/Policy") (2 : Int32) [(.ref sg), (.ref mu)] .null) (SV : Sta Z Z.heap "com/example/rootward/rootward/model/Policy" "$VALUES" "[Lcom/example/rootward/rootward/model/Policy;" (.ref va)) :
    MetFree l (⟨"com/example/rootward/rootward/model/Policy", "values", "()[Lcom/example/rootward/rootward/model/Policy;"⟩ : MethodName) (head1 (Jvm.Cond.code (⟨"com/example/rootward/rootward/model/Policy", "values", "()[Lcom/example/rootward/rootward/model/Policy;"⟩ : MethodName) prog_21_method_1_code 0 (some (.array (.object "com/example/rootward/rootward/model/Policy"))) :: ws) ({ frames := 1, cells := 1, slots := 2, locals := 14 } : Room)) (fun A_ U_ => A_ = #[] ∧ Z.Warmed39 U_.vm ∧ U_.heap = h0) (fun _ _ _ _ _ => True) (fun _ U o U' => ∃ v L, o = .returned v ∧ Qv Z va kv sg mu h0 n0 v U'.heap L ∧ FrameEnd U o U' L ({ frames := 1, cells := 1, slots := 2, locals := 14 } : Room).cells ({ frames := 1, cells := 1, slots := 2, locals := 14 } : Room).slots) := by
  refine MetFree.of_bodySF (plainFor_of_name pnv) hisR ?_
  intro p e s m args below meth cd s₁ Bd hml0 hP hK
  obtain ⟨rfl, hZ, hh⟩ := hP
  have hx := Bd.exec
  have hby := Bd.bytes
  have hlk : meth.locks = false := BodyLoose.notSynchronized Bd
  have hml : cd.maxLocals = 0 := hml0
  have hown : s.vm.findClass "com/example/rootward/rootward/model/Policy" = some m.cls := findClass_of_methodNamed Bd.named
  have hnm := (name_of_methodNamed Bd.named Bd.method).1
  have X0 : Stand p l e ({ frames := 1, cells := 1, slots := 2, locals := 14 } : Room) s m #[] below meth cd s₁ [] 0 0 := Stand.of_body Bd
  have e0 : s₁.heap = h0 := by rw [← hh, Bd.state]; rfl
  have N0 := Fr.nil n0
  have K0 : Keep h0 h0 [] := Keep.refl _ _
  have G : Go p e below s 1 2 (Qv Z va kv sg mu h0 n0) (s₁.setTop (mkF m 0 #[] [])) := by
    show Go p e below s _ _ _ (s₁.setTop (mkF m 0 #[] []))
    obtain ⟨T1, X1, e1, st1⟩ := getS X0 hx hZ hown (host := "") (own_w hw 57 rfl) Via.refl e0 (SV.ext O0.2) (g := (mkF m 0 #[] [])) rfl (hb hby dv_0)
    refine Go.st st1 ?_
    show Go p e below s _ _ _ (T1.setTop (mkF m 3 #[] [(.ref va)]))
    obtain ⟨T2, h2, X2, e2, E2, A2, Ex2, st2⟩ := cloneH X1 hx hZ hown (own_w hw 59 rfl) (own_w hw 60 rfl) (own_w hw 64 rfl) (own_w hw 62 rfl) (own_w hw 63 rfl) (own_w hw 65 rfl) e1 (Arv.arh (VV.ext O0.2)) (EV.ext O0.2) (g := (mkF m 3 #[] [(.ref va)])) rfl (by rw [hml]; rfl) rfl (hb hby dv_3) (by decide) (W := 0) (cap := 2) (by show 2 * 0 + _ ≤ _; exact Nat.le_of_eq rfl) (by decide) (by decide) (by decide) (by decide)
    obtain ⟨q2, g2⟩ : ∃ z, z = h0.size := ⟨_, rfl⟩
    rw [← g2] at A2 Ex2 st2
    have g_q2 : n0 ≤ q2 := Nat.le_trans (own_old O0) (Nat.le_of_eq g2.symm)
    have sz_q2 : h0.size ≤ q2 := Nat.le_trans K0.1 (Nat.le_of_eq g2.symm)
    have O2 := O0.ext E2
    have K2 := K0.ext E2
    have E_q2 : Exa Z h2 q2 "[Lcom/example/rootward/rootward/model/Policy;" := Ex2
    have V_q2 : Arv Z h2 q2 kv (.object "com/example/rootward/rootward/model/Policy") (2 : Int32) [(.ref sg), (.ref mu)] .null := A2
    refine Go.st st2 ?_
    show Go p e below s _ _ _ (T2.setTop (mkF m 6 #[] [(.ref q2)]))
    obtain ⟨T3, X3, e3, st3⟩ := castY X2 hx hZ hown (own_w hw 68 rfl) e2 (Ins.self E_q2) (g := (mkF m 6 #[] [(.ref q2)])) rfl rfl (hb hby dv_6)
    refine Go.st st3 ?_
    show Go p e below s _ _ _ (T3.setTop (mkF m 9 #[] [(.ref q2)]))
    exact Go.ret X3 hlk (some (.ref q2)) (fun h => by rw [Bd.returns] at h; cases h) (by rw [e3]; exact ⟨q2, _, rfl, N0, K2, g_q2, sz_q2, V_q2⟩) (by decide) (by decide) (fun fs hr => retOut X3 hx Bd.returns rfl (Or.inr (Or.inr (Or.inr (Or.inr ⟨rfl, rfl, rfl⟩)))) (hb hby dv_9) hr)
  obtain ⟨s2, o2, st2, r2⟩ := G
  exact ⟨s2, o2, castTop (efv m ) st2, r2⟩
theorem dr_0 : decode jdk_31_method_10_code 0 = .ok (.aload_n 0, 1) := by decide +kernel
theorem dr_1 : decode jdk_31_method_10_code 1 = .ok (.ifnonnull 11, 3) := by decide +kernel
theorem dr_12 : decode jdk_31_method_10_code 12 = .ok (.aload_n 0, 1) := by decide +kernel
theorem dr_13 : decode jdk_31_method_10_code 13 = .ok (.areturn, 1) := by decide +kernel
theorem pnr : plainName "java/util/Objects" = true := by first | (simp [plainName, overriddenIn]; done) | decide +kernel
theorem efr (m : MethodId) (x0 : Addr) : entryFrame m #[(.ref x0)] 1 = mkF m 0 #[.val (.ref x0)] [] := by first | (simp [entryFrame, mkF, argsToLocals, Value.category, maxLocals]; done) | rfl
def Qr (Z : State) (y : Addr) (h0 : Heap) (n0 : Nat) (v : Option Value) (h : Heap) (L : List Loc) : Prop := v = some (.ref y) ∧ Fr n0 L ∧ h = h0
set_option maxRecDepth 65536 in
set_option maxHeartbeats 40000000 in
theorem rmr (l : Launch) (Z : State) (a0 : Array Value) (hw : ∀ d ∈ tables_1, d.before a0 Z = true) (ws : List Jvm.Cond) (y : Addr) (h0 : Heap) (n0 : Nat) (O0 : Old Z n0 h0)  :
    MetFree l (⟨"java/util/Objects", "requireNonNull", "(Ljava/lang/Object;)Ljava/lang/Object;"⟩ : MethodName) (head1 (Jvm.Cond.code (⟨"java/util/Objects", "requireNonNull", "(Ljava/lang/Object;)Ljava/lang/Object;"⟩ : MethodName) jdk_31_method_10_code 1 (some (.object "java/lang/Object")) :: ws) ({ frames := 0, cells := 0, slots := 0, locals := 0 } : Room)) (fun A_ U_ => A_ = #[(.ref y)] ∧ Z.Warmed39 U_.vm ∧ U_.heap = h0) (fun _ _ _ _ _ => True) (fun _ U o U' => ∃ v L, o = .returned v ∧ Qr Z y h0 n0 v U'.heap L ∧ FrameEnd U o U' L ({ frames := 0, cells := 0, slots := 0, locals := 0 } : Room).cells ({ frames := 0, cells := 0, slots := 0, locals := 0 } : Room).slots) := by
  refine MetFree.of_bodySF (plainFor_of_name pnr) hisR ?_
  intro p e s m args below meth cd s₁ Bd hml0 hP hK
  obtain ⟨rfl, hZ, hh⟩ := hP
  have hx := Bd.exec
  have hby := Bd.bytes
  have hlk : meth.locks = false := BodyLoose.notSynchronized Bd
  have hml : cd.maxLocals = 1 := hml0
  have hown : s.vm.findClass "java/util/Objects" = some m.cls := findClass_of_methodNamed Bd.named
  have hnm := (name_of_methodNamed Bd.named Bd.method).1
  have X0 : Stand p l e ({ frames := 0, cells := 0, slots := 0, locals := 0 } : Room) s m #[(.ref y)] below meth cd s₁ [] 0 0 := Stand.of_body Bd
  have e0 : s₁.heap = h0 := by rw [← hh, Bd.state]; rfl
  have N0 := Fr.nil n0
  have G : Go p e below s 0 0 (Qr Z y h0 n0) (s₁.setTop (mkF m 0 #[.val (.ref y)] [])) := by
    show Go p e below s _ _ _ (s₁.setTop (mkF m 0 #[.val (.ref y)] []))
    refine Go.st (fun _ kq_ => XS.aloadN X0.here hx rfl (hb hby dr_0) rfl rfl kq_) ?_
    show Go p e below s _ _ _ (s₁.setTop (mkF m 1 #[.val (.ref y)] [(.ref y)]))
    refine Go.st (fun _ kq_ => XT.ifnonnullYes X0.here hx rfl (pc0 := 1) (pc' := 12) rfl (hb hby dr_1) rfl (by decide) (by decide) kq_) ?_
    show Go p e below s _ _ _ (s₁.setTop (mkF m 12 #[.val (.ref y)] []))
    refine Go.st (fun _ kq_ => XS.aloadN X0.here hx rfl (hb hby dr_12) rfl rfl kq_) ?_
    show Go p e below s _ _ _ (s₁.setTop (mkF m 13 #[.val (.ref y)] [(.ref y)]))
    exact Go.ret X0 hlk (some (.ref y)) (fun h => by rw [Bd.returns] at h; cases h) (by rw [e0]; exact ⟨rfl, N0, rfl⟩) (by decide) (by decide) (fun fs hr => retOut X0 hx Bd.returns rfl (Or.inr (Or.inr (Or.inr (Or.inr ⟨rfl, rfl, rfl⟩)))) (hb hby dr_13) hr)
  obtain ⟨s2, o2, st2, r2⟩ := G
  exact ⟨s2, o2, castTop (efr m y) st2, r2⟩
theorem doi_0 : decode jdk_32_method_2_code 0 = .ok (.aload_n 0, 1) := by decide +kernel
theorem doi_1 : decode jdk_32_method_2_code 1 = .ok (.invokespecial 7, 3) := by decide +kernel
theorem doi_4 : decode jdk_32_method_2_code 4 = .ok (.aload_n 0, 1) := by decide +kernel
theorem doi_5 : decode jdk_32_method_2_code 5 = .ok (.aload_n 1, 1) := by decide +kernel
theorem doi_6 : decode jdk_32_method_2_code 6 = .ok (.putfield 13, 3) := by decide +kernel
theorem doi_9 : decode jdk_32_method_2_code 9 = .ok (.return_, 1) := by decide +kernel
theorem pnoi : plainName "java/util/Optional" = true := by first | (simp [plainName, overriddenIn]; done) | decide +kernel
theorem efoi (m : MethodId) (x0 : Addr) (x1 : Addr) : entryFrame m #[(.ref x0), (.ref x1)] 2 = mkF m 0 #[.val (.ref x0), .val (.ref x1)] [] := by first | (simp [entryFrame, mkF, argsToLocals, Value.category, maxLocals]; done) | rfl
def Qoi (Z : State) (a : Addr) (y : Addr) (h0 : Heap) (n0 : Nat) (v : Option Value) (h : Heap) (L : List Loc) : Prop := v = none ∧ Fr n0 L ∧ Keep h0 h [a] ∧ Exa Z h a "java/util/Optional" ∧ Fld Z h a "java/util/Optional" "value" "Ljava/lang/Object;" (.ref y)
set_option maxRecDepth 65536 in
set_option maxHeartbeats 40000000 in
theorem rmoi (l : Launch) (Z : State) (a0 : Array Value) (hw : ∀ d ∈ tables_1, d.before a0 Z = true) (ws : List Jvm.Cond) (a : Addr) (y : Addr) (h0 : Heap) (n0 : Nat) (O0 : Old Z n0 h0) (E_a : Exa Z h0 a "java/util/Optional") (F_a_value : Fld Z h0 a "java/util/Optional" "value" "Ljava/lang/Object;" .null) (ga : n0 ≤ a) :
    MetFree l (⟨"java/util/Optional", "<init>", "(Ljava/lang/Object;)V"⟩ : MethodName) (head1 (Jvm.Cond.code (⟨"java/util/Optional", "<init>", "(Ljava/lang/Object;)V"⟩ : MethodName) jdk_32_method_2_code 2 none :: ws) ({ frames := 1, cells := 0, slots := 0, locals := 12 } : Room)) (fun A_ U_ => A_ = #[(.ref a), (.ref y)] ∧ Z.Warmed39 U_.vm ∧ U_.heap = h0) (fun _ _ _ _ _ => True) (fun _ U o U' => ∃ v L, o = .returned v ∧ Qoi Z a y h0 n0 v U'.heap L ∧ FrameEnd U o U' L ({ frames := 1, cells := 0, slots := 0, locals := 12 } : Room).cells ({ frames := 1, cells := 0, slots := 0, locals := 12 } : Room).slots) := by
  refine MetFree.of_bodySF (plainFor_of_name pnoi) hisR ?_
  intro p e s m args below meth cd s₁ Bd hml0 hP hK
  obtain ⟨rfl, hZ, hh⟩ := hP
  have hx := Bd.exec
  have hby := Bd.bytes
  have hlk : meth.locks = false := BodyLoose.notSynchronized Bd
  have hml : cd.maxLocals = 2 := hml0
  have hown : s.vm.findClass "java/util/Optional" = some m.cls := findClass_of_methodNamed Bd.named
  have hnm := (name_of_methodNamed Bd.named Bd.method).1
  have X0 : Stand p l e ({ frames := 1, cells := 0, slots := 0, locals := 12 } : Room) s m #[(.ref a), (.ref y)] below meth cd s₁ [] 0 0 := Stand.of_body Bd
  have e0 : s₁.heap = h0 := by rw [← hh, Bd.state]; rfl
  have N0 := Fr.nil n0
  have K0 : Keep h0 h0 [a] := Keep.refl _ _
  have G : Go p e below s 0 0 (Qoi Z a y h0 n0) (s₁.setTop (mkF m 0 #[.val (.ref a), .val (.ref y)] [])) := by
    show Go p e below s _ _ _ (s₁.setTop (mkF m 0 #[.val (.ref a), .val (.ref y)] []))
    refine Go.st (fun _ kq_ => XS.aloadN X0.here hx rfl (hb hby doi_0) rfl rfl kq_) ?_
    show Go p e below s _ _ _ (s₁.setTop (mkF m 1 #[.val (.ref a), .val (.ref y)] [(.ref a)]))
    obtain ⟨T1, X1, e1, st1⟩ := initO X0 hx hZ hown (own_w hw 87 rfl) (own_w hw 17 rfl) (own_w hw 18 rfl) e0 (g := (mkF m 1 #[.val (.ref a), .val (.ref y)] [(.ref a)])) rfl (by rw [hml]; rfl) rfl (hb hby doi_1) (by decide) (W := 0) (by show 2 * 0 + _ ≤ _; exact Nat.le_of_eq rfl) (by decide)
    refine Go.st st1 ?_
    show Go p e below s _ _ _ (T1.setTop (mkF m 4 #[.val (.ref a), .val (.ref y)] []))
    refine Go.st (fun _ kq_ => XS.aloadN X1.here hx rfl (hb hby doi_4) rfl rfl kq_) ?_
    show Go p e below s _ _ _ (T1.setTop (mkF m 5 #[.val (.ref a), .val (.ref y)] [(.ref a)]))
    refine Go.st (fun _ kq_ => XS.aloadN X1.here hx rfl (hb hby doi_5) rfl rfl kq_) ?_
    show Go p e below s _ _ _ (T1.setTop (mkF m 6 #[.val (.ref a), .val (.ref y)] [(.ref y), (.ref a)]))
    obtain ⟨T2, h2, X2, e2, W2, st2⟩ := putF X1 hx hZ hown (host := "") (Or.inl (own_w hw 88 rfl)) Via.refl e1 F_a_value E_a (Or.inr ⟨(own_w hw 89 rfl), rfl, hnm⟩) (own_w hw 78 rfl) (ty := (.object "java/lang/Object")) (by decide) rfl rfl (g := (mkF m 6 #[.val (.ref a), .val (.ref y)] [(.ref y), (.ref a)])) rfl rfl (hb hby doi_6)
    obtain ⟨lc2, X2, N2⟩ := own_gen X2 (Fr.snoc X2 N0 ga)
    have O2 := O0.wr W2 ga
    have K2 := K0.wr W2 (Or.inl (List.mem_of_getElem? (i := 0) rfl))
    have E_a := E_a.wr W2
    have F_a_value := F_a_value.same W2
    refine Go.st st2 ?_
    show Go p e below s _ _ _ (T2.setTop (mkF m 9 #[.val (.ref a), .val (.ref y)] []))
    exact Go.ret X2 hlk (none) (fun _ => rfl) (by rw [e2]; exact ⟨rfl, N2, K2, E_a, F_a_value⟩) (by decide) (by decide) (fun fs hr => X2.returnOut hx Bd.returns (hb hby doi_9) hr)
  obtain ⟨s2, o2, st2, r2⟩ := G
  exact ⟨s2, o2, castTop (efoi m a y) st2, r2⟩
theorem dof_0 : decode jdk_32_method_3_code 0 = .ok (.new 2, 3) := by decide +kernel
theorem dof_3 : decode jdk_32_method_3_code 3 = .ok (.dup, 1) := by decide +kernel
theorem dof_4 : decode jdk_32_method_3_code 4 = .ok (.aload_n 0, 1) := by decide +kernel
theorem dof_5 : decode jdk_32_method_3_code 5 = .ok (.invokestatic 17, 3) := by decide +kernel
theorem dof_8 : decode jdk_32_method_3_code 8 = .ok (.invokespecial 23, 3) := by decide +kernel
theorem dof_11 : decode jdk_32_method_3_code 11 = .ok (.areturn, 1) := by decide +kernel
theorem pdof_0 : parseMethodDescriptor "(Ljava/lang/Object;)Ljava/lang/Object;" = some ⟨[(.object "java/lang/Object")], some (.object "java/lang/Object")⟩ := by decide +kernel
theorem pdof_1 : parseMethodDescriptor "(Ljava/lang/Object;)V" = some ⟨[(.object "java/lang/Object")], none⟩ := by decide +kernel
theorem pnof : plainName "java/util/Optional" = true := by first | (simp [plainName, overriddenIn]; done) | decide +kernel
theorem efof (m : MethodId) (x0 : Addr) : entryFrame m #[(.ref x0)] 1 = mkF m 0 #[.val (.ref x0)] [] := by first | (simp [entryFrame, mkF, argsToLocals, Value.category, maxLocals]; done) | rfl
def Qof (Z : State) (y : Addr) (h0 : Heap) (n0 : Nat) (v : Option Value) (h : Heap) (L : List Loc) : Prop := ∃ r : Addr, v = some (.ref r) ∧ Fr n0 L ∧ Keep h0 h [] ∧ n0 ≤ r ∧ h0.size ≤ r ∧ Exa Z h r "java/util/Optional" ∧ Fld Z h r "java/util/Optional" "value" "Ljava/lang/Object;" (.ref y)
set_option maxRecDepth 65536 in
set_option maxHeartbeats 40000000 in
theorem rmof (l : Launch) (Z : State) (a0 : Array Value) (hw : ∀ d ∈ tables_1, d.before a0 Z = true) (ws : List Jvm.Cond) (y : Addr) (h0 : Heap) (n0 : Nat) (O0 : Old Z n0 h0)  :
    MetFree l (⟨"java/util/Optional", "of", "(Ljava/lang/Object;)Ljava/util/Optional;"⟩ : MethodName) (head1 (Jvm.Cond.code (⟨"java/util/Optional", "of", "(Ljava/lang/Object;)Ljava/util/Optional;"⟩ : MethodName) jdk_32_method_3_code 1 (some (.object "java/util/Optional")) :: ws) ({ frames := 2, cells := 1, slots := 1, locals := 26 } : Room)) (fun A_ U_ => A_ = #[(.ref y)] ∧ Z.Warmed39 U_.vm ∧ U_.heap = h0) (fun _ _ _ _ _ => True) (fun _ U o U' => ∃ v L, o = .returned v ∧ Qof Z y h0 n0 v U'.heap L ∧ FrameEnd U o U' L ({ frames := 2, cells := 1, slots := 1, locals := 26 } : Room).cells ({ frames := 2, cells := 1, slots := 1, locals := 26 } : Room).slots) := by
  refine MetFree.of_bodySF (plainFor_of_name pnof) hisR ?_
  intro p e s m args below meth cd s₁ Bd hml0 hP hK
  obtain ⟨rfl, hZ, hh⟩ := hP
  have hx := Bd.exec
  have hby := Bd.bytes
  have hlk : meth.locks = false := BodyLoose.notSynchronized Bd
  have hml : cd.maxLocals = 1 := hml0
  have hown : s.vm.findClass "java/util/Optional" = some m.cls := findClass_of_methodNamed Bd.named
  have hnm := (name_of_methodNamed Bd.named Bd.method).1
  have X0 : Stand p l e ({ frames := 2, cells := 1, slots := 1, locals := 26 } : Room) s m #[(.ref y)] below meth cd s₁ [] 0 0 := Stand.of_body Bd
  have e0 : s₁.heap = h0 := by rw [← hh, Bd.state]; rfl
  have N0 := Fr.nil n0
  have K0 : Keep h0 h0 [] := Keep.refl _ _
  have G : Go p e below s 1 1 (Qof Z y h0 n0) (s₁.setTop (mkF m 0 #[.val (.ref y)] [])) := by
    show Go p e below s _ _ _ (s₁.setTop (mkF m 0 #[.val (.ref y)] []))
    obtain ⟨T1, h1, X1, e1, E1, A1, D1, -, st1⟩ := newO X0 hx hZ hown (own_w hw 77 rfl) (own_w hw 78 rfl) (own_w hw 75 rfl) e0 (g := (mkF m 0 #[.val (.ref y)] [])) rfl (hb hby dof_0) (by decide) (by decide)
    obtain ⟨a1, g1⟩ : ∃ z, z = h0.size := ⟨_, rfl⟩
    rw [← g1] at A1 D1 st1
    have g_a1 : n0 ≤ a1 := Nat.le_trans (own_old O0) (Nat.le_of_eq g1.symm)
    have sz_a1 : h0.size ≤ a1 := Nat.le_trans K0.1 (Nat.le_of_eq g1.symm)
    have O1 := O0.ext E1
    have K1 := K0.ext E1
    have E_a1 : Exa Z h1 a1 "java/util/Optional" := A1
    have F_a1_value : Fld Z h1 a1 "java/util/Optional" "value" "Ljava/lang/Object;" .null := D1 (Or.inr (own_w hw 89 rfl)) (ty := (.object "java/lang/Object")) (by decide)
    refine Go.st st1 ?_
    show Go p e below s _ _ _ (T1.setTop (mkF m 3 #[.val (.ref y)] [(.ref a1)]))
    refine Go.st (fun _ kq_ => XS.dup X1.here hx rfl (hb hby dof_3) rfl rfl kq_) ?_
    show Go p e below s _ _ _ (T1.setTop (mkF m 4 #[.val (.ref y)] [(.ref a1), (.ref a1)]))
    refine Go.st (fun _ kq_ => XS.aloadN X1.here hx rfl (hb hby dof_4) rfl rfl kq_) ?_
    show Go p e below s _ _ _ (T1.setTop (mkF m 5 #[.val (.ref y)] [(.ref y), (.ref a1), (.ref a1)]))
    obtain ⟨_, _, ⟨T2, L2, k2, n2⟩, -, X2, ⟨Lc2, hQ2, l2, y2, z2⟩, st2⟩ := Jvm.LawKit.callS X1 hx (y := (⟨"java/util/Objects", "requireNonNull", "(Ljava/lang/Object;)Ljava/lang/Object;"⟩ : MethodName)) hown (mvT hZ (own_w hw 79 rfl)) (mvT hZ (own_w hw 80 rfl)) (mvT hZ (own_w hw 81 rfl)) (mvT hZ (own_w hw 82 rfl)) (by decide) (backOf (W := 2) (rmr l Z a0 hw [] y h1 n0 O1 ) hZ (own_w hw 82 rfl) (own_w hw 81 rfl) (by decide) (by decide)) (g := (mkF m 5 #[.val (.ref y)] [(.ref y), (.ref a1), (.ref a1)])) rfl (by rw [hml]; rfl) (argsL := [(.ref y)]) (rest := [(.ref a1), (.ref a1)]) (lenOf pdof_0 rfl) rfl (by show 2 * 0 + _ ≤ _; exact Nat.le_of_eq rfl) (hb hby dof_5) (fun _ _ => ⟨rfl, e1, (by decide : 1 + 0 ≤ _), (by decide : 1 + 0 ≤ _)⟩)
    dsimp only [Pt.U, Pt.locs, Pt.cells, Pt.slots] at X2 l2 y2 z2 st2 hQ2
    subst y2 z2
    obtain ⟨rfl, Nc2, e2⟩ := hQ2
    have N2 : Fr n0 L2 := by rw [l2]; exact Fr.app N0 Nc2
    refine Go.st st2 ?_
    show Go p e below s _ _ _ (T2.setTop (mkF m 8 #[.val (.ref y)] [(.ref y), (.ref a1), (.ref a1)]))
    obtain ⟨_, _, ⟨T3, L3, k3, n3⟩, -, X3, ⟨Lc3, hQ3, l3, y3, z3⟩, st3⟩ := X2.specialBack hx (y := (⟨"java/util/Optional", "<init>", "(Ljava/lang/Object;)V"⟩ : MethodName)) rfl hown (mvT hZ (own_w hw 83 rfl)) (mvT hZ (own_w hw 84 rfl)) (mvT hZ (own_w hw 86 rfl)) (by decide) (backOf (W := 1) (rmoi l Z a0 hw [] a1 y h1 n0 O1 E_a1 F_a1_value g_a1) hZ (own_w hw 86 rfl) (own_w hw 75 rfl) (by decide) (by decide)) (g := (mkF m 8 #[.val (.ref y)] [(.ref y), (.ref a1), (.ref a1)])) rfl (by rw [hml]; rfl) (Steps.refl _) (a := a1) (argsL := [(.ref y)]) (rest := [(.ref a1)]) (lenOf pdof_1 rfl) rfl (by show 2 * 0 + _ ≤ _; exact Nat.le_of_eq rfl) (hb hby dof_8) (fun _ _ => ⟨rfl, e2, (by decide : 1 + 0 ≤ _), (by decide : 1 + 0 ≤ _)⟩)
    dsimp only [Pt.U, Pt.locs, Pt.cells, Pt.slots] at X3 l3 y3 z3 st3 hQ3
    subst y3 z3
    obtain ⟨rfl, Nc3, Kc3, NE, NV⟩ := hQ3
    have N3 : Fr n0 L3 := by rw [l3]; exact Fr.app N2 Nc3
    have O3 := O1.keep Kc3 (allS g_a1 all0)
    have K3 := K1.trans Kc3 (allS (Or.inr sz_a1) all0)
    have E_a1 := NE
    have F_a1_value := NV
    refine Go.tr st3 ?_
    show Go p e below s _ _ _ (T3.setTop (mkF m 11 #[.val (.ref y)] [(.ref a1)]))
    exact Go.ret X3 hlk (some (.ref a1)) (fun h => by rw [Bd.returns] at h; cases h) (by exact ⟨a1, rfl, N3, K3, g_a1, sz_a1, E_a1, F_a1_value⟩) (by decide) (by decide) (fun fs hr => retOut X3 hx Bd.returns rfl (Or.inr (Or.inr (Or.inr (Or.inr ⟨rfl, rfl, rfl⟩)))) (hb hby dof_11) hr)
  obtain ⟨s2, o2, st2, r2⟩ := G
  exact ⟨s2, o2, castTop (efof m y) st2, r2⟩
theorem doe_0 : decode jdk_32_method_1_code 0 = .ok (.getstatic 1, 3) := by decide +kernel
theorem doe_3 : decode jdk_32_method_1_code 3 = .ok (.astore_n 0, 1) := by decide +kernel
theorem doe_4 : decode jdk_32_method_1_code 4 = .ok (.aload_n 0, 1) := by decide +kernel
theorem doe_5 : decode jdk_32_method_1_code 5 = .ok (.areturn, 1) := by decide +kernel
theorem pnoe : plainName "java/util/Optional" = true := by first | (simp [plainName, overriddenIn]; done) | decide +kernel
theorem efoe (m : MethodId)  : entryFrame m #[] 1 = mkF m 0 #[.unset] [] := by first | (simp [entryFrame, mkF, argsToLocals, Value.category, maxLocals]; done) | rfl
def Qoe (Z : State) (oe : Addr) (h0 : Heap) (n0 : Nat) (v : Option Value) (h : Heap) (L : List Loc) : Prop := v = some (.ref oe) ∧ Fr n0 L ∧ h = h0
set_option maxRecDepth 65536 in
set_option maxHeartbeats 40000000 in
theorem rmoe (l : Launch) (Z : State) (a0 : Array Value) (hw : ∀ d ∈ tables_1, d.before a0 Z = true) (ws : List Jvm.Cond) (oe : Addr) (h0 : Heap) (n0 : Nat) (O0 : Old Z n0 h0) (SO : Sta Z Z.heap "java/util/Optional" "EMPTY" "Ljava/util/Optional;" (.ref oe)) :
    MetFree l (⟨"java/util/Optional", "empty", "()Ljava/util/Optional;"⟩ : MethodName) (head1 (Jvm.Cond.code (⟨"java/util/Optional", "empty", "()Ljava/util/Optional;"⟩ : MethodName) jdk_32_method_1_code 1 (some (.object "java/util/Optional")) :: ws) ({ frames := 0, cells := 0, slots := 0, locals := 0 } : Room)) (fun A_ U_ => A_ = #[] ∧ Z.Warmed39 U_.vm ∧ U_.heap = h0) (fun _ _ _ _ _ => True) (fun _ U o U' => ∃ v L, o = .returned v ∧ Qoe Z oe h0 n0 v U'.heap L ∧ FrameEnd U o U' L ({ frames := 0, cells := 0, slots := 0, locals := 0 } : Room).cells ({ frames := 0, cells := 0, slots := 0, locals := 0 } : Room).slots) := by
  refine MetFree.of_bodySF (plainFor_of_name pnoe) hisR ?_
  intro p e s m args below meth cd s₁ Bd hml0 hP hK
  obtain ⟨rfl, hZ, hh⟩ := hP
  have hx := Bd.exec
  have hby := Bd.bytes
  have hlk : meth.locks = false := BodyLoose.notSynchronized Bd
  have hml : cd.maxLocals = 1 := hml0
  have hown : s.vm.findClass "java/util/Optional" = some m.cls := findClass_of_methodNamed Bd.named
  have hnm := (name_of_methodNamed Bd.named Bd.method).1
  have X0 : Stand p l e ({ frames := 0, cells := 0, slots := 0, locals := 0 } : Room) s m #[] below meth cd s₁ [] 0 0 := Stand.of_body Bd
  have e0 : s₁.heap = h0 := by rw [← hh, Bd.state]; rfl
  have N0 := Fr.nil n0
  have G : Go p e below s 0 0 (Qoe Z oe h0 n0) (s₁.setTop (mkF m 0 #[.unset] [])) := by
    show Go p e below s _ _ _ (s₁.setTop (mkF m 0 #[.unset] []))
    obtain ⟨T1, X1, e1, st1⟩ := getS X0 hx hZ hown (host := "") (own_w hw 112 rfl) Via.refl e0 (SO.ext O0.2) (g := (mkF m 0 #[.unset] [])) rfl (hb hby doe_0)
    refine Go.st st1 ?_
    show Go p e below s _ _ _ (T1.setTop (mkF m 3 #[.unset] [(.ref oe)]))
    refine Go.st (fun _ kq_ => XS.astoreN X1.here hx rfl (hb hby doe_3) rfl rfl (l' := #[.val (.ref oe)]) rfl kq_) ?_
    show Go p e below s _ _ _ (T1.setTop (mkF m 4 #[.val (.ref oe)] []))
    refine Go.st (fun _ kq_ => XS.aloadN X1.here hx rfl (hb hby doe_4) rfl rfl kq_) ?_
    show Go p e below s _ _ _ (T1.setTop (mkF m 5 #[.val (.ref oe)] [(.ref oe)]))
    exact Go.ret X1 hlk (some (.ref oe)) (fun h => by rw [Bd.returns] at h; cases h) (by rw [e1]; exact ⟨rfl, N0, rfl⟩) (by decide) (by decide) (fun fs hr => retOut X1 hx Bd.returns rfl (Or.inr (Or.inr (Or.inr (Or.inr ⟨rfl, rfl, rfl⟩)))) (hb hby doe_5) hr)
  obtain ⟨s2, o2, st2, r2⟩ := G
  exact ⟨s2, o2, castTop (efoe m ) st2, r2⟩
theorem dp1_0 : decode jdk_32_method_6_code 0 = .ok (.aload_n 0, 1) := by decide +kernel
theorem dp1_1 : decode jdk_32_method_6_code 1 = .ok (.getfield 13, 3) := by decide +kernel
theorem dp1_4 : decode jdk_32_method_6_code 4 = .ok (.ifnull 7, 3) := by decide +kernel
theorem dp1_7 : decode jdk_32_method_6_code 7 = .ok (.iconst 1, 1) := by decide +kernel
theorem dp1_8 : decode jdk_32_method_6_code 8 = .ok (.goto 4, 3) := by decide +kernel
theorem dp1_12 : decode jdk_32_method_6_code 12 = .ok (.ireturn, 1) := by decide +kernel
theorem pnp1 : plainName "java/util/Optional" = true := by first | (simp [plainName, overriddenIn]; done) | decide +kernel
theorem efp1 (m : MethodId) (x0 : Addr) : entryFrame m #[(.ref x0)] 1 = mkF m 0 #[.val (.ref x0)] [] := by first | (simp [entryFrame, mkF, argsToLocals, Value.category, maxLocals]; done) | rfl
def Qp1 (Z : State) (a : Addr) (y : Addr) (h0 : Heap) (n0 : Nat) (v : Option Value) (h : Heap) (L : List Loc) : Prop := v = some (.int (1 : Int32)) ∧ Fr n0 L ∧ h = h0
set_option maxRecDepth 65536 in
set_option maxHeartbeats 40000000 in
theorem rmp1 (l : Launch) (Z : State) (a0 : Array Value) (hw : ∀ d ∈ tables_1, d.before a0 Z = true) (ws : List Jvm.Cond) (a : Addr) (y : Addr) (h0 : Heap) (n0 : Nat) (O0 : Old Z n0 h0) (F_a_value : Fld Z h0 a "java/util/Optional" "value" "Ljava/lang/Object;" (.ref y)) :
    MetFree l (⟨"java/util/Optional", "isPresent", "()Z"⟩ : MethodName) (head1 (Jvm.Cond.code (⟨"java/util/Optional", "isPresent", "()Z"⟩ : MethodName) jdk_32_method_6_code 1 (some .boolean) :: ws) ({ frames := 0, cells := 0, slots := 0, locals := 0 } : Room)) (fun A_ U_ => A_ = #[(.ref a)] ∧ Z.Warmed39 U_.vm ∧ U_.heap = h0) (fun _ _ _ _ _ => True) (fun _ U o U' => ∃ v L, o = .returned v ∧ Qp1 Z a y h0 n0 v U'.heap L ∧ FrameEnd U o U' L ({ frames := 0, cells := 0, slots := 0, locals := 0 } : Room).cells ({ frames := 0, cells := 0, slots := 0, locals := 0 } : Room).slots) := by
  refine MetFree.of_bodySF (plainFor_of_name pnp1) hisR ?_
  intro p e s m args below meth cd s₁ Bd hml0 hP hK
  obtain ⟨rfl, hZ, hh⟩ := hP
  have hx := Bd.exec
  have hby := Bd.bytes
  have hlk : meth.locks = false := BodyLoose.notSynchronized Bd
  have hml : cd.maxLocals = 1 := hml0
  have hown : s.vm.findClass "java/util/Optional" = some m.cls := findClass_of_methodNamed Bd.named
  have hnm := (name_of_methodNamed Bd.named Bd.method).1
  have X0 : Stand p l e ({ frames := 0, cells := 0, slots := 0, locals := 0 } : Room) s m #[(.ref a)] below meth cd s₁ [] 0 0 := Stand.of_body Bd
  have e0 : s₁.heap = h0 := by rw [← hh, Bd.state]; rfl
  have N0 := Fr.nil n0
  have G : Go p e below s 0 0 (Qp1 Z a y h0 n0) (s₁.setTop (mkF m 0 #[.val (.ref a)] [])) := by
    show Go p e below s _ _ _ (s₁.setTop (mkF m 0 #[.val (.ref a)] []))
    refine Go.st (fun _ kq_ => XS.aloadN X0.here hx rfl (hb hby dp1_0) rfl rfl kq_) ?_
    show Go p e below s _ _ _ (s₁.setTop (mkF m 1 #[.val (.ref a)] [(.ref a)]))
    obtain ⟨T1, X1, e1, st1⟩ := getF X0 hx hZ hown (host := "") (Or.inl (own_w hw 88 rfl)) Via.refl e0 F_a_value (g := (mkF m 1 #[.val (.ref a)] [(.ref a)])) rfl rfl (hb hby dp1_1)
    refine Go.st st1 ?_
    show Go p e below s _ _ _ (T1.setTop (mkF m 4 #[.val (.ref a)] [(.ref y)]))
    refine Go.st (fun _ kq_ => XS.ifnullNo X1.here hx rfl (hb hby dp1_4) rfl kq_) ?_
    show Go p e below s _ _ _ (T1.setTop (mkF m 7 #[.val (.ref a)] []))
    refine Go.st (fun _ kq_ => XS.iconst X1.here hx rfl (hb hby dp1_7) kq_) ?_
    show Go p e below s _ _ _ (T1.setTop (mkF m 8 #[.val (.ref a)] [(.int (1 : Int32))]))
    refine Go.st (fun _ kq_ => XS.goto X1.here hx rfl (pc0 := 8) (pc' := 12) rfl (hb hby dp1_8) (by decide) (by decide) kq_) ?_
    show Go p e below s _ _ _ (T1.setTop (mkF m 12 #[.val (.ref a)] [(.int (1 : Int32))]))
    exact Go.ret X1 hlk (some (.int (nar .boolean (1 : Int32)))) (fun h => by rw [Bd.returns] at h; cases h) (by rw [e1]; exact ⟨rfl, N0, rfl⟩) (by decide) (by decide) (fun fs hr => retN X1 hx (t := .boolean) Bd.returns (by simp) (hb hby dp1_12) hr)
  obtain ⟨s2, o2, st2, r2⟩ := G
  exact ⟨s2, o2, castTop (efp1 m a) st2, r2⟩
theorem dp0_0 : decode jdk_32_method_6_code 0 = .ok (.aload_n 0, 1) := by decide +kernel
theorem dp0_1 : decode jdk_32_method_6_code 1 = .ok (.getfield 13, 3) := by decide +kernel
theorem dp0_4 : decode jdk_32_method_6_code 4 = .ok (.ifnull 7, 3) := by decide +kernel
theorem dp0_11 : decode jdk_32_method_6_code 11 = .ok (.iconst 0, 1) := by decide +kernel
theorem dp0_12 : decode jdk_32_method_6_code 12 = .ok (.ireturn, 1) := by decide +kernel
theorem pnp0 : plainName "java/util/Optional" = true := by first | (simp [plainName, overriddenIn]; done) | decide +kernel
theorem efp0 (m : MethodId) (x0 : Addr) : entryFrame m #[(.ref x0)] 1 = mkF m 0 #[.val (.ref x0)] [] := by first | (simp [entryFrame, mkF, argsToLocals, Value.category, maxLocals]; done) | rfl
def Qp0 (Z : State) (a : Addr) (h0 : Heap) (n0 : Nat) (v : Option Value) (h : Heap) (L : List Loc) : Prop := v = some (.int (0 : Int32)) ∧ Fr n0 L ∧ h = h0
set_option maxRecDepth 65536 in
set_option maxHeartbeats 40000000 in
theorem rmp0 (l : Launch) (Z : State) (a0 : Array Value) (hw : ∀ d ∈ tables_1, d.before a0 Z = true) (ws : List Jvm.Cond) (a : Addr) (h0 : Heap) (n0 : Nat) (O0 : Old Z n0 h0) (F_a_value : Fld Z h0 a "java/util/Optional" "value" "Ljava/lang/Object;" .null) :
    MetFree l (⟨"java/util/Optional", "isPresent", "()Z"⟩ : MethodName) (head1 (Jvm.Cond.code (⟨"java/util/Optional", "isPresent", "()Z"⟩ : MethodName) jdk_32_method_6_code 1 (some .boolean) :: ws) ({ frames := 0, cells := 0, slots := 0, locals := 0 } : Room)) (fun A_ U_ => A_ = #[(.ref a)] ∧ Z.Warmed39 U_.vm ∧ U_.heap = h0) (fun _ _ _ _ _ => True) (fun _ U o U' => ∃ v L, o = .returned v ∧ Qp0 Z a h0 n0 v U'.heap L ∧ FrameEnd U o U' L ({ frames := 0, cells := 0, slots := 0, locals := 0 } : Room).cells ({ frames := 0, cells := 0, slots := 0, locals := 0 } : Room).slots) := by
  refine MetFree.of_bodySF (plainFor_of_name pnp0) hisR ?_
  intro p e s m args below meth cd s₁ Bd hml0 hP hK
  obtain ⟨rfl, hZ, hh⟩ := hP
  have hx := Bd.exec
  have hby := Bd.bytes
  have hlk : meth.locks = false := BodyLoose.notSynchronized Bd
  have hml : cd.maxLocals = 1 := hml0
  have hown : s.vm.findClass "java/util/Optional" = some m.cls := findClass_of_methodNamed Bd.named
  have hnm := (name_of_methodNamed Bd.named Bd.method).1
  have X0 : Stand p l e ({ frames := 0, cells := 0, slots := 0, locals := 0 } : Room) s m #[(.ref a)] below meth cd s₁ [] 0 0 := Stand.of_body Bd
  have e0 : s₁.heap = h0 := by rw [← hh, Bd.state]; rfl
  have N0 := Fr.nil n0
  have G : Go p e below s 0 0 (Qp0 Z a h0 n0) (s₁.setTop (mkF m 0 #[.val (.ref a)] [])) := by
    show Go p e below s _ _ _ (s₁.setTop (mkF m 0 #[.val (.ref a)] []))
    refine Go.st (fun _ kq_ => XS.aloadN X0.here hx rfl (hb hby dp0_0) rfl rfl kq_) ?_
    show Go p e below s _ _ _ (s₁.setTop (mkF m 1 #[.val (.ref a)] [(.ref a)]))
    obtain ⟨T1, X1, e1, st1⟩ := getF X0 hx hZ hown (host := "") (Or.inl (own_w hw 88 rfl)) Via.refl e0 F_a_value (g := (mkF m 1 #[.val (.ref a)] [(.ref a)])) rfl rfl (hb hby dp0_1)
    refine Go.st st1 ?_
    show Go p e below s _ _ _ (T1.setTop (mkF m 4 #[.val (.ref a)] [.null]))
    refine Go.st (fun _ kq_ => XS.ifnullYes X1.here hx rfl (pc0 := 4) (pc' := 11) rfl (hb hby dp0_4) rfl (by decide) (by decide) kq_) ?_
    show Go p e below s _ _ _ (T1.setTop (mkF m 11 #[.val (.ref a)] []))
    refine Go.st (fun _ kq_ => XS.iconst X1.here hx rfl (hb hby dp0_11) kq_) ?_
    show Go p e below s _ _ _ (T1.setTop (mkF m 12 #[.val (.ref a)] [(.int (0 : Int32))]))
    exact Go.ret X1 hlk (some (.int (nar .boolean (0 : Int32)))) (fun h => by rw [Bd.returns] at h; cases h) (by rw [e1]; exact ⟨rfl, N0, rfl⟩) (by decide) (by decide) (fun fs hr => retN X1 hx (t := .boolean) Bd.returns (by simp) (hb hby dp0_12) hr)
  obtain ⟨s2, o2, st2, r2⟩ := G
  exact ⟨s2, o2, castTop (efp0 m a) st2, r2⟩
theorem dg_0 : decode jdk_32_method_5_code 0 = .ok (.aload_n 0, 1) := by decide +kernel
theorem dg_1 : decode jdk_32_method_5_code 1 = .ok (.getfield 13, 3) := by decide +kernel
theorem dg_4 : decode jdk_32_method_5_code 4 = .ok (.ifnonnull 13, 3) := by decide +kernel
theorem dg_17 : decode jdk_32_method_5_code 17 = .ok (.aload_n 0, 1) := by decide +kernel
theorem dg_18 : decode jdk_32_method_5_code 18 = .ok (.getfield 13, 3) := by decide +kernel
theorem dg_21 : decode jdk_32_method_5_code 21 = .ok (.areturn, 1) := by decide +kernel
theorem png : plainName "java/util/Optional" = true := by first | (simp [plainName, overriddenIn]; done) | decide +kernel
theorem efg (m : MethodId) (x0 : Addr) : entryFrame m #[(.ref x0)] 1 = mkF m 0 #[.val (.ref x0)] [] := by first | (simp [entryFrame, mkF, argsToLocals, Value.category, maxLocals]; done) | rfl
def Qg (Z : State) (a : Addr) (y : Addr) (h0 : Heap) (n0 : Nat) (v : Option Value) (h : Heap) (L : List Loc) : Prop := v = some (.ref y) ∧ Fr n0 L ∧ h = h0
set_option maxRecDepth 65536 in
set_option maxHeartbeats 40000000 in
theorem rmg (l : Launch) (Z : State) (a0 : Array Value) (hw : ∀ d ∈ tables_1, d.before a0 Z = true) (ws : List Jvm.Cond) (a : Addr) (y : Addr) (h0 : Heap) (n0 : Nat) (O0 : Old Z n0 h0) (F_a_value : Fld Z h0 a "java/util/Optional" "value" "Ljava/lang/Object;" (.ref y)) :
    MetFree l (⟨"java/util/Optional", "get", "()Ljava/lang/Object;"⟩ : MethodName) (head1 (Jvm.Cond.code (⟨"java/util/Optional", "get", "()Ljava/lang/Object;"⟩ : MethodName) jdk_32_method_5_code 1 (some (.object "java/lang/Object")) :: ws) ({ frames := 0, cells := 0, slots := 0, locals := 0 } : Room)) (fun A_ U_ => A_ = #[(.ref a)] ∧ Z.Warmed39 U_.vm ∧ U_.heap = h0) (fun _ _ _ _ _ => True) (fun _ U o U' => ∃ v L, o = .returned v ∧ Qg Z a y h0 n0 v U'.heap L ∧ FrameEnd U o U' L ({ frames := 0, cells := 0, slots := 0, locals := 0 } : Room).cells ({ frames := 0, cells := 0, slots := 0, locals := 0 } : Room).slots) := by
  refine MetFree.of_bodySF (plainFor_of_name png) hisR ?_
  intro p e s m args below meth cd s₁ Bd hml0 hP hK
  obtain ⟨rfl, hZ, hh⟩ := hP
  have hx := Bd.exec
  have hby := Bd.bytes
  have hlk : meth.locks = false := BodyLoose.notSynchronized Bd
  have hml : cd.maxLocals = 1 := hml0
  have hown : s.vm.findClass "java/util/Optional" = some m.cls := findClass_of_methodNamed Bd.named
  have hnm := (name_of_methodNamed Bd.named Bd.method).1
  have X0 : Stand p l e ({ frames := 0, cells := 0, slots := 0, locals := 0 } : Room) s m #[(.ref a)] below meth cd s₁ [] 0 0 := Stand.of_body Bd
  have e0 : s₁.heap = h0 := by rw [← hh, Bd.state]; rfl
  have N0 := Fr.nil n0
  have G : Go p e below s 0 0 (Qg Z a y h0 n0) (s₁.setTop (mkF m 0 #[.val (.ref a)] [])) := by
    show Go p e below s _ _ _ (s₁.setTop (mkF m 0 #[.val (.ref a)] []))
    refine Go.st (fun _ kq_ => XS.aloadN X0.here hx rfl (hb hby dg_0) rfl rfl kq_) ?_
    show Go p e below s _ _ _ (s₁.setTop (mkF m 1 #[.val (.ref a)] [(.ref a)]))
    obtain ⟨T1, X1, e1, st1⟩ := getF X0 hx hZ hown (host := "") (Or.inl (own_w hw 88 rfl)) Via.refl e0 F_a_value (g := (mkF m 1 #[.val (.ref a)] [(.ref a)])) rfl rfl (hb hby dg_1)
    refine Go.st st1 ?_
    show Go p e below s _ _ _ (T1.setTop (mkF m 4 #[.val (.ref a)] [(.ref y)]))
    refine Go.st (fun _ kq_ => XT.ifnonnullYes X1.here hx rfl (pc0 := 4) (pc' := 17) rfl (hb hby dg_4) rfl (by decide) (by decide) kq_) ?_
    show Go p e below s _ _ _ (T1.setTop (mkF m 17 #[.val (.ref a)] []))
    refine Go.st (fun _ kq_ => XS.aloadN X1.here hx rfl (hb hby dg_17) rfl rfl kq_) ?_
    show Go p e below s _ _ _ (T1.setTop (mkF m 18 #[.val (.ref a)] [(.ref a)]))
    obtain ⟨T2, X2, e2, st2⟩ := getF X1 hx hZ hown (host := "") (Or.inl (own_w hw 88 rfl)) Via.refl e1 F_a_value (g := (mkF m 18 #[.val (.ref a)] [(.ref a)])) rfl rfl (hb hby dg_18)
    refine Go.st st2 ?_
    show Go p e below s _ _ _ (T2.setTop (mkF m 21 #[.val (.ref a)] [(.ref y)]))
    exact Go.ret X2 hlk (some (.ref y)) (fun h => by rw [Bd.returns] at h; cases h) (by rw [e2]; exact ⟨rfl, N0, rfl⟩) (by decide) (by decide) (fun fs hr => retOut X2 hx Bd.returns rfl (Or.inr (Or.inr (Or.inr (Or.inr ⟨rfl, rfl, rfl⟩)))) (hb hby dg_21) hr)
  obtain ⟨s2, o2, st2, r2⟩ := G
  exact ⟨s2, o2, castTop (efg m a) st2, r2⟩
theorem dj_0 : decode prog_21_method_4_code 0 = .ok (.aload_n 0, 1) := by decide +kernel
theorem dj_1 : decode prog_21_method_4_code 1 = .ok (.getfield 29, 3) := by decide +kernel
theorem dj_4 : decode prog_21_method_4_code 4 = .ok (.areturn, 1) := by decide +kernel
theorem pnj : plainName "com/example/rootward/rootward/model/Policy" = true := by first | (simp [plainName, overriddenIn]; done) | decide +kernel
theorem efj (m : MethodId) (x0 : Addr) : entryFrame m #[(.ref x0)] 1 = mkF m 0 #[.val (.ref x0)] [] := by first | (simp [entryFrame, mkF, argsToLocals, Value.category, maxLocals]; done) | rfl
def Qj (Z : State) (a : Addr) (t : Addr) (h0 : Heap) (n0 : Nat) (v : Option Value) (h : Heap) (L : List Loc) : Prop := v = some (.ref t) ∧ Fr n0 L ∧ h = h0
set_option maxRecDepth 65536 in
set_option maxHeartbeats 40000000 in
theorem rmj (l : Launch) (Z : State) (a0 : Array Value) (hw : ∀ d ∈ tables_1, d.before a0 Z = true) (ws : List Jvm.Cond) (a : Addr) (t : Addr) (h0 : Heap) (n0 : Nat) (O0 : Old Z n0 h0) (F : Fld Z h0 a "com/example/rootward/rootward/model/Policy" "jsonName" "Ljava/lang/String;" (.ref t)) :
    MetFree l (⟨"com/example/rootward/rootward/model/Policy", "jsonName", "()Ljava/lang/String;"⟩ : MethodName) (head1 (Jvm.Cond.code (⟨"com/example/rootward/rootward/model/Policy", "jsonName", "()Ljava/lang/String;"⟩ : MethodName) prog_21_method_4_code 1 (some (.object "java/lang/String")) :: ws) ({ frames := 0, cells := 0, slots := 0, locals := 0 } : Room)) (fun A_ U_ => A_ = #[(.ref a)] ∧ Z.Warmed39 U_.vm ∧ U_.heap = h0) (fun _ _ _ _ _ => True) (fun _ U o U' => ∃ v L, o = .returned v ∧ Qj Z a t h0 n0 v U'.heap L ∧ FrameEnd U o U' L ({ frames := 0, cells := 0, slots := 0, locals := 0 } : Room).cells ({ frames := 0, cells := 0, slots := 0, locals := 0 } : Room).slots) := by
  refine MetFree.of_bodySF (plainFor_of_name pnj) hisR ?_
  intro p e s m args below meth cd s₁ Bd hml0 hP hK
  obtain ⟨rfl, hZ, hh⟩ := hP
  have hx := Bd.exec
  have hby := Bd.bytes
  have hlk : meth.locks = false := BodyLoose.notSynchronized Bd
  have hml : cd.maxLocals = 1 := hml0
  have hown : s.vm.findClass "com/example/rootward/rootward/model/Policy" = some m.cls := findClass_of_methodNamed Bd.named
  have hnm := (name_of_methodNamed Bd.named Bd.method).1
  have X0 : Stand p l e ({ frames := 0, cells := 0, slots := 0, locals := 0 } : Room) s m #[(.ref a)] below meth cd s₁ [] 0 0 := Stand.of_body Bd
  have e0 : s₁.heap = h0 := by rw [← hh, Bd.state]; rfl
  have N0 := Fr.nil n0
  have G : Go p e below s 0 0 (Qj Z a t h0 n0) (s₁.setTop (mkF m 0 #[.val (.ref a)] [])) := by
    show Go p e below s _ _ _ (s₁.setTop (mkF m 0 #[.val (.ref a)] []))
    refine Go.st (fun _ kq_ => XS.aloadN X0.here hx rfl (hb hby dj_0) rfl rfl kq_) ?_
    show Go p e below s _ _ _ (s₁.setTop (mkF m 1 #[.val (.ref a)] [(.ref a)]))
    obtain ⟨T1, X1, e1, st1⟩ := getF X0 hx hZ hown (host := "") (Or.inl (own_w hw 70 rfl)) Via.refl e0 F (g := (mkF m 1 #[.val (.ref a)] [(.ref a)])) rfl rfl (hb hby dj_1)
    refine Go.st st1 ?_
    show Go p e below s _ _ _ (T1.setTop (mkF m 4 #[.val (.ref a)] [(.ref t)]))
    exact Go.ret X1 hlk (some (.ref t)) (fun h => by rw [Bd.returns] at h; cases h) (by rw [e1]; exact ⟨rfl, N0, rfl⟩) (by decide) (by decide) (fun fs hr => retOut X1 hx Bd.returns rfl (Or.inr (Or.inr (Or.inr (Or.inr ⟨rfl, rfl, rfl⟩)))) (hb hby dj_4) hr)
  obtain ⟨s2, o2, st2, r2⟩ := G
  exact ⟨s2, o2, castTop (efj m a) st2, r2⟩
theorem dq0_0 : decode jdk_42_method_66_code 0 = .ok (.aload_n 0, 1) := by decide +kernel
theorem dq0_1 : decode jdk_42_method_66_code 1 = .ok (.aload_n 1, 1) := by decide +kernel
theorem dq0_2 : decode jdk_42_method_66_code 2 = .ok (.if_acmp .ne 5, 3) := by decide +kernel
theorem dq0_7 : decode jdk_42_method_66_code 7 = .ok (.aload_n 1, 1) := by decide +kernel
theorem dq0_8 : decode jdk_42_method_66_code 8 = .ok (.instanceof 10, 3) := by decide +kernel
theorem dq0_11 : decode jdk_42_method_66_code 11 = .ok (.ifCond .eq 43, 3) := by decide +kernel
theorem dq0_54 : decode jdk_42_method_66_code 54 = .ok (.iconst 0, 1) := by decide +kernel
theorem dq0_55 : decode jdk_42_method_66_code 55 = .ok (.ireturn, 1) := by decide +kernel
theorem pnq0 : plainName "java/lang/String" = true := by first | (simp [plainName, overriddenIn]; done) | decide +kernel
theorem efq0 (m : MethodId) (x0 : Addr) : entryFrame m #[(.ref x0), .null] 3 = mkF m 0 #[.val (.ref x0), .val .null, .unset] [] := by first | (simp [entryFrame, mkF, argsToLocals, Value.category, maxLocals]; done) | rfl
def Qq0 (Z : State) (x : Addr) (h0 : Heap) (n0 : Nat) (v : Option Value) (h : Heap) (L : List Loc) : Prop := v = some (.int (0 : Int32)) ∧ Fr n0 L ∧ h = h0
set_option maxRecDepth 65536 in
set_option maxHeartbeats 40000000 in
theorem rmq0 (l : Launch) (Z : State) (a0 : Array Value) (hw : ∀ d ∈ tables_1, d.before a0 Z = true) (ws : List Jvm.Cond) (x : Addr) (h0 : Heap) (n0 : Nat) (O0 : Old Z n0 h0)  :
    MetFree l (⟨"java/lang/String", "equals", "(Ljava/lang/Object;)Z"⟩ : MethodName) (head1 (Jvm.Cond.code (⟨"java/lang/String", "equals", "(Ljava/lang/Object;)Z"⟩ : MethodName) jdk_42_method_66_code 3 (some .boolean) :: ws) ({ frames := 0, cells := 0, slots := 0, locals := 0 } : Room)) (fun A_ U_ => A_ = #[(.ref x), .null] ∧ Z.Warmed39 U_.vm ∧ U_.heap = h0) (fun _ _ _ _ _ => True) (fun _ U o U' => ∃ v L, o = .returned v ∧ Qq0 Z x h0 n0 v U'.heap L ∧ FrameEnd U o U' L ({ frames := 0, cells := 0, slots := 0, locals := 0 } : Room).cells ({ frames := 0, cells := 0, slots := 0, locals := 0 } : Room).slots) := by
  refine MetFree.of_bodySF (plainFor_of_name pnq0) hisR ?_
  intro p e s m args below meth cd s₁ Bd hml0 hP hK
  obtain ⟨rfl, hZ, hh⟩ := hP
  have hx := Bd.exec
  have hby := Bd.bytes
  have hlk : meth.locks = false := BodyLoose.notSynchronized Bd
  have hml : cd.maxLocals = 3 := hml0
  have hown : s.vm.findClass "java/lang/String" = some m.cls := findClass_of_methodNamed Bd.named
  have hnm := (name_of_methodNamed Bd.named Bd.method).1
  have X0 : Stand p l e ({ frames := 0, cells := 0, slots := 0, locals := 0 } : Room) s m #[(.ref x), .null] below meth cd s₁ [] 0 0 := Stand.of_body Bd
  have e0 : s₁.heap = h0 := by rw [← hh, Bd.state]; rfl
  have N0 := Fr.nil n0
  have G : Go p e below s 0 0 (Qq0 Z x h0 n0) (s₁.setTop (mkF m 0 #[.val (.ref x), .val .null, .unset] [])) := by
    show Go p e below s _ _ _ (s₁.setTop (mkF m 0 #[.val (.ref x), .val .null, .unset] []))
    refine Go.st (fun _ kq_ => XS.aloadN X0.here hx rfl (hb hby dq0_0) rfl rfl kq_) ?_
    show Go p e below s _ _ _ (s₁.setTop (mkF m 1 #[.val (.ref x), .val .null, .unset] [(.ref x)]))
    refine Go.st (fun _ kq_ => XS.aloadN X0.here hx rfl (hb hby dq0_1) rfl rfl kq_) ?_
    show Go p e below s _ _ _ (s₁.setTop (mkF m 2 #[.val (.ref x), .val .null, .unset] [.null, (.ref x)]))
    refine Go.st (fun _ kq_ => XT.acmpYes X0.here hx rfl (pc0 := 2) (pc' := 7) rfl (hb hby dq0_2) rfl rfl rfl (XT.aa_ne_t (fun q => by cases q)) (by decide) (by decide) kq_) ?_
    show Go p e below s _ _ _ (s₁.setTop (mkF m 7 #[.val (.ref x), .val .null, .unset] []))
    refine Go.st (fun _ kq_ => XS.aloadN X0.here hx rfl (hb hby dq0_7) rfl rfl kq_) ?_
    show Go p e below s _ _ _ (s₁.setTop (mkF m 8 #[.val (.ref x), .val .null, .unset] [.null]))
    refine Go.st (fun _ kq_ => Jvm.Stand.instanceofNull X0 hx (g := (mkF m 8 #[.val (.ref x), .val .null, .unset] [.null])) rfl rfl (hb hby dq0_8) _ kq_) ?_
    show Go p e below s _ _ _ (s₁.setTop (mkF m 11 #[.val (.ref x), .val .null, .unset] [(.int (0 : Int32))]))
    refine Go.st (fun _ kq_ => XS.ifYes X0.here hx rfl (pc0 := 11) (pc' := 54) rfl (hb hby dq0_11) rfl (by decide) (by decide) (by decide) kq_) ?_
    show Go p e below s _ _ _ (s₁.setTop (mkF m 54 #[.val (.ref x), .val .null, .unset] []))
    refine Go.st (fun _ kq_ => XS.iconst X0.here hx rfl (hb hby dq0_54) kq_) ?_
    show Go p e below s _ _ _ (s₁.setTop (mkF m 55 #[.val (.ref x), .val .null, .unset] [(.int (0 : Int32))]))
    exact Go.ret X0 hlk (some (.int (nar .boolean (0 : Int32)))) (fun h => by rw [Bd.returns] at h; cases h) (by rw [e0]; exact ⟨rfl, N0, rfl⟩) (by decide) (by decide) (fun fs hr => retN X0 hx (t := .boolean) Bd.returns (by simp) (hb hby dq0_55) hr)
  obtain ⟨s2, o2, st2, r2⟩ := G
  exact ⟨s2, o2, castTop (efq0 m x) st2, r2⟩
theorem dnS_0 : decode prog_21_method_5_code 0 = .ok (.invokestatic 33, 3) := by decide +kernel
theorem dnS_3 : decode prog_21_method_5_code 3 = .ok (.astore_n 1, 1) := by decide +kernel
theorem dnS_4 : decode prog_21_method_5_code 4 = .ok (.aload_n 1, 1) := by decide +kernel
theorem dnS_5 : decode prog_21_method_5_code 5 = .ok (.arraylength, 1) := by decide +kernel
theorem dnS_6 : decode prog_21_method_5_code 6 = .ok (.istore_n 2, 1) := by decide +kernel
theorem dnS_7 : decode prog_21_method_5_code 7 = .ok (.iconst 0, 1) := by decide +kernel
theorem dnS_8 : decode prog_21_method_5_code 8 = .ok (.istore_n 3, 1) := by decide +kernel
theorem dnS_9 : decode prog_21_method_5_code 9 = .ok (.iload_n 3, 1) := by decide +kernel
theorem dnS_10 : decode prog_21_method_5_code 10 = .ok (.iload_n 2, 1) := by decide +kernel
theorem dnS_11 : decode prog_21_method_5_code 11 = .ok (.if_icmp .ge 32, 3) := by decide +kernel
theorem dnS_14 : decode prog_21_method_5_code 14 = .ok (.aload_n 1, 1) := by decide +kernel
theorem dnS_15 : decode prog_21_method_5_code 15 = .ok (.iload_n 3, 1) := by decide +kernel
theorem dnS_16 : decode prog_21_method_5_code 16 = .ok (.aaload, 1) := by decide +kernel
theorem dnS_17 : decode prog_21_method_5_code 17 = .ok (.astore 4, 2) := by decide +kernel
theorem dnS_19 : decode prog_21_method_5_code 19 = .ok (.aload 4, 2) := by decide +kernel
theorem dnS_21 : decode prog_21_method_5_code 21 = .ok (.getfield 29, 3) := by decide +kernel
theorem dnS_24 : decode prog_21_method_5_code 24 = .ok (.aload_n 0, 1) := by decide +kernel
theorem dnS_25 : decode prog_21_method_5_code 25 = .ok (.invokevirtual 37, 3) := by decide +kernel
theorem dnS_28 : decode prog_21_method_5_code 28 = .ok (.ifCond .eq 9, 3) := by decide +kernel
theorem dnS_31 : decode prog_21_method_5_code 31 = .ok (.aload 4, 2) := by decide +kernel
theorem dnS_33 : decode prog_21_method_5_code 33 = .ok (.invokestatic 43, 3) := by decide +kernel
theorem dnS_36 : decode prog_21_method_5_code 36 = .ok (.areturn, 1) := by decide +kernel
theorem pdnS_0 : parseMethodDescriptor "()[Lcom/example/rootward/rootward/model/Policy;" = some ⟨[], some (.array (.object "com/example/rootward/rootward/model/Policy"))⟩ := by decide +kernel
theorem pdnS_1 : parseMethodDescriptor "(Ljava/lang/Object;)Z" = some ⟨[(.object "java/lang/Object")], some .boolean⟩ := by decide +kernel
theorem pdnS_2 : parseMethodDescriptor "(Ljava/lang/Object;)Ljava/util/Optional;" = some ⟨[(.object "java/lang/Object")], some (.object "java/util/Optional")⟩ := by decide +kernel
theorem pnnS : plainName "com/example/rootward/rootward/model/Policy" = true := by first | (simp [plainName, overriddenIn]; done) | decide +kernel
theorem efnS (m : MethodId) (x0 : Addr) : entryFrame m #[(.ref x0)] 5 = mkF m 0 #[.val (.ref x0), .unset, .unset, .unset, .unset] [] := by first | (simp [entryFrame, mkF, argsToLocals, Value.category, maxLocals]; done) | rfl
def QnS (Z : State) (x : Addr) (t : Addr) (kt : ClassId) (N : Int32) (vs : List Value) (cs : List Int32) (sg : Addr) (mu : Addr) (va : Addr) (ts : Addr) (ys : Addr) (tm : Addr) (ym : Addr) (oe : Addr) (kv : ClassId) (ks : ClassId) (km : ClassId) (zc : Int32) (h0 : Heap) (n0 : Nat) (v : Option Value) (h : Heap) (L : List Loc) : Prop := ∃ r : Addr, v = some (.ref r) ∧ Fr n0 L ∧ Keep h0 h [] ∧ n0 ≤ r ∧ h0.size ≤ r ∧ Exa Z h r "java/util/Optional" ∧ Fld Z h r "java/util/Optional" "value" "Ljava/lang/Object;" (.ref sg)
set_option maxRecDepth 65536 in
set_option maxHeartbeats 40000000 in
theorem rmnS (l : Launch) (Z : State) (a0 : Array Value) (hw : ∀ d ∈ tables_1, d.before a0 Z = true) (ws : List Jvm.Cond) (x : Addr) (t : Addr) (kt : ClassId) (N : Int32) (vs : List Value) (cs : List Int32) (sg : Addr) (mu : Addr) (va : Addr) (ts : Addr) (ys : Addr) (tm : Addr) (ym : Addr) (oe : Addr) (kv : ClassId) (ks : ClassId) (km : ClassId) (zc : Int32) (h0 : Heap) (n0 : Nat) (O0 : Old Z n0 h0) (E_x : Exa Z h0 x "java/lang/String") (F_x_coder : Fld Z h0 x "java/lang/String" "coder" "B" (.int (0 : Int32))) (F_x_value : Fld Z h0 x "java/lang/String" "value" "[B" (.ref t)) (V_t : Arv Z h0 t kt .byte N vs (.int (0 : Int32))) (hcX : StrChars.Road.CodA cs 0 N vs) (hbX : ∀ c ∈ cs, ¬ c < 0 ∧ ¬ (65535 : Int32) < c) (hlX : cs.length ≤ 4000) (EV : Exa Z Z.heap va "[Lcom/example/rootward/rootward/model/Policy;") (VV : Arv Z Z.heap va kv (.object "com/example/rootward/rootward/model/Policy") (2 : Int32) [(.ref sg), (.ref mu)] .null) (E_sg : Exa Z Z.heap sg "com/example/rootward/rootward/model/Policy") (J_sg : Fld Z Z.heap sg "com/example/rootward/rootward/model/Policy" "jsonName" "Ljava/lang/String;" (.ref ts)) (E_ts : Exa Z Z.heap ts "java/lang/String") (F_ts_coder : Fld Z Z.heap ts "java/lang/String" "coder" "B" (.int (0 : Int32))) (F_ts_value : Fld Z Z.heap ts "java/lang/String" "value" "[B" (.ref ys)) (V_ys : Arv Z Z.heap ys ks .byte (6 : Int32) [(.int (115 : Int32)), (.int (105 : Int32)), (.int (110 : Int32)), (.int (103 : Int32)), (.int (108 : Int32)), (.int (101 : Int32))] (.int (0 : Int32))) (E_mu : Exa Z Z.heap mu "com/example/rootward/rootward/model/Policy") (J_mu : Fld Z Z.heap mu "com/example/rootward/rootward/model/Policy" "jsonName" "Ljava/lang/String;" (.ref tm)) (E_tm : Exa Z Z.heap tm "java/lang/String") (F_tm_coder : Fld Z Z.heap tm "java/lang/String" "coder" "B" (.int (0 : Int32))) (F_tm_value : Fld Z Z.heap tm "java/lang/String" "value" "[B" (.ref ym)) (V_ym : Arv Z Z.heap ym km .byte (8 : Int32) [(.int (109 : Int32)), (.int (117 : Int32)), (.int (108 : Int32)), (.int (116 : Int32)), (.int (105 : Int32)), (.int (112 : Int32)), (.int (108 : Int32)), (.int (101 : Int32))] (.int (0 : Int32))) (SV : Sta Z Z.heap "com/example/rootward/rootward/model/Policy" "$VALUES" "[Lcom/example/rootward/rootward/model/Policy;" (.ref va)) (SO : Sta Z Z.heap "java/util/Optional" "EMPTY" "Ljava/util/Optional;" (.ref oe)) (SC : Sta Z Z.heap "java/lang/String" "COMPACT_STRINGS" "Z" (.int zc)) (hcs : ¬ zc = 0) (hP : cs = ([(115 : Int32), (105 : Int32), (110 : Int32), (103 : Int32), (108 : Int32), (101 : Int32)] : List Int32)) :
    MetFree l (⟨"com/example/rootward/rootward/model/Policy", "named", "(Ljava/lang/String;)Ljava/util/Optional;"⟩ : MethodName) (head1 (Jvm.Cond.code (⟨"com/example/rootward/rootward/model/Policy", "named", "(Ljava/lang/String;)Ljava/util/Optional;"⟩ : MethodName) prog_21_method_5_code 5 (some (.object "java/util/Optional")) :: ws) ({ frames := 3, cells := 2, slots := 3, locals := 38 } : Room)) (fun A_ U_ => A_ = #[(.ref x)] ∧ Z.Warmed39 U_.vm ∧ U_.heap = h0) (fun _ _ _ _ _ => True) (fun _ U o U' => ∃ v L, o = .returned v ∧ QnS Z x t kt N vs cs sg mu va ts ys tm ym oe kv ks km zc h0 n0 v U'.heap L ∧ FrameEnd U o U' L ({ frames := 3, cells := 2, slots := 3, locals := 38 } : Room).cells ({ frames := 3, cells := 2, slots := 3, locals := 38 } : Room).slots) := by
  refine MetFree.of_bodySF (plainFor_of_name pnnS) hisR ?_
  intro p e s m args below meth cd s₁ Bd hml0 hP hK
  obtain ⟨rfl, hZ, hh⟩ := hP
  have hx := Bd.exec
  have hby := Bd.bytes
  have hlk : meth.locks = false := BodyLoose.notSynchronized Bd
  have hml : cd.maxLocals = 5 := hml0
  have hown : s.vm.findClass "com/example/rootward/rootward/model/Policy" = some m.cls := findClass_of_methodNamed Bd.named
  have hnm := (name_of_methodNamed Bd.named Bd.method).1
  have X0 : Stand p l e ({ frames := 3, cells := 2, slots := 3, locals := 38 } : Room) s m #[(.ref x)] below meth cd s₁ [] 0 0 := Stand.of_body Bd
  have e0 : s₁.heap = h0 := by rw [← hh, Bd.state]; rfl
  have N0 := Fr.nil n0
  have K0 : Keep h0 h0 [] := Keep.refl _ _
  have heq : ∀ d ∈ StrChars.Road.wordsEq, d.before a0 Z = true := fun d hd => hw d ((by decide +kernel : ∀ d ∈ StrChars.Road.wordsEq, d ∈ tables_1) d hd)
  have G : Go p e below s 2 3 (QnS Z x t kt N vs cs sg mu va ts ys tm ym oe kv ks km zc h0 n0) (s₁.setTop (mkF m 0 #[.val (.ref x), .unset, .unset, .unset, .unset] [])) := by
    show Go p e below s _ _ _ (s₁.setTop (mkF m 0 #[.val (.ref x), .unset, .unset, .unset, .unset] []))
    obtain ⟨_, _, ⟨T1, L1, k1, n1⟩, -, X1, ⟨Lc1, hQ1, l1, y1, z1⟩, st1⟩ := Jvm.LawKit.callS X0 hx (y := (⟨"com/example/rootward/rootward/model/Policy", "values", "()[Lcom/example/rootward/rootward/model/Policy;"⟩ : MethodName)) hown (mvT hZ (own_w hw 54 rfl)) (mvT hZ (own_w hw 55 rfl)) (mvT hZ (own_w hw 49 rfl)) (mvT hZ (own_w hw 56 rfl)) (by decide) (backOf (W := 0) (rmv l Z a0 hw [] va kv sg mu h0 n0 O0 EV VV SV) hZ (own_w hw 56 rfl) (own_w hw 49 rfl) (by decide) (by decide)) (g := (mkF m 0 #[.val (.ref x), .unset, .unset, .unset, .unset] [])) rfl (by rw [hml]; rfl) (argsL := []) (rest := []) (lenOf pdnS_0 rfl) rfl (by show 2 * 0 + _ ≤ _; exact Nat.le_of_eq rfl) (hb hby dnS_0) (fun _ _ => ⟨rfl, e0, (by decide : 0 + 1 ≤ _), (by decide : 0 + 2 ≤ _)⟩)
    dsimp only [Pt.U, Pt.locs, Pt.cells, Pt.slots] at X1 l1 y1 z1 st1 hQ1
    subst y1 z1
    obtain ⟨q1, kq1, rfl, Nc1, Kc1, gq1, szq1, NV⟩ := hQ1
    have N1 : Fr n0 L1 := by rw [l1]; exact Fr.app N0 Nc1
    have g_q1 : n0 ≤ q1 := gq1
    have sz_q1 : h0.size ≤ q1 := Nat.le_trans K0.1 szq1
    have ne_x_q1 : x ≠ q1 := Nat.ne_of_lt (Nat.lt_of_lt_of_le E_x.lt szq1)
    have ne_t_q1 : t ≠ q1 := Nat.ne_of_lt (Nat.lt_of_lt_of_le V_t.lt szq1)
    have E_x := E_x.keep Kc1
    have F_x_coder := F_x_coder.keep Kc1 nin0
    have F_x_value := F_x_value.keep Kc1 nin0
    have V_t := V_t.keep Kc1 nin0
    have O1 := O0.keep Kc1 all0
    have K1 := K0.trans Kc1 all0
    have V_q1 := NV
    refine Go.st st1 ?_
    show Go p e below s _ _ _ (T1.setTop (mkF m 3 #[.val (.ref x), .unset, .unset, .unset, .unset] [(.ref q1)]))
    refine Go.st (fun _ kq_ => XS.astoreN X1.here hx rfl (hb hby dnS_3) rfl rfl (l' := #[.val (.ref x), .val (.ref q1), .unset, .unset, .unset]) rfl kq_) ?_
    show Go p e below s _ _ _ (T1.setTop (mkF m 4 #[.val (.ref x), .val (.ref q1), .unset, .unset, .unset] []))
    refine Go.st (fun _ kq_ => XS.aloadN X1.here hx rfl (hb hby dnS_4) rfl rfl kq_) ?_
    show Go p e below s _ _ _ (T1.setTop (mkF m 5 #[.val (.ref x), .val (.ref q1), .unset, .unset, .unset] [(.ref q1)]))
    refine Go.st (fun _ kq_ => own_len X1 hx hZ rfl V_q1 (g := (mkF m 5 #[.val (.ref x), .val (.ref q1), .unset, .unset, .unset] [(.ref q1)])) rfl rfl (hb hby dnS_5) _ kq_) ?_
    show Go p e below s _ _ _ (T1.setTop (mkF m 6 #[.val (.ref x), .val (.ref q1), .unset, .unset, .unset] [(.int (2 : Int32))]))
    refine Go.st (fun _ kq_ => XS.istoreN X1.here hx rfl (hb hby dnS_6) rfl (l' := #[.val (.ref x), .val (.ref q1), .val (.int (2 : Int32)), .unset, .unset]) rfl kq_) ?_
    show Go p e below s _ _ _ (T1.setTop (mkF m 7 #[.val (.ref x), .val (.ref q1), .val (.int (2 : Int32)), .unset, .unset] []))
    refine Go.st (fun _ kq_ => XS.iconst X1.here hx rfl (hb hby dnS_7) kq_) ?_
    show Go p e below s _ _ _ (T1.setTop (mkF m 8 #[.val (.ref x), .val (.ref q1), .val (.int (2 : Int32)), .unset, .unset] [(.int (0 : Int32))]))
    refine Go.st (fun _ kq_ => XS.istoreN X1.here hx rfl (hb hby dnS_8) rfl (l' := #[.val (.ref x), .val (.ref q1), .val (.int (2 : Int32)), .val (.int (0 : Int32)), .unset]) rfl kq_) ?_
    show Go p e below s _ _ _ (T1.setTop (mkF m 9 #[.val (.ref x), .val (.ref q1), .val (.int (2 : Int32)), .val (.int (0 : Int32)), .unset] []))
    refine Go.st (fun _ kq_ => XS.iloadN X1.here hx rfl (hb hby dnS_9) rfl kq_) ?_
    show Go p e below s _ _ _ (T1.setTop (mkF m 10 #[.val (.ref x), .val (.ref q1), .val (.int (2 : Int32)), .val (.int (0 : Int32)), .unset] [(.int (0 : Int32))]))
    refine Go.st (fun _ kq_ => XS.iloadN X1.here hx rfl (hb hby dnS_10) rfl kq_) ?_
    show Go p e below s _ _ _ (T1.setTop (mkF m 11 #[.val (.ref x), .val (.ref q1), .val (.int (2 : Int32)), .val (.int (0 : Int32)), .unset] [(.int (2 : Int32)), (.int (0 : Int32))]))
    refine Go.st (fun _ kq_ => XS.icmpNo X1.here hx rfl (hb hby dnS_11) rfl (by decide) kq_) ?_
    show Go p e below s _ _ _ (T1.setTop (mkF m 14 #[.val (.ref x), .val (.ref q1), .val (.int (2 : Int32)), .val (.int (0 : Int32)), .unset] []))
    refine Go.st (fun _ kq_ => XS.aloadN X1.here hx rfl (hb hby dnS_14) rfl rfl kq_) ?_
    show Go p e below s _ _ _ (T1.setTop (mkF m 15 #[.val (.ref x), .val (.ref q1), .val (.int (2 : Int32)), .val (.int (0 : Int32)), .unset] [(.ref q1)]))
    refine Go.st (fun _ kq_ => XS.iloadN X1.here hx rfl (hb hby dnS_15) rfl kq_) ?_
    show Go p e below s _ _ _ (T1.setTop (mkF m 16 #[.val (.ref x), .val (.ref q1), .val (.int (2 : Int32)), .val (.int (0 : Int32)), .unset] [(.int (0 : Int32)), (.ref q1)]))
    refine Go.st (fun _ kq_ => own_aaload X1 hx hZ rfl V_q1 rfl (by decide) (by decide) (v := (.ref sg)) rfl (g := (mkF m 16 #[.val (.ref x), .val (.ref q1), .val (.int (2 : Int32)), .val (.int (0 : Int32)), .unset] [(.int (0 : Int32)), (.ref q1)])) rfl rfl (hb hby dnS_16) _ kq_) ?_
    show Go p e below s _ _ _ (T1.setTop (mkF m 17 #[.val (.ref x), .val (.ref q1), .val (.int (2 : Int32)), .val (.int (0 : Int32)), .unset] [(.ref sg)]))
    refine Go.st (fun _ kq_ => XS.astore X1.here hx rfl (hb hby dnS_17) rfl rfl (l' := #[.val (.ref x), .val (.ref q1), .val (.int (2 : Int32)), .val (.int (0 : Int32)), .val (.ref sg)]) rfl kq_) ?_
    show Go p e below s _ _ _ (T1.setTop (mkF m 19 #[.val (.ref x), .val (.ref q1), .val (.int (2 : Int32)), .val (.int (0 : Int32)), .val (.ref sg)] []))
    refine Go.st (fun _ kq_ => XS.aload X1.here hx rfl (hb hby dnS_19) rfl rfl kq_) ?_
    show Go p e below s _ _ _ (T1.setTop (mkF m 21 #[.val (.ref x), .val (.ref q1), .val (.int (2 : Int32)), .val (.int (0 : Int32)), .val (.ref sg)] [(.ref sg)]))
    obtain ⟨T2, X2, e2, st2⟩ := getF X1 hx hZ hown (host := "") (Or.inl (own_w hw 70 rfl)) Via.refl rfl (J_sg.ext O1.2) (g := (mkF m 21 #[.val (.ref x), .val (.ref q1), .val (.int (2 : Int32)), .val (.int (0 : Int32)), .val (.ref sg)] [(.ref sg)])) rfl rfl (hb hby dnS_21)
    refine Go.st st2 ?_
    show Go p e below s _ _ _ (T2.setTop (mkF m 24 #[.val (.ref x), .val (.ref q1), .val (.int (2 : Int32)), .val (.int (0 : Int32)), .val (.ref sg)] [(.ref ts)]))
    refine Go.st (fun _ kq_ => XS.aloadN X2.here hx rfl (hb hby dnS_24) rfl rfl kq_) ?_
    show Go p e below s _ _ _ (T2.setTop (mkF m 25 #[.val (.ref x), .val (.ref q1), .val (.int (2 : Int32)), .val (.int (0 : Int32)), .val (.ref sg)] [(.ref x), (.ref ts)]))
    obtain ⟨cq3, kq3, qa3, qb3, qc3⟩ := isOf hZ e2 (E_ts.ext O1.2)
    obtain ⟨_, _, ⟨T3, L3, k3, n3⟩, -, X3, ⟨Lc3, hQ3, l3, y3, z3⟩, st3⟩ := X2.virtualBack hx (y := (⟨"java/lang/String", "equals", "(Ljava/lang/Object;)Z"⟩ : MethodName)) (z := (⟨"java/lang/String", "equals", "(Ljava/lang/Object;)Z"⟩ : MethodName)) hown (mvT hZ (own_w hw 72 rfl)) (mvT hZ (own_w hw 39 rfl)) (notFace_of_selects (args := #[]) (mvT hZ (own_w hw 41 rfl))) (mvT hZ (own_w hw 41 rfl)) (mvT hZ (own_w hw 40 rfl)) (by decide) (StrChars.Road.eqW (W := 0) hZ heq (kI := 4) (own_w hw 7 rfl) (cs := ([(115 : Int32), (105 : Int32), (110 : Int32), (103 : Int32), (108 : Int32), (101 : Int32)] : List Int32)) (ds := cs) (E_ts.ext O1.2) (F_ts_value.ext O1.2) (F_ts_coder.ext O1.2) (V_ys.ext O1.2) own_codS own_bS (by decide) E_x F_x_value F_x_coder V_t hcX hbX hlX (SC.ext O1.2) hcs (by decide) (by decide)) qa3 qc3 (g := (mkF m 25 #[.val (.ref x), .val (.ref q1), .val (.int (2 : Int32)), .val (.int (0 : Int32)), .val (.ref sg)] [(.ref x), (.ref ts)])) rfl (by rw [hml]; rfl) (Steps.refl _) (argsL := [(.ref x)]) (rest := []) (lenOf pdnS_1 rfl) rfl (by show 2 * 0 + _ ≤ _; exact Nat.le_of_eq rfl) (hb hby dnS_25) (fun _ _ => ⟨rfl, e2, (by decide : 1 + 0 ≤ _), (by decide : 2 + 0 ≤ _)⟩)
    dsimp only [Pt.U, Pt.locs, Pt.cells, Pt.slots] at X3 l3 y3 z3 st3 hQ3
    subst y3 z3
    obtain ⟨hz3, el3, e3⟩ := hQ3
    obtain ⟨zq3, rfl, hzq3⟩ := own_zz hz3
    have Nc3 : Fr n0 Lc3 := by rw [el3]; exact Fr.nil n0
    have N3 : Fr n0 L3 := by rw [l3]; exact Fr.app N1 Nc3
    refine Go.tr st3 ?_
    show Go p e below s _ _ _ (T3.setTop (mkF m 28 #[.val (.ref x), .val (.ref q1), .val (.int (2 : Int32)), .val (.int (0 : Int32)), .val (.ref sg)] [(.int zq3)]))
    refine Go.st (fun _ kq_ => XS.ifNo X3.here hx rfl (hb hby dnS_28) rfl (XT.i0_eq_f (own_zp hzq3 hP.symm)) kq_) ?_
    show Go p e below s _ _ _ (T3.setTop (mkF m 31 #[.val (.ref x), .val (.ref q1), .val (.int (2 : Int32)), .val (.int (0 : Int32)), .val (.ref sg)] []))
    refine Go.st (fun _ kq_ => XS.aload X3.here hx rfl (hb hby dnS_31) rfl rfl kq_) ?_
    show Go p e below s _ _ _ (T3.setTop (mkF m 33 #[.val (.ref x), .val (.ref q1), .val (.int (2 : Int32)), .val (.int (0 : Int32)), .val (.ref sg)] [(.ref sg)]))
    obtain ⟨_, _, ⟨T4, L4, k4, n4⟩, -, X4, ⟨Lc4, hQ4, l4, y4, z4⟩, st4⟩ := Jvm.LawKit.callS X3 hx (y := (⟨"java/util/Optional", "of", "(Ljava/lang/Object;)Ljava/util/Optional;"⟩ : MethodName)) hown (mvT hZ (own_w hw 73 rfl)) (mvT hZ (own_w hw 74 rfl)) (mvT hZ (own_w hw 75 rfl)) (mvT hZ (own_w hw 76 rfl)) (by decide) (backOf (W := 0) (rmof l Z a0 hw [] sg T1.heap n0 O1 ) hZ (own_w hw 76 rfl) (own_w hw 75 rfl) (by decide) (by decide)) (g := (mkF m 33 #[.val (.ref x), .val (.ref q1), .val (.int (2 : Int32)), .val (.int (0 : Int32)), .val (.ref sg)] [(.ref sg)])) rfl (by rw [hml]; rfl) (argsL := [(.ref sg)]) (rest := []) (lenOf pdnS_2 rfl) rfl (by show 2 * 0 + _ ≤ _; exact Nat.le_of_eq rfl) (hb hby dnS_33) (fun _ _ => ⟨rfl, e3, (by decide : 1 + 1 ≤ _), (by decide : 2 + 1 ≤ _)⟩)
    dsimp only [Pt.U, Pt.locs, Pt.cells, Pt.slots] at X4 l4 y4 z4 st4 hQ4
    subst y4 z4
    obtain ⟨r4, rfl, Nc4, Kc4, gr4, szr4, NE, NV⟩ := hQ4
    have N4 : Fr n0 L4 := by rw [l4]; exact Fr.app N3 Nc4
    have g_r4 : n0 ≤ r4 := gr4
    have sz_r4 : h0.size ≤ r4 := Nat.le_trans K1.1 szr4
    have ne_x_r4 : x ≠ r4 := Nat.ne_of_lt (Nat.lt_of_lt_of_le E_x.lt szr4)
    have ne_t_r4 : t ≠ r4 := Nat.ne_of_lt (Nat.lt_of_lt_of_le V_t.lt szr4)
    have ne_q1_r4 : q1 ≠ r4 := Nat.ne_of_lt (Nat.lt_of_lt_of_le V_q1.lt szr4)
    have E_x := E_x.keep Kc4
    have F_x_coder := F_x_coder.keep Kc4 nin0
    have F_x_value := F_x_value.keep Kc4 nin0
    have V_t := V_t.keep Kc4 nin0
    have V_q1 := V_q1.keep Kc4 nin0
    have O4 := O1.keep Kc4 all0
    have K4 := K1.trans Kc4 all0
    have E_r4 := NE
    have F_r4_value := NV
    refine Go.st st4 ?_
    show Go p e below s _ _ _ (T4.setTop (mkF m 36 #[.val (.ref x), .val (.ref q1), .val (.int (2 : Int32)), .val (.int (0 : Int32)), .val (.ref sg)] [(.ref r4)]))
    exact Go.ret X4 hlk (some (.ref r4)) (fun h => by rw [Bd.returns] at h; cases h) (by exact ⟨r4, rfl, N4, K4, g_r4, sz_r4, E_r4, F_r4_value⟩) (by decide) (by decide) (fun fs hr => retOut X4 hx Bd.returns rfl (Or.inr (Or.inr (Or.inr (Or.inr ⟨rfl, rfl, rfl⟩)))) (hb hby dnS_36) hr)
  obtain ⟨s2, o2, st2, r2⟩ := G
  exact ⟨s2, o2, castTop (efnS m x) st2, r2⟩
theorem dnM_0 : decode prog_21_method_5_code 0 = .ok (.invokestatic 33, 3) := by decide +kernel
theorem dnM_3 : decode prog_21_method_5_code 3 = .ok (.astore_n 1, 1) := by decide +kernel
theorem dnM_4 : decode prog_21_method_5_code 4 = .ok (.aload_n 1, 1) := by decide +kernel
theorem dnM_5 : decode prog_21_method_5_code 5 = .ok (.arraylength, 1) := by decide +kernel
theorem dnM_6 : decode prog_21_method_5_code 6 = .ok (.istore_n 2, 1) := by decide +kernel
theorem dnM_7 : decode prog_21_method_5_code 7 = .ok (.iconst 0, 1) := by decide +kernel
theorem dnM_8 : decode prog_21_method_5_code 8 = .ok (.istore_n 3, 1) := by decide +kernel
theorem dnM_9 : decode prog_21_method_5_code 9 = .ok (.iload_n 3, 1) := by decide +kernel
theorem dnM_10 : decode prog_21_method_5_code 10 = .ok (.iload_n 2, 1) := by decide +kernel
theorem dnM_11 : decode prog_21_method_5_code 11 = .ok (.if_icmp .ge 32, 3) := by decide +kernel
theorem dnM_14 : decode prog_21_method_5_code 14 = .ok (.aload_n 1, 1) := by decide +kernel
theorem dnM_15 : decode prog_21_method_5_code 15 = .ok (.iload_n 3, 1) := by decide +kernel
theorem dnM_16 : decode prog_21_method_5_code 16 = .ok (.aaload, 1) := by decide +kernel
theorem dnM_17 : decode prog_21_method_5_code 17 = .ok (.astore 4, 2) := by decide +kernel
theorem dnM_19 : decode prog_21_method_5_code 19 = .ok (.aload 4, 2) := by decide +kernel
theorem dnM_21 : decode prog_21_method_5_code 21 = .ok (.getfield 29, 3) := by decide +kernel
theorem dnM_24 : decode prog_21_method_5_code 24 = .ok (.aload_n 0, 1) := by decide +kernel
theorem dnM_25 : decode prog_21_method_5_code 25 = .ok (.invokevirtual 37, 3) := by decide +kernel
theorem dnM_28 : decode prog_21_method_5_code 28 = .ok (.ifCond .eq 9, 3) := by decide +kernel
theorem dnM_31 : decode prog_21_method_5_code 31 = .ok (.aload 4, 2) := by decide +kernel
theorem dnM_33 : decode prog_21_method_5_code 33 = .ok (.invokestatic 43, 3) := by decide +kernel
theorem dnM_36 : decode prog_21_method_5_code 36 = .ok (.areturn, 1) := by decide +kernel
theorem dnM_37 : decode prog_21_method_5_code 37 = .ok (.iinc 3 1, 3) := by decide +kernel
theorem dnM_40 : decode prog_21_method_5_code 40 = .ok (.goto (-31), 3) := by decide +kernel
theorem pdnM_0 : parseMethodDescriptor "()[Lcom/example/rootward/rootward/model/Policy;" = some ⟨[], some (.array (.object "com/example/rootward/rootward/model/Policy"))⟩ := by decide +kernel
theorem pdnM_1 : parseMethodDescriptor "(Ljava/lang/Object;)Z" = some ⟨[(.object "java/lang/Object")], some .boolean⟩ := by decide +kernel
theorem pdnM_2 : parseMethodDescriptor "(Ljava/lang/Object;)Ljava/util/Optional;" = some ⟨[(.object "java/lang/Object")], some (.object "java/util/Optional")⟩ := by decide +kernel
theorem pnnM : plainName "com/example/rootward/rootward/model/Policy" = true := by first | (simp [plainName, overriddenIn]; done) | decide +kernel
theorem efnM (m : MethodId) (x0 : Addr) : entryFrame m #[(.ref x0)] 5 = mkF m 0 #[.val (.ref x0), .unset, .unset, .unset, .unset] [] := by first | (simp [entryFrame, mkF, argsToLocals, Value.category, maxLocals]; done) | rfl
def QnM (Z : State) (x : Addr) (t : Addr) (kt : ClassId) (N : Int32) (vs : List Value) (cs : List Int32) (sg : Addr) (mu : Addr) (va : Addr) (ts : Addr) (ys : Addr) (tm : Addr) (ym : Addr) (oe : Addr) (kv : ClassId) (ks : ClassId) (km : ClassId) (zc : Int32) (h0 : Heap) (n0 : Nat) (v : Option Value) (h : Heap) (L : List Loc) : Prop := ∃ r : Addr, v = some (.ref r) ∧ Fr n0 L ∧ Keep h0 h [] ∧ n0 ≤ r ∧ h0.size ≤ r ∧ Exa Z h r "java/util/Optional" ∧ Fld Z h r "java/util/Optional" "value" "Ljava/lang/Object;" (.ref mu)
set_option maxRecDepth 65536 in
set_option maxHeartbeats 40000000 in
theorem rmnM (l : Launch) (Z : State) (a0 : Array Value) (hw : ∀ d ∈ tables_1, d.before a0 Z = true) (ws : List Jvm.Cond) (x : Addr) (t : Addr) (kt : ClassId) (N : Int32) (vs : List Value) (cs : List Int32) (sg : Addr) (mu : Addr) (va : Addr) (ts : Addr) (ys : Addr) (tm : Addr) (ym : Addr) (oe : Addr) (kv : ClassId) (ks : ClassId) (km : ClassId) (zc : Int32) (h0 : Heap) (n0 : Nat) (O0 : Old Z n0 h0) (E_x : Exa Z h0 x "java/lang/String") (F_x_coder : Fld Z h0 x "java/lang/String" "coder" "B" (.int (0 : Int32))) (F_x_value : Fld Z h0 x "java/lang/String" "value" "[B" (.ref t)) (V_t : Arv Z h0 t kt .byte N vs (.int (0 : Int32))) (hcX : StrChars.Road.CodA cs 0 N vs) (hbX : ∀ c ∈ cs, ¬ c < 0 ∧ ¬ (65535 : Int32) < c) (hlX : cs.length ≤ 4000) (EV : Exa Z Z.heap va "[Lcom/example/rootward/rootward/model/Policy;") (VV : Arv Z Z.heap va kv (.object "com/example/rootward/rootward/model/Policy") (2 : Int32) [(.ref sg), (.ref mu)] .null) (E_sg : Exa Z Z.heap sg "com/example/rootward/rootward/model/Policy") (J_sg : Fld Z Z.heap sg "com/example/rootward/rootward/model/Policy" "jsonName" "Ljava/lang/String;" (.ref ts)) (E_ts : Exa Z Z.heap ts "java/lang/String") (F_ts_coder : Fld Z Z.heap ts "java/lang/String" "coder" "B" (.int (0 : Int32))) (F_ts_value : Fld Z Z.heap ts "java/lang/String" "value" "[B" (.ref ys)) (V_ys : Arv Z Z.heap ys ks .byte (6 : Int32) [(.int (115 : Int32)), (.int (105 : Int32)), (.int (110 : Int32)), (.int (103 : Int32)), (.int (108 : Int32)), (.int (101 : Int32))] (.int (0 : Int32))) (E_mu : Exa Z Z.heap mu "com/example/rootward/rootward/model/Policy") (J_mu : Fld Z Z.heap mu "com/example/rootward/rootward/model/Policy" "jsonName" "Ljava/lang/String;" (.ref tm)) (E_tm : Exa Z Z.heap tm "java/lang/String") (F_tm_coder : Fld Z Z.heap tm "java/lang/String" "coder" "B" (.int (0 : Int32))) (F_tm_value : Fld Z Z.heap tm "java/lang/String" "value" "[B" (.ref ym)) (V_ym : Arv Z Z.heap ym km .byte (8 : Int32) [(.int (109 : Int32)), (.int (117 : Int32)), (.int (108 : Int32)), (.int (116 : Int32)), (.int (105 : Int32)), (.int (112 : Int32)), (.int (108 : Int32)), (.int (101 : Int32))] (.int (0 : Int32))) (SV : Sta Z Z.heap "com/example/rootward/rootward/model/Policy" "$VALUES" "[Lcom/example/rootward/rootward/model/Policy;" (.ref va)) (SO : Sta Z Z.heap "java/util/Optional" "EMPTY" "Ljava/util/Optional;" (.ref oe)) (SC : Sta Z Z.heap "java/lang/String" "COMPACT_STRINGS" "Z" (.int zc)) (hcs : ¬ zc = 0) (hP : cs = ([(109 : Int32), (117 : Int32), (108 : Int32), (116 : Int32), (105 : Int32), (112 : Int32), (108 : Int32), (101 : Int32)] : List Int32)) :
    MetFree l (⟨"com/example/rootward/rootward/model/Policy", "named", "(Ljava/lang/String;)Ljava/util/Optional;"⟩ : MethodName) (head1 (Jvm.Cond.code (⟨"com/example/rootward/rootward/model/Policy", "named", "(Ljava/lang/String;)Ljava/util/Optional;"⟩ : MethodName) prog_21_method_5_code 5 (some (.object "java/util/Optional")) :: ws) ({ frames := 3, cells := 2, slots := 3, locals := 38 } : Room)) (fun A_ U_ => A_ = #[(.ref x)] ∧ Z.Warmed39 U_.vm ∧ U_.heap = h0) (fun _ _ _ _ _ => True) (fun _ U o U' => ∃ v L, o = .returned v ∧ QnM Z x t kt N vs cs sg mu va ts ys tm ym oe kv ks km zc h0 n0 v U'.heap L ∧ FrameEnd U o U' L ({ frames := 3, cells := 2, slots := 3, locals := 38 } : Room).cells ({ frames := 3, cells := 2, slots := 3, locals := 38 } : Room).slots) := by
  refine MetFree.of_bodySF (plainFor_of_name pnnM) hisR ?_
  intro p e s m args below meth cd s₁ Bd hml0 hP hK
  obtain ⟨rfl, hZ, hh⟩ := hP
  have hx := Bd.exec
  have hby := Bd.bytes
  have hlk : meth.locks = false := BodyLoose.notSynchronized Bd
  have hml : cd.maxLocals = 5 := hml0
  have hown : s.vm.findClass "com/example/rootward/rootward/model/Policy" = some m.cls := findClass_of_methodNamed Bd.named
  have hnm := (name_of_methodNamed Bd.named Bd.method).1
  have X0 : Stand p l e ({ frames := 3, cells := 2, slots := 3, locals := 38 } : Room) s m #[(.ref x)] below meth cd s₁ [] 0 0 := Stand.of_body Bd
  have e0 : s₁.heap = h0 := by rw [← hh, Bd.state]; rfl
  have N0 := Fr.nil n0
  have K0 : Keep h0 h0 [] := Keep.refl _ _
  have heq : ∀ d ∈ StrChars.Road.wordsEq, d.before a0 Z = true := fun d hd => hw d ((by decide +kernel : ∀ d ∈ StrChars.Road.wordsEq, d ∈ tables_1) d hd)
  have G : Go p e below s 2 3 (QnM Z x t kt N vs cs sg mu va ts ys tm ym oe kv ks km zc h0 n0) (s₁.setTop (mkF m 0 #[.val (.ref x), .unset, .unset, .unset, .unset] [])) := by
    show Go p e below s _ _ _ (s₁.setTop (mkF m 0 #[.val (.ref x), .unset, .unset, .unset, .unset] []))
    obtain ⟨_, _, ⟨T1, L1, k1, n1⟩, -, X1, ⟨Lc1, hQ1, l1, y1, z1⟩, st1⟩ := Jvm.LawKit.callS X0 hx (y := (⟨"com/example/rootward/rootward/model/Policy", "values", "()[Lcom/example/rootward/rootward/model/Policy;"⟩ : MethodName)) hown (mvT hZ (own_w hw 54 rfl)) (mvT hZ (own_w hw 55 rfl)) (mvT hZ (own_w hw 49 rfl)) (mvT hZ (own_w hw 56 rfl)) (by decide) (backOf (W := 0) (rmv l Z a0 hw [] va kv sg mu h0 n0 O0 EV VV SV) hZ (own_w hw 56 rfl) (own_w hw 49 rfl) (by decide) (by decide)) (g := (mkF m 0 #[.val (.ref x), .unset, .unset, .unset, .unset] [])) rfl (by rw [hml]; rfl) (argsL := []) (rest := []) (lenOf pdnM_0 rfl) rfl (by show 2 * 0 + _ ≤ _; exact Nat.le_of_eq rfl) (hb hby dnM_0) (fun _ _ => ⟨rfl, e0, (by decide : 0 + 1 ≤ _), (by decide : 0 + 2 ≤ _)⟩)
    dsimp only [Pt.U, Pt.locs, Pt.cells, Pt.slots] at X1 l1 y1 z1 st1 hQ1
    subst y1 z1
    obtain ⟨q1, kq1, rfl, Nc1, Kc1, gq1, szq1, NV⟩ := hQ1
    have N1 : Fr n0 L1 := by rw [l1]; exact Fr.app N0 Nc1
    have g_q1 : n0 ≤ q1 := gq1
    have sz_q1 : h0.size ≤ q1 := Nat.le_trans K0.1 szq1
    have ne_x_q1 : x ≠ q1 := Nat.ne_of_lt (Nat.lt_of_lt_of_le E_x.lt szq1)
    have ne_t_q1 : t ≠ q1 := Nat.ne_of_lt (Nat.lt_of_lt_of_le V_t.lt szq1)
    have E_x := E_x.keep Kc1
    have F_x_coder := F_x_coder.keep Kc1 nin0
    have F_x_value := F_x_value.keep Kc1 nin0
    have V_t := V_t.keep Kc1 nin0
    have O1 := O0.keep Kc1 all0
    have K1 := K0.trans Kc1 all0
    have V_q1 := NV
    refine Go.st st1 ?_
    show Go p e below s _ _ _ (T1.setTop (mkF m 3 #[.val (.ref x), .unset, .unset, .unset, .unset] [(.ref q1)]))
    refine Go.st (fun _ kq_ => XS.astoreN X1.here hx rfl (hb hby dnM_3) rfl rfl (l' := #[.val (.ref x), .val (.ref q1), .unset, .unset, .unset]) rfl kq_) ?_
    show Go p e below s _ _ _ (T1.setTop (mkF m 4 #[.val (.ref x), .val (.ref q1), .unset, .unset, .unset] []))
    refine Go.st (fun _ kq_ => XS.aloadN X1.here hx rfl (hb hby dnM_4) rfl rfl kq_) ?_
    show Go p e below s _ _ _ (T1.setTop (mkF m 5 #[.val (.ref x), .val (.ref q1), .unset, .unset, .unset] [(.ref q1)]))
    refine Go.st (fun _ kq_ => own_len X1 hx hZ rfl V_q1 (g := (mkF m 5 #[.val (.ref x), .val (.ref q1), .unset, .unset, .unset] [(.ref q1)])) rfl rfl (hb hby dnM_5) _ kq_) ?_
    show Go p e below s _ _ _ (T1.setTop (mkF m 6 #[.val (.ref x), .val (.ref q1), .unset, .unset, .unset] [(.int (2 : Int32))]))
    refine Go.st (fun _ kq_ => XS.istoreN X1.here hx rfl (hb hby dnM_6) rfl (l' := #[.val (.ref x), .val (.ref q1), .val (.int (2 : Int32)), .unset, .unset]) rfl kq_) ?_
    show Go p e below s _ _ _ (T1.setTop (mkF m 7 #[.val (.ref x), .val (.ref q1), .val (.int (2 : Int32)), .unset, .unset] []))
    refine Go.st (fun _ kq_ => XS.iconst X1.here hx rfl (hb hby dnM_7) kq_) ?_
    show Go p e below s _ _ _ (T1.setTop (mkF m 8 #[.val (.ref x), .val (.ref q1), .val (.int (2 : Int32)), .unset, .unset] [(.int (0 : Int32))]))
    refine Go.st (fun _ kq_ => XS.istoreN X1.here hx rfl (hb hby dnM_8) rfl (l' := #[.val (.ref x), .val (.ref q1), .val (.int (2 : Int32)), .val (.int (0 : Int32)), .unset]) rfl kq_) ?_
    show Go p e below s _ _ _ (T1.setTop (mkF m 9 #[.val (.ref x), .val (.ref q1), .val (.int (2 : Int32)), .val (.int (0 : Int32)), .unset] []))
    refine Go.st (fun _ kq_ => XS.iloadN X1.here hx rfl (hb hby dnM_9) rfl kq_) ?_
    show Go p e below s _ _ _ (T1.setTop (mkF m 10 #[.val (.ref x), .val (.ref q1), .val (.int (2 : Int32)), .val (.int (0 : Int32)), .unset] [(.int (0 : Int32))]))
    refine Go.st (fun _ kq_ => XS.iloadN X1.here hx rfl (hb hby dnM_10) rfl kq_) ?_
    show Go p e below s _ _ _ (T1.setTop (mkF m 11 #[.val (.ref x), .val (.ref q1), .val (.int (2 : Int32)), .val (.int (0 : Int32)), .unset] [(.int (2 : Int32)), (.int (0 : Int32))]))
    refine Go.st (fun _ kq_ => XS.icmpNo X1.here hx rfl (hb hby dnM_11) rfl (by decide) kq_) ?_
    show Go p e below s _ _ _ (T1.setTop (mkF m 14 #[.val (.ref x), .val (.ref q1), .val (.int (2 : Int32)), .val (.int (0 : Int32)), .unset] []))
    refine Go.st (fun _ kq_ => XS.aloadN X1.here hx rfl (hb hby dnM_14) rfl rfl kq_) ?_
    show Go p e below s _ _ _ (T1.setTop (mkF m 15 #[.val (.ref x), .val (.ref q1), .val (.int (2 : Int32)), .val (.int (0 : Int32)), .unset] [(.ref q1)]))
    refine Go.st (fun _ kq_ => XS.iloadN X1.here hx rfl (hb hby dnM_15) rfl kq_) ?_
    show Go p e below s _ _ _ (T1.setTop (mkF m 16 #[.val (.ref x), .val (.ref q1), .val (.int (2 : Int32)), .val (.int (0 : Int32)), .unset] [(.int (0 : Int32)), (.ref q1)]))
    refine Go.st (fun _ kq_ => own_aaload X1 hx hZ rfl V_q1 rfl (by decide) (by decide) (v := (.ref sg)) rfl (g := (mkF m 16 #[.val (.ref x), .val (.ref q1), .val (.int (2 : Int32)), .val (.int (0 : Int32)), .unset] [(.int (0 : Int32)), (.ref q1)])) rfl rfl (hb hby dnM_16) _ kq_) ?_
    show Go p e below s _ _ _ (T1.setTop (mkF m 17 #[.val (.ref x), .val (.ref q1), .val (.int (2 : Int32)), .val (.int (0 : Int32)), .unset] [(.ref sg)]))
    refine Go.st (fun _ kq_ => XS.astore X1.here hx rfl (hb hby dnM_17) rfl rfl (l' := #[.val (.ref x), .val (.ref q1), .val (.int (2 : Int32)), .val (.int (0 : Int32)), .val (.ref sg)]) rfl kq_) ?_
    show Go p e below s _ _ _ (T1.setTop (mkF m 19 #[.val (.ref x), .val (.ref q1), .val (.int (2 : Int32)), .val (.int (0 : Int32)), .val (.ref sg)] []))
    refine Go.st (fun _ kq_ => XS.aload X1.here hx rfl (hb hby dnM_19) rfl rfl kq_) ?_
    show Go p e below s _ _ _ (T1.setTop (mkF m 21 #[.val (.ref x), .val (.ref q1), .val (.int (2 : Int32)), .val (.int (0 : Int32)), .val (.ref sg)] [(.ref sg)]))
    obtain ⟨T2, X2, e2, st2⟩ := getF X1 hx hZ hown (host := "") (Or.inl (own_w hw 70 rfl)) Via.refl rfl (J_sg.ext O1.2) (g := (mkF m 21 #[.val (.ref x), .val (.ref q1), .val (.int (2 : Int32)), .val (.int (0 : Int32)), .val (.ref sg)] [(.ref sg)])) rfl rfl (hb hby dnM_21)
    refine Go.st st2 ?_
    show Go p e below s _ _ _ (T2.setTop (mkF m 24 #[.val (.ref x), .val (.ref q1), .val (.int (2 : Int32)), .val (.int (0 : Int32)), .val (.ref sg)] [(.ref ts)]))
    refine Go.st (fun _ kq_ => XS.aloadN X2.here hx rfl (hb hby dnM_24) rfl rfl kq_) ?_
    show Go p e below s _ _ _ (T2.setTop (mkF m 25 #[.val (.ref x), .val (.ref q1), .val (.int (2 : Int32)), .val (.int (0 : Int32)), .val (.ref sg)] [(.ref x), (.ref ts)]))
    obtain ⟨cq3, kq3, qa3, qb3, qc3⟩ := isOf hZ e2 (E_ts.ext O1.2)
    obtain ⟨_, _, ⟨T3, L3, k3, n3⟩, -, X3, ⟨Lc3, hQ3, l3, y3, z3⟩, st3⟩ := X2.virtualBack hx (y := (⟨"java/lang/String", "equals", "(Ljava/lang/Object;)Z"⟩ : MethodName)) (z := (⟨"java/lang/String", "equals", "(Ljava/lang/Object;)Z"⟩ : MethodName)) hown (mvT hZ (own_w hw 72 rfl)) (mvT hZ (own_w hw 39 rfl)) (notFace_of_selects (args := #[]) (mvT hZ (own_w hw 41 rfl))) (mvT hZ (own_w hw 41 rfl)) (mvT hZ (own_w hw 40 rfl)) (by decide) (StrChars.Road.eqW (W := 0) hZ heq (kI := 4) (own_w hw 7 rfl) (cs := ([(115 : Int32), (105 : Int32), (110 : Int32), (103 : Int32), (108 : Int32), (101 : Int32)] : List Int32)) (ds := cs) (E_ts.ext O1.2) (F_ts_value.ext O1.2) (F_ts_coder.ext O1.2) (V_ys.ext O1.2) own_codS own_bS (by decide) E_x F_x_value F_x_coder V_t hcX hbX hlX (SC.ext O1.2) hcs (by decide) (by decide)) qa3 qc3 (g := (mkF m 25 #[.val (.ref x), .val (.ref q1), .val (.int (2 : Int32)), .val (.int (0 : Int32)), .val (.ref sg)] [(.ref x), (.ref ts)])) rfl (by rw [hml]; rfl) (Steps.refl _) (argsL := [(.ref x)]) (rest := []) (lenOf pdnM_1 rfl) rfl (by show 2 * 0 + _ ≤ _; exact Nat.le_of_eq rfl) (hb hby dnM_25) (fun _ _ => ⟨rfl, e2, (by decide : 1 + 0 ≤ _), (by decide : 2 + 0 ≤ _)⟩)
    dsimp only [Pt.U, Pt.locs, Pt.cells, Pt.slots] at X3 l3 y3 z3 st3 hQ3
    subst y3 z3
    obtain ⟨hz3, el3, e3⟩ := hQ3
    obtain ⟨zq3, rfl, hzq3⟩ := own_zz hz3
    have Nc3 : Fr n0 Lc3 := by rw [el3]; exact Fr.nil n0
    have N3 : Fr n0 L3 := by rw [l3]; exact Fr.app N1 Nc3
    refine Go.tr st3 ?_
    show Go p e below s _ _ _ (T3.setTop (mkF m 28 #[.val (.ref x), .val (.ref q1), .val (.int (2 : Int32)), .val (.int (0 : Int32)), .val (.ref sg)] [(.int zq3)]))
    refine Go.st (fun _ kq_ => XS.ifYes X3.here hx rfl (pc0 := 28) (pc' := 37) rfl (hb hby dnM_28) rfl (XT.i0_eq_t (own_zn hzq3 (fun q => own_smne (q.trans hP)))) (by decide) (by decide) kq_) ?_
    show Go p e below s _ _ _ (T3.setTop (mkF m 37 #[.val (.ref x), .val (.ref q1), .val (.int (2 : Int32)), .val (.int (0 : Int32)), .val (.ref sg)] []))
    refine Go.st (fun _ kq_ => XT.iincV X3.here hx rfl (1 : Int32) (hb hby dnM_37) rfl rfl (l' := #[.val (.ref x), .val (.ref q1), .val (.int (2 : Int32)), .val (.int (1 : Int32)), .val (.ref sg)]) rfl kq_) ?_
    show Go p e below s _ _ _ (T3.setTop (mkF m 40 #[.val (.ref x), .val (.ref q1), .val (.int (2 : Int32)), .val (.int (1 : Int32)), .val (.ref sg)] []))
    refine Go.st (fun _ kq_ => XS.goto X3.here hx rfl (pc0 := 40) (pc' := 9) rfl (hb hby dnM_40) (by decide) (by decide) kq_) ?_
    show Go p e below s _ _ _ (T3.setTop (mkF m 9 #[.val (.ref x), .val (.ref q1), .val (.int (2 : Int32)), .val (.int (1 : Int32)), .val (.ref sg)] []))
    refine Go.st (fun _ kq_ => XS.iloadN X3.here hx rfl (hb hby dnM_9) rfl kq_) ?_
    show Go p e below s _ _ _ (T3.setTop (mkF m 10 #[.val (.ref x), .val (.ref q1), .val (.int (2 : Int32)), .val (.int (1 : Int32)), .val (.ref sg)] [(.int (1 : Int32))]))
    refine Go.st (fun _ kq_ => XS.iloadN X3.here hx rfl (hb hby dnM_10) rfl kq_) ?_
    show Go p e below s _ _ _ (T3.setTop (mkF m 11 #[.val (.ref x), .val (.ref q1), .val (.int (2 : Int32)), .val (.int (1 : Int32)), .val (.ref sg)] [(.int (2 : Int32)), (.int (1 : Int32))]))
    refine Go.st (fun _ kq_ => XS.icmpNo X3.here hx rfl (hb hby dnM_11) rfl (by decide) kq_) ?_
    show Go p e below s _ _ _ (T3.setTop (mkF m 14 #[.val (.ref x), .val (.ref q1), .val (.int (2 : Int32)), .val (.int (1 : Int32)), .val (.ref sg)] []))
    refine Go.st (fun _ kq_ => XS.aloadN X3.here hx rfl (hb hby dnM_14) rfl rfl kq_) ?_
    show Go p e below s _ _ _ (T3.setTop (mkF m 15 #[.val (.ref x), .val (.ref q1), .val (.int (2 : Int32)), .val (.int (1 : Int32)), .val (.ref sg)] [(.ref q1)]))
    refine Go.st (fun _ kq_ => XS.iloadN X3.here hx rfl (hb hby dnM_15) rfl kq_) ?_
    show Go p e below s _ _ _ (T3.setTop (mkF m 16 #[.val (.ref x), .val (.ref q1), .val (.int (2 : Int32)), .val (.int (1 : Int32)), .val (.ref sg)] [(.int (1 : Int32)), (.ref q1)]))
    refine Go.st (fun _ kq_ => own_aaload X3 hx hZ e3 V_q1 rfl (by decide) (by decide) (v := (.ref mu)) rfl (g := (mkF m 16 #[.val (.ref x), .val (.ref q1), .val (.int (2 : Int32)), .val (.int (1 : Int32)), .val (.ref sg)] [(.int (1 : Int32)), (.ref q1)])) rfl rfl (hb hby dnM_16) _ kq_) ?_
    show Go p e below s _ _ _ (T3.setTop (mkF m 17 #[.val (.ref x), .val (.ref q1), .val (.int (2 : Int32)), .val (.int (1 : Int32)), .val (.ref sg)] [(.ref mu)]))
    refine Go.st (fun _ kq_ => XS.astore X3.here hx rfl (hb hby dnM_17) rfl rfl (l' := #[.val (.ref x), .val (.ref q1), .val (.int (2 : Int32)), .val (.int (1 : Int32)), .val (.ref mu)]) rfl kq_) ?_
    show Go p e below s _ _ _ (T3.setTop (mkF m 19 #[.val (.ref x), .val (.ref q1), .val (.int (2 : Int32)), .val (.int (1 : Int32)), .val (.ref mu)] []))
    refine Go.st (fun _ kq_ => XS.aload X3.here hx rfl (hb hby dnM_19) rfl rfl kq_) ?_
    show Go p e below s _ _ _ (T3.setTop (mkF m 21 #[.val (.ref x), .val (.ref q1), .val (.int (2 : Int32)), .val (.int (1 : Int32)), .val (.ref mu)] [(.ref mu)]))
    obtain ⟨T4, X4, e4, st4⟩ := getF X3 hx hZ hown (host := "") (Or.inl (own_w hw 70 rfl)) Via.refl e3 (J_mu.ext O1.2) (g := (mkF m 21 #[.val (.ref x), .val (.ref q1), .val (.int (2 : Int32)), .val (.int (1 : Int32)), .val (.ref mu)] [(.ref mu)])) rfl rfl (hb hby dnM_21)
    refine Go.st st4 ?_
    show Go p e below s _ _ _ (T4.setTop (mkF m 24 #[.val (.ref x), .val (.ref q1), .val (.int (2 : Int32)), .val (.int (1 : Int32)), .val (.ref mu)] [(.ref tm)]))
    refine Go.st (fun _ kq_ => XS.aloadN X4.here hx rfl (hb hby dnM_24) rfl rfl kq_) ?_
    show Go p e below s _ _ _ (T4.setTop (mkF m 25 #[.val (.ref x), .val (.ref q1), .val (.int (2 : Int32)), .val (.int (1 : Int32)), .val (.ref mu)] [(.ref x), (.ref tm)]))
    obtain ⟨cq5, kq5, qa5, qb5, qc5⟩ := isOf hZ e4 (E_tm.ext O1.2)
    obtain ⟨_, _, ⟨T5, L5, k5, n5⟩, -, X5, ⟨Lc5, hQ5, l5, y5, z5⟩, st5⟩ := X4.virtualBack hx (y := (⟨"java/lang/String", "equals", "(Ljava/lang/Object;)Z"⟩ : MethodName)) (z := (⟨"java/lang/String", "equals", "(Ljava/lang/Object;)Z"⟩ : MethodName)) hown (mvT hZ (own_w hw 72 rfl)) (mvT hZ (own_w hw 39 rfl)) (notFace_of_selects (args := #[]) (mvT hZ (own_w hw 41 rfl))) (mvT hZ (own_w hw 41 rfl)) (mvT hZ (own_w hw 40 rfl)) (by decide) (StrChars.Road.eqW (W := 0) hZ heq (kI := 4) (own_w hw 7 rfl) (cs := ([(109 : Int32), (117 : Int32), (108 : Int32), (116 : Int32), (105 : Int32), (112 : Int32), (108 : Int32), (101 : Int32)] : List Int32)) (ds := cs) (E_tm.ext O1.2) (F_tm_value.ext O1.2) (F_tm_coder.ext O1.2) (V_ym.ext O1.2) own_codM own_bM (by decide) E_x F_x_value F_x_coder V_t hcX hbX hlX (SC.ext O1.2) hcs (by decide) (by decide)) qa5 qc5 (g := (mkF m 25 #[.val (.ref x), .val (.ref q1), .val (.int (2 : Int32)), .val (.int (1 : Int32)), .val (.ref mu)] [(.ref x), (.ref tm)])) rfl (by rw [hml]; rfl) (Steps.refl _) (argsL := [(.ref x)]) (rest := []) (lenOf pdnM_1 rfl) rfl (by show 2 * 0 + _ ≤ _; exact Nat.le_of_eq rfl) (hb hby dnM_25) (fun _ _ => ⟨rfl, e4, (by decide : 1 + 0 ≤ _), (by decide : 2 + 0 ≤ _)⟩)
    dsimp only [Pt.U, Pt.locs, Pt.cells, Pt.slots] at X5 l5 y5 z5 st5 hQ5
    subst y5 z5
    obtain ⟨hz5, el5, e5⟩ := hQ5
    obtain ⟨zq5, rfl, hzq5⟩ := own_zz hz5
    have Nc5 : Fr n0 Lc5 := by rw [el5]; exact Fr.nil n0
    have N5 : Fr n0 L5 := by rw [l5]; exact Fr.app N3 Nc5
    refine Go.tr st5 ?_
    show Go p e below s _ _ _ (T5.setTop (mkF m 28 #[.val (.ref x), .val (.ref q1), .val (.int (2 : Int32)), .val (.int (1 : Int32)), .val (.ref mu)] [(.int zq5)]))
    refine Go.st (fun _ kq_ => XS.ifNo X5.here hx rfl (hb hby dnM_28) rfl (XT.i0_eq_f (own_zp hzq5 hP.symm)) kq_) ?_
    show Go p e below s _ _ _ (T5.setTop (mkF m 31 #[.val (.ref x), .val (.ref q1), .val (.int (2 : Int32)), .val (.int (1 : Int32)), .val (.ref mu)] []))
    refine Go.st (fun _ kq_ => XS.aload X5.here hx rfl (hb hby dnM_31) rfl rfl kq_) ?_
    show Go p e below s _ _ _ (T5.setTop (mkF m 33 #[.val (.ref x), .val (.ref q1), .val (.int (2 : Int32)), .val (.int (1 : Int32)), .val (.ref mu)] [(.ref mu)]))
    obtain ⟨_, _, ⟨T6, L6, k6, n6⟩, -, X6, ⟨Lc6, hQ6, l6, y6, z6⟩, st6⟩ := Jvm.LawKit.callS X5 hx (y := (⟨"java/util/Optional", "of", "(Ljava/lang/Object;)Ljava/util/Optional;"⟩ : MethodName)) hown (mvT hZ (own_w hw 73 rfl)) (mvT hZ (own_w hw 74 rfl)) (mvT hZ (own_w hw 75 rfl)) (mvT hZ (own_w hw 76 rfl)) (by decide) (backOf (W := 0) (rmof l Z a0 hw [] mu T1.heap n0 O1 ) hZ (own_w hw 76 rfl) (own_w hw 75 rfl) (by decide) (by decide)) (g := (mkF m 33 #[.val (.ref x), .val (.ref q1), .val (.int (2 : Int32)), .val (.int (1 : Int32)), .val (.ref mu)] [(.ref mu)])) rfl (by rw [hml]; rfl) (argsL := [(.ref mu)]) (rest := []) (lenOf pdnM_2 rfl) rfl (by show 2 * 0 + _ ≤ _; exact Nat.le_of_eq rfl) (hb hby dnM_33) (fun _ _ => ⟨rfl, e5, (by decide : 1 + 1 ≤ _), (by decide : 2 + 1 ≤ _)⟩)
    dsimp only [Pt.U, Pt.locs, Pt.cells, Pt.slots] at X6 l6 y6 z6 st6 hQ6
    subst y6 z6
    obtain ⟨r6, rfl, Nc6, Kc6, gr6, szr6, NE, NV⟩ := hQ6
    have N6 : Fr n0 L6 := by rw [l6]; exact Fr.app N5 Nc6
    have g_r6 : n0 ≤ r6 := gr6
    have sz_r6 : h0.size ≤ r6 := Nat.le_trans K1.1 szr6
    have ne_x_r6 : x ≠ r6 := Nat.ne_of_lt (Nat.lt_of_lt_of_le E_x.lt szr6)
    have ne_t_r6 : t ≠ r6 := Nat.ne_of_lt (Nat.lt_of_lt_of_le V_t.lt szr6)
    have ne_q1_r6 : q1 ≠ r6 := Nat.ne_of_lt (Nat.lt_of_lt_of_le V_q1.lt szr6)
    have E_x := E_x.keep Kc6
    have F_x_coder := F_x_coder.keep Kc6 nin0
    have F_x_value := F_x_value.keep Kc6 nin0
    have V_t := V_t.keep Kc6 nin0
    have V_q1 := V_q1.keep Kc6 nin0
    have O6 := O1.keep Kc6 all0
    have K6 := K1.trans Kc6 all0
    have E_r6 := NE
    have F_r6_value := NV
    refine Go.st st6 ?_
    show Go p e below s _ _ _ (T6.setTop (mkF m 36 #[.val (.ref x), .val (.ref q1), .val (.int (2 : Int32)), .val (.int (1 : Int32)), .val (.ref mu)] [(.ref r6)]))
    exact Go.ret X6 hlk (some (.ref r6)) (fun h => by rw [Bd.returns] at h; cases h) (by exact ⟨r6, rfl, N6, K6, g_r6, sz_r6, E_r6, F_r6_value⟩) (by decide) (by decide) (fun fs hr => retOut X6 hx Bd.returns rfl (Or.inr (Or.inr (Or.inr (Or.inr ⟨rfl, rfl, rfl⟩)))) (hb hby dnM_36) hr)
  obtain ⟨s2, o2, st2, r2⟩ := G
  exact ⟨s2, o2, castTop (efnM m x) st2, r2⟩
theorem dnE_0 : decode prog_21_method_5_code 0 = .ok (.invokestatic 33, 3) := by decide +kernel
theorem dnE_3 : decode prog_21_method_5_code 3 = .ok (.astore_n 1, 1) := by decide +kernel
theorem dnE_4 : decode prog_21_method_5_code 4 = .ok (.aload_n 1, 1) := by decide +kernel
theorem dnE_5 : decode prog_21_method_5_code 5 = .ok (.arraylength, 1) := by decide +kernel
theorem dnE_6 : decode prog_21_method_5_code 6 = .ok (.istore_n 2, 1) := by decide +kernel
theorem dnE_7 : decode prog_21_method_5_code 7 = .ok (.iconst 0, 1) := by decide +kernel
theorem dnE_8 : decode prog_21_method_5_code 8 = .ok (.istore_n 3, 1) := by decide +kernel
theorem dnE_9 : decode prog_21_method_5_code 9 = .ok (.iload_n 3, 1) := by decide +kernel
theorem dnE_10 : decode prog_21_method_5_code 10 = .ok (.iload_n 2, 1) := by decide +kernel
theorem dnE_11 : decode prog_21_method_5_code 11 = .ok (.if_icmp .ge 32, 3) := by decide +kernel
theorem dnE_14 : decode prog_21_method_5_code 14 = .ok (.aload_n 1, 1) := by decide +kernel
theorem dnE_15 : decode prog_21_method_5_code 15 = .ok (.iload_n 3, 1) := by decide +kernel
theorem dnE_16 : decode prog_21_method_5_code 16 = .ok (.aaload, 1) := by decide +kernel
theorem dnE_17 : decode prog_21_method_5_code 17 = .ok (.astore 4, 2) := by decide +kernel
theorem dnE_19 : decode prog_21_method_5_code 19 = .ok (.aload 4, 2) := by decide +kernel
theorem dnE_21 : decode prog_21_method_5_code 21 = .ok (.getfield 29, 3) := by decide +kernel
theorem dnE_24 : decode prog_21_method_5_code 24 = .ok (.aload_n 0, 1) := by decide +kernel
theorem dnE_25 : decode prog_21_method_5_code 25 = .ok (.invokevirtual 37, 3) := by decide +kernel
theorem dnE_28 : decode prog_21_method_5_code 28 = .ok (.ifCond .eq 9, 3) := by decide +kernel
theorem dnE_37 : decode prog_21_method_5_code 37 = .ok (.iinc 3 1, 3) := by decide +kernel
theorem dnE_40 : decode prog_21_method_5_code 40 = .ok (.goto (-31), 3) := by decide +kernel
theorem dnE_43 : decode prog_21_method_5_code 43 = .ok (.invokestatic 49, 3) := by decide +kernel
theorem dnE_46 : decode prog_21_method_5_code 46 = .ok (.areturn, 1) := by decide +kernel
theorem pdnE_0 : parseMethodDescriptor "()[Lcom/example/rootward/rootward/model/Policy;" = some ⟨[], some (.array (.object "com/example/rootward/rootward/model/Policy"))⟩ := by decide +kernel
theorem pdnE_1 : parseMethodDescriptor "(Ljava/lang/Object;)Z" = some ⟨[(.object "java/lang/Object")], some .boolean⟩ := by decide +kernel
theorem pdnE_2 : parseMethodDescriptor "()Ljava/util/Optional;" = some ⟨[], some (.object "java/util/Optional")⟩ := by decide +kernel
theorem pnnE : plainName "com/example/rootward/rootward/model/Policy" = true := by first | (simp [plainName, overriddenIn]; done) | decide +kernel
theorem efnE (m : MethodId) (x0 : Addr) : entryFrame m #[(.ref x0)] 5 = mkF m 0 #[.val (.ref x0), .unset, .unset, .unset, .unset] [] := by first | (simp [entryFrame, mkF, argsToLocals, Value.category, maxLocals]; done) | rfl
def QnE (Z : State) (x : Addr) (t : Addr) (kt : ClassId) (N : Int32) (vs : List Value) (cs : List Int32) (sg : Addr) (mu : Addr) (va : Addr) (ts : Addr) (ys : Addr) (tm : Addr) (ym : Addr) (oe : Addr) (kv : ClassId) (ks : ClassId) (km : ClassId) (zc : Int32) (h0 : Heap) (n0 : Nat) (v : Option Value) (h : Heap) (L : List Loc) : Prop := v = some (.ref oe) ∧ Fr n0 L ∧ Keep h0 h []
set_option maxRecDepth 65536 in
set_option maxHeartbeats 40000000 in
theorem rmnE (l : Launch) (Z : State) (a0 : Array Value) (hw : ∀ d ∈ tables_1, d.before a0 Z = true) (ws : List Jvm.Cond) (x : Addr) (t : Addr) (kt : ClassId) (N : Int32) (vs : List Value) (cs : List Int32) (sg : Addr) (mu : Addr) (va : Addr) (ts : Addr) (ys : Addr) (tm : Addr) (ym : Addr) (oe : Addr) (kv : ClassId) (ks : ClassId) (km : ClassId) (zc : Int32) (h0 : Heap) (n0 : Nat) (O0 : Old Z n0 h0) (E_x : Exa Z h0 x "java/lang/String") (F_x_coder : Fld Z h0 x "java/lang/String" "coder" "B" (.int (0 : Int32))) (F_x_value : Fld Z h0 x "java/lang/String" "value" "[B" (.ref t)) (V_t : Arv Z h0 t kt .byte N vs (.int (0 : Int32))) (hcX : StrChars.Road.CodA cs 0 N vs) (hbX : ∀ c ∈ cs, ¬ c < 0 ∧ ¬ (65535 : Int32) < c) (hlX : cs.length ≤ 4000) (EV : Exa Z Z.heap va "[Lcom/example/rootward/rootward/model/Policy;") (VV : Arv Z Z.heap va kv (.object "com/example/rootward/rootward/model/Policy") (2 : Int32) [(.ref sg), (.ref mu)] .null) (E_sg : Exa Z Z.heap sg "com/example/rootward/rootward/model/Policy") (J_sg : Fld Z Z.heap sg "com/example/rootward/rootward/model/Policy" "jsonName" "Ljava/lang/String;" (.ref ts)) (E_ts : Exa Z Z.heap ts "java/lang/String") (F_ts_coder : Fld Z Z.heap ts "java/lang/String" "coder" "B" (.int (0 : Int32))) (F_ts_value : Fld Z Z.heap ts "java/lang/String" "value" "[B" (.ref ys)) (V_ys : Arv Z Z.heap ys ks .byte (6 : Int32) [(.int (115 : Int32)), (.int (105 : Int32)), (.int (110 : Int32)), (.int (103 : Int32)), (.int (108 : Int32)), (.int (101 : Int32))] (.int (0 : Int32))) (E_mu : Exa Z Z.heap mu "com/example/rootward/rootward/model/Policy") (J_mu : Fld Z Z.heap mu "com/example/rootward/rootward/model/Policy" "jsonName" "Ljava/lang/String;" (.ref tm)) (E_tm : Exa Z Z.heap tm "java/lang/String") (F_tm_coder : Fld Z Z.heap tm "java/lang/String" "coder" "B" (.int (0 : Int32))) (F_tm_value : Fld Z Z.heap tm "java/lang/String" "value" "[B" (.ref ym)) (V_ym : Arv Z Z.heap ym km .byte (8 : Int32) [(.int (109 : Int32)), (.int (117 : Int32)), (.int (108 : Int32)), (.int (116 : Int32)), (.int (105 : Int32)), (.int (112 : Int32)), (.int (108 : Int32)), (.int (101 : Int32))] (.int (0 : Int32))) (SV : Sta Z Z.heap "com/example/rootward/rootward/model/Policy" "$VALUES" "[Lcom/example/rootward/rootward/model/Policy;" (.ref va)) (SO : Sta Z Z.heap "java/util/Optional" "EMPTY" "Ljava/util/Optional;" (.ref oe)) (SC : Sta Z Z.heap "java/lang/String" "COMPACT_STRINGS" "Z" (.int zc)) (hcs : ¬ zc = 0) (hP1 : ¬ cs = ([(115 : Int32), (105 : Int32), (110 : Int32), (103 : Int32), (108 : Int32), (101 : Int32)] : List Int32)) (hP2 : ¬ cs = ([(109 : Int32), (117 : Int32), (108 : Int32), (116 : Int32), (105 : Int32), (112 : Int32), (108 : Int32), (101 : Int32)] : List Int32)) :
    MetFree l (⟨"com/example/rootward/rootward/model/Policy", "named", "(Ljava/lang/String;)Ljava/util/Optional;"⟩ : MethodName) (head1 (Jvm.Cond.code (⟨"com/example/rootward/rootward/model/Policy", "named", "(Ljava/lang/String;)Ljava/util/Optional;"⟩ : MethodName) prog_21_method_5_code 5 (some (.object "java/util/Optional")) :: ws) ({ frames := 2, cells := 1, slots := 2, locals := 28 } : Room)) (fun A_ U_ => A_ = #[(.ref x)] ∧ Z.Warmed39 U_.vm ∧ U_.heap = h0) (fun _ _ _ _ _ => True) (fun _ U o U' => ∃ v L, o = .returned v ∧ QnE Z x t kt N vs cs sg mu va ts ys tm ym oe kv ks km zc h0 n0 v U'.heap L ∧ FrameEnd U o U' L ({ frames := 2, cells := 1, slots := 2, locals := 28 } : Room).cells ({ frames := 2, cells := 1, slots := 2, locals := 28 } : Room).slots) := by
  refine MetFree.of_bodySF (plainFor_of_name pnnE) hisR ?_
  intro p e s m args below meth cd s₁ Bd hml0 hP hK
  obtain ⟨rfl, hZ, hh⟩ := hP
  have hx := Bd.exec
  have hby := Bd.bytes
  have hlk : meth.locks = false := BodyLoose.notSynchronized Bd
  have hml : cd.maxLocals = 5 := hml0
  have hown : s.vm.findClass "com/example/rootward/rootward/model/Policy" = some m.cls := findClass_of_methodNamed Bd.named
  have hnm := (name_of_methodNamed Bd.named Bd.method).1
  have X0 : Stand p l e ({ frames := 2, cells := 1, slots := 2, locals := 28 } : Room) s m #[(.ref x)] below meth cd s₁ [] 0 0 := Stand.of_body Bd
  have e0 : s₁.heap = h0 := by rw [← hh, Bd.state]; rfl
  have N0 := Fr.nil n0
  have K0 : Keep h0 h0 [] := Keep.refl _ _
  have heq : ∀ d ∈ StrChars.Road.wordsEq, d.before a0 Z = true := fun d hd => hw d ((by decide +kernel : ∀ d ∈ StrChars.Road.wordsEq, d ∈ tables_1) d hd)
  have G : Go p e below s 1 2 (QnE Z x t kt N vs cs sg mu va ts ys tm ym oe kv ks km zc h0 n0) (s₁.setTop (mkF m 0 #[.val (.ref x), .unset, .unset, .unset, .unset] [])) := by
    show Go p e below s _ _ _ (s₁.setTop (mkF m 0 #[.val (.ref x), .unset, .unset, .unset, .unset] []))
    obtain ⟨_, _, ⟨T1, L1, k1, n1⟩, -, X1, ⟨Lc1, hQ1, l1, y1, z1⟩, st1⟩ := Jvm.LawKit.callS X0 hx (y := (⟨"com/example/rootward/rootward/model/Policy", "values", "()[Lcom/example/rootward/rootward/model/Policy;"⟩ : MethodName)) hown (mvT hZ (own_w hw 54 rfl)) (mvT hZ (own_w hw 55 rfl)) (mvT hZ (own_w hw 49 rfl)) (mvT hZ (own_w hw 56 rfl)) (by decide) (backOf (W := 0) (rmv l Z a0 hw [] va kv sg mu h0 n0 O0 EV VV SV) hZ (own_w hw 56 rfl) (own_w hw 49 rfl) (by decide) (by decide)) (g := (mkF m 0 #[.val (.ref x), .unset, .unset, .unset, .unset] [])) rfl (by rw [hml]; rfl) (argsL := []) (rest := []) (lenOf pdnE_0 rfl) rfl (by show 2 * 0 + _ ≤ _; exact Nat.le_of_eq rfl) (hb hby dnE_0) (fun _ _ => ⟨rfl, e0, (by decide : 0 + 1 ≤ _), (by decide : 0 + 2 ≤ _)⟩)
    dsimp only [Pt.U, Pt.locs, Pt.cells, Pt.slots] at X1 l1 y1 z1 st1 hQ1
    subst y1 z1
    obtain ⟨q1, kq1, rfl, Nc1, Kc1, gq1, szq1, NV⟩ := hQ1
    have N1 : Fr n0 L1 := by rw [l1]; exact Fr.app N0 Nc1
    have g_q1 : n0 ≤ q1 := gq1
    have sz_q1 : h0.size ≤ q1 := Nat.le_trans K0.1 szq1
    have ne_x_q1 : x ≠ q1 := Nat.ne_of_lt (Nat.lt_of_lt_of_le E_x.lt szq1)
    have ne_t_q1 : t ≠ q1 := Nat.ne_of_lt (Nat.lt_of_lt_of_le V_t.lt szq1)
    have E_x := E_x.keep Kc1
    have F_x_coder := F_x_coder.keep Kc1 nin0
    have F_x_value := F_x_value.keep Kc1 nin0
    have V_t := V_t.keep Kc1 nin0
    have O1 := O0.keep Kc1 all0
    have K1 := K0.trans Kc1 all0
    have V_q1 := NV
    refine Go.st st1 ?_
    show Go p e below s _ _ _ (T1.setTop (mkF m 3 #[.val (.ref x), .unset, .unset, .unset, .unset] [(.ref q1)]))
    refine Go.st (fun _ kq_ => XS.astoreN X1.here hx rfl (hb hby dnE_3) rfl rfl (l' := #[.val (.ref x), .val (.ref q1), .unset, .unset, .unset]) rfl kq_) ?_
    show Go p e below s _ _ _ (T1.setTop (mkF m 4 #[.val (.ref x), .val (.ref q1), .unset, .unset, .unset] []))
    refine Go.st (fun _ kq_ => XS.aloadN X1.here hx rfl (hb hby dnE_4) rfl rfl kq_) ?_
    show Go p e below s _ _ _ (T1.setTop (mkF m 5 #[.val (.ref x), .val (.ref q1), .unset, .unset, .unset] [(.ref q1)]))
    refine Go.st (fun _ kq_ => own_len X1 hx hZ rfl V_q1 (g := (mkF m 5 #[.val (.ref x), .val (.ref q1), .unset, .unset, .unset] [(.ref q1)])) rfl rfl (hb hby dnE_5) _ kq_) ?_
    show Go p e below s _ _ _ (T1.setTop (mkF m 6 #[.val (.ref x), .val (.ref q1), .unset, .unset, .unset] [(.int (2 : Int32))]))
    refine Go.st (fun _ kq_ => XS.istoreN X1.here hx rfl (hb hby dnE_6) rfl (l' := #[.val (.ref x), .val (.ref q1), .val (.int (2 : Int32)), .unset, .unset]) rfl kq_) ?_
    show Go p e below s _ _ _ (T1.setTop (mkF m 7 #[.val (.ref x), .val (.ref q1), .val (.int (2 : Int32)), .unset, .unset] []))
    refine Go.st (fun _ kq_ => XS.iconst X1.here hx rfl (hb hby dnE_7) kq_) ?_
    show Go p e below s _ _ _ (T1.setTop (mkF m 8 #[.val (.ref x), .val (.ref q1), .val (.int (2 : Int32)), .unset, .unset] [(.int (0 : Int32))]))
    refine Go.st (fun _ kq_ => XS.istoreN X1.here hx rfl (hb hby dnE_8) rfl (l' := #[.val (.ref x), .val (.ref q1), .val (.int (2 : Int32)), .val (.int (0 : Int32)), .unset]) rfl kq_) ?_
    show Go p e below s _ _ _ (T1.setTop (mkF m 9 #[.val (.ref x), .val (.ref q1), .val (.int (2 : Int32)), .val (.int (0 : Int32)), .unset] []))
    refine Go.st (fun _ kq_ => XS.iloadN X1.here hx rfl (hb hby dnE_9) rfl kq_) ?_
    show Go p e below s _ _ _ (T1.setTop (mkF m 10 #[.val (.ref x), .val (.ref q1), .val (.int (2 : Int32)), .val (.int (0 : Int32)), .unset] [(.int (0 : Int32))]))
    refine Go.st (fun _ kq_ => XS.iloadN X1.here hx rfl (hb hby dnE_10) rfl kq_) ?_
    show Go p e below s _ _ _ (T1.setTop (mkF m 11 #[.val (.ref x), .val (.ref q1), .val (.int (2 : Int32)), .val (.int (0 : Int32)), .unset] [(.int (2 : Int32)), (.int (0 : Int32))]))
    refine Go.st (fun _ kq_ => XS.icmpNo X1.here hx rfl (hb hby dnE_11) rfl (by decide) kq_) ?_
    show Go p e below s _ _ _ (T1.setTop (mkF m 14 #[.val (.ref x), .val (.ref q1), .val (.int (2 : Int32)), .val (.int (0 : Int32)), .unset] []))
    refine Go.st (fun _ kq_ => XS.aloadN X1.here hx rfl (hb hby dnE_14) rfl rfl kq_) ?_
    show Go p e below s _ _ _ (T1.setTop (mkF m 15 #[.val (.ref x), .val (.ref q1), .val (.int (2 : Int32)), .val (.int (0 : Int32)), .unset] [(.ref q1)]))
    refine Go.st (fun _ kq_ => XS.iloadN X1.here hx rfl (hb hby dnE_15) rfl kq_) ?_
    show Go p e below s _ _ _ (T1.setTop (mkF m 16 #[.val (.ref x), .val (.ref q1), .val (.int (2 : Int32)), .val (.int (0 : Int32)), .unset] [(.int (0 : Int32)), (.ref q1)]))
    refine Go.st (fun _ kq_ => own_aaload X1 hx hZ rfl V_q1 rfl (by decide) (by decide) (v := (.ref sg)) rfl (g := (mkF m 16 #[.val (.ref x), .val (.ref q1), .val (.int (2 : Int32)), .val (.int (0 : Int32)), .unset] [(.int (0 : Int32)), (.ref q1)])) rfl rfl (hb hby dnE_16) _ kq_) ?_
    show Go p e below s _ _ _ (T1.setTop (mkF m 17 #[.val (.ref x), .val (.ref q1), .val (.int (2 : Int32)), .val (.int (0 : Int32)), .unset] [(.ref sg)]))
    refine Go.st (fun _ kq_ => XS.astore X1.here hx rfl (hb hby dnE_17) rfl rfl (l' := #[.val (.ref x), .val (.ref q1), .val (.int (2 : Int32)), .val (.int (0 : Int32)), .val (.ref sg)]) rfl kq_) ?_
    show Go p e below s _ _ _ (T1.setTop (mkF m 19 #[.val (.ref x), .val (.ref q1), .val (.int (2 : Int32)), .val (.int (0 : Int32)), .val (.ref sg)] []))
    refine Go.st (fun _ kq_ => XS.aload X1.here hx rfl (hb hby dnE_19) rfl rfl kq_) ?_
    show Go p e below s _ _ _ (T1.setTop (mkF m 21 #[.val (.ref x), .val (.ref q1), .val (.int (2 : Int32)), .val (.int (0 : Int32)), .val (.ref sg)] [(.ref sg)]))
    obtain ⟨T2, X2, e2, st2⟩ := getF X1 hx hZ hown (host := "") (Or.inl (own_w hw 70 rfl)) Via.refl rfl (J_sg.ext O1.2) (g := (mkF m 21 #[.val (.ref x), .val (.ref q1), .val (.int (2 : Int32)), .val (.int (0 : Int32)), .val (.ref sg)] [(.ref sg)])) rfl rfl (hb hby dnE_21)
    refine Go.st st2 ?_
    show Go p e below s _ _ _ (T2.setTop (mkF m 24 #[.val (.ref x), .val (.ref q1), .val (.int (2 : Int32)), .val (.int (0 : Int32)), .val (.ref sg)] [(.ref ts)]))
    refine Go.st (fun _ kq_ => XS.aloadN X2.here hx rfl (hb hby dnE_24) rfl rfl kq_) ?_
    show Go p e below s _ _ _ (T2.setTop (mkF m 25 #[.val (.ref x), .val (.ref q1), .val (.int (2 : Int32)), .val (.int (0 : Int32)), .val (.ref sg)] [(.ref x), (.ref ts)]))
    obtain ⟨cq3, kq3, qa3, qb3, qc3⟩ := isOf hZ e2 (E_ts.ext O1.2)
    obtain ⟨_, _, ⟨T3, L3, k3, n3⟩, -, X3, ⟨Lc3, hQ3, l3, y3, z3⟩, st3⟩ := X2.virtualBack hx (y := (⟨"java/lang/String", "equals", "(Ljava/lang/Object;)Z"⟩ : MethodName)) (z := (⟨"java/lang/String", "equals", "(Ljava/lang/Object;)Z"⟩ : MethodName)) hown (mvT hZ (own_w hw 72 rfl)) (mvT hZ (own_w hw 39 rfl)) (notFace_of_selects (args := #[]) (mvT hZ (own_w hw 41 rfl))) (mvT hZ (own_w hw 41 rfl)) (mvT hZ (own_w hw 40 rfl)) (by decide) (StrChars.Road.eqW (W := 0) hZ heq (kI := 4) (own_w hw 7 rfl) (cs := ([(115 : Int32), (105 : Int32), (110 : Int32), (103 : Int32), (108 : Int32), (101 : Int32)] : List Int32)) (ds := cs) (E_ts.ext O1.2) (F_ts_value.ext O1.2) (F_ts_coder.ext O1.2) (V_ys.ext O1.2) own_codS own_bS (by decide) E_x F_x_value F_x_coder V_t hcX hbX hlX (SC.ext O1.2) hcs (by decide) (by decide)) qa3 qc3 (g := (mkF m 25 #[.val (.ref x), .val (.ref q1), .val (.int (2 : Int32)), .val (.int (0 : Int32)), .val (.ref sg)] [(.ref x), (.ref ts)])) rfl (by rw [hml]; rfl) (Steps.refl _) (argsL := [(.ref x)]) (rest := []) (lenOf pdnE_1 rfl) rfl (by show 2 * 0 + _ ≤ _; exact Nat.le_of_eq rfl) (hb hby dnE_25) (fun _ _ => ⟨rfl, e2, (by decide : 1 + 0 ≤ _), (by decide : 2 + 0 ≤ _)⟩)
    dsimp only [Pt.U, Pt.locs, Pt.cells, Pt.slots] at X3 l3 y3 z3 st3 hQ3
    subst y3 z3
    obtain ⟨hz3, el3, e3⟩ := hQ3
    obtain ⟨zq3, rfl, hzq3⟩ := own_zz hz3
    have Nc3 : Fr n0 Lc3 := by rw [el3]; exact Fr.nil n0
    have N3 : Fr n0 L3 := by rw [l3]; exact Fr.app N1 Nc3
    refine Go.tr st3 ?_
    show Go p e below s _ _ _ (T3.setTop (mkF m 28 #[.val (.ref x), .val (.ref q1), .val (.int (2 : Int32)), .val (.int (0 : Int32)), .val (.ref sg)] [(.int zq3)]))
    refine Go.st (fun _ kq_ => XS.ifYes X3.here hx rfl (pc0 := 28) (pc' := 37) rfl (hb hby dnE_28) rfl (XT.i0_eq_t (own_zn hzq3 (fun q => hP1 q.symm))) (by decide) (by decide) kq_) ?_
    show Go p e below s _ _ _ (T3.setTop (mkF m 37 #[.val (.ref x), .val (.ref q1), .val (.int (2 : Int32)), .val (.int (0 : Int32)), .val (.ref sg)] []))
    refine Go.st (fun _ kq_ => XT.iincV X3.here hx rfl (1 : Int32) (hb hby dnE_37) rfl rfl (l' := #[.val (.ref x), .val (.ref q1), .val (.int (2 : Int32)), .val (.int (1 : Int32)), .val (.ref sg)]) rfl kq_) ?_
    show Go p e below s _ _ _ (T3.setTop (mkF m 40 #[.val (.ref x), .val (.ref q1), .val (.int (2 : Int32)), .val (.int (1 : Int32)), .val (.ref sg)] []))
    refine Go.st (fun _ kq_ => XS.goto X3.here hx rfl (pc0 := 40) (pc' := 9) rfl (hb hby dnE_40) (by decide) (by decide) kq_) ?_
    show Go p e below s _ _ _ (T3.setTop (mkF m 9 #[.val (.ref x), .val (.ref q1), .val (.int (2 : Int32)), .val (.int (1 : Int32)), .val (.ref sg)] []))
    refine Go.st (fun _ kq_ => XS.iloadN X3.here hx rfl (hb hby dnE_9) rfl kq_) ?_
    show Go p e below s _ _ _ (T3.setTop (mkF m 10 #[.val (.ref x), .val (.ref q1), .val (.int (2 : Int32)), .val (.int (1 : Int32)), .val (.ref sg)] [(.int (1 : Int32))]))
    refine Go.st (fun _ kq_ => XS.iloadN X3.here hx rfl (hb hby dnE_10) rfl kq_) ?_
    show Go p e below s _ _ _ (T3.setTop (mkF m 11 #[.val (.ref x), .val (.ref q1), .val (.int (2 : Int32)), .val (.int (1 : Int32)), .val (.ref sg)] [(.int (2 : Int32)), (.int (1 : Int32))]))
    refine Go.st (fun _ kq_ => XS.icmpNo X3.here hx rfl (hb hby dnE_11) rfl (by decide) kq_) ?_
    show Go p e below s _ _ _ (T3.setTop (mkF m 14 #[.val (.ref x), .val (.ref q1), .val (.int (2 : Int32)), .val (.int (1 : Int32)), .val (.ref sg)] []))
    refine Go.st (fun _ kq_ => XS.aloadN X3.here hx rfl (hb hby dnE_14) rfl rfl kq_) ?_
    show Go p e below s _ _ _ (T3.setTop (mkF m 15 #[.val (.ref x), .val (.ref q1), .val (.int (2 : Int32)), .val (.int (1 : Int32)), .val (.ref sg)] [(.ref q1)]))
    refine Go.st (fun _ kq_ => XS.iloadN X3.here hx rfl (hb hby dnE_15) rfl kq_) ?_
    show Go p e below s _ _ _ (T3.setTop (mkF m 16 #[.val (.ref x), .val (.ref q1), .val (.int (2 : Int32)), .val (.int (1 : Int32)), .val (.ref sg)] [(.int (1 : Int32)), (.ref q1)]))
    refine Go.st (fun _ kq_ => own_aaload X3 hx hZ e3 V_q1 rfl (by decide) (by decide) (v := (.ref mu)) rfl (g := (mkF m 16 #[.val (.ref x), .val (.ref q1), .val (.int (2 : Int32)), .val (.int (1 : Int32)), .val (.ref sg)] [(.int (1 : Int32)), (.ref q1)])) rfl rfl (hb hby dnE_16) _ kq_) ?_
    show Go p e below s _ _ _ (T3.setTop (mkF m 17 #[.val (.ref x), .val (.ref q1), .val (.int (2 : Int32)), .val (.int (1 : Int32)), .val (.ref sg)] [(.ref mu)]))
    refine Go.st (fun _ kq_ => XS.astore X3.here hx rfl (hb hby dnE_17) rfl rfl (l' := #[.val (.ref x), .val (.ref q1), .val (.int (2 : Int32)), .val (.int (1 : Int32)), .val (.ref mu)]) rfl kq_) ?_
    show Go p e below s _ _ _ (T3.setTop (mkF m 19 #[.val (.ref x), .val (.ref q1), .val (.int (2 : Int32)), .val (.int (1 : Int32)), .val (.ref mu)] []))
    refine Go.st (fun _ kq_ => XS.aload X3.here hx rfl (hb hby dnE_19) rfl rfl kq_) ?_
    show Go p e below s _ _ _ (T3.setTop (mkF m 21 #[.val (.ref x), .val (.ref q1), .val (.int (2 : Int32)), .val (.int (1 : Int32)), .val (.ref mu)] [(.ref mu)]))
    obtain ⟨T4, X4, e4, st4⟩ := getF X3 hx hZ hown (host := "") (Or.inl (own_w hw 70 rfl)) Via.refl e3 (J_mu.ext O1.2) (g := (mkF m 21 #[.val (.ref x), .val (.ref q1), .val (.int (2 : Int32)), .val (.int (1 : Int32)), .val (.ref mu)] [(.ref mu)])) rfl rfl (hb hby dnE_21)
    refine Go.st st4 ?_
    show Go p e below s _ _ _ (T4.setTop (mkF m 24 #[.val (.ref x), .val (.ref q1), .val (.int (2 : Int32)), .val (.int (1 : Int32)), .val (.ref mu)] [(.ref tm)]))
    refine Go.st (fun _ kq_ => XS.aloadN X4.here hx rfl (hb hby dnE_24) rfl rfl kq_) ?_
    show Go p e below s _ _ _ (T4.setTop (mkF m 25 #[.val (.ref x), .val (.ref q1), .val (.int (2 : Int32)), .val (.int (1 : Int32)), .val (.ref mu)] [(.ref x), (.ref tm)]))
    obtain ⟨cq5, kq5, qa5, qb5, qc5⟩ := isOf hZ e4 (E_tm.ext O1.2)
    obtain ⟨_, _, ⟨T5, L5, k5, n5⟩, -, X5, ⟨Lc5, hQ5, l5, y5, z5⟩, st5⟩ := X4.virtualBack hx (y := (⟨"java/lang/String", "equals", "(Ljava/lang/Object;)Z"⟩ : MethodName)) (z := (⟨"java/lang/String", "equals", "(Ljava/lang/Object;)Z"⟩ : MethodName)) hown (mvT hZ (own_w hw 72 rfl)) (mvT hZ (own_w hw 39 rfl)) (notFace_of_selects (args := #[]) (mvT hZ (own_w hw 41 rfl))) (mvT hZ (own_w hw 41 rfl)) (mvT hZ (own_w hw 40 rfl)) (by decide) (StrChars.Road.eqW (W := 0) hZ heq (kI := 4) (own_w hw 7 rfl) (cs := ([(109 : Int32), (117 : Int32), (108 : Int32), (116 : Int32), (105 : Int32), (112 : Int32), (108 : Int32), (101 : Int32)] : List Int32)) (ds := cs) (E_tm.ext O1.2) (F_tm_value.ext O1.2) (F_tm_coder.ext O1.2) (V_ym.ext O1.2) own_codM own_bM (by decide) E_x F_x_value F_x_coder V_t hcX hbX hlX (SC.ext O1.2) hcs (by decide) (by decide)) qa5 qc5 (g := (mkF m 25 #[.val (.ref x), .val (.ref q1), .val (.int (2 : Int32)), .val (.int (1 : Int32)), .val (.ref mu)] [(.ref x), (.ref tm)])) rfl (by rw [hml]; rfl) (Steps.refl _) (argsL := [(.ref x)]) (rest := []) (lenOf pdnE_1 rfl) rfl (by show 2 * 0 + _ ≤ _; exact Nat.le_of_eq rfl) (hb hby dnE_25) (fun _ _ => ⟨rfl, e4, (by decide : 1 + 0 ≤ _), (by decide : 2 + 0 ≤ _)⟩)
    dsimp only [Pt.U, Pt.locs, Pt.cells, Pt.slots] at X5 l5 y5 z5 st5 hQ5
    subst y5 z5
    obtain ⟨hz5, el5, e5⟩ := hQ5
    obtain ⟨zq5, rfl, hzq5⟩ := own_zz hz5
    have Nc5 : Fr n0 Lc5 := by rw [el5]; exact Fr.nil n0
    have N5 : Fr n0 L5 := by rw [l5]; exact Fr.app N3 Nc5
    refine Go.tr st5 ?_
    show Go p e below s _ _ _ (T5.setTop (mkF m 28 #[.val (.ref x), .val (.ref q1), .val (.int (2 : Int32)), .val (.int (1 : Int32)), .val (.ref mu)] [(.int zq5)]))
    refine Go.st (fun _ kq_ => XS.ifYes X5.here hx rfl (pc0 := 28) (pc' := 37) rfl (hb hby dnE_28) rfl (XT.i0_eq_t (own_zn hzq5 (fun q => hP2 q.symm))) (by decide) (by decide) kq_) ?_
    show Go p e below s _ _ _ (T5.setTop (mkF m 37 #[.val (.ref x), .val (.ref q1), .val (.int (2 : Int32)), .val (.int (1 : Int32)), .val (.ref mu)] []))
    refine Go.st (fun _ kq_ => XT.iincV X5.here hx rfl (1 : Int32) (hb hby dnE_37) rfl rfl (l' := #[.val (.ref x), .val (.ref q1), .val (.int (2 : Int32)), .val (.int (2 : Int32)), .val (.ref mu)]) rfl kq_) ?_
    show Go p e below s _ _ _ (T5.setTop (mkF m 40 #[.val (.ref x), .val (.ref q1), .val (.int (2 : Int32)), .val (.int (2 : Int32)), .val (.ref mu)] []))
    refine Go.st (fun _ kq_ => XS.goto X5.here hx rfl (pc0 := 40) (pc' := 9) rfl (hb hby dnE_40) (by decide) (by decide) kq_) ?_
    show Go p e below s _ _ _ (T5.setTop (mkF m 9 #[.val (.ref x), .val (.ref q1), .val (.int (2 : Int32)), .val (.int (2 : Int32)), .val (.ref mu)] []))
    refine Go.st (fun _ kq_ => XS.iloadN X5.here hx rfl (hb hby dnE_9) rfl kq_) ?_
    show Go p e below s _ _ _ (T5.setTop (mkF m 10 #[.val (.ref x), .val (.ref q1), .val (.int (2 : Int32)), .val (.int (2 : Int32)), .val (.ref mu)] [(.int (2 : Int32))]))
    refine Go.st (fun _ kq_ => XS.iloadN X5.here hx rfl (hb hby dnE_10) rfl kq_) ?_
    show Go p e below s _ _ _ (T5.setTop (mkF m 11 #[.val (.ref x), .val (.ref q1), .val (.int (2 : Int32)), .val (.int (2 : Int32)), .val (.ref mu)] [(.int (2 : Int32)), (.int (2 : Int32))]))
    refine Go.st (fun _ kq_ => XS.icmpYes X5.here hx rfl (pc0 := 11) (pc' := 43) rfl (hb hby dnE_11) rfl (by decide) (by decide) (by decide) kq_) ?_
    show Go p e below s _ _ _ (T5.setTop (mkF m 43 #[.val (.ref x), .val (.ref q1), .val (.int (2 : Int32)), .val (.int (2 : Int32)), .val (.ref mu)] []))
    obtain ⟨_, _, ⟨T6, L6, k6, n6⟩, -, X6, ⟨Lc6, hQ6, l6, y6, z6⟩, st6⟩ := Jvm.LawKit.callS X5 hx (y := (⟨"java/util/Optional", "empty", "()Ljava/util/Optional;"⟩ : MethodName)) hown (mvT hZ (own_w hw 109 rfl)) (mvT hZ (own_w hw 110 rfl)) (mvT hZ (own_w hw 75 rfl)) (mvT hZ (own_w hw 111 rfl)) (by decide) (backOf (W := 0) (rmoe l Z a0 hw [] oe T1.heap n0 O1 SO) hZ (own_w hw 111 rfl) (own_w hw 75 rfl) (by decide) (by decide)) (g := (mkF m 43 #[.val (.ref x), .val (.ref q1), .val (.int (2 : Int32)), .val (.int (2 : Int32)), .val (.ref mu)] [])) rfl (by rw [hml]; rfl) (argsL := []) (rest := []) (lenOf pdnE_2 rfl) rfl (by show 2 * 0 + _ ≤ _; exact Nat.le_of_eq rfl) (hb hby dnE_43) (fun _ _ => ⟨rfl, e5, (by decide : 1 + 0 ≤ _), (by decide : 2 + 0 ≤ _)⟩)
    dsimp only [Pt.U, Pt.locs, Pt.cells, Pt.slots] at X6 l6 y6 z6 st6 hQ6
    subst y6 z6
    obtain ⟨rfl, Nc6, e6⟩ := hQ6
    have N6 : Fr n0 L6 := by rw [l6]; exact Fr.app N5 Nc6
    refine Go.st st6 ?_
    show Go p e below s _ _ _ (T6.setTop (mkF m 46 #[.val (.ref x), .val (.ref q1), .val (.int (2 : Int32)), .val (.int (2 : Int32)), .val (.ref mu)] [(.ref oe)]))
    exact Go.ret X6 hlk (some (.ref oe)) (fun h => by rw [Bd.returns] at h; cases h) (by rw [e6]; exact ⟨rfl, N6, K1⟩) (by decide) (by decide) (fun fs hr => retOut X6 hx Bd.returns rfl (Or.inr (Or.inr (Or.inr (Or.inr ⟨rfl, rfl, rfl⟩)))) (hb hby dnE_46) hr)
  obtain ⟨s2, o2, st2, r2⟩ := G
  exact ⟨s2, o2, castTop (efnE m x) st2, r2⟩
theorem dn0_0 : decode prog_21_method_5_code 0 = .ok (.invokestatic 33, 3) := by decide +kernel
theorem dn0_3 : decode prog_21_method_5_code 3 = .ok (.astore_n 1, 1) := by decide +kernel
theorem dn0_4 : decode prog_21_method_5_code 4 = .ok (.aload_n 1, 1) := by decide +kernel
theorem dn0_5 : decode prog_21_method_5_code 5 = .ok (.arraylength, 1) := by decide +kernel
theorem dn0_6 : decode prog_21_method_5_code 6 = .ok (.istore_n 2, 1) := by decide +kernel
theorem dn0_7 : decode prog_21_method_5_code 7 = .ok (.iconst 0, 1) := by decide +kernel
theorem dn0_8 : decode prog_21_method_5_code 8 = .ok (.istore_n 3, 1) := by decide +kernel
theorem dn0_9 : decode prog_21_method_5_code 9 = .ok (.iload_n 3, 1) := by decide +kernel
theorem dn0_10 : decode prog_21_method_5_code 10 = .ok (.iload_n 2, 1) := by decide +kernel
theorem dn0_11 : decode prog_21_method_5_code 11 = .ok (.if_icmp .ge 32, 3) := by decide +kernel
theorem dn0_14 : decode prog_21_method_5_code 14 = .ok (.aload_n 1, 1) := by decide +kernel
theorem dn0_15 : decode prog_21_method_5_code 15 = .ok (.iload_n 3, 1) := by decide +kernel
theorem dn0_16 : decode prog_21_method_5_code 16 = .ok (.aaload, 1) := by decide +kernel
theorem dn0_17 : decode prog_21_method_5_code 17 = .ok (.astore 4, 2) := by decide +kernel
theorem dn0_19 : decode prog_21_method_5_code 19 = .ok (.aload 4, 2) := by decide +kernel
theorem dn0_21 : decode prog_21_method_5_code 21 = .ok (.getfield 29, 3) := by decide +kernel
theorem dn0_24 : decode prog_21_method_5_code 24 = .ok (.aload_n 0, 1) := by decide +kernel
theorem dn0_25 : decode prog_21_method_5_code 25 = .ok (.invokevirtual 37, 3) := by decide +kernel
theorem dn0_28 : decode prog_21_method_5_code 28 = .ok (.ifCond .eq 9, 3) := by decide +kernel
theorem dn0_37 : decode prog_21_method_5_code 37 = .ok (.iinc 3 1, 3) := by decide +kernel
theorem dn0_40 : decode prog_21_method_5_code 40 = .ok (.goto (-31), 3) := by decide +kernel
theorem dn0_43 : decode prog_21_method_5_code 43 = .ok (.invokestatic 49, 3) := by decide +kernel
theorem dn0_46 : decode prog_21_method_5_code 46 = .ok (.areturn, 1) := by decide +kernel
theorem pdn0_0 : parseMethodDescriptor "()[Lcom/example/rootward/rootward/model/Policy;" = some ⟨[], some (.array (.object "com/example/rootward/rootward/model/Policy"))⟩ := by decide +kernel
theorem pdn0_1 : parseMethodDescriptor "(Ljava/lang/Object;)Z" = some ⟨[(.object "java/lang/Object")], some .boolean⟩ := by decide +kernel
theorem pdn0_2 : parseMethodDescriptor "()Ljava/util/Optional;" = some ⟨[], some (.object "java/util/Optional")⟩ := by decide +kernel
theorem pnn0 : plainName "com/example/rootward/rootward/model/Policy" = true := by first | (simp [plainName, overriddenIn]; done) | decide +kernel
theorem efn0 (m : MethodId)  : entryFrame m #[.null] 5 = mkF m 0 #[.val .null, .unset, .unset, .unset, .unset] [] := by first | (simp [entryFrame, mkF, argsToLocals, Value.category, maxLocals]; done) | rfl
def Qn0 (Z : State) (sg : Addr) (mu : Addr) (va : Addr) (ts : Addr) (ys : Addr) (tm : Addr) (ym : Addr) (oe : Addr) (kv : ClassId) (ks : ClassId) (km : ClassId) (zc : Int32) (h0 : Heap) (n0 : Nat) (v : Option Value) (h : Heap) (L : List Loc) : Prop := v = some (.ref oe) ∧ Fr n0 L ∧ Keep h0 h []
set_option maxRecDepth 65536 in
set_option maxHeartbeats 40000000 in
theorem rmn0 (l : Launch) (Z : State) (a0 : Array Value) (hw : ∀ d ∈ tables_1, d.before a0 Z = true) (ws : List Jvm.Cond) (sg : Addr) (mu : Addr) (va : Addr) (ts : Addr) (ys : Addr) (tm : Addr) (ym : Addr) (oe : Addr) (kv : ClassId) (ks : ClassId) (km : ClassId) (zc : Int32) (h0 : Heap) (n0 : Nat) (O0 : Old Z n0 h0) (EV : Exa Z Z.heap va "[Lcom/example/rootward/rootward/model/Policy;") (VV : Arv Z Z.heap va kv (.object "com/example/rootward/rootward/model/Policy") (2 : Int32) [(.ref sg), (.ref mu)] .null) (E_sg : Exa Z Z.heap sg "com/example/rootward/rootward/model/Policy") (J_sg : Fld Z Z.heap sg "com/example/rootward/rootward/model/Policy" "jsonName" "Ljava/lang/String;" (.ref ts)) (E_ts : Exa Z Z.heap ts "java/lang/String") (F_ts_coder : Fld Z Z.heap ts "java/lang/String" "coder" "B" (.int (0 : Int32))) (F_ts_value : Fld Z Z.heap ts "java/lang/String" "value" "[B" (.ref ys)) (V_ys : Arv Z Z.heap ys ks .byte (6 : Int32) [(.int (115 : Int32)), (.int (105 : Int32)), (.int (110 : Int32)), (.int (103 : Int32)), (.int (108 : Int32)), (.int (101 : Int32))] (.int (0 : Int32))) (E_mu : Exa Z Z.heap mu "com/example/rootward/rootward/model/Policy") (J_mu : Fld Z Z.heap mu "com/example/rootward/rootward/model/Policy" "jsonName" "Ljava/lang/String;" (.ref tm)) (E_tm : Exa Z Z.heap tm "java/lang/String") (F_tm_coder : Fld Z Z.heap tm "java/lang/String" "coder" "B" (.int (0 : Int32))) (F_tm_value : Fld Z Z.heap tm "java/lang/String" "value" "[B" (.ref ym)) (V_ym : Arv Z Z.heap ym km .byte (8 : Int32) [(.int (109 : Int32)), (.int (117 : Int32)), (.int (108 : Int32)), (.int (116 : Int32)), (.int (105 : Int32)), (.int (112 : Int32)), (.int (108 : Int32)), (.int (101 : Int32))] (.int (0 : Int32))) (SV : Sta Z Z.heap "com/example/rootward/rootward/model/Policy" "$VALUES" "[Lcom/example/rootward/rootward/model/Policy;" (.ref va)) (SO : Sta Z Z.heap "java/util/Optional" "EMPTY" "Ljava/util/Optional;" (.ref oe)) (SC : Sta Z Z.heap "java/lang/String" "COMPACT_STRINGS" "Z" (.int zc)) (hcs : ¬ zc = 0) :
    MetFree l (⟨"com/example/rootward/rootward/model/Policy", "named", "(Ljava/lang/String;)Ljava/util/Optional;"⟩ : MethodName) (head1 (Jvm.Cond.code (⟨"com/example/rootward/rootward/model/Policy", "named", "(Ljava/lang/String;)Ljava/util/Optional;"⟩ : MethodName) prog_21_method_5_code 5 (some (.object "java/util/Optional")) :: ws) ({ frames := 2, cells := 1, slots := 2, locals := 25 } : Room)) (fun A_ U_ => A_ = #[.null] ∧ Z.Warmed39 U_.vm ∧ U_.heap = h0) (fun _ _ _ _ _ => True) (fun _ U o U' => ∃ v L, o = .returned v ∧ Qn0 Z sg mu va ts ys tm ym oe kv ks km zc h0 n0 v U'.heap L ∧ FrameEnd U o U' L ({ frames := 2, cells := 1, slots := 2, locals := 25 } : Room).cells ({ frames := 2, cells := 1, slots := 2, locals := 25 } : Room).slots) := by
  refine MetFree.of_bodySF (plainFor_of_name pnn0) hisR ?_
  intro p e s m args below meth cd s₁ Bd hml0 hP hK
  obtain ⟨rfl, hZ, hh⟩ := hP
  have hx := Bd.exec
  have hby := Bd.bytes
  have hlk : meth.locks = false := BodyLoose.notSynchronized Bd
  have hml : cd.maxLocals = 5 := hml0
  have hown : s.vm.findClass "com/example/rootward/rootward/model/Policy" = some m.cls := findClass_of_methodNamed Bd.named
  have hnm := (name_of_methodNamed Bd.named Bd.method).1
  have X0 : Stand p l e ({ frames := 2, cells := 1, slots := 2, locals := 25 } : Room) s m #[.null] below meth cd s₁ [] 0 0 := Stand.of_body Bd
  have e0 : s₁.heap = h0 := by rw [← hh, Bd.state]; rfl
  have N0 := Fr.nil n0
  have K0 : Keep h0 h0 [] := Keep.refl _ _
  have G : Go p e below s 1 2 (Qn0 Z sg mu va ts ys tm ym oe kv ks km zc h0 n0) (s₁.setTop (mkF m 0 #[.val .null, .unset, .unset, .unset, .unset] [])) := by
    show Go p e below s _ _ _ (s₁.setTop (mkF m 0 #[.val .null, .unset, .unset, .unset, .unset] []))
    obtain ⟨_, _, ⟨T1, L1, k1, n1⟩, -, X1, ⟨Lc1, hQ1, l1, y1, z1⟩, st1⟩ := Jvm.LawKit.callS X0 hx (y := (⟨"com/example/rootward/rootward/model/Policy", "values", "()[Lcom/example/rootward/rootward/model/Policy;"⟩ : MethodName)) hown (mvT hZ (own_w hw 54 rfl)) (mvT hZ (own_w hw 55 rfl)) (mvT hZ (own_w hw 49 rfl)) (mvT hZ (own_w hw 56 rfl)) (by decide) (backOf (W := 0) (rmv l Z a0 hw [] va kv sg mu h0 n0 O0 EV VV SV) hZ (own_w hw 56 rfl) (own_w hw 49 rfl) (by decide) (by decide)) (g := (mkF m 0 #[.val .null, .unset, .unset, .unset, .unset] [])) rfl (by rw [hml]; rfl) (argsL := []) (rest := []) (lenOf pdn0_0 rfl) rfl (by show 2 * 0 + _ ≤ _; exact Nat.le_of_eq rfl) (hb hby dn0_0) (fun _ _ => ⟨rfl, e0, (by decide : 0 + 1 ≤ _), (by decide : 0 + 2 ≤ _)⟩)
    dsimp only [Pt.U, Pt.locs, Pt.cells, Pt.slots] at X1 l1 y1 z1 st1 hQ1
    subst y1 z1
    obtain ⟨q1, kq1, rfl, Nc1, Kc1, gq1, szq1, NV⟩ := hQ1
    have N1 : Fr n0 L1 := by rw [l1]; exact Fr.app N0 Nc1
    have g_q1 : n0 ≤ q1 := gq1
    have sz_q1 : h0.size ≤ q1 := Nat.le_trans K0.1 szq1
    have O1 := O0.keep Kc1 all0
    have K1 := K0.trans Kc1 all0
    have V_q1 := NV
    refine Go.st st1 ?_
    show Go p e below s _ _ _ (T1.setTop (mkF m 3 #[.val .null, .unset, .unset, .unset, .unset] [(.ref q1)]))
    refine Go.st (fun _ kq_ => XS.astoreN X1.here hx rfl (hb hby dn0_3) rfl rfl (l' := #[.val .null, .val (.ref q1), .unset, .unset, .unset]) rfl kq_) ?_
    show Go p e below s _ _ _ (T1.setTop (mkF m 4 #[.val .null, .val (.ref q1), .unset, .unset, .unset] []))
    refine Go.st (fun _ kq_ => XS.aloadN X1.here hx rfl (hb hby dn0_4) rfl rfl kq_) ?_
    show Go p e below s _ _ _ (T1.setTop (mkF m 5 #[.val .null, .val (.ref q1), .unset, .unset, .unset] [(.ref q1)]))
    refine Go.st (fun _ kq_ => own_len X1 hx hZ rfl V_q1 (g := (mkF m 5 #[.val .null, .val (.ref q1), .unset, .unset, .unset] [(.ref q1)])) rfl rfl (hb hby dn0_5) _ kq_) ?_
    show Go p e below s _ _ _ (T1.setTop (mkF m 6 #[.val .null, .val (.ref q1), .unset, .unset, .unset] [(.int (2 : Int32))]))
    refine Go.st (fun _ kq_ => XS.istoreN X1.here hx rfl (hb hby dn0_6) rfl (l' := #[.val .null, .val (.ref q1), .val (.int (2 : Int32)), .unset, .unset]) rfl kq_) ?_
    show Go p e below s _ _ _ (T1.setTop (mkF m 7 #[.val .null, .val (.ref q1), .val (.int (2 : Int32)), .unset, .unset] []))
    refine Go.st (fun _ kq_ => XS.iconst X1.here hx rfl (hb hby dn0_7) kq_) ?_
    show Go p e below s _ _ _ (T1.setTop (mkF m 8 #[.val .null, .val (.ref q1), .val (.int (2 : Int32)), .unset, .unset] [(.int (0 : Int32))]))
    refine Go.st (fun _ kq_ => XS.istoreN X1.here hx rfl (hb hby dn0_8) rfl (l' := #[.val .null, .val (.ref q1), .val (.int (2 : Int32)), .val (.int (0 : Int32)), .unset]) rfl kq_) ?_
    show Go p e below s _ _ _ (T1.setTop (mkF m 9 #[.val .null, .val (.ref q1), .val (.int (2 : Int32)), .val (.int (0 : Int32)), .unset] []))
    refine Go.st (fun _ kq_ => XS.iloadN X1.here hx rfl (hb hby dn0_9) rfl kq_) ?_
    show Go p e below s _ _ _ (T1.setTop (mkF m 10 #[.val .null, .val (.ref q1), .val (.int (2 : Int32)), .val (.int (0 : Int32)), .unset] [(.int (0 : Int32))]))
    refine Go.st (fun _ kq_ => XS.iloadN X1.here hx rfl (hb hby dn0_10) rfl kq_) ?_
    show Go p e below s _ _ _ (T1.setTop (mkF m 11 #[.val .null, .val (.ref q1), .val (.int (2 : Int32)), .val (.int (0 : Int32)), .unset] [(.int (2 : Int32)), (.int (0 : Int32))]))
    refine Go.st (fun _ kq_ => XS.icmpNo X1.here hx rfl (hb hby dn0_11) rfl (by decide) kq_) ?_
    show Go p e below s _ _ _ (T1.setTop (mkF m 14 #[.val .null, .val (.ref q1), .val (.int (2 : Int32)), .val (.int (0 : Int32)), .unset] []))
    refine Go.st (fun _ kq_ => XS.aloadN X1.here hx rfl (hb hby dn0_14) rfl rfl kq_) ?_
    show Go p e below s _ _ _ (T1.setTop (mkF m 15 #[.val .null, .val (.ref q1), .val (.int (2 : Int32)), .val (.int (0 : Int32)), .unset] [(.ref q1)]))
    refine Go.st (fun _ kq_ => XS.iloadN X1.here hx rfl (hb hby dn0_15) rfl kq_) ?_
    show Go p e below s _ _ _ (T1.setTop (mkF m 16 #[.val .null, .val (.ref q1), .val (.int (2 : Int32)), .val (.int (0 : Int32)), .unset] [(.int (0 : Int32)), (.ref q1)]))
    refine Go.st (fun _ kq_ => own_aaload X1 hx hZ rfl V_q1 rfl (by decide) (by decide) (v := (.ref sg)) rfl (g := (mkF m 16 #[.val .null, .val (.ref q1), .val (.int (2 : Int32)), .val (.int (0 : Int32)), .unset] [(.int (0 : Int32)), (.ref q1)])) rfl rfl (hb hby dn0_16) _ kq_) ?_
    show Go p e below s _ _ _ (T1.setTop (mkF m 17 #[.val .null, .val (.ref q1), .val (.int (2 : Int32)), .val (.int (0 : Int32)), .unset] [(.ref sg)]))
    refine Go.st (fun _ kq_ => XS.astore X1.here hx rfl (hb hby dn0_17) rfl rfl (l' := #[.val .null, .val (.ref q1), .val (.int (2 : Int32)), .val (.int (0 : Int32)), .val (.ref sg)]) rfl kq_) ?_
    show Go p e below s _ _ _ (T1.setTop (mkF m 19 #[.val .null, .val (.ref q1), .val (.int (2 : Int32)), .val (.int (0 : Int32)), .val (.ref sg)] []))
    refine Go.st (fun _ kq_ => XS.aload X1.here hx rfl (hb hby dn0_19) rfl rfl kq_) ?_
    show Go p e below s _ _ _ (T1.setTop (mkF m 21 #[.val .null, .val (.ref q1), .val (.int (2 : Int32)), .val (.int (0 : Int32)), .val (.ref sg)] [(.ref sg)]))
    obtain ⟨T2, X2, e2, st2⟩ := getF X1 hx hZ hown (host := "") (Or.inl (own_w hw 70 rfl)) Via.refl rfl (J_sg.ext O1.2) (g := (mkF m 21 #[.val .null, .val (.ref q1), .val (.int (2 : Int32)), .val (.int (0 : Int32)), .val (.ref sg)] [(.ref sg)])) rfl rfl (hb hby dn0_21)
    refine Go.st st2 ?_
    show Go p e below s _ _ _ (T2.setTop (mkF m 24 #[.val .null, .val (.ref q1), .val (.int (2 : Int32)), .val (.int (0 : Int32)), .val (.ref sg)] [(.ref ts)]))
    refine Go.st (fun _ kq_ => XS.aloadN X2.here hx rfl (hb hby dn0_24) rfl rfl kq_) ?_
    show Go p e below s _ _ _ (T2.setTop (mkF m 25 #[.val .null, .val (.ref q1), .val (.int (2 : Int32)), .val (.int (0 : Int32)), .val (.ref sg)] [.null, (.ref ts)]))
    obtain ⟨cq3, kq3, qa3, qb3, qc3⟩ := isOf hZ e2 (E_ts.ext O1.2)
    obtain ⟨_, _, ⟨T3, L3, k3, n3⟩, -, X3, ⟨Lc3, hQ3, l3, y3, z3⟩, st3⟩ := X2.virtualBack hx (y := (⟨"java/lang/String", "equals", "(Ljava/lang/Object;)Z"⟩ : MethodName)) (z := (⟨"java/lang/String", "equals", "(Ljava/lang/Object;)Z"⟩ : MethodName)) hown (mvT hZ (own_w hw 72 rfl)) (mvT hZ (own_w hw 39 rfl)) (notFace_of_selects (args := #[]) (mvT hZ (own_w hw 41 rfl))) (mvT hZ (own_w hw 41 rfl)) (mvT hZ (own_w hw 40 rfl)) (by decide) (backOf (W := 0) (rmq0 l Z a0 hw [] ts T1.heap n0 O1 ) hZ (own_w hw 42 rfl) (own_w hw 8 rfl) (by decide) (by decide)) qa3 qc3 (g := (mkF m 25 #[.val .null, .val (.ref q1), .val (.int (2 : Int32)), .val (.int (0 : Int32)), .val (.ref sg)] [.null, (.ref ts)])) rfl (by rw [hml]; rfl) (Steps.refl _) (argsL := [.null]) (rest := []) (lenOf pdn0_1 rfl) rfl (by show 2 * 0 + _ ≤ _; exact Nat.le_of_eq rfl) (hb hby dn0_25) (fun _ _ => ⟨rfl, e2, (by decide : 1 + 0 ≤ _), (by decide : 2 + 0 ≤ _)⟩)
    dsimp only [Pt.U, Pt.locs, Pt.cells, Pt.slots] at X3 l3 y3 z3 st3 hQ3
    subst y3 z3
    obtain ⟨rfl, Nc3, e3⟩ := hQ3
    have N3 : Fr n0 L3 := by rw [l3]; exact Fr.app N1 Nc3
    refine Go.tr st3 ?_
    show Go p e below s _ _ _ (T3.setTop (mkF m 28 #[.val .null, .val (.ref q1), .val (.int (2 : Int32)), .val (.int (0 : Int32)), .val (.ref sg)] [(.int (0 : Int32))]))
    refine Go.st (fun _ kq_ => XS.ifYes X3.here hx rfl (pc0 := 28) (pc' := 37) rfl (hb hby dn0_28) rfl (by decide) (by decide) (by decide) kq_) ?_
    show Go p e below s _ _ _ (T3.setTop (mkF m 37 #[.val .null, .val (.ref q1), .val (.int (2 : Int32)), .val (.int (0 : Int32)), .val (.ref sg)] []))
    refine Go.st (fun _ kq_ => XT.iincV X3.here hx rfl (1 : Int32) (hb hby dn0_37) rfl rfl (l' := #[.val .null, .val (.ref q1), .val (.int (2 : Int32)), .val (.int (1 : Int32)), .val (.ref sg)]) rfl kq_) ?_
    show Go p e below s _ _ _ (T3.setTop (mkF m 40 #[.val .null, .val (.ref q1), .val (.int (2 : Int32)), .val (.int (1 : Int32)), .val (.ref sg)] []))
    refine Go.st (fun _ kq_ => XS.goto X3.here hx rfl (pc0 := 40) (pc' := 9) rfl (hb hby dn0_40) (by decide) (by decide) kq_) ?_
    show Go p e below s _ _ _ (T3.setTop (mkF m 9 #[.val .null, .val (.ref q1), .val (.int (2 : Int32)), .val (.int (1 : Int32)), .val (.ref sg)] []))
    refine Go.st (fun _ kq_ => XS.iloadN X3.here hx rfl (hb hby dn0_9) rfl kq_) ?_
    show Go p e below s _ _ _ (T3.setTop (mkF m 10 #[.val .null, .val (.ref q1), .val (.int (2 : Int32)), .val (.int (1 : Int32)), .val (.ref sg)] [(.int (1 : Int32))]))
    refine Go.st (fun _ kq_ => XS.iloadN X3.here hx rfl (hb hby dn0_10) rfl kq_) ?_
    show Go p e below s _ _ _ (T3.setTop (mkF m 11 #[.val .null, .val (.ref q1), .val (.int (2 : Int32)), .val (.int (1 : Int32)), .val (.ref sg)] [(.int (2 : Int32)), (.int (1 : Int32))]))
    refine Go.st (fun _ kq_ => XS.icmpNo X3.here hx rfl (hb hby dn0_11) rfl (by decide) kq_) ?_
    show Go p e below s _ _ _ (T3.setTop (mkF m 14 #[.val .null, .val (.ref q1), .val (.int (2 : Int32)), .val (.int (1 : Int32)), .val (.ref sg)] []))
    refine Go.st (fun _ kq_ => XS.aloadN X3.here hx rfl (hb hby dn0_14) rfl rfl kq_) ?_
    show Go p e below s _ _ _ (T3.setTop (mkF m 15 #[.val .null, .val (.ref q1), .val (.int (2 : Int32)), .val (.int (1 : Int32)), .val (.ref sg)] [(.ref q1)]))
    refine Go.st (fun _ kq_ => XS.iloadN X3.here hx rfl (hb hby dn0_15) rfl kq_) ?_
    show Go p e below s _ _ _ (T3.setTop (mkF m 16 #[.val .null, .val (.ref q1), .val (.int (2 : Int32)), .val (.int (1 : Int32)), .val (.ref sg)] [(.int (1 : Int32)), (.ref q1)]))
    refine Go.st (fun _ kq_ => own_aaload X3 hx hZ e3 V_q1 rfl (by decide) (by decide) (v := (.ref mu)) rfl (g := (mkF m 16 #[.val .null, .val (.ref q1), .val (.int (2 : Int32)), .val (.int (1 : Int32)), .val (.ref sg)] [(.int (1 : Int32)), (.ref q1)])) rfl rfl (hb hby dn0_16) _ kq_) ?_
    show Go p e below s _ _ _ (T3.setTop (mkF m 17 #[.val .null, .val (.ref q1), .val (.int (2 : Int32)), .val (.int (1 : Int32)), .val (.ref sg)] [(.ref mu)]))
    refine Go.st (fun _ kq_ => XS.astore X3.here hx rfl (hb hby dn0_17) rfl rfl (l' := #[.val .null, .val (.ref q1), .val (.int (2 : Int32)), .val (.int (1 : Int32)), .val (.ref mu)]) rfl kq_) ?_
    show Go p e below s _ _ _ (T3.setTop (mkF m 19 #[.val .null, .val (.ref q1), .val (.int (2 : Int32)), .val (.int (1 : Int32)), .val (.ref mu)] []))
    refine Go.st (fun _ kq_ => XS.aload X3.here hx rfl (hb hby dn0_19) rfl rfl kq_) ?_
    show Go p e below s _ _ _ (T3.setTop (mkF m 21 #[.val .null, .val (.ref q1), .val (.int (2 : Int32)), .val (.int (1 : Int32)), .val (.ref mu)] [(.ref mu)]))
    obtain ⟨T4, X4, e4, st4⟩ := getF X3 hx hZ hown (host := "") (Or.inl (own_w hw 70 rfl)) Via.refl e3 (J_mu.ext O1.2) (g := (mkF m 21 #[.val .null, .val (.ref q1), .val (.int (2 : Int32)), .val (.int (1 : Int32)), .val (.ref mu)] [(.ref mu)])) rfl rfl (hb hby dn0_21)
    refine Go.st st4 ?_
    show Go p e below s _ _ _ (T4.setTop (mkF m 24 #[.val .null, .val (.ref q1), .val (.int (2 : Int32)), .val (.int (1 : Int32)), .val (.ref mu)] [(.ref tm)]))
    refine Go.st (fun _ kq_ => XS.aloadN X4.here hx rfl (hb hby dn0_24) rfl rfl kq_) ?_
    show Go p e below s _ _ _ (T4.setTop (mkF m 25 #[.val .null, .val (.ref q1), .val (.int (2 : Int32)), .val (.int (1 : Int32)), .val (.ref mu)] [.null, (.ref tm)]))
    obtain ⟨cq5, kq5, qa5, qb5, qc5⟩ := isOf hZ e4 (E_tm.ext O1.2)
    obtain ⟨_, _, ⟨T5, L5, k5, n5⟩, -, X5, ⟨Lc5, hQ5, l5, y5, z5⟩, st5⟩ := X4.virtualBack hx (y := (⟨"java/lang/String", "equals", "(Ljava/lang/Object;)Z"⟩ : MethodName)) (z := (⟨"java/lang/String", "equals", "(Ljava/lang/Object;)Z"⟩ : MethodName)) hown (mvT hZ (own_w hw 72 rfl)) (mvT hZ (own_w hw 39 rfl)) (notFace_of_selects (args := #[]) (mvT hZ (own_w hw 41 rfl))) (mvT hZ (own_w hw 41 rfl)) (mvT hZ (own_w hw 40 rfl)) (by decide) (backOf (W := 0) (rmq0 l Z a0 hw [] tm T1.heap n0 O1 ) hZ (own_w hw 42 rfl) (own_w hw 8 rfl) (by decide) (by decide)) qa5 qc5 (g := (mkF m 25 #[.val .null, .val (.ref q1), .val (.int (2 : Int32)), .val (.int (1 : Int32)), .val (.ref mu)] [.null, (.ref tm)])) rfl (by rw [hml]; rfl) (Steps.refl _) (argsL := [.null]) (rest := []) (lenOf pdn0_1 rfl) rfl (by show 2 * 0 + _ ≤ _; exact Nat.le_of_eq rfl) (hb hby dn0_25) (fun _ _ => ⟨rfl, e4, (by decide : 1 + 0 ≤ _), (by decide : 2 + 0 ≤ _)⟩)
    dsimp only [Pt.U, Pt.locs, Pt.cells, Pt.slots] at X5 l5 y5 z5 st5 hQ5
    subst y5 z5
    obtain ⟨rfl, Nc5, e5⟩ := hQ5
    have N5 : Fr n0 L5 := by rw [l5]; exact Fr.app N3 Nc5
    refine Go.tr st5 ?_
    show Go p e below s _ _ _ (T5.setTop (mkF m 28 #[.val .null, .val (.ref q1), .val (.int (2 : Int32)), .val (.int (1 : Int32)), .val (.ref mu)] [(.int (0 : Int32))]))
    refine Go.st (fun _ kq_ => XS.ifYes X5.here hx rfl (pc0 := 28) (pc' := 37) rfl (hb hby dn0_28) rfl (by decide) (by decide) (by decide) kq_) ?_
    show Go p e below s _ _ _ (T5.setTop (mkF m 37 #[.val .null, .val (.ref q1), .val (.int (2 : Int32)), .val (.int (1 : Int32)), .val (.ref mu)] []))
    refine Go.st (fun _ kq_ => XT.iincV X5.here hx rfl (1 : Int32) (hb hby dn0_37) rfl rfl (l' := #[.val .null, .val (.ref q1), .val (.int (2 : Int32)), .val (.int (2 : Int32)), .val (.ref mu)]) rfl kq_) ?_
    show Go p e below s _ _ _ (T5.setTop (mkF m 40 #[.val .null, .val (.ref q1), .val (.int (2 : Int32)), .val (.int (2 : Int32)), .val (.ref mu)] []))
    refine Go.st (fun _ kq_ => XS.goto X5.here hx rfl (pc0 := 40) (pc' := 9) rfl (hb hby dn0_40) (by decide) (by decide) kq_) ?_
    show Go p e below s _ _ _ (T5.setTop (mkF m 9 #[.val .null, .val (.ref q1), .val (.int (2 : Int32)), .val (.int (2 : Int32)), .val (.ref mu)] []))
    refine Go.st (fun _ kq_ => XS.iloadN X5.here hx rfl (hb hby dn0_9) rfl kq_) ?_
    show Go p e below s _ _ _ (T5.setTop (mkF m 10 #[.val .null, .val (.ref q1), .val (.int (2 : Int32)), .val (.int (2 : Int32)), .val (.ref mu)] [(.int (2 : Int32))]))
    refine Go.st (fun _ kq_ => XS.iloadN X5.here hx rfl (hb hby dn0_10) rfl kq_) ?_
    show Go p e below s _ _ _ (T5.setTop (mkF m 11 #[.val .null, .val (.ref q1), .val (.int (2 : Int32)), .val (.int (2 : Int32)), .val (.ref mu)] [(.int (2 : Int32)), (.int (2 : Int32))]))
    refine Go.st (fun _ kq_ => XS.icmpYes X5.here hx rfl (pc0 := 11) (pc' := 43) rfl (hb hby dn0_11) rfl (by decide) (by decide) (by decide) kq_) ?_
    show Go p e below s _ _ _ (T5.setTop (mkF m 43 #[.val .null, .val (.ref q1), .val (.int (2 : Int32)), .val (.int (2 : Int32)), .val (.ref mu)] []))
    obtain ⟨_, _, ⟨T6, L6, k6, n6⟩, -, X6, ⟨Lc6, hQ6, l6, y6, z6⟩, st6⟩ := Jvm.LawKit.callS X5 hx (y := (⟨"java/util/Optional", "empty", "()Ljava/util/Optional;"⟩ : MethodName)) hown (mvT hZ (own_w hw 109 rfl)) (mvT hZ (own_w hw 110 rfl)) (mvT hZ (own_w hw 75 rfl)) (mvT hZ (own_w hw 111 rfl)) (by decide) (backOf (W := 0) (rmoe l Z a0 hw [] oe T1.heap n0 O1 SO) hZ (own_w hw 111 rfl) (own_w hw 75 rfl) (by decide) (by decide)) (g := (mkF m 43 #[.val .null, .val (.ref q1), .val (.int (2 : Int32)), .val (.int (2 : Int32)), .val (.ref mu)] [])) rfl (by rw [hml]; rfl) (argsL := []) (rest := []) (lenOf pdn0_2 rfl) rfl (by show 2 * 0 + _ ≤ _; exact Nat.le_of_eq rfl) (hb hby dn0_43) (fun _ _ => ⟨rfl, e5, (by decide : 1 + 0 ≤ _), (by decide : 2 + 0 ≤ _)⟩)
    dsimp only [Pt.U, Pt.locs, Pt.cells, Pt.slots] at X6 l6 y6 z6 st6 hQ6
    subst y6 z6
    obtain ⟨rfl, Nc6, e6⟩ := hQ6
    have N6 : Fr n0 L6 := by rw [l6]; exact Fr.app N5 Nc6
    refine Go.st st6 ?_
    show Go p e below s _ _ _ (T6.setTop (mkF m 46 #[.val .null, .val (.ref q1), .val (.int (2 : Int32)), .val (.int (2 : Int32)), .val (.ref mu)] [(.ref oe)]))
    exact Go.ret X6 hlk (some (.ref oe)) (fun h => by rw [Bd.returns] at h; cases h) (by rw [e6]; exact ⟨rfl, N6, K1⟩) (by decide) (by decide) (fun fs hr => retOut X6 hx Bd.returns rfl (Or.inr (Or.inr (Or.inr (Or.inr ⟨rfl, rfl, rfl⟩)))) (hb hby dn0_46) hr)
  obtain ⟨s2, o2, st2, r2⟩ := G
  exact ⟨s2, o2, castTop (efn0 m ) st2, r2⟩
theorem pd0_0 : parseMethodDescriptor "([CI)Ljava/lang/String;" = some ⟨[(.array .char), .int], some (.object "java/lang/String")⟩ := by decide +kernel
theorem pd0_1 : parseMethodDescriptor "(Ljava/lang/Object;)Z" = some ⟨[(.object "java/lang/Object")], some .boolean⟩ := by decide +kernel
theorem pd0_2 : parseMethodDescriptor "(Ljava/lang/String;)Ljava/util/Optional;" = some ⟨[(.object "java/lang/String")], some (.object "java/util/Optional")⟩ := by decide +kernel
theorem pd0_3 : parseMethodDescriptor "()Z" = some ⟨[], some .boolean⟩ := by decide +kernel
theorem pd0_4 : parseMethodDescriptor "()Ljava/lang/Object;" = some ⟨[], some (.object "java/lang/Object")⟩ := by decide +kernel
theorem pd0_5 : parseMethodDescriptor "()Ljava/lang/String;" = some ⟨[], some (.object "java/lang/String")⟩ := by decide +kernel
theorem pn0 : plainName "com/example/rootward/rootward/model/PolicyNamedPinLaw" = true := by first | (simp [plainName, overriddenIn]; done) | decide +kernel
theorem ef0 (m : MethodId) (x0 : Int32) (x1 : Int32) (x2 : Int64) (x3 : Int32) (x4 : Int32) : entryFrame m #[(.int x0), (.int x1), (.long x2), (.int x3), (.int x4)] maxLocals = mkF m 0 #[.val (.int x0), .val (.int x1), .val (.long x2), .second, .val (.int x3), .val (.int x4), .unset, .unset, .unset, .unset, .unset, .unset] [] := by first | (simp [entryFrame, mkF, argsToLocals, Value.category, maxLocals]; done) | rfl
def Q0 (Z : State) (p0 : Int32) (p1 : Int32) (p2 : Int64) (p4 : Int32) (p5 : Int32) (sg : Addr) (mu : Addr) (va : Addr) (ts : Addr) (ys : Addr) (tm : Addr) (ym : Addr) (oe : Addr) (kv : ClassId) (ks : ClassId) (km : ClassId) (zc : Int32) (h0 : Heap) (n0 : Nat) (v : Option Value) (vm : Vm) (h : Heap) (L : List Loc) : Prop := v = some (.int 1) ∧ Fr n0 L
set_option maxRecDepth 65536 in
set_option maxHeartbeats 40000000 in
theorem rm0 (l : Launch) (Z : State) (a0 : Array Value) (hw : ∀ d ∈ tables_1, d.before a0 Z = true) (ws : List Jvm.Cond) (p0 : Int32) (p1 : Int32) (p2 : Int64) (p4 : Int32) (p5 : Int32) (sg : Addr) (mu : Addr) (va : Addr) (ts : Addr) (ys : Addr) (tm : Addr) (ym : Addr) (oe : Addr) (kv : ClassId) (ks : ClassId) (km : ClassId) (zc : Int32) (h0 : Heap) (n0 : Nat) (O0 : Old Z n0 h0) (hz0 : Z.heap = h0) (EV : Exa Z Z.heap va "[Lcom/example/rootward/rootward/model/Policy;") (VV : Arv Z Z.heap va kv (.object "com/example/rootward/rootward/model/Policy") (2 : Int32) [(.ref sg), (.ref mu)] .null) (E_sg : Exa Z Z.heap sg "com/example/rootward/rootward/model/Policy") (J_sg : Fld Z Z.heap sg "com/example/rootward/rootward/model/Policy" "jsonName" "Ljava/lang/String;" (.ref ts)) (E_ts : Exa Z Z.heap ts "java/lang/String") (F_ts_coder : Fld Z Z.heap ts "java/lang/String" "coder" "B" (.int (0 : Int32))) (F_ts_value : Fld Z Z.heap ts "java/lang/String" "value" "[B" (.ref ys)) (V_ys : Arv Z Z.heap ys ks .byte (6 : Int32) [(.int (115 : Int32)), (.int (105 : Int32)), (.int (110 : Int32)), (.int (103 : Int32)), (.int (108 : Int32)), (.int (101 : Int32))] (.int (0 : Int32))) (E_mu : Exa Z Z.heap mu "com/example/rootward/rootward/model/Policy") (J_mu : Fld Z Z.heap mu "com/example/rootward/rootward/model/Policy" "jsonName" "Ljava/lang/String;" (.ref tm)) (E_tm : Exa Z Z.heap tm "java/lang/String") (F_tm_coder : Fld Z Z.heap tm "java/lang/String" "coder" "B" (.int (0 : Int32))) (F_tm_value : Fld Z Z.heap tm "java/lang/String" "value" "[B" (.ref ym)) (V_ym : Arv Z Z.heap ym km .byte (8 : Int32) [(.int (109 : Int32)), (.int (117 : Int32)), (.int (108 : Int32)), (.int (116 : Int32)), (.int (105 : Int32)), (.int (112 : Int32)), (.int (108 : Int32)), (.int (101 : Int32))] (.int (0 : Int32))) (SV : Sta Z Z.heap "com/example/rootward/rootward/model/Policy" "$VALUES" "[Lcom/example/rootward/rootward/model/Policy;" (.ref va)) (SO : Sta Z Z.heap "java/util/Optional" "EMPTY" "Ljava/util/Optional;" (.ref oe)) (SC : Sta Z Z.heap "java/lang/String" "COMPACT_STRINGS" "Z" (.int zc)) (hcs : ¬ zc = 0) (EO : Exa Z Z.heap oe "java/util/Optional") (FO : Fld Z Z.heap oe "java/util/Optional" "value" "Ljava/lang/Object;" .null) (SS : Sta Z Z.heap "com/example/rootward/rootward/model/Policy" "SINGLE" "Lcom/example/rootward/rootward/model/Policy;" (.ref sg)) (SM : Sta Z Z.heap "com/example/rootward/rootward/model/Policy" "MULTIPLE" "Lcom/example/rootward/rootward/model/Policy;" (.ref mu)) (hcw : Jvm.Lit.compactW.before a0 Z = true) (hcon : Jvm.Lit.constsHeld consts_1 Z) :
    MetFree l x (head1 (Jvm.Cond.code x code maxLocals ret :: ws) room_1) (fun A_ U_ => A_ = #[(.int p0), (.int p1), (.long p2), (.int p4), (.int p5)] ∧ U_ = Z) (fun _ _ _ _ _ => True) (fun _ U o U' => ∃ v L, o = .returned v ∧ Q0 Z p0 p1 p2 p4 p5 sg mu va ts ys tm ym oe kv ks km zc h0 n0 v U'.vm U'.heap L ∧ ReturnedEndW U o U' L room_1.cells room_1.slots) := by
  refine MetFree.of_bodySF (plainFor_of_name pn0) hisR ?_
  intro p e s m args below meth cd s₁ Bd hml0 hP hK
  obtain ⟨rfl, hU⟩ := hP
  have hZ : Z.Warmed39 s.vm := by rw [hU]; exact State.Warmed39.refl Z
  have hh : s.heap = h0 := by rw [hU]; exact hz0
  have I0 : IB Z s.vm [] := by rw [hU]; exact IB.start
  have hkp : ∀ (b : Addr) (cl : Cell), Z.heap[b]? = some cl → s.heap[b]? = some cl := by rw [hU]; exact fun _ _ q => q
  have hs0 : s.heap.size = n0 := by rw [hU]; exact O0.1
  have hS0 : s.Since s.vm h0.size := State.WarmedH.since (State.WarmedH.refl s) _
  have hk0 : h0.size ≤ h0.size := Nat.le_refl _
  have hx := Bd.exec
  have hby := Bd.bytes
  have hlk : meth.locks = false := BodyLoose.notSynchronized Bd
  have hml : cd.maxLocals = 12 := hml0
  have hown : s.vm.findClass "com/example/rootward/rootward/model/PolicyNamedPinLaw" = some m.cls := findClass_of_methodNamed Bd.named
  have hnm := (name_of_methodNamed Bd.named Bd.method).1
  have X0 : Stand p l e room_1 s m #[(.int p0), (.int p1), (.long p2), (.int p4), (.int p5)] below meth cd s₁ [] 0 0 := Stand.of_body Bd
  have e0 : s₁.heap = h0 := by rw [← hh, Bd.state]; rfl
  have N0 := Fr.nil n0
  have wS : ∀ a ∈ Bundle.stringAtoms, a.before a0 Z = true := fun d hd => hw d ((by decide +kernel : ∀ d ∈ Bundle.stringAtoms, d ∈ tables_1) d hd)
  have heq : ∀ d ∈ StrChars.Road.wordsEq, d.before a0 Z = true := fun d hd => hw d ((by decide +kernel : ∀ d ∈ StrChars.Road.wordsEq, d ∈ tables_1) d hd)
  have G : GoV p e below s room_1.cells room_1.slots (Q0 Z p0 p1 p2 p4 p5 sg mu va ts ys tm ym oe kv ks km zc h0 n0) (s₁.setTop (mkF m 0 #[.val (.int p0), .val (.int p1), .val (.long p2), .second, .val (.int p4), .val (.int p5), .unset, .unset, .unset, .unset, .unset, .unset] [])) := by
    show GoV p e below s _ _ _ (s₁.setTop (mkF m 0 #[.val (.int p0), .val (.int p1), .val (.long p2), .second, .val (.int p4), .val (.int p5), .unset, .unset, .unset, .unset, .unset, .unset] []))
    refine GoV.st (fun _ kq_ => XS.iloadN X0.here hx rfl (hb hby at_0) rfl kq_) ?_
    show GoV p e below s _ _ _ (s₁.setTop (mkF m 1 #[.val (.int p0), .val (.int p1), .val (.long p2), .second, .val (.int p4), .val (.int p5), .unset, .unset, .unset, .unset, .unset, .unset] [(.int p0)]))
    refine GoV.st (fun _ kq_ => XS.iconst X0.here hx rfl (hb hby at_1) kq_) ?_
    show GoV p e below s _ _ _ (s₁.setTop (mkF m 2 #[.val (.int p0), .val (.int p1), .val (.long p2), .second, .val (.int p4), .val (.int p5), .unset, .unset, .unset, .unset, .unset, .unset] [(.int (3 : Int32)), (.int p0)]))
    refine GoV.st (fun _ kq_ => XS.iand X0.here hx rfl (hb hby at_2) rfl kq_) ?_
    show GoV p e below s _ _ _ (s₁.setTop (mkF m 3 #[.val (.int p0), .val (.int p1), .val (.long p2), .second, .val (.int p4), .val (.int p5), .unset, .unset, .unset, .unset, .unset, .unset] [(.int (p0 &&& (3 : Int32)))]))
    refine GoV.st (fun _ kq_ => XS.istore X0.here hx rfl (hb hby at_3) rfl (l' := #[.val (.int p0), .val (.int p1), .val (.long p2), .second, .val (.int p4), .val (.int p5), .val (.int (p0 &&& (3 : Int32))), .unset, .unset, .unset, .unset, .unset]) rfl kq_) ?_
    show GoV p e below s _ _ _ (s₁.setTop (mkF m 5 #[.val (.int p0), .val (.int p1), .val (.long p2), .second, .val (.int p4), .val (.int p5), .val (.int (p0 &&& (3 : Int32))), .unset, .unset, .unset, .unset, .unset] []))
    refine GoV.st (fun _ kq_ => XS.bipush X0.here hx rfl (hb hby at_5) kq_) ?_
    show GoV p e below s _ _ _ (s₁.setTop (mkF m 7 #[.val (.int p0), .val (.int p1), .val (.long p2), .second, .val (.int p4), .val (.int p5), .val (.int (p0 &&& (3 : Int32))), .unset, .unset, .unset, .unset, .unset] [(.int (9 : Int32))]))
    obtain ⟨T1, h1, k1, X1, e1, E1, A1, st1⟩ := newP X0 hx hZ (own_w hw 0 rfl) e0 (g := (mkF m 7 #[.val (.int p0), .val (.int p1), .val (.long p2), .second, .val (.int p4), .val (.int p5), .val (.int (p0 &&& (3 : Int32))), .unset, .unset, .unset, .unset, .unset] [(.int (9 : Int32))])) rfl (hb hby at_7) rfl (by decide) (cap := 9) (by decide) (by decide) (by decide) (by decide)
    obtain ⟨b1, g1⟩ : ∃ z, z = h0.size := ⟨_, rfl⟩
    rw [← g1] at A1 st1
    have g_b1 : n0 ≤ b1 := Nat.le_trans (own_old O0) (Nat.le_of_eq g1.symm)
    have hk1 := Nat.le_trans hk0 E1.1
    have O1 := O0.ext E1
    have V_b1 : Arv Z h1 b1 k1 .char (9 : Int32) [(.int (0 : Int32)), (.int (0 : Int32)), (.int (0 : Int32)), (.int (0 : Int32)), (.int (0 : Int32)), (.int (0 : Int32)), (.int (0 : Int32)), (.int (0 : Int32)), (.int (0 : Int32))] (.int (0 : Int32)) := (Arv.new A1 (by decide)).pad (pad_rep [] (.int (0 : Int32)) 9)
    refine GoV.st st1 ?_
    show GoV p e below s _ _ _ (T1.setTop (mkF m 9 #[.val (.int p0), .val (.int p1), .val (.long p2), .second, .val (.int p4), .val (.int p5), .val (.int (p0 &&& (3 : Int32))), .unset, .unset, .unset, .unset, .unset] [(.ref b1)]))
    refine GoV.st (fun _ kq_ => XS.astore X1.here hx rfl (hb hby at_9) rfl rfl (l' := #[.val (.int p0), .val (.int p1), .val (.long p2), .second, .val (.int p4), .val (.int p5), .val (.int (p0 &&& (3 : Int32))), .val (.ref b1), .unset, .unset, .unset, .unset]) rfl kq_) ?_
    show GoV p e below s _ _ _ (T1.setTop (mkF m 11 #[.val (.int p0), .val (.int p1), .val (.long p2), .second, .val (.int p4), .val (.int p5), .val (.int (p0 &&& (3 : Int32))), .val (.ref b1), .unset, .unset, .unset, .unset] []))
    have J354 : ∀ (c0 : Int32) (c1 : Int32) (c2 : Int32) (c3 : Int32) (c4 : Int32) (c5 : Int32) (c6 : Int32) (c7 : Int32) (c8 : Int32) (n : Int32) (T2 : State) (h2 : Heap) (lc2 : List Loc) (X2 : Stand p l e room_1 s m #[(.int p0), (.int p1), (.long p2), (.int p4), (.int p5)] below meth cd T2 lc2 1 9) (e2 : T2.heap = h2) (N2 : Fr n0 lc2) (O2 : Old Z n0 h2) (hk2 : h0.size ≤ h2.size) (V_b1 : Arv Z h2 b1 k1 .char (9 : Int32) [(.int c0), (.int c1), (.int c2), (.int c3), (.int c4), (.int c5), (.int c6), (.int c7), (.int c8)] (.int (0 : Int32))) (hc0 : ¬ c0 < 0 ∧ ¬ (255 : Int32) < c0) (hc1 : ¬ c1 < 0 ∧ ¬ (255 : Int32) < c1) (hc2 : ¬ c2 < 0 ∧ ¬ (255 : Int32) < c2) (hc3 : ¬ c3 < 0 ∧ ¬ (255 : Int32) < c3) (hc4 : ¬ c4 < 0 ∧ ¬ (255 : Int32) < c4) (hc5 : ¬ c5 < 0 ∧ ¬ (255 : Int32) < c5) (hc6 : ¬ c6 < 0 ∧ ¬ (255 : Int32) < c6) (hc7 : ¬ c7 < 0 ∧ ¬ (255 : Int32) < c7) (hc8 : ¬ c8 < 0 ∧ ¬ (255 : Int32) < c8) (hn : ¬ n < 0 ∧ n < 10), GoV p e below s room_1.cells room_1.slots (Q0 Z p0 p1 p2 p4 p5 sg mu va ts ys tm ym oe kv ks km zc h0 n0) (T2.setTop (mkF m 354 #[.val (.int p0), .val (.int p1), .val (.long p2), .second, .val (.int p4), .val (.int p5), .val (.int (p0 &&& (3 : Int32))), .val (.ref b1), .val (.int n), .unset, .unset, .unset] [])) := by
      intro c0 c1 c2 c3 c4 c5 c6 c7 c8 n T2 h2 lc2 X2 e2 N2 O2 hk2 V_b1 hc0 hc1 hc2 hc3 hc4 hc5 hc6 hc7 hc8 hn
      refine GoV.st (fun _ kq_ => XS.aload X2.here hx rfl (hb hby at_354) rfl rfl kq_) ?_
      show GoV p e below s _ _ _ (T2.setTop (mkF m 356 #[.val (.int p0), .val (.int p1), .val (.long p2), .second, .val (.int p4), .val (.int p5), .val (.int (p0 &&& (3 : Int32))), .val (.ref b1), .val (.int n), .unset, .unset, .unset] [(.ref b1)]))
      refine GoV.st (fun _ kq_ => XS.iload X2.here hx rfl (hb hby at_356) rfl kq_) ?_
      show GoV p e below s _ _ _ (T2.setTop (mkF m 358 #[.val (.int p0), .val (.int p1), .val (.long p2), .second, .val (.int p4), .val (.int p5), .val (.int (p0 &&& (3 : Int32))), .val (.ref b1), .val (.int n), .unset, .unset, .unset] [(.int n), (.ref b1)]))
      obtain ⟨_, _, ⟨T3, L3, k3, n3⟩, -, X3, hSn3, gr3, ⟨Lc3, hQ3, l3, y3, z3⟩, st3⟩ := callSS X2 hx (y := (⟨"com/example/rootward/rootward/model/PolicyNamedPinLaw", "take", "([CI)Ljava/lang/String;"⟩ : MethodName)) hown (mvT hZ (own_w hw 2 rfl)) (mvT hZ (own_w hw 3 rfl)) (mvT hZ (own_w hw 4 rfl)) (mvT hZ (own_w hw 5 rfl)) (by decide) (own_backIB (W := 0) (rmt l Z a0 hw [] b1 k1 n c0 c1 c2 c3 c4 c5 c6 c7 c8 zc h2 n0 O2 V_b1 hn hc0 hc1 hc2 hc3 hc4 hc5 hc6 hc7 hc8 SC hcs (hcon ("java/lang/String", 7) (by decide)) hcw) hZ I0 (own_w hw 5 rfl) (own_w hw 4 rfl) (by decide) (by decide)) (g := (mkF m 358 #[.val (.int p0), .val (.int p1), .val (.long p2), .second, .val (.int p4), .val (.int p5), .val (.int (p0 &&& (3 : Int32))), .val (.ref b1), .val (.int n), .unset, .unset, .unset] [(.int n), (.ref b1)])) rfl (by rw [hml]; rfl) (argsL := [(.ref b1), (.int n)]) (rest := []) (lenOf pd0_0 rfl) rfl (by show 2 * 0 + _ ≤ _; exact Nat.le_of_eq rfl) (hb hby at_358) (fun _ _ => ⟨rfl, e2, (by decide : 1 + 4 ≤ _), (by decide : 9 + 22 ≤ _)⟩)
      dsimp only [Pt.U, Pt.locs, Pt.cells, Pt.slots] at X3 l3 y3 z3 st3 hQ3
      subst y3 z3
      dsimp only [Pt.U, Pt.locs, Pt.cells, Pt.slots] at hSn3 gr3
      obtain ⟨X3, hS3, hZ3, hown3⟩ := rebS (vm0 := s.vm) hS0 (by rw [e2]; exact hk2) X3 hSn3 gr3 hZ hown
      have hk3 : T3.heap.size ≤ T3.heap.size := Nat.le_refl _
      obtain ⟨x, t, kt, N, vs, cs, rfl, Nc3, Kc3, gx3, szx3, NE, NC, NV, NB, hcX, hbX, hlX, I3⟩ := hQ3
      have N3 : Fr n0 L3 := by rw [l3]; exact Fr.app N2 Nc3
      have g_x : n0 ≤ x := gx3
      have ne_b1_x : b1 ≠ x := Nat.ne_of_lt (Nat.lt_of_lt_of_le V_b1.lt szx3)
      have V_b1 := V_b1.keep Kc3 nin0
      have O3 := O2.keep Kc3 all0
      have E_x : Exa Z T3.heap x "java/lang/String" := NE
      have F_x_coder : Fld Z T3.heap x "java/lang/String" "coder" "B" (.int (0 : Int32)) := NC
      have F_x_value : Fld Z T3.heap x "java/lang/String" "value" "[B" (.ref t) := NV
      have V_t : Arv Z T3.heap t kt .byte N vs (.int (0 : Int32)) := NB
      refine GoV.tr st3 ?_
      show GoV p e below s _ _ _ (T3.setTop (mkF m 361 #[.val (.int p0), .val (.int p1), .val (.long p2), .second, .val (.int p4), .val (.int p5), .val (.int (p0 &&& (3 : Int32))), .val (.ref b1), .val (.int n), .unset, .unset, .unset] [(.ref x)]))
      refine GoV.st (fun _ kq_ => XS.astore X3.here hx rfl (hb hby at_361) rfl rfl (l' := #[.val (.int p0), .val (.int p1), .val (.long p2), .second, .val (.int p4), .val (.int p5), .val (.int (p0 &&& (3 : Int32))), .val (.ref b1), .val (.int n), .val (.ref x), .unset, .unset]) rfl kq_) ?_
      show GoV p e below s _ _ _ (T3.setTop (mkF m 363 #[.val (.int p0), .val (.int p1), .val (.long p2), .second, .val (.int p4), .val (.int p5), .val (.int (p0 &&& (3 : Int32))), .val (.ref b1), .val (.int n), .val (.ref x), .unset, .unset] []))
      refine GoV.st (fun _ kq_ => XS.iload X3.here hx rfl (hb hby at_363) rfl kq_) ?_
      show GoV p e below s _ _ _ (T3.setTop (mkF m 365 #[.val (.int p0), .val (.int p1), .val (.long p2), .second, .val (.int p4), .val (.int p5), .val (.int (p0 &&& (3 : Int32))), .val (.ref b1), .val (.int n), .val (.ref x), .unset, .unset] [(.int (p0 &&& (3 : Int32)))]))
      refine GoV.st (fun _ kq_ => XS.iconst X3.here hx rfl (hb hby at_365) kq_) ?_
      show GoV p e below s _ _ _ (T3.setTop (mkF m 366 #[.val (.int p0), .val (.int p1), .val (.long p2), .second, .val (.int p4), .val (.int p5), .val (.int (p0 &&& (3 : Int32))), .val (.ref b1), .val (.int n), .val (.ref x), .unset, .unset] [(.int (3 : Int32)), (.int (p0 &&& (3 : Int32)))]))
      by_cases c366_4 : (p0 &&& (3 : Int32)) = (3 : Int32)
      · refine GoV.st (fun _ kq_ => XS.icmpNo X3.here hx rfl (hb hby at_366) rfl (XT.ii_ne_f c366_4) kq_) ?_
        show GoV p e below s _ _ _ (T3.setTop (mkF m 369 #[.val (.int p0), .val (.int p1), .val (.long p2), .second, .val (.int p4), .val (.int p5), .val (.int (p0 &&& (3 : Int32))), .val (.ref b1), .val (.int n), .val (.ref x), .unset, .unset] []))
        refine GoV.st (fun _ kq_ => XS.iloadN X3.here hx rfl (hb hby at_369) rfl kq_) ?_
        show GoV p e below s _ _ _ (T3.setTop (mkF m 370 #[.val (.int p0), .val (.int p1), .val (.long p2), .second, .val (.int p4), .val (.int p5), .val (.int (p0 &&& (3 : Int32))), .val (.ref b1), .val (.int n), .val (.ref x), .unset, .unset] [(.int p0)]))
        refine GoV.st (fun _ kq_ => XS.iconst X3.here hx rfl (hb hby at_370) kq_) ?_
        show GoV p e below s _ _ _ (T3.setTop (mkF m 371 #[.val (.int p0), .val (.int p1), .val (.long p2), .second, .val (.int p4), .val (.int p5), .val (.int (p0 &&& (3 : Int32))), .val (.ref b1), .val (.int n), .val (.ref x), .unset, .unset] [(.int (4 : Int32)), (.int p0)]))
        refine GoV.st (fun _ kq_ => XT.iushr X3.here hx rfl (hb hby at_371) rfl kq_) ?_
        show GoV p e below s _ _ _ (T3.setTop (mkF m 372 #[.val (.int p0), .val (.int p1), .val (.long p2), .second, .val (.int p4), .val (.int p5), .val (.int (p0 &&& (3 : Int32))), .val (.ref b1), .val (.int n), .val (.ref x), .unset, .unset] [(.int (XT.ushr p0 (4 : Int32)))]))
        refine GoV.st (fun _ kq_ => XS.iconst X3.here hx rfl (hb hby at_372) kq_) ?_
        show GoV p e below s _ _ _ (T3.setTop (mkF m 373 #[.val (.int p0), .val (.int p1), .val (.long p2), .second, .val (.int p4), .val (.int p5), .val (.int (p0 &&& (3 : Int32))), .val (.ref b1), .val (.int n), .val (.ref x), .unset, .unset] [(.int (1 : Int32)), (.int (XT.ushr p0 (4 : Int32)))]))
        refine GoV.st (fun _ kq_ => XS.iand X3.here hx rfl (hb hby at_373) rfl kq_) ?_
        show GoV p e below s _ _ _ (T3.setTop (mkF m 374 #[.val (.int p0), .val (.int p1), .val (.long p2), .second, .val (.int p4), .val (.int p5), .val (.int (p0 &&& (3 : Int32))), .val (.ref b1), .val (.int n), .val (.ref x), .unset, .unset] [(.int ((XT.ushr p0 (4 : Int32)) &&& (1 : Int32)))]))
        by_cases c374_5 : ((XT.ushr p0 (4 : Int32)) &&& (1 : Int32)) = (0 : Int32)
        · refine GoV.st (fun _ kq_ => XS.ifYes X3.here hx rfl (pc0 := 374) (pc' := 380) rfl (hb hby at_374) rfl (XT.i0_eq_t c374_5) (by decide) (by decide) kq_) ?_
          show GoV p e below s _ _ _ (T3.setTop (mkF m 380 #[.val (.int p0), .val (.int p1), .val (.long p2), .second, .val (.int p4), .val (.int p5), .val (.int (p0 &&& (3 : Int32))), .val (.ref b1), .val (.int n), .val (.ref x), .unset, .unset] []))
          refine GoV.st (fun _ kq_ => XS.aconstNull X3.here hx rfl (hb hby at_380) kq_) ?_
          show GoV p e below s _ _ _ (T3.setTop (mkF m 381 #[.val (.int p0), .val (.int p1), .val (.long p2), .second, .val (.int p4), .val (.int p5), .val (.int (p0 &&& (3 : Int32))), .val (.ref b1), .val (.int n), .val (.ref x), .unset, .unset] [.null]))
          refine GoV.st (fun _ kq_ => XS.astore X3.here hx rfl (hb hby at_381) rfl rfl (l' := #[.val (.int p0), .val (.int p1), .val (.long p2), .second, .val (.int p4), .val (.int p5), .val (.int (p0 &&& (3 : Int32))), .val (.ref b1), .val (.int n), .val (.ref x), .val .null, .unset]) rfl kq_) ?_
          show GoV p e below s _ _ _ (T3.setTop (mkF m 383 #[.val (.int p0), .val (.int p1), .val (.long p2), .second, .val (.int p4), .val (.int p5), .val (.int (p0 &&& (3 : Int32))), .val (.ref b1), .val (.int n), .val (.ref x), .val .null, .unset] []))
          refine GoV.st (fun _ kq_ => XS.aload X3.here hx rfl (hb hby at_383) rfl rfl kq_) ?_
          show GoV p e below s _ _ _ (T3.setTop (mkF m 385 #[.val (.int p0), .val (.int p1), .val (.long p2), .second, .val (.int p4), .val (.int p5), .val (.int (p0 &&& (3 : Int32))), .val (.ref b1), .val (.int n), .val (.ref x), .val .null, .unset] [(.ref x)]))
          refine GoV.st (fun _ kq_ => XS.ifnullNo X3.here hx rfl (hb hby at_385) rfl kq_) ?_
          show GoV p e below s _ _ _ (T3.setTop (mkF m 388 #[.val (.int p0), .val (.int p1), .val (.long p2), .second, .val (.int p4), .val (.int p5), .val (.int (p0 &&& (3 : Int32))), .val (.ref b1), .val (.int n), .val (.ref x), .val .null, .unset] []))
          refine GoV.st (fun _ kq_ => XS.aload X3.here hx rfl (hb hby at_388) rfl rfl kq_) ?_
          show GoV p e below s _ _ _ (T3.setTop (mkF m 390 #[.val (.int p0), .val (.int p1), .val (.long p2), .second, .val (.int p4), .val (.int p5), .val (.int (p0 &&& (3 : Int32))), .val (.ref b1), .val (.int n), .val (.ref x), .val .null, .unset] [(.ref x)]))
          obtain ⟨u6, T6, h6, kk6, ub6, kb6, X6, e6, E6, hS6, hk6, hZ6, hown6, NE, NC, NV, NB, lta6, ltb6, I6, LT6, st6⟩ := ldcSVL (vm0 := T3.vm) X3 hx hZ3 hown3 (own_w hw 35 rfl) wS rfl hS3 hk3 (by rw [hs0]; exact N3) hkp I3 (by decide) (hcon ("com/example/rootward/rootward/model/PolicyNamedPinLaw", 21) (by decide)) hcw (vs := [(.int (115 : Int32)), (.int (105 : Int32)), (.int (110 : Int32)), (.int (103 : Int32)), (.int (108 : Int32)), (.int (101 : Int32))]) (z := (6 : Int32)) (by decide) (by decide) rfl (g := (mkF m 390 #[.val (.int p0), .val (.int p1), .val (.long p2), .second, .val (.int p4), .val (.int p5), .val (.int (p0 &&& (3 : Int32))), .val (.ref b1), .val (.int n), .val (.ref x), .val .null, .unset] [(.ref x)])) rfl (hb hby at_390) (n := 24) (by decide) (by decide) (by decide) (by decide)
          have V_b1 := V_b1.ext E6
          have E_x := E_x.ext E6
          have F_x_coder := F_x_coder.ext E6
          have F_x_value := F_x_value.ext E6
          have V_t := V_t.ext E6
          have O6 := O3.ext E6
          have E_u6 : Exa Z h6 u6 "java/lang/String" := NE
          have F_u6_coder : Fld Z h6 u6 "java/lang/String" "coder" "B" (.int (0 : Int32)) := NC
          have F_u6_value : Fld Z h6 u6 "java/lang/String" "value" "[B" (.ref ub6) := NV
          have V_ub6 : Arv Z h6 ub6 kb6 .byte (6 : Int32) [(.int (115 : Int32)), (.int (105 : Int32)), (.int (110 : Int32)), (.int (103 : Int32)), (.int (108 : Int32)), (.int (101 : Int32))] (.int (0 : Int32)) := NB
          refine GoV.st st6 ?_
          show GoV p e below s _ _ _ (T6.setTop (mkF m 392 #[.val (.int p0), .val (.int p1), .val (.long p2), .second, .val (.int p4), .val (.int p5), .val (.int (p0 &&& (3 : Int32))), .val (.ref b1), .val (.int n), .val (.ref x), .val .null, .unset] [(.ref u6), (.ref x)]))
          obtain ⟨cq7, kq7, qa7, qb7, qc7⟩ := isOf hZ6 e6 E_x
          obtain ⟨_, _, ⟨T7, L7, k7, n7⟩, -, X7, ⟨Lc7, hQ7, l7, y7, z7⟩, st7⟩ := X6.virtualBack hx (y := (⟨"java/lang/String", "equals", "(Ljava/lang/Object;)Z"⟩ : MethodName)) (z := (⟨"java/lang/String", "equals", "(Ljava/lang/Object;)Z"⟩ : MethodName)) hown6 (mvT hZ6 (own_w hw 38 rfl)) (mvT hZ6 (own_w hw 39 rfl)) (notFace_of_selects (args := #[]) (mvT hZ6 (own_w hw 41 rfl))) (mvT hZ6 (own_w hw 41 rfl)) (mvT hZ6 (own_w hw 40 rfl)) (by decide) (StrChars.Road.eqW (W := 0) hZ6 heq (kI := 4) (own_w hw 7 rfl) (cs := cs) (ds := ([(115 : Int32), (105 : Int32), (110 : Int32), (103 : Int32), (108 : Int32), (101 : Int32)] : List Int32)) E_x F_x_value F_x_coder V_t hcX hbX hlX E_u6 F_u6_value F_u6_coder V_ub6 own_codS own_bS (by decide) (SC.ext O6.2) hcs (by decide) (by decide)) qa7 qc7 (g := (mkF m 392 #[.val (.int p0), .val (.int p1), .val (.long p2), .second, .val (.int p4), .val (.int p5), .val (.int (p0 &&& (3 : Int32))), .val (.ref b1), .val (.int n), .val (.ref x), .val .null, .unset] [(.ref u6), (.ref x)])) rfl (by rw [hml]; rfl) (Steps.refl _) (argsL := [(.ref u6)]) (rest := []) (lenOf pd0_1 rfl) rfl (by show 2 * 0 + _ ≤ _; exact Nat.le_of_eq rfl) (hb hby at_392) (fun _ _ => ⟨rfl, e6, (by decide : 7 + 0 ≤ _), (by decide : 59 + 0 ≤ _)⟩)
          dsimp only [Pt.U, Pt.locs, Pt.cells, Pt.slots] at X7 l7 y7 z7 st7 hQ7
          subst y7 z7
          obtain ⟨hz7, el7, e7⟩ := hQ7
          obtain ⟨zq7, rfl, hzq7⟩ := own_zz hz7
          have Nc7 : Fr n0 Lc7 := by rw [el7]; exact Fr.nil n0
          have N7 : Fr n0 L7 := by rw [l7]; exact Fr.app N3 Nc7
          refine GoV.tr st7 ?_
          show GoV p e below s _ _ _ (T7.setTop (mkF m 395 #[.val (.int p0), .val (.int p1), .val (.long p2), .second, .val (.int p4), .val (.int p5), .val (.int (p0 &&& (3 : Int32))), .val (.ref b1), .val (.int n), .val (.ref x), .val .null, .unset] [(.int zq7)]))
          by_cases c395_8 : zq7 = (0 : Int32)
          · refine GoV.st (fun _ kq_ => XS.ifYes X7.here hx rfl (pc0 := 395) (pc' := 406) rfl (hb hby at_395) rfl (XT.i0_eq_t c395_8) (by decide) (by decide) kq_) ?_
            show GoV p e below s _ _ _ (T7.setTop (mkF m 406 #[.val (.int p0), .val (.int p1), .val (.long p2), .second, .val (.int p4), .val (.int p5), .val (.int (p0 &&& (3 : Int32))), .val (.ref b1), .val (.int n), .val (.ref x), .val .null, .unset] []))
            refine GoV.st (fun _ kq_ => XS.aload X7.here hx rfl (hb hby at_406) rfl rfl kq_) ?_
            show GoV p e below s _ _ _ (T7.setTop (mkF m 408 #[.val (.int p0), .val (.int p1), .val (.long p2), .second, .val (.int p4), .val (.int p5), .val (.int (p0 &&& (3 : Int32))), .val (.ref b1), .val (.int n), .val (.ref x), .val .null, .unset] [(.ref x)]))
            obtain ⟨u9, T9, h9, kk9, ub9, kb9, X9, e9, E9, hS9, hk9, hZ9, hown9, NE, NC, NV, NB, lta9, ltb9, I9, LT9, st9⟩ := ldcSVL (vm0 := T6.vm) X7 hx hZ6 hown6 (own_w hw 108 rfl) wS e7 hS6 hk6 (by rw [hs0]; exact N7) hkp I6 (by decide) (hcon ("com/example/rootward/rootward/model/PolicyNamedPinLaw", 33) (by decide)) hcw (vs := [(.int (109 : Int32)), (.int (117 : Int32)), (.int (108 : Int32)), (.int (116 : Int32)), (.int (105 : Int32)), (.int (112 : Int32)), (.int (108 : Int32)), (.int (101 : Int32))]) (z := (8 : Int32)) (by decide) (by decide) rfl (g := (mkF m 408 #[.val (.int p0), .val (.int p1), .val (.long p2), .second, .val (.int p4), .val (.int p5), .val (.int (p0 &&& (3 : Int32))), .val (.ref b1), .val (.int n), .val (.ref x), .val .null, .unset] [(.ref x)])) rfl (hb hby at_408) (n := 32) (by decide) (by decide) (by decide) (by decide)
            have V_b1 := V_b1.ext E9
            have E_x := E_x.ext E9
            have F_x_coder := F_x_coder.ext E9
            have F_x_value := F_x_value.ext E9
            have V_t := V_t.ext E9
            have E_u6 := E_u6.ext E9
            have F_u6_coder := F_u6_coder.ext E9
            have F_u6_value := F_u6_value.ext E9
            have V_ub6 := V_ub6.ext E9
            have O9 := O6.ext E9
            have E_u9 : Exa Z h9 u9 "java/lang/String" := NE
            have F_u9_coder : Fld Z h9 u9 "java/lang/String" "coder" "B" (.int (0 : Int32)) := NC
            have F_u9_value : Fld Z h9 u9 "java/lang/String" "value" "[B" (.ref ub9) := NV
            have V_ub9 : Arv Z h9 ub9 kb9 .byte (8 : Int32) [(.int (109 : Int32)), (.int (117 : Int32)), (.int (108 : Int32)), (.int (116 : Int32)), (.int (105 : Int32)), (.int (112 : Int32)), (.int (108 : Int32)), (.int (101 : Int32))] (.int (0 : Int32)) := NB
            refine GoV.st st9 ?_
            show GoV p e below s _ _ _ (T9.setTop (mkF m 410 #[.val (.int p0), .val (.int p1), .val (.long p2), .second, .val (.int p4), .val (.int p5), .val (.int (p0 &&& (3 : Int32))), .val (.ref b1), .val (.int n), .val (.ref x), .val .null, .unset] [(.ref u9), (.ref x)]))
            obtain ⟨cq10, kq10, qa10, qb10, qc10⟩ := isOf hZ9 e9 E_x
            obtain ⟨_, _, ⟨T10, L10, k10, n10⟩, -, X10, ⟨Lc10, hQ10, l10, y10, z10⟩, st10⟩ := X9.virtualBack hx (y := (⟨"java/lang/String", "equals", "(Ljava/lang/Object;)Z"⟩ : MethodName)) (z := (⟨"java/lang/String", "equals", "(Ljava/lang/Object;)Z"⟩ : MethodName)) hown9 (mvT hZ9 (own_w hw 38 rfl)) (mvT hZ9 (own_w hw 39 rfl)) (notFace_of_selects (args := #[]) (mvT hZ9 (own_w hw 41 rfl))) (mvT hZ9 (own_w hw 41 rfl)) (mvT hZ9 (own_w hw 40 rfl)) (by decide) (StrChars.Road.eqW (W := 0) hZ9 heq (kI := 4) (own_w hw 7 rfl) (cs := cs) (ds := ([(109 : Int32), (117 : Int32), (108 : Int32), (116 : Int32), (105 : Int32), (112 : Int32), (108 : Int32), (101 : Int32)] : List Int32)) E_x F_x_value F_x_coder V_t hcX hbX hlX E_u9 F_u9_value F_u9_coder V_ub9 own_codM own_bM (by decide) (SC.ext O9.2) hcs (by decide) (by decide)) qa10 qc10 (g := (mkF m 410 #[.val (.int p0), .val (.int p1), .val (.long p2), .second, .val (.int p4), .val (.int p5), .val (.int (p0 &&& (3 : Int32))), .val (.ref b1), .val (.int n), .val (.ref x), .val .null, .unset] [(.ref u9), (.ref x)])) rfl (by rw [hml]; rfl) (Steps.refl _) (argsL := [(.ref u9)]) (rest := []) (lenOf pd0_1 rfl) rfl (by show 2 * 0 + _ ≤ _; exact Nat.le_of_eq rfl) (hb hby at_410) (fun _ _ => ⟨rfl, e9, (by decide : 9 + 0 ≤ _), (by decide : 95 + 0 ≤ _)⟩)
            dsimp only [Pt.U, Pt.locs, Pt.cells, Pt.slots] at X10 l10 y10 z10 st10 hQ10
            subst y10 z10
            obtain ⟨hz10, el10, e10⟩ := hQ10
            obtain ⟨zq10, rfl, hzq10⟩ := own_zz hz10
            have Nc10 : Fr n0 Lc10 := by rw [el10]; exact Fr.nil n0
            have N10 : Fr n0 L10 := by rw [l10]; exact Fr.app N7 Nc10
            refine GoV.tr st10 ?_
            show GoV p e below s _ _ _ (T10.setTop (mkF m 413 #[.val (.int p0), .val (.int p1), .val (.long p2), .second, .val (.int p4), .val (.int p5), .val (.int (p0 &&& (3 : Int32))), .val (.ref b1), .val (.int n), .val (.ref x), .val .null, .unset] [(.int zq10)]))
            by_cases c413_11 : zq10 = (0 : Int32)
            · refine GoV.st (fun _ kq_ => XS.ifYes X10.here hx rfl (pc0 := 413) (pc' := 421) rfl (hb hby at_413) rfl (XT.i0_eq_t c413_11) (by decide) (by decide) kq_) ?_
              show GoV p e below s _ _ _ (T10.setTop (mkF m 421 #[.val (.int p0), .val (.int p1), .val (.long p2), .second, .val (.int p4), .val (.int p5), .val (.int (p0 &&& (3 : Int32))), .val (.ref b1), .val (.int n), .val (.ref x), .val .null, .unset] []))
              refine GoV.st (fun _ kq_ => XS.aload X10.here hx rfl (hb hby at_421) rfl rfl kq_) ?_
              show GoV p e below s _ _ _ (T10.setTop (mkF m 423 #[.val (.int p0), .val (.int p1), .val (.long p2), .second, .val (.int p4), .val (.int p5), .val (.int (p0 &&& (3 : Int32))), .val (.ref b1), .val (.int n), .val (.ref x), .val .null, .unset] [(.ref x)]))
              obtain ⟨_, _, ⟨T12, L12, k12, n12⟩, -, X12, ⟨Lc12, hQ12, l12, y12, z12⟩, st12⟩ := Jvm.LawKit.callS X10 hx (y := (⟨"com/example/rootward/rootward/model/Policy", "named", "(Ljava/lang/String;)Ljava/util/Optional;"⟩ : MethodName)) hown9 (mvT hZ9 (own_w hw 51 rfl)) (mvT hZ9 (own_w hw 52 rfl)) (mvT hZ9 (own_w hw 49 rfl)) (mvT hZ9 (own_w hw 53 rfl)) (by decide) (backOf (W := 0) (rmnE l Z a0 hw [] x t kt N vs cs sg mu va ts ys tm ym oe kv ks km zc h9 n0 O9 E_x F_x_coder F_x_value V_t hcX hbX hlX EV VV E_sg J_sg E_ts F_ts_coder F_ts_value V_ys E_mu J_mu E_tm F_tm_coder F_tm_value V_ym SV SO SC hcs (own_z0 hzq7 c395_8) (own_z0 hzq10 c413_11)) hZ9 (own_w hw 53 rfl) (own_w hw 49 rfl) (by decide) (by decide)) (g := (mkF m 423 #[.val (.int p0), .val (.int p1), .val (.long p2), .second, .val (.int p4), .val (.int p5), .val (.int (p0 &&& (3 : Int32))), .val (.ref b1), .val (.int n), .val (.ref x), .val .null, .unset] [(.ref x)])) rfl (by rw [hml]; rfl) (argsL := [(.ref x)]) (rest := []) (lenOf pd0_2 rfl) rfl (by show 2 * 0 + _ ≤ _; exact Nat.le_of_eq rfl) (hb hby at_423) (fun _ _ => ⟨rfl, e10, (by decide : 9 + 1 ≤ _), (by decide : 95 + 2 ≤ _)⟩)
              dsimp only [Pt.U, Pt.locs, Pt.cells, Pt.slots] at X12 l12 y12 z12 st12 hQ12
              subst y12 z12
              obtain ⟨rfl, Nc12, Kc12⟩ := hQ12
              have N12 : Fr n0 L12 := by rw [l12]; exact Fr.app N10 Nc12
              have V_b1 := V_b1.keep Kc12 nin0
              have E_x := E_x.keep Kc12
              have F_x_coder := F_x_coder.keep Kc12 nin0
              have F_x_value := F_x_value.keep Kc12 nin0
              have V_t := V_t.keep Kc12 nin0
              have E_u6 := E_u6.keep Kc12
              have F_u6_coder := F_u6_coder.keep Kc12 nin0
              have F_u6_value := F_u6_value.keep Kc12 nin0
              have V_ub6 := V_ub6.keep Kc12 nin0
              have E_u9 := E_u9.keep Kc12
              have F_u9_coder := F_u9_coder.keep Kc12 nin0
              have F_u9_value := F_u9_value.keep Kc12 nin0
              have V_ub9 := V_ub9.keep Kc12 nin0
              have hk12 := Nat.le_trans hk9 Kc12.1
              have O12 := O9.keep Kc12 all0
              refine GoV.st st12 ?_
              show GoV p e below s _ _ _ (T12.setTop (mkF m 426 #[.val (.int p0), .val (.int p1), .val (.long p2), .second, .val (.int p4), .val (.int p5), .val (.int (p0 &&& (3 : Int32))), .val (.ref b1), .val (.int n), .val (.ref x), .val .null, .unset] [(.ref oe)]))
              refine GoV.st (fun _ kq_ => XS.astore X12.here hx rfl (hb hby at_426) rfl rfl (l' := #[.val (.int p0), .val (.int p1), .val (.long p2), .second, .val (.int p4), .val (.int p5), .val (.int (p0 &&& (3 : Int32))), .val (.ref b1), .val (.int n), .val (.ref x), .val .null, .val (.ref oe)]) rfl kq_) ?_
              show GoV p e below s _ _ _ (T12.setTop (mkF m 428 #[.val (.int p0), .val (.int p1), .val (.long p2), .second, .val (.int p4), .val (.int p5), .val (.int (p0 &&& (3 : Int32))), .val (.ref b1), .val (.int n), .val (.ref x), .val .null, .val (.ref oe)] []))
              refine GoV.st (fun _ kq_ => XS.aload X12.here hx rfl (hb hby at_428) rfl rfl kq_) ?_
              show GoV p e below s _ _ _ (T12.setTop (mkF m 430 #[.val (.int p0), .val (.int p1), .val (.long p2), .second, .val (.int p4), .val (.int p5), .val (.int (p0 &&& (3 : Int32))), .val (.ref b1), .val (.int n), .val (.ref x), .val .null, .val (.ref oe)] [.null]))
              refine GoV.st (fun _ kq_ => XT.ifnonnullNo X12.here hx rfl (hb hby at_430) rfl kq_) ?_
              show GoV p e below s _ _ _ (T12.setTop (mkF m 433 #[.val (.int p0), .val (.int p1), .val (.long p2), .second, .val (.int p4), .val (.int p5), .val (.int (p0 &&& (3 : Int32))), .val (.ref b1), .val (.int n), .val (.ref x), .val .null, .val (.ref oe)] []))
              refine GoV.st (fun _ kq_ => XS.aload X12.here hx rfl (hb hby at_433) rfl rfl kq_) ?_
              show GoV p e below s _ _ _ (T12.setTop (mkF m 435 #[.val (.int p0), .val (.int p1), .val (.long p2), .second, .val (.int p4), .val (.int p5), .val (.int (p0 &&& (3 : Int32))), .val (.ref b1), .val (.int n), .val (.ref x), .val .null, .val (.ref oe)] [(.ref oe)]))
              obtain ⟨cq13, kq13, qa13, qb13, qc13⟩ := isOf hZ9 rfl (EO.ext O12.2)
              obtain ⟨_, _, ⟨T13, L13, k13, n13⟩, -, X13, ⟨Lc13, hQ13, l13, y13, z13⟩, st13⟩ := X12.virtualBack hx (y := (⟨"java/util/Optional", "isPresent", "()Z"⟩ : MethodName)) (z := (⟨"java/util/Optional", "isPresent", "()Z"⟩ : MethodName)) hown9 (mvT hZ9 (own_w hw 90 rfl)) (mvT hZ9 (own_w hw 91 rfl)) (notFace_of_selects (args := #[]) (mvT hZ9 (own_w hw 93 rfl))) (mvT hZ9 (own_w hw 93 rfl)) (mvT hZ9 (own_w hw 92 rfl)) (by decide) (backOf (W := 0) (rmp0 l Z a0 hw [] oe T12.heap n0 O12 (FO.ext O12.2)) hZ9 (own_w hw 94 rfl) (own_w hw 75 rfl) (by decide) (by decide)) qa13 qc13 (g := (mkF m 435 #[.val (.int p0), .val (.int p1), .val (.long p2), .second, .val (.int p4), .val (.int p5), .val (.int (p0 &&& (3 : Int32))), .val (.ref b1), .val (.int n), .val (.ref x), .val .null, .val (.ref oe)] [(.ref oe)])) rfl (by rw [hml]; rfl) (Steps.refl _) (argsL := []) (rest := []) (lenOf pd0_3 rfl) rfl (by show 2 * 0 + _ ≤ _; exact Nat.le_of_eq rfl) (hb hby at_435) (fun _ _ => ⟨rfl, rfl, (by decide : 10 + 0 ≤ _), (by decide : 97 + 0 ≤ _)⟩)
              dsimp only [Pt.U, Pt.locs, Pt.cells, Pt.slots] at X13 l13 y13 z13 st13 hQ13
              subst y13 z13
              obtain ⟨rfl, Nc13, e13⟩ := hQ13
              have N13 : Fr n0 L13 := by rw [l13]; exact Fr.app N12 Nc13
              refine GoV.tr st13 ?_
              show GoV p e below s _ _ _ (T13.setTop (mkF m 438 #[.val (.int p0), .val (.int p1), .val (.long p2), .second, .val (.int p4), .val (.int p5), .val (.int (p0 &&& (3 : Int32))), .val (.ref b1), .val (.int n), .val (.ref x), .val .null, .val (.ref oe)] [(.int (0 : Int32))]))
              refine GoV.st (fun _ kq_ => XS.ifNo X13.here hx rfl (hb hby at_438) rfl (by decide) kq_) ?_
              show GoV p e below s _ _ _ (T13.setTop (mkF m 441 #[.val (.int p0), .val (.int p1), .val (.long p2), .second, .val (.int p4), .val (.int p5), .val (.int (p0 &&& (3 : Int32))), .val (.ref b1), .val (.int n), .val (.ref x), .val .null, .val (.ref oe)] []))
              refine GoV.st (fun _ kq_ => XS.iconst X13.here hx rfl (hb hby at_441) kq_) ?_
              show GoV p e below s _ _ _ (T13.setTop (mkF m 442 #[.val (.int p0), .val (.int p1), .val (.long p2), .second, .val (.int p4), .val (.int p5), .val (.int (p0 &&& (3 : Int32))), .val (.ref b1), .val (.int n), .val (.ref x), .val .null, .val (.ref oe)] [(.int (1 : Int32))]))
              refine GoV.st (fun _ kq_ => XS.goto X13.here hx rfl (pc0 := 442) (pc' := 446) rfl (hb hby at_442) (by decide) (by decide) kq_) ?_
              show GoV p e below s _ _ _ (T13.setTop (mkF m 446 #[.val (.int p0), .val (.int p1), .val (.long p2), .second, .val (.int p4), .val (.int p5), .val (.int (p0 &&& (3 : Int32))), .val (.ref b1), .val (.int n), .val (.ref x), .val .null, .val (.ref oe)] [(.int (1 : Int32))]))
              exact GoV.ret (vm1 := T9.vm) X13 hlk hS9 (by rw [e13]; exact hk12) (some (.int (nar .boolean (1 : Int32)))) (fun h => by rw [Bd.returns] at h; cases h) (by rw [e13]; exact ⟨rfl, N13⟩) (by decide) (by decide) (fun fs hr => retN X13 hx (t := .boolean) Bd.returns (by simp) (hb hby at_446) hr)
            · refine GoV.st (fun _ kq_ => XS.ifNo X10.here hx rfl (hb hby at_413) rfl (XT.i0_eq_f c413_11) kq_) ?_
              show GoV p e below s _ _ _ (T10.setTop (mkF m 416 #[.val (.int p0), .val (.int p1), .val (.long p2), .second, .val (.int p4), .val (.int p5), .val (.int (p0 &&& (3 : Int32))), .val (.ref b1), .val (.int n), .val (.ref x), .val .null, .unset] []))
              obtain ⟨T14, X14, e14, st14⟩ := getS X10 hx hZ9 hown9 (host := "") (own_w hw 114 rfl) Via.refl e10 (SM.ext O9.2) (g := (mkF m 416 #[.val (.int p0), .val (.int p1), .val (.long p2), .second, .val (.int p4), .val (.int p5), .val (.int (p0 &&& (3 : Int32))), .val (.ref b1), .val (.int n), .val (.ref x), .val .null, .unset] [])) rfl (hb hby at_416)
              refine GoV.st st14 ?_
              show GoV p e below s _ _ _ (T14.setTop (mkF m 419 #[.val (.int p0), .val (.int p1), .val (.long p2), .second, .val (.int p4), .val (.int p5), .val (.int (p0 &&& (3 : Int32))), .val (.ref b1), .val (.int n), .val (.ref x), .val .null, .unset] [(.ref mu)]))
              refine GoV.st (fun _ kq_ => XS.astore X14.here hx rfl (hb hby at_419) rfl rfl (l' := #[.val (.int p0), .val (.int p1), .val (.long p2), .second, .val (.int p4), .val (.int p5), .val (.int (p0 &&& (3 : Int32))), .val (.ref b1), .val (.int n), .val (.ref x), .val (.ref mu), .unset]) rfl kq_) ?_
              show GoV p e below s _ _ _ (T14.setTop (mkF m 421 #[.val (.int p0), .val (.int p1), .val (.long p2), .second, .val (.int p4), .val (.int p5), .val (.int (p0 &&& (3 : Int32))), .val (.ref b1), .val (.int n), .val (.ref x), .val (.ref mu), .unset] []))
              refine GoV.st (fun _ kq_ => XS.aload X14.here hx rfl (hb hby at_421) rfl rfl kq_) ?_
              show GoV p e below s _ _ _ (T14.setTop (mkF m 423 #[.val (.int p0), .val (.int p1), .val (.long p2), .second, .val (.int p4), .val (.int p5), .val (.int (p0 &&& (3 : Int32))), .val (.ref b1), .val (.int n), .val (.ref x), .val (.ref mu), .unset] [(.ref x)]))
              obtain ⟨_, _, ⟨T15, L15, k15, n15⟩, -, X15, ⟨Lc15, hQ15, l15, y15, z15⟩, st15⟩ := Jvm.LawKit.callS X14 hx (y := (⟨"com/example/rootward/rootward/model/Policy", "named", "(Ljava/lang/String;)Ljava/util/Optional;"⟩ : MethodName)) hown9 (mvT hZ9 (own_w hw 51 rfl)) (mvT hZ9 (own_w hw 52 rfl)) (mvT hZ9 (own_w hw 49 rfl)) (mvT hZ9 (own_w hw 53 rfl)) (by decide) (backOf (W := 0) (rmnM l Z a0 hw [] x t kt N vs cs sg mu va ts ys tm ym oe kv ks km zc h9 n0 O9 E_x F_x_coder F_x_value V_t hcX hbX hlX EV VV E_sg J_sg E_ts F_ts_coder F_ts_value V_ys E_mu J_mu E_tm F_tm_coder F_tm_value V_ym SV SO SC hcs (own_z1 hzq10 c413_11)) hZ9 (own_w hw 53 rfl) (own_w hw 49 rfl) (by decide) (by decide)) (g := (mkF m 423 #[.val (.int p0), .val (.int p1), .val (.long p2), .second, .val (.int p4), .val (.int p5), .val (.int (p0 &&& (3 : Int32))), .val (.ref b1), .val (.int n), .val (.ref x), .val (.ref mu), .unset] [(.ref x)])) rfl (by rw [hml]; rfl) (argsL := [(.ref x)]) (rest := []) (lenOf pd0_2 rfl) rfl (by show 2 * 0 + _ ≤ _; exact Nat.le_of_eq rfl) (hb hby at_423) (fun _ _ => ⟨rfl, e14, (by decide : 9 + 2 ≤ _), (by decide : 95 + 3 ≤ _)⟩)
              dsimp only [Pt.U, Pt.locs, Pt.cells, Pt.slots] at X15 l15 y15 z15 st15 hQ15
              subst y15 z15
              obtain ⟨r15, rfl, Nc15, Kc15, gr15, szr15, NE, NV⟩ := hQ15
              have N15 : Fr n0 L15 := by rw [l15]; exact Fr.app N10 Nc15
              have g_r15 : n0 ≤ r15 := gr15
              have ne_b1_r15 : b1 ≠ r15 := Nat.ne_of_lt (Nat.lt_of_lt_of_le V_b1.lt szr15)
              have ne_x_r15 : x ≠ r15 := Nat.ne_of_lt (Nat.lt_of_lt_of_le E_x.lt szr15)
              have ne_t_r15 : t ≠ r15 := Nat.ne_of_lt (Nat.lt_of_lt_of_le V_t.lt szr15)
              have ne_u6_r15 : u6 ≠ r15 := Nat.ne_of_lt (Nat.lt_of_lt_of_le E_u6.lt szr15)
              have ne_ub6_r15 : ub6 ≠ r15 := Nat.ne_of_lt (Nat.lt_of_lt_of_le V_ub6.lt szr15)
              have ne_u9_r15 : u9 ≠ r15 := Nat.ne_of_lt (Nat.lt_of_lt_of_le E_u9.lt szr15)
              have ne_ub9_r15 : ub9 ≠ r15 := Nat.ne_of_lt (Nat.lt_of_lt_of_le V_ub9.lt szr15)
              have V_b1 := V_b1.keep Kc15 nin0
              have E_x := E_x.keep Kc15
              have F_x_coder := F_x_coder.keep Kc15 nin0
              have F_x_value := F_x_value.keep Kc15 nin0
              have V_t := V_t.keep Kc15 nin0
              have E_u6 := E_u6.keep Kc15
              have F_u6_coder := F_u6_coder.keep Kc15 nin0
              have F_u6_value := F_u6_value.keep Kc15 nin0
              have V_ub6 := V_ub6.keep Kc15 nin0
              have E_u9 := E_u9.keep Kc15
              have F_u9_coder := F_u9_coder.keep Kc15 nin0
              have F_u9_value := F_u9_value.keep Kc15 nin0
              have V_ub9 := V_ub9.keep Kc15 nin0
              have hk15 := Nat.le_trans hk9 Kc15.1
              have O15 := O9.keep Kc15 all0
              have E_r15 := NE
              have F_r15_value := NV
              refine GoV.st st15 ?_
              show GoV p e below s _ _ _ (T15.setTop (mkF m 426 #[.val (.int p0), .val (.int p1), .val (.long p2), .second, .val (.int p4), .val (.int p5), .val (.int (p0 &&& (3 : Int32))), .val (.ref b1), .val (.int n), .val (.ref x), .val (.ref mu), .unset] [(.ref r15)]))
              refine GoV.st (fun _ kq_ => XS.astore X15.here hx rfl (hb hby at_426) rfl rfl (l' := #[.val (.int p0), .val (.int p1), .val (.long p2), .second, .val (.int p4), .val (.int p5), .val (.int (p0 &&& (3 : Int32))), .val (.ref b1), .val (.int n), .val (.ref x), .val (.ref mu), .val (.ref r15)]) rfl kq_) ?_
              show GoV p e below s _ _ _ (T15.setTop (mkF m 428 #[.val (.int p0), .val (.int p1), .val (.long p2), .second, .val (.int p4), .val (.int p5), .val (.int (p0 &&& (3 : Int32))), .val (.ref b1), .val (.int n), .val (.ref x), .val (.ref mu), .val (.ref r15)] []))
              refine GoV.st (fun _ kq_ => XS.aload X15.here hx rfl (hb hby at_428) rfl rfl kq_) ?_
              show GoV p e below s _ _ _ (T15.setTop (mkF m 430 #[.val (.int p0), .val (.int p1), .val (.long p2), .second, .val (.int p4), .val (.int p5), .val (.int (p0 &&& (3 : Int32))), .val (.ref b1), .val (.int n), .val (.ref x), .val (.ref mu), .val (.ref r15)] [(.ref mu)]))
              refine GoV.st (fun _ kq_ => XT.ifnonnullYes X15.here hx rfl (pc0 := 430) (pc' := 447) rfl (hb hby at_430) rfl (by decide) (by decide) kq_) ?_
              show GoV p e below s _ _ _ (T15.setTop (mkF m 447 #[.val (.int p0), .val (.int p1), .val (.long p2), .second, .val (.int p4), .val (.int p5), .val (.int (p0 &&& (3 : Int32))), .val (.ref b1), .val (.int n), .val (.ref x), .val (.ref mu), .val (.ref r15)] []))
              refine GoV.st (fun _ kq_ => XS.aload X15.here hx rfl (hb hby at_447) rfl rfl kq_) ?_
              show GoV p e below s _ _ _ (T15.setTop (mkF m 449 #[.val (.int p0), .val (.int p1), .val (.long p2), .second, .val (.int p4), .val (.int p5), .val (.int (p0 &&& (3 : Int32))), .val (.ref b1), .val (.int n), .val (.ref x), .val (.ref mu), .val (.ref r15)] [(.ref r15)]))
              obtain ⟨cq16, kq16, qa16, qb16, qc16⟩ := isOf hZ9 rfl E_r15
              obtain ⟨_, _, ⟨T16, L16, k16, n16⟩, -, X16, ⟨Lc16, hQ16, l16, y16, z16⟩, st16⟩ := X15.virtualBack hx (y := (⟨"java/util/Optional", "isPresent", "()Z"⟩ : MethodName)) (z := (⟨"java/util/Optional", "isPresent", "()Z"⟩ : MethodName)) hown9 (mvT hZ9 (own_w hw 90 rfl)) (mvT hZ9 (own_w hw 91 rfl)) (notFace_of_selects (args := #[]) (mvT hZ9 (own_w hw 93 rfl))) (mvT hZ9 (own_w hw 93 rfl)) (mvT hZ9 (own_w hw 92 rfl)) (by decide) (backOf (W := 0) (rmp1 l Z a0 hw [] r15 mu T15.heap n0 O15 F_r15_value) hZ9 (own_w hw 94 rfl) (own_w hw 75 rfl) (by decide) (by decide)) qa16 qc16 (g := (mkF m 449 #[.val (.int p0), .val (.int p1), .val (.long p2), .second, .val (.int p4), .val (.int p5), .val (.int (p0 &&& (3 : Int32))), .val (.ref b1), .val (.int n), .val (.ref x), .val (.ref mu), .val (.ref r15)] [(.ref r15)])) rfl (by rw [hml]; rfl) (Steps.refl _) (argsL := []) (rest := []) (lenOf pd0_3 rfl) rfl (by show 2 * 0 + _ ≤ _; exact Nat.le_of_eq rfl) (hb hby at_449) (fun _ _ => ⟨rfl, rfl, (by decide : 11 + 0 ≤ _), (by decide : 98 + 0 ≤ _)⟩)
              dsimp only [Pt.U, Pt.locs, Pt.cells, Pt.slots] at X16 l16 y16 z16 st16 hQ16
              subst y16 z16
              obtain ⟨rfl, Nc16, e16⟩ := hQ16
              have N16 : Fr n0 L16 := by rw [l16]; exact Fr.app N15 Nc16
              refine GoV.tr st16 ?_
              show GoV p e below s _ _ _ (T16.setTop (mkF m 452 #[.val (.int p0), .val (.int p1), .val (.long p2), .second, .val (.int p4), .val (.int p5), .val (.int (p0 &&& (3 : Int32))), .val (.ref b1), .val (.int n), .val (.ref x), .val (.ref mu), .val (.ref r15)] [(.int (1 : Int32))]))
              refine GoV.st (fun _ kq_ => XS.ifNo X16.here hx rfl (hb hby at_452) rfl (by decide) kq_) ?_
              show GoV p e below s _ _ _ (T16.setTop (mkF m 455 #[.val (.int p0), .val (.int p1), .val (.long p2), .second, .val (.int p4), .val (.int p5), .val (.int (p0 &&& (3 : Int32))), .val (.ref b1), .val (.int n), .val (.ref x), .val (.ref mu), .val (.ref r15)] []))
              refine GoV.st (fun _ kq_ => XS.aload X16.here hx rfl (hb hby at_455) rfl rfl kq_) ?_
              show GoV p e below s _ _ _ (T16.setTop (mkF m 457 #[.val (.int p0), .val (.int p1), .val (.long p2), .second, .val (.int p4), .val (.int p5), .val (.int (p0 &&& (3 : Int32))), .val (.ref b1), .val (.int n), .val (.ref x), .val (.ref mu), .val (.ref r15)] [(.ref r15)]))
              obtain ⟨cq17, kq17, qa17, qb17, qc17⟩ := isOf hZ9 e16 E_r15
              obtain ⟨_, _, ⟨T17, L17, k17, n17⟩, -, X17, ⟨Lc17, hQ17, l17, y17, z17⟩, st17⟩ := X16.virtualBack hx (y := (⟨"java/util/Optional", "get", "()Ljava/lang/Object;"⟩ : MethodName)) (z := (⟨"java/util/Optional", "get", "()Ljava/lang/Object;"⟩ : MethodName)) hown9 (mvT hZ9 (own_w hw 95 rfl)) (mvT hZ9 (own_w hw 96 rfl)) (notFace_of_selects (args := #[]) (mvT hZ9 (own_w hw 98 rfl))) (mvT hZ9 (own_w hw 98 rfl)) (mvT hZ9 (own_w hw 97 rfl)) (by decide) (backOf (W := 0) (rmg l Z a0 hw [] r15 mu T15.heap n0 O15 F_r15_value) hZ9 (own_w hw 99 rfl) (own_w hw 75 rfl) (by decide) (by decide)) qa17 qc17 (g := (mkF m 457 #[.val (.int p0), .val (.int p1), .val (.long p2), .second, .val (.int p4), .val (.int p5), .val (.int (p0 &&& (3 : Int32))), .val (.ref b1), .val (.int n), .val (.ref x), .val (.ref mu), .val (.ref r15)] [(.ref r15)])) rfl (by rw [hml]; rfl) (Steps.refl _) (argsL := []) (rest := []) (lenOf pd0_4 rfl) rfl (by show 2 * 0 + _ ≤ _; exact Nat.le_of_eq rfl) (hb hby at_457) (fun _ _ => ⟨rfl, e16, (by decide : 11 + 0 ≤ _), (by decide : 98 + 0 ≤ _)⟩)
              dsimp only [Pt.U, Pt.locs, Pt.cells, Pt.slots] at X17 l17 y17 z17 st17 hQ17
              subst y17 z17
              obtain ⟨rfl, Nc17, e17⟩ := hQ17
              have N17 : Fr n0 L17 := by rw [l17]; exact Fr.app N16 Nc17
              refine GoV.tr st17 ?_
              show GoV p e below s _ _ _ (T17.setTop (mkF m 460 #[.val (.int p0), .val (.int p1), .val (.long p2), .second, .val (.int p4), .val (.int p5), .val (.int (p0 &&& (3 : Int32))), .val (.ref b1), .val (.int n), .val (.ref x), .val (.ref mu), .val (.ref r15)] [(.ref mu)]))
              refine GoV.st (fun _ kq_ => XS.aload X17.here hx rfl (hb hby at_460) rfl rfl kq_) ?_
              show GoV p e below s _ _ _ (T17.setTop (mkF m 462 #[.val (.int p0), .val (.int p1), .val (.long p2), .second, .val (.int p4), .val (.int p5), .val (.int (p0 &&& (3 : Int32))), .val (.ref b1), .val (.int n), .val (.ref x), .val (.ref mu), .val (.ref r15)] [(.ref mu), (.ref mu)]))
              refine GoV.st (fun _ kq_ => XT.acmpNo X17.here hx rfl (hb hby at_462) rfl rfl rfl (XT.aa_ne_f rfl) kq_) ?_
              show GoV p e below s _ _ _ (T17.setTop (mkF m 465 #[.val (.int p0), .val (.int p1), .val (.long p2), .second, .val (.int p4), .val (.int p5), .val (.int (p0 &&& (3 : Int32))), .val (.ref b1), .val (.int n), .val (.ref x), .val (.ref mu), .val (.ref r15)] []))
              refine GoV.st (fun _ kq_ => XS.aload X17.here hx rfl (hb hby at_465) rfl rfl kq_) ?_
              show GoV p e below s _ _ _ (T17.setTop (mkF m 467 #[.val (.int p0), .val (.int p1), .val (.long p2), .second, .val (.int p4), .val (.int p5), .val (.int (p0 &&& (3 : Int32))), .val (.ref b1), .val (.int n), .val (.ref x), .val (.ref mu), .val (.ref r15)] [(.ref r15)]))
              obtain ⟨cq18, kq18, qa18, qb18, qc18⟩ := isOf hZ9 e17 E_r15
              obtain ⟨_, _, ⟨T18, L18, k18, n18⟩, -, X18, ⟨Lc18, hQ18, l18, y18, z18⟩, st18⟩ := X17.virtualBack hx (y := (⟨"java/util/Optional", "get", "()Ljava/lang/Object;"⟩ : MethodName)) (z := (⟨"java/util/Optional", "get", "()Ljava/lang/Object;"⟩ : MethodName)) hown9 (mvT hZ9 (own_w hw 95 rfl)) (mvT hZ9 (own_w hw 96 rfl)) (notFace_of_selects (args := #[]) (mvT hZ9 (own_w hw 98 rfl))) (mvT hZ9 (own_w hw 98 rfl)) (mvT hZ9 (own_w hw 97 rfl)) (by decide) (backOf (W := 0) (rmg l Z a0 hw [] r15 mu T15.heap n0 O15 F_r15_value) hZ9 (own_w hw 99 rfl) (own_w hw 75 rfl) (by decide) (by decide)) qa18 qc18 (g := (mkF m 467 #[.val (.int p0), .val (.int p1), .val (.long p2), .second, .val (.int p4), .val (.int p5), .val (.int (p0 &&& (3 : Int32))), .val (.ref b1), .val (.int n), .val (.ref x), .val (.ref mu), .val (.ref r15)] [(.ref r15)])) rfl (by rw [hml]; rfl) (Steps.refl _) (argsL := []) (rest := []) (lenOf pd0_4 rfl) rfl (by show 2 * 0 + _ ≤ _; exact Nat.le_of_eq rfl) (hb hby at_467) (fun _ _ => ⟨rfl, e17, (by decide : 11 + 0 ≤ _), (by decide : 98 + 0 ≤ _)⟩)
              dsimp only [Pt.U, Pt.locs, Pt.cells, Pt.slots] at X18 l18 y18 z18 st18 hQ18
              subst y18 z18
              obtain ⟨rfl, Nc18, e18⟩ := hQ18
              have N18 : Fr n0 L18 := by rw [l18]; exact Fr.app N17 Nc18
              refine GoV.tr st18 ?_
              show GoV p e below s _ _ _ (T18.setTop (mkF m 470 #[.val (.int p0), .val (.int p1), .val (.long p2), .second, .val (.int p4), .val (.int p5), .val (.int (p0 &&& (3 : Int32))), .val (.ref b1), .val (.int n), .val (.ref x), .val (.ref mu), .val (.ref r15)] [(.ref mu)]))
              obtain ⟨T19, X19, e19, st19⟩ := castY X18 hx hZ9 hown9 (own_w hw 100 rfl) e18 (Ins.self (E_mu.ext O15.2)) (g := (mkF m 470 #[.val (.int p0), .val (.int p1), .val (.long p2), .second, .val (.int p4), .val (.int p5), .val (.int (p0 &&& (3 : Int32))), .val (.ref b1), .val (.int n), .val (.ref x), .val (.ref mu), .val (.ref r15)] [(.ref mu)])) rfl rfl (hb hby at_470)
              refine GoV.st st19 ?_
              show GoV p e below s _ _ _ (T19.setTop (mkF m 473 #[.val (.int p0), .val (.int p1), .val (.long p2), .second, .val (.int p4), .val (.int p5), .val (.int (p0 &&& (3 : Int32))), .val (.ref b1), .val (.int n), .val (.ref x), .val (.ref mu), .val (.ref r15)] [(.ref mu)]))
              obtain ⟨cq20, kq20, qa20, qb20, qc20⟩ := isOf hZ9 e19 (E_mu.ext O15.2)
              obtain ⟨_, _, ⟨T20, L20, k20, n20⟩, -, X20, ⟨Lc20, hQ20, l20, y20, z20⟩, st20⟩ := X19.virtualBack hx (y := (⟨"com/example/rootward/rootward/model/Policy", "jsonName", "()Ljava/lang/String;"⟩ : MethodName)) (z := (⟨"com/example/rootward/rootward/model/Policy", "jsonName", "()Ljava/lang/String;"⟩ : MethodName)) hown9 (mvT hZ9 (own_w hw 102 rfl)) (mvT hZ9 (own_w hw 103 rfl)) (notFace_of_selects (args := #[]) (mvT hZ9 (own_w hw 105 rfl))) (mvT hZ9 (own_w hw 105 rfl)) (mvT hZ9 (own_w hw 104 rfl)) (by decide) (backOf (W := 0) (rmj l Z a0 hw [] mu tm T15.heap n0 O15 (J_mu.ext O15.2)) hZ9 (own_w hw 106 rfl) (own_w hw 49 rfl) (by decide) (by decide)) qa20 qc20 (g := (mkF m 473 #[.val (.int p0), .val (.int p1), .val (.long p2), .second, .val (.int p4), .val (.int p5), .val (.int (p0 &&& (3 : Int32))), .val (.ref b1), .val (.int n), .val (.ref x), .val (.ref mu), .val (.ref r15)] [(.ref mu)])) rfl (by rw [hml]; rfl) (Steps.refl _) (argsL := []) (rest := []) (lenOf pd0_5 rfl) rfl (by show 2 * 0 + _ ≤ _; exact Nat.le_of_eq rfl) (hb hby at_473) (fun _ _ => ⟨rfl, e19, (by decide : 11 + 0 ≤ _), (by decide : 98 + 0 ≤ _)⟩)
              dsimp only [Pt.U, Pt.locs, Pt.cells, Pt.slots] at X20 l20 y20 z20 st20 hQ20
              subst y20 z20
              obtain ⟨rfl, Nc20, e20⟩ := hQ20
              have N20 : Fr n0 L20 := by rw [l20]; exact Fr.app N18 Nc20
              refine GoV.tr st20 ?_
              show GoV p e below s _ _ _ (T20.setTop (mkF m 476 #[.val (.int p0), .val (.int p1), .val (.long p2), .second, .val (.int p4), .val (.int p5), .val (.int (p0 &&& (3 : Int32))), .val (.ref b1), .val (.int n), .val (.ref x), .val (.ref mu), .val (.ref r15)] [(.ref tm)]))
              refine GoV.st (fun _ kq_ => XS.aload X20.here hx rfl (hb hby at_476) rfl rfl kq_) ?_
              show GoV p e below s _ _ _ (T20.setTop (mkF m 478 #[.val (.int p0), .val (.int p1), .val (.long p2), .second, .val (.int p4), .val (.int p5), .val (.int (p0 &&& (3 : Int32))), .val (.ref b1), .val (.int n), .val (.ref x), .val (.ref mu), .val (.ref r15)] [(.ref x), (.ref tm)]))
              obtain ⟨cq21, kq21, qa21, qb21, qc21⟩ := isOf hZ9 e20 (E_tm.ext O15.2)
              obtain ⟨_, _, ⟨T21, L21, k21, n21⟩, -, X21, ⟨Lc21, hQ21, l21, y21, z21⟩, st21⟩ := X20.virtualBack hx (y := (⟨"java/lang/String", "equals", "(Ljava/lang/Object;)Z"⟩ : MethodName)) (z := (⟨"java/lang/String", "equals", "(Ljava/lang/Object;)Z"⟩ : MethodName)) hown9 (mvT hZ9 (own_w hw 38 rfl)) (mvT hZ9 (own_w hw 39 rfl)) (notFace_of_selects (args := #[]) (mvT hZ9 (own_w hw 41 rfl))) (mvT hZ9 (own_w hw 41 rfl)) (mvT hZ9 (own_w hw 40 rfl)) (by decide) (StrChars.Road.eqW (W := 0) hZ9 heq (kI := 4) (own_w hw 7 rfl) (cs := ([(109 : Int32), (117 : Int32), (108 : Int32), (116 : Int32), (105 : Int32), (112 : Int32), (108 : Int32), (101 : Int32)] : List Int32)) (ds := cs) (E_tm.ext O15.2) (F_tm_value.ext O15.2) (F_tm_coder.ext O15.2) (V_ym.ext O15.2) own_codM own_bM (by decide) E_x F_x_value F_x_coder V_t hcX hbX hlX (SC.ext O15.2) hcs (by decide) (by decide)) qa21 qc21 (g := (mkF m 478 #[.val (.int p0), .val (.int p1), .val (.long p2), .second, .val (.int p4), .val (.int p5), .val (.int (p0 &&& (3 : Int32))), .val (.ref b1), .val (.int n), .val (.ref x), .val (.ref mu), .val (.ref r15)] [(.ref x), (.ref tm)])) rfl (by rw [hml]; rfl) (Steps.refl _) (argsL := [(.ref x)]) (rest := []) (lenOf pd0_1 rfl) rfl (by show 2 * 0 + _ ≤ _; exact Nat.le_of_eq rfl) (hb hby at_478) (fun _ _ => ⟨rfl, e20, (by decide : 11 + 0 ≤ _), (by decide : 98 + 0 ≤ _)⟩)
              dsimp only [Pt.U, Pt.locs, Pt.cells, Pt.slots] at X21 l21 y21 z21 st21 hQ21
              subst y21 z21
              obtain ⟨hz21, el21, e21⟩ := hQ21
              obtain ⟨zq21, rfl, hzq21⟩ := own_zz hz21
              have Nc21 : Fr n0 Lc21 := by rw [el21]; exact Fr.nil n0
              have N21 : Fr n0 L21 := by rw [l21]; exact Fr.app N20 Nc21
              refine GoV.tr st21 ?_
              show GoV p e below s _ _ _ (T21.setTop (mkF m 481 #[.val (.int p0), .val (.int p1), .val (.long p2), .second, .val (.int p4), .val (.int p5), .val (.int (p0 &&& (3 : Int32))), .val (.ref b1), .val (.int n), .val (.ref x), .val (.ref mu), .val (.ref r15)] [(.int zq21)]))
              refine GoV.st (fun _ kq_ => XS.ifNo X21.here hx rfl (hb hby at_481) rfl (XT.i0_eq_f (own_zp hzq21 (own_z1 hzq10 c413_11).symm)) kq_) ?_
              show GoV p e below s _ _ _ (T21.setTop (mkF m 484 #[.val (.int p0), .val (.int p1), .val (.long p2), .second, .val (.int p4), .val (.int p5), .val (.int (p0 &&& (3 : Int32))), .val (.ref b1), .val (.int n), .val (.ref x), .val (.ref mu), .val (.ref r15)] []))
              refine GoV.st (fun _ kq_ => XS.iconst X21.here hx rfl (hb hby at_484) kq_) ?_
              show GoV p e below s _ _ _ (T21.setTop (mkF m 485 #[.val (.int p0), .val (.int p1), .val (.long p2), .second, .val (.int p4), .val (.int p5), .val (.int (p0 &&& (3 : Int32))), .val (.ref b1), .val (.int n), .val (.ref x), .val (.ref mu), .val (.ref r15)] [(.int (1 : Int32))]))
              refine GoV.st (fun _ kq_ => XS.goto X21.here hx rfl (pc0 := 485) (pc' := 489) rfl (hb hby at_485) (by decide) (by decide) kq_) ?_
              show GoV p e below s _ _ _ (T21.setTop (mkF m 489 #[.val (.int p0), .val (.int p1), .val (.long p2), .second, .val (.int p4), .val (.int p5), .val (.int (p0 &&& (3 : Int32))), .val (.ref b1), .val (.int n), .val (.ref x), .val (.ref mu), .val (.ref r15)] [(.int (1 : Int32))]))
              exact GoV.ret (vm1 := T9.vm) X21 hlk hS9 (by rw [e21]; exact hk15) (some (.int (nar .boolean (1 : Int32)))) (fun h => by rw [Bd.returns] at h; cases h) (by rw [e21]; exact ⟨rfl, N21⟩) (by decide) (by decide) (fun fs hr => retN X21 hx (t := .boolean) Bd.returns (by simp) (hb hby at_489) hr)
          · refine GoV.st (fun _ kq_ => XS.ifNo X7.here hx rfl (hb hby at_395) rfl (XT.i0_eq_f c395_8) kq_) ?_
            show GoV p e below s _ _ _ (T7.setTop (mkF m 398 #[.val (.int p0), .val (.int p1), .val (.long p2), .second, .val (.int p4), .val (.int p5), .val (.int (p0 &&& (3 : Int32))), .val (.ref b1), .val (.int n), .val (.ref x), .val .null, .unset] []))
            obtain ⟨T22, X22, e22, st22⟩ := getS X7 hx hZ6 hown6 (host := "") (own_w hw 48 rfl) Via.refl e7 (SS.ext O6.2) (g := (mkF m 398 #[.val (.int p0), .val (.int p1), .val (.long p2), .second, .val (.int p4), .val (.int p5), .val (.int (p0 &&& (3 : Int32))), .val (.ref b1), .val (.int n), .val (.ref x), .val .null, .unset] [])) rfl (hb hby at_398)
            refine GoV.st st22 ?_
            show GoV p e below s _ _ _ (T22.setTop (mkF m 401 #[.val (.int p0), .val (.int p1), .val (.long p2), .second, .val (.int p4), .val (.int p5), .val (.int (p0 &&& (3 : Int32))), .val (.ref b1), .val (.int n), .val (.ref x), .val .null, .unset] [(.ref sg)]))
            refine GoV.st (fun _ kq_ => XS.astore X22.here hx rfl (hb hby at_401) rfl rfl (l' := #[.val (.int p0), .val (.int p1), .val (.long p2), .second, .val (.int p4), .val (.int p5), .val (.int (p0 &&& (3 : Int32))), .val (.ref b1), .val (.int n), .val (.ref x), .val (.ref sg), .unset]) rfl kq_) ?_
            show GoV p e below s _ _ _ (T22.setTop (mkF m 403 #[.val (.int p0), .val (.int p1), .val (.long p2), .second, .val (.int p4), .val (.int p5), .val (.int (p0 &&& (3 : Int32))), .val (.ref b1), .val (.int n), .val (.ref x), .val (.ref sg), .unset] []))
            refine GoV.st (fun _ kq_ => XS.goto X22.here hx rfl (pc0 := 403) (pc' := 421) rfl (hb hby at_403) (by decide) (by decide) kq_) ?_
            show GoV p e below s _ _ _ (T22.setTop (mkF m 421 #[.val (.int p0), .val (.int p1), .val (.long p2), .second, .val (.int p4), .val (.int p5), .val (.int (p0 &&& (3 : Int32))), .val (.ref b1), .val (.int n), .val (.ref x), .val (.ref sg), .unset] []))
            refine GoV.st (fun _ kq_ => XS.aload X22.here hx rfl (hb hby at_421) rfl rfl kq_) ?_
            show GoV p e below s _ _ _ (T22.setTop (mkF m 423 #[.val (.int p0), .val (.int p1), .val (.long p2), .second, .val (.int p4), .val (.int p5), .val (.int (p0 &&& (3 : Int32))), .val (.ref b1), .val (.int n), .val (.ref x), .val (.ref sg), .unset] [(.ref x)]))
            obtain ⟨_, _, ⟨T23, L23, k23, n23⟩, -, X23, ⟨Lc23, hQ23, l23, y23, z23⟩, st23⟩ := Jvm.LawKit.callS X22 hx (y := (⟨"com/example/rootward/rootward/model/Policy", "named", "(Ljava/lang/String;)Ljava/util/Optional;"⟩ : MethodName)) hown6 (mvT hZ6 (own_w hw 51 rfl)) (mvT hZ6 (own_w hw 52 rfl)) (mvT hZ6 (own_w hw 49 rfl)) (mvT hZ6 (own_w hw 53 rfl)) (by decide) (backOf (W := 0) (rmnS l Z a0 hw [] x t kt N vs cs sg mu va ts ys tm ym oe kv ks km zc h6 n0 O6 E_x F_x_coder F_x_value V_t hcX hbX hlX EV VV E_sg J_sg E_ts F_ts_coder F_ts_value V_ys E_mu J_mu E_tm F_tm_coder F_tm_value V_ym SV SO SC hcs (own_z1 hzq7 c395_8)) hZ6 (own_w hw 53 rfl) (own_w hw 49 rfl) (by decide) (by decide)) (g := (mkF m 423 #[.val (.int p0), .val (.int p1), .val (.long p2), .second, .val (.int p4), .val (.int p5), .val (.int (p0 &&& (3 : Int32))), .val (.ref b1), .val (.int n), .val (.ref x), .val (.ref sg), .unset] [(.ref x)])) rfl (by rw [hml]; rfl) (argsL := [(.ref x)]) (rest := []) (lenOf pd0_2 rfl) rfl (by show 2 * 0 + _ ≤ _; exact Nat.le_of_eq rfl) (hb hby at_423) (fun _ _ => ⟨rfl, e22, (by decide : 7 + 2 ≤ _), (by decide : 59 + 3 ≤ _)⟩)
            dsimp only [Pt.U, Pt.locs, Pt.cells, Pt.slots] at X23 l23 y23 z23 st23 hQ23
            subst y23 z23
            obtain ⟨r23, rfl, Nc23, Kc23, gr23, szr23, NE, NV⟩ := hQ23
            have N23 : Fr n0 L23 := by rw [l23]; exact Fr.app N7 Nc23
            have g_r23 : n0 ≤ r23 := gr23
            have ne_b1_r23 : b1 ≠ r23 := Nat.ne_of_lt (Nat.lt_of_lt_of_le V_b1.lt szr23)
            have ne_x_r23 : x ≠ r23 := Nat.ne_of_lt (Nat.lt_of_lt_of_le E_x.lt szr23)
            have ne_t_r23 : t ≠ r23 := Nat.ne_of_lt (Nat.lt_of_lt_of_le V_t.lt szr23)
            have ne_u6_r23 : u6 ≠ r23 := Nat.ne_of_lt (Nat.lt_of_lt_of_le E_u6.lt szr23)
            have ne_ub6_r23 : ub6 ≠ r23 := Nat.ne_of_lt (Nat.lt_of_lt_of_le V_ub6.lt szr23)
            have V_b1 := V_b1.keep Kc23 nin0
            have E_x := E_x.keep Kc23
            have F_x_coder := F_x_coder.keep Kc23 nin0
            have F_x_value := F_x_value.keep Kc23 nin0
            have V_t := V_t.keep Kc23 nin0
            have E_u6 := E_u6.keep Kc23
            have F_u6_coder := F_u6_coder.keep Kc23 nin0
            have F_u6_value := F_u6_value.keep Kc23 nin0
            have V_ub6 := V_ub6.keep Kc23 nin0
            have hk23 := Nat.le_trans hk6 Kc23.1
            have O23 := O6.keep Kc23 all0
            have E_r23 := NE
            have F_r23_value := NV
            refine GoV.st st23 ?_
            show GoV p e below s _ _ _ (T23.setTop (mkF m 426 #[.val (.int p0), .val (.int p1), .val (.long p2), .second, .val (.int p4), .val (.int p5), .val (.int (p0 &&& (3 : Int32))), .val (.ref b1), .val (.int n), .val (.ref x), .val (.ref sg), .unset] [(.ref r23)]))
            refine GoV.st (fun _ kq_ => XS.astore X23.here hx rfl (hb hby at_426) rfl rfl (l' := #[.val (.int p0), .val (.int p1), .val (.long p2), .second, .val (.int p4), .val (.int p5), .val (.int (p0 &&& (3 : Int32))), .val (.ref b1), .val (.int n), .val (.ref x), .val (.ref sg), .val (.ref r23)]) rfl kq_) ?_
            show GoV p e below s _ _ _ (T23.setTop (mkF m 428 #[.val (.int p0), .val (.int p1), .val (.long p2), .second, .val (.int p4), .val (.int p5), .val (.int (p0 &&& (3 : Int32))), .val (.ref b1), .val (.int n), .val (.ref x), .val (.ref sg), .val (.ref r23)] []))
            refine GoV.st (fun _ kq_ => XS.aload X23.here hx rfl (hb hby at_428) rfl rfl kq_) ?_
            show GoV p e below s _ _ _ (T23.setTop (mkF m 430 #[.val (.int p0), .val (.int p1), .val (.long p2), .second, .val (.int p4), .val (.int p5), .val (.int (p0 &&& (3 : Int32))), .val (.ref b1), .val (.int n), .val (.ref x), .val (.ref sg), .val (.ref r23)] [(.ref sg)]))
            refine GoV.st (fun _ kq_ => XT.ifnonnullYes X23.here hx rfl (pc0 := 430) (pc' := 447) rfl (hb hby at_430) rfl (by decide) (by decide) kq_) ?_
            show GoV p e below s _ _ _ (T23.setTop (mkF m 447 #[.val (.int p0), .val (.int p1), .val (.long p2), .second, .val (.int p4), .val (.int p5), .val (.int (p0 &&& (3 : Int32))), .val (.ref b1), .val (.int n), .val (.ref x), .val (.ref sg), .val (.ref r23)] []))
            refine GoV.st (fun _ kq_ => XS.aload X23.here hx rfl (hb hby at_447) rfl rfl kq_) ?_
            show GoV p e below s _ _ _ (T23.setTop (mkF m 449 #[.val (.int p0), .val (.int p1), .val (.long p2), .second, .val (.int p4), .val (.int p5), .val (.int (p0 &&& (3 : Int32))), .val (.ref b1), .val (.int n), .val (.ref x), .val (.ref sg), .val (.ref r23)] [(.ref r23)]))
            obtain ⟨cq24, kq24, qa24, qb24, qc24⟩ := isOf hZ6 rfl E_r23
            obtain ⟨_, _, ⟨T24, L24, k24, n24⟩, -, X24, ⟨Lc24, hQ24, l24, y24, z24⟩, st24⟩ := X23.virtualBack hx (y := (⟨"java/util/Optional", "isPresent", "()Z"⟩ : MethodName)) (z := (⟨"java/util/Optional", "isPresent", "()Z"⟩ : MethodName)) hown6 (mvT hZ6 (own_w hw 90 rfl)) (mvT hZ6 (own_w hw 91 rfl)) (notFace_of_selects (args := #[]) (mvT hZ6 (own_w hw 93 rfl))) (mvT hZ6 (own_w hw 93 rfl)) (mvT hZ6 (own_w hw 92 rfl)) (by decide) (backOf (W := 0) (rmp1 l Z a0 hw [] r23 sg T23.heap n0 O23 F_r23_value) hZ6 (own_w hw 94 rfl) (own_w hw 75 rfl) (by decide) (by decide)) qa24 qc24 (g := (mkF m 449 #[.val (.int p0), .val (.int p1), .val (.long p2), .second, .val (.int p4), .val (.int p5), .val (.int (p0 &&& (3 : Int32))), .val (.ref b1), .val (.int n), .val (.ref x), .val (.ref sg), .val (.ref r23)] [(.ref r23)])) rfl (by rw [hml]; rfl) (Steps.refl _) (argsL := []) (rest := []) (lenOf pd0_3 rfl) rfl (by show 2 * 0 + _ ≤ _; exact Nat.le_of_eq rfl) (hb hby at_449) (fun _ _ => ⟨rfl, rfl, (by decide : 9 + 0 ≤ _), (by decide : 62 + 0 ≤ _)⟩)
            dsimp only [Pt.U, Pt.locs, Pt.cells, Pt.slots] at X24 l24 y24 z24 st24 hQ24
            subst y24 z24
            obtain ⟨rfl, Nc24, e24⟩ := hQ24
            have N24 : Fr n0 L24 := by rw [l24]; exact Fr.app N23 Nc24
            refine GoV.tr st24 ?_
            show GoV p e below s _ _ _ (T24.setTop (mkF m 452 #[.val (.int p0), .val (.int p1), .val (.long p2), .second, .val (.int p4), .val (.int p5), .val (.int (p0 &&& (3 : Int32))), .val (.ref b1), .val (.int n), .val (.ref x), .val (.ref sg), .val (.ref r23)] [(.int (1 : Int32))]))
            refine GoV.st (fun _ kq_ => XS.ifNo X24.here hx rfl (hb hby at_452) rfl (by decide) kq_) ?_
            show GoV p e below s _ _ _ (T24.setTop (mkF m 455 #[.val (.int p0), .val (.int p1), .val (.long p2), .second, .val (.int p4), .val (.int p5), .val (.int (p0 &&& (3 : Int32))), .val (.ref b1), .val (.int n), .val (.ref x), .val (.ref sg), .val (.ref r23)] []))
            refine GoV.st (fun _ kq_ => XS.aload X24.here hx rfl (hb hby at_455) rfl rfl kq_) ?_
            show GoV p e below s _ _ _ (T24.setTop (mkF m 457 #[.val (.int p0), .val (.int p1), .val (.long p2), .second, .val (.int p4), .val (.int p5), .val (.int (p0 &&& (3 : Int32))), .val (.ref b1), .val (.int n), .val (.ref x), .val (.ref sg), .val (.ref r23)] [(.ref r23)]))
            obtain ⟨cq25, kq25, qa25, qb25, qc25⟩ := isOf hZ6 e24 E_r23
            obtain ⟨_, _, ⟨T25, L25, k25, n25⟩, -, X25, ⟨Lc25, hQ25, l25, y25, z25⟩, st25⟩ := X24.virtualBack hx (y := (⟨"java/util/Optional", "get", "()Ljava/lang/Object;"⟩ : MethodName)) (z := (⟨"java/util/Optional", "get", "()Ljava/lang/Object;"⟩ : MethodName)) hown6 (mvT hZ6 (own_w hw 95 rfl)) (mvT hZ6 (own_w hw 96 rfl)) (notFace_of_selects (args := #[]) (mvT hZ6 (own_w hw 98 rfl))) (mvT hZ6 (own_w hw 98 rfl)) (mvT hZ6 (own_w hw 97 rfl)) (by decide) (backOf (W := 0) (rmg l Z a0 hw [] r23 sg T23.heap n0 O23 F_r23_value) hZ6 (own_w hw 99 rfl) (own_w hw 75 rfl) (by decide) (by decide)) qa25 qc25 (g := (mkF m 457 #[.val (.int p0), .val (.int p1), .val (.long p2), .second, .val (.int p4), .val (.int p5), .val (.int (p0 &&& (3 : Int32))), .val (.ref b1), .val (.int n), .val (.ref x), .val (.ref sg), .val (.ref r23)] [(.ref r23)])) rfl (by rw [hml]; rfl) (Steps.refl _) (argsL := []) (rest := []) (lenOf pd0_4 rfl) rfl (by show 2 * 0 + _ ≤ _; exact Nat.le_of_eq rfl) (hb hby at_457) (fun _ _ => ⟨rfl, e24, (by decide : 9 + 0 ≤ _), (by decide : 62 + 0 ≤ _)⟩)
            dsimp only [Pt.U, Pt.locs, Pt.cells, Pt.slots] at X25 l25 y25 z25 st25 hQ25
            subst y25 z25
            obtain ⟨rfl, Nc25, e25⟩ := hQ25
            have N25 : Fr n0 L25 := by rw [l25]; exact Fr.app N24 Nc25
            refine GoV.tr st25 ?_
            show GoV p e below s _ _ _ (T25.setTop (mkF m 460 #[.val (.int p0), .val (.int p1), .val (.long p2), .second, .val (.int p4), .val (.int p5), .val (.int (p0 &&& (3 : Int32))), .val (.ref b1), .val (.int n), .val (.ref x), .val (.ref sg), .val (.ref r23)] [(.ref sg)]))
            refine GoV.st (fun _ kq_ => XS.aload X25.here hx rfl (hb hby at_460) rfl rfl kq_) ?_
            show GoV p e below s _ _ _ (T25.setTop (mkF m 462 #[.val (.int p0), .val (.int p1), .val (.long p2), .second, .val (.int p4), .val (.int p5), .val (.int (p0 &&& (3 : Int32))), .val (.ref b1), .val (.int n), .val (.ref x), .val (.ref sg), .val (.ref r23)] [(.ref sg), (.ref sg)]))
            refine GoV.st (fun _ kq_ => XT.acmpNo X25.here hx rfl (hb hby at_462) rfl rfl rfl (XT.aa_ne_f rfl) kq_) ?_
            show GoV p e below s _ _ _ (T25.setTop (mkF m 465 #[.val (.int p0), .val (.int p1), .val (.long p2), .second, .val (.int p4), .val (.int p5), .val (.int (p0 &&& (3 : Int32))), .val (.ref b1), .val (.int n), .val (.ref x), .val (.ref sg), .val (.ref r23)] []))
            refine GoV.st (fun _ kq_ => XS.aload X25.here hx rfl (hb hby at_465) rfl rfl kq_) ?_
            show GoV p e below s _ _ _ (T25.setTop (mkF m 467 #[.val (.int p0), .val (.int p1), .val (.long p2), .second, .val (.int p4), .val (.int p5), .val (.int (p0 &&& (3 : Int32))), .val (.ref b1), .val (.int n), .val (.ref x), .val (.ref sg), .val (.ref r23)] [(.ref r23)]))
            obtain ⟨cq26, kq26, qa26, qb26, qc26⟩ := isOf hZ6 e25 E_r23
            obtain ⟨_, _, ⟨T26, L26, k26, n26⟩, -, X26, ⟨Lc26, hQ26, l26, y26, z26⟩, st26⟩ := X25.virtualBack hx (y := (⟨"java/util/Optional", "get", "()Ljava/lang/Object;"⟩ : MethodName)) (z := (⟨"java/util/Optional", "get", "()Ljava/lang/Object;"⟩ : MethodName)) hown6 (mvT hZ6 (own_w hw 95 rfl)) (mvT hZ6 (own_w hw 96 rfl)) (notFace_of_selects (args := #[]) (mvT hZ6 (own_w hw 98 rfl))) (mvT hZ6 (own_w hw 98 rfl)) (mvT hZ6 (own_w hw 97 rfl)) (by decide) (backOf (W := 0) (rmg l Z a0 hw [] r23 sg T23.heap n0 O23 F_r23_value) hZ6 (own_w hw 99 rfl) (own_w hw 75 rfl) (by decide) (by decide)) qa26 qc26 (g := (mkF m 467 #[.val (.int p0), .val (.int p1), .val (.long p2), .second, .val (.int p4), .val (.int p5), .val (.int (p0 &&& (3 : Int32))), .val (.ref b1), .val (.int n), .val (.ref x), .val (.ref sg), .val (.ref r23)] [(.ref r23)])) rfl (by rw [hml]; rfl) (Steps.refl _) (argsL := []) (rest := []) (lenOf pd0_4 rfl) rfl (by show 2 * 0 + _ ≤ _; exact Nat.le_of_eq rfl) (hb hby at_467) (fun _ _ => ⟨rfl, e25, (by decide : 9 + 0 ≤ _), (by decide : 62 + 0 ≤ _)⟩)
            dsimp only [Pt.U, Pt.locs, Pt.cells, Pt.slots] at X26 l26 y26 z26 st26 hQ26
            subst y26 z26
            obtain ⟨rfl, Nc26, e26⟩ := hQ26
            have N26 : Fr n0 L26 := by rw [l26]; exact Fr.app N25 Nc26
            refine GoV.tr st26 ?_
            show GoV p e below s _ _ _ (T26.setTop (mkF m 470 #[.val (.int p0), .val (.int p1), .val (.long p2), .second, .val (.int p4), .val (.int p5), .val (.int (p0 &&& (3 : Int32))), .val (.ref b1), .val (.int n), .val (.ref x), .val (.ref sg), .val (.ref r23)] [(.ref sg)]))
            obtain ⟨T27, X27, e27, st27⟩ := castY X26 hx hZ6 hown6 (own_w hw 100 rfl) e26 (Ins.self (E_sg.ext O23.2)) (g := (mkF m 470 #[.val (.int p0), .val (.int p1), .val (.long p2), .second, .val (.int p4), .val (.int p5), .val (.int (p0 &&& (3 : Int32))), .val (.ref b1), .val (.int n), .val (.ref x), .val (.ref sg), .val (.ref r23)] [(.ref sg)])) rfl rfl (hb hby at_470)
            refine GoV.st st27 ?_
            show GoV p e below s _ _ _ (T27.setTop (mkF m 473 #[.val (.int p0), .val (.int p1), .val (.long p2), .second, .val (.int p4), .val (.int p5), .val (.int (p0 &&& (3 : Int32))), .val (.ref b1), .val (.int n), .val (.ref x), .val (.ref sg), .val (.ref r23)] [(.ref sg)]))
            obtain ⟨cq28, kq28, qa28, qb28, qc28⟩ := isOf hZ6 e27 (E_sg.ext O23.2)
            obtain ⟨_, _, ⟨T28, L28, k28, n28⟩, -, X28, ⟨Lc28, hQ28, l28, y28, z28⟩, st28⟩ := X27.virtualBack hx (y := (⟨"com/example/rootward/rootward/model/Policy", "jsonName", "()Ljava/lang/String;"⟩ : MethodName)) (z := (⟨"com/example/rootward/rootward/model/Policy", "jsonName", "()Ljava/lang/String;"⟩ : MethodName)) hown6 (mvT hZ6 (own_w hw 102 rfl)) (mvT hZ6 (own_w hw 103 rfl)) (notFace_of_selects (args := #[]) (mvT hZ6 (own_w hw 105 rfl))) (mvT hZ6 (own_w hw 105 rfl)) (mvT hZ6 (own_w hw 104 rfl)) (by decide) (backOf (W := 0) (rmj l Z a0 hw [] sg ts T23.heap n0 O23 (J_sg.ext O23.2)) hZ6 (own_w hw 106 rfl) (own_w hw 49 rfl) (by decide) (by decide)) qa28 qc28 (g := (mkF m 473 #[.val (.int p0), .val (.int p1), .val (.long p2), .second, .val (.int p4), .val (.int p5), .val (.int (p0 &&& (3 : Int32))), .val (.ref b1), .val (.int n), .val (.ref x), .val (.ref sg), .val (.ref r23)] [(.ref sg)])) rfl (by rw [hml]; rfl) (Steps.refl _) (argsL := []) (rest := []) (lenOf pd0_5 rfl) rfl (by show 2 * 0 + _ ≤ _; exact Nat.le_of_eq rfl) (hb hby at_473) (fun _ _ => ⟨rfl, e27, (by decide : 9 + 0 ≤ _), (by decide : 62 + 0 ≤ _)⟩)
            dsimp only [Pt.U, Pt.locs, Pt.cells, Pt.slots] at X28 l28 y28 z28 st28 hQ28
            subst y28 z28
            obtain ⟨rfl, Nc28, e28⟩ := hQ28
            have N28 : Fr n0 L28 := by rw [l28]; exact Fr.app N26 Nc28
            refine GoV.tr st28 ?_
            show GoV p e below s _ _ _ (T28.setTop (mkF m 476 #[.val (.int p0), .val (.int p1), .val (.long p2), .second, .val (.int p4), .val (.int p5), .val (.int (p0 &&& (3 : Int32))), .val (.ref b1), .val (.int n), .val (.ref x), .val (.ref sg), .val (.ref r23)] [(.ref ts)]))
            refine GoV.st (fun _ kq_ => XS.aload X28.here hx rfl (hb hby at_476) rfl rfl kq_) ?_
            show GoV p e below s _ _ _ (T28.setTop (mkF m 478 #[.val (.int p0), .val (.int p1), .val (.long p2), .second, .val (.int p4), .val (.int p5), .val (.int (p0 &&& (3 : Int32))), .val (.ref b1), .val (.int n), .val (.ref x), .val (.ref sg), .val (.ref r23)] [(.ref x), (.ref ts)]))
            obtain ⟨cq29, kq29, qa29, qb29, qc29⟩ := isOf hZ6 e28 (E_ts.ext O23.2)
            obtain ⟨_, _, ⟨T29, L29, k29, n29⟩, -, X29, ⟨Lc29, hQ29, l29, y29, z29⟩, st29⟩ := X28.virtualBack hx (y := (⟨"java/lang/String", "equals", "(Ljava/lang/Object;)Z"⟩ : MethodName)) (z := (⟨"java/lang/String", "equals", "(Ljava/lang/Object;)Z"⟩ : MethodName)) hown6 (mvT hZ6 (own_w hw 38 rfl)) (mvT hZ6 (own_w hw 39 rfl)) (notFace_of_selects (args := #[]) (mvT hZ6 (own_w hw 41 rfl))) (mvT hZ6 (own_w hw 41 rfl)) (mvT hZ6 (own_w hw 40 rfl)) (by decide) (StrChars.Road.eqW (W := 0) hZ6 heq (kI := 4) (own_w hw 7 rfl) (cs := ([(115 : Int32), (105 : Int32), (110 : Int32), (103 : Int32), (108 : Int32), (101 : Int32)] : List Int32)) (ds := cs) (E_ts.ext O23.2) (F_ts_value.ext O23.2) (F_ts_coder.ext O23.2) (V_ys.ext O23.2) own_codS own_bS (by decide) E_x F_x_value F_x_coder V_t hcX hbX hlX (SC.ext O23.2) hcs (by decide) (by decide)) qa29 qc29 (g := (mkF m 478 #[.val (.int p0), .val (.int p1), .val (.long p2), .second, .val (.int p4), .val (.int p5), .val (.int (p0 &&& (3 : Int32))), .val (.ref b1), .val (.int n), .val (.ref x), .val (.ref sg), .val (.ref r23)] [(.ref x), (.ref ts)])) rfl (by rw [hml]; rfl) (Steps.refl _) (argsL := [(.ref x)]) (rest := []) (lenOf pd0_1 rfl) rfl (by show 2 * 0 + _ ≤ _; exact Nat.le_of_eq rfl) (hb hby at_478) (fun _ _ => ⟨rfl, e28, (by decide : 9 + 0 ≤ _), (by decide : 62 + 0 ≤ _)⟩)
            dsimp only [Pt.U, Pt.locs, Pt.cells, Pt.slots] at X29 l29 y29 z29 st29 hQ29
            subst y29 z29
            obtain ⟨hz29, el29, e29⟩ := hQ29
            obtain ⟨zq29, rfl, hzq29⟩ := own_zz hz29
            have Nc29 : Fr n0 Lc29 := by rw [el29]; exact Fr.nil n0
            have N29 : Fr n0 L29 := by rw [l29]; exact Fr.app N28 Nc29
            refine GoV.tr st29 ?_
            show GoV p e below s _ _ _ (T29.setTop (mkF m 481 #[.val (.int p0), .val (.int p1), .val (.long p2), .second, .val (.int p4), .val (.int p5), .val (.int (p0 &&& (3 : Int32))), .val (.ref b1), .val (.int n), .val (.ref x), .val (.ref sg), .val (.ref r23)] [(.int zq29)]))
            refine GoV.st (fun _ kq_ => XS.ifNo X29.here hx rfl (hb hby at_481) rfl (XT.i0_eq_f (own_zp hzq29 (own_z1 hzq7 c395_8).symm)) kq_) ?_
            show GoV p e below s _ _ _ (T29.setTop (mkF m 484 #[.val (.int p0), .val (.int p1), .val (.long p2), .second, .val (.int p4), .val (.int p5), .val (.int (p0 &&& (3 : Int32))), .val (.ref b1), .val (.int n), .val (.ref x), .val (.ref sg), .val (.ref r23)] []))
            refine GoV.st (fun _ kq_ => XS.iconst X29.here hx rfl (hb hby at_484) kq_) ?_
            show GoV p e below s _ _ _ (T29.setTop (mkF m 485 #[.val (.int p0), .val (.int p1), .val (.long p2), .second, .val (.int p4), .val (.int p5), .val (.int (p0 &&& (3 : Int32))), .val (.ref b1), .val (.int n), .val (.ref x), .val (.ref sg), .val (.ref r23)] [(.int (1 : Int32))]))
            refine GoV.st (fun _ kq_ => XS.goto X29.here hx rfl (pc0 := 485) (pc' := 489) rfl (hb hby at_485) (by decide) (by decide) kq_) ?_
            show GoV p e below s _ _ _ (T29.setTop (mkF m 489 #[.val (.int p0), .val (.int p1), .val (.long p2), .second, .val (.int p4), .val (.int p5), .val (.int (p0 &&& (3 : Int32))), .val (.ref b1), .val (.int n), .val (.ref x), .val (.ref sg), .val (.ref r23)] [(.int (1 : Int32))]))
            exact GoV.ret (vm1 := T6.vm) X29 hlk hS6 (by rw [e29]; exact hk23) (some (.int (nar .boolean (1 : Int32)))) (fun h => by rw [Bd.returns] at h; cases h) (by rw [e29]; exact ⟨rfl, N29⟩) (by decide) (by decide) (fun fs hr => retN X29 hx (t := .boolean) Bd.returns (by simp) (hb hby at_489) hr)
        · refine GoV.st (fun _ kq_ => XS.ifNo X3.here hx rfl (hb hby at_374) rfl (XT.i0_eq_f c374_5) kq_) ?_
          show GoV p e below s _ _ _ (T3.setTop (mkF m 377 #[.val (.int p0), .val (.int p1), .val (.long p2), .second, .val (.int p4), .val (.int p5), .val (.int (p0 &&& (3 : Int32))), .val (.ref b1), .val (.int n), .val (.ref x), .unset, .unset] []))
          refine GoV.st (fun _ kq_ => XS.aconstNull X3.here hx rfl (hb hby at_377) kq_) ?_
          show GoV p e below s _ _ _ (T3.setTop (mkF m 378 #[.val (.int p0), .val (.int p1), .val (.long p2), .second, .val (.int p4), .val (.int p5), .val (.int (p0 &&& (3 : Int32))), .val (.ref b1), .val (.int n), .val (.ref x), .unset, .unset] [.null]))
          refine GoV.st (fun _ kq_ => XS.astore X3.here hx rfl (hb hby at_378) rfl rfl (l' := #[.val (.int p0), .val (.int p1), .val (.long p2), .second, .val (.int p4), .val (.int p5), .val (.int (p0 &&& (3 : Int32))), .val (.ref b1), .val (.int n), .val .null, .unset, .unset]) rfl kq_) ?_
          show GoV p e below s _ _ _ (T3.setTop (mkF m 380 #[.val (.int p0), .val (.int p1), .val (.long p2), .second, .val (.int p4), .val (.int p5), .val (.int (p0 &&& (3 : Int32))), .val (.ref b1), .val (.int n), .val .null, .unset, .unset] []))
          refine GoV.st (fun _ kq_ => XS.aconstNull X3.here hx rfl (hb hby at_380) kq_) ?_
          show GoV p e below s _ _ _ (T3.setTop (mkF m 381 #[.val (.int p0), .val (.int p1), .val (.long p2), .second, .val (.int p4), .val (.int p5), .val (.int (p0 &&& (3 : Int32))), .val (.ref b1), .val (.int n), .val .null, .unset, .unset] [.null]))
          refine GoV.st (fun _ kq_ => XS.astore X3.here hx rfl (hb hby at_381) rfl rfl (l' := #[.val (.int p0), .val (.int p1), .val (.long p2), .second, .val (.int p4), .val (.int p5), .val (.int (p0 &&& (3 : Int32))), .val (.ref b1), .val (.int n), .val .null, .val .null, .unset]) rfl kq_) ?_
          show GoV p e below s _ _ _ (T3.setTop (mkF m 383 #[.val (.int p0), .val (.int p1), .val (.long p2), .second, .val (.int p4), .val (.int p5), .val (.int (p0 &&& (3 : Int32))), .val (.ref b1), .val (.int n), .val .null, .val .null, .unset] []))
          refine GoV.st (fun _ kq_ => XS.aload X3.here hx rfl (hb hby at_383) rfl rfl kq_) ?_
          show GoV p e below s _ _ _ (T3.setTop (mkF m 385 #[.val (.int p0), .val (.int p1), .val (.long p2), .second, .val (.int p4), .val (.int p5), .val (.int (p0 &&& (3 : Int32))), .val (.ref b1), .val (.int n), .val .null, .val .null, .unset] [.null]))
          refine GoV.st (fun _ kq_ => XS.ifnullYes X3.here hx rfl (pc0 := 385) (pc' := 421) rfl (hb hby at_385) rfl (by decide) (by decide) kq_) ?_
          show GoV p e below s _ _ _ (T3.setTop (mkF m 421 #[.val (.int p0), .val (.int p1), .val (.long p2), .second, .val (.int p4), .val (.int p5), .val (.int (p0 &&& (3 : Int32))), .val (.ref b1), .val (.int n), .val .null, .val .null, .unset] []))
          refine GoV.st (fun _ kq_ => XS.aload X3.here hx rfl (hb hby at_421) rfl rfl kq_) ?_
          show GoV p e below s _ _ _ (T3.setTop (mkF m 423 #[.val (.int p0), .val (.int p1), .val (.long p2), .second, .val (.int p4), .val (.int p5), .val (.int (p0 &&& (3 : Int32))), .val (.ref b1), .val (.int n), .val .null, .val .null, .unset] [.null]))
          obtain ⟨_, _, ⟨T30, L30, k30, n30⟩, -, X30, ⟨Lc30, hQ30, l30, y30, z30⟩, st30⟩ := Jvm.LawKit.callS X3 hx (y := (⟨"com/example/rootward/rootward/model/Policy", "named", "(Ljava/lang/String;)Ljava/util/Optional;"⟩ : MethodName)) hown3 (mvT hZ3 (own_w hw 51 rfl)) (mvT hZ3 (own_w hw 52 rfl)) (mvT hZ3 (own_w hw 49 rfl)) (mvT hZ3 (own_w hw 53 rfl)) (by decide) (backOf (W := 0) (rmn0 l Z a0 hw [] sg mu va ts ys tm ym oe kv ks km zc T3.heap n0 O3 EV VV E_sg J_sg E_ts F_ts_coder F_ts_value V_ys E_mu J_mu E_tm F_tm_coder F_tm_value V_ym SV SO SC hcs) hZ3 (own_w hw 53 rfl) (own_w hw 49 rfl) (by decide) (by decide)) (g := (mkF m 423 #[.val (.int p0), .val (.int p1), .val (.long p2), .second, .val (.int p4), .val (.int p5), .val (.int (p0 &&& (3 : Int32))), .val (.ref b1), .val (.int n), .val .null, .val .null, .unset] [.null])) rfl (by rw [hml]; rfl) (argsL := [.null]) (rest := []) (lenOf pd0_2 rfl) rfl (by show 2 * 0 + _ ≤ _; exact Nat.le_of_eq rfl) (hb hby at_423) (fun _ _ => ⟨rfl, rfl, (by decide : 5 + 1 ≤ _), (by decide : 31 + 2 ≤ _)⟩)
          dsimp only [Pt.U, Pt.locs, Pt.cells, Pt.slots] at X30 l30 y30 z30 st30 hQ30
          subst y30 z30
          obtain ⟨rfl, Nc30, Kc30⟩ := hQ30
          have N30 : Fr n0 L30 := by rw [l30]; exact Fr.app N3 Nc30
          have V_b1 := V_b1.keep Kc30 nin0
          have E_x := E_x.keep Kc30
          have F_x_coder := F_x_coder.keep Kc30 nin0
          have F_x_value := F_x_value.keep Kc30 nin0
          have V_t := V_t.keep Kc30 nin0
          have hk30 := Nat.le_trans hk3 Kc30.1
          have O30 := O3.keep Kc30 all0
          refine GoV.st st30 ?_
          show GoV p e below s _ _ _ (T30.setTop (mkF m 426 #[.val (.int p0), .val (.int p1), .val (.long p2), .second, .val (.int p4), .val (.int p5), .val (.int (p0 &&& (3 : Int32))), .val (.ref b1), .val (.int n), .val .null, .val .null, .unset] [(.ref oe)]))
          refine GoV.st (fun _ kq_ => XS.astore X30.here hx rfl (hb hby at_426) rfl rfl (l' := #[.val (.int p0), .val (.int p1), .val (.long p2), .second, .val (.int p4), .val (.int p5), .val (.int (p0 &&& (3 : Int32))), .val (.ref b1), .val (.int n), .val .null, .val .null, .val (.ref oe)]) rfl kq_) ?_
          show GoV p e below s _ _ _ (T30.setTop (mkF m 428 #[.val (.int p0), .val (.int p1), .val (.long p2), .second, .val (.int p4), .val (.int p5), .val (.int (p0 &&& (3 : Int32))), .val (.ref b1), .val (.int n), .val .null, .val .null, .val (.ref oe)] []))
          refine GoV.st (fun _ kq_ => XS.aload X30.here hx rfl (hb hby at_428) rfl rfl kq_) ?_
          show GoV p e below s _ _ _ (T30.setTop (mkF m 430 #[.val (.int p0), .val (.int p1), .val (.long p2), .second, .val (.int p4), .val (.int p5), .val (.int (p0 &&& (3 : Int32))), .val (.ref b1), .val (.int n), .val .null, .val .null, .val (.ref oe)] [.null]))
          refine GoV.st (fun _ kq_ => XT.ifnonnullNo X30.here hx rfl (hb hby at_430) rfl kq_) ?_
          show GoV p e below s _ _ _ (T30.setTop (mkF m 433 #[.val (.int p0), .val (.int p1), .val (.long p2), .second, .val (.int p4), .val (.int p5), .val (.int (p0 &&& (3 : Int32))), .val (.ref b1), .val (.int n), .val .null, .val .null, .val (.ref oe)] []))
          refine GoV.st (fun _ kq_ => XS.aload X30.here hx rfl (hb hby at_433) rfl rfl kq_) ?_
          show GoV p e below s _ _ _ (T30.setTop (mkF m 435 #[.val (.int p0), .val (.int p1), .val (.long p2), .second, .val (.int p4), .val (.int p5), .val (.int (p0 &&& (3 : Int32))), .val (.ref b1), .val (.int n), .val .null, .val .null, .val (.ref oe)] [(.ref oe)]))
          obtain ⟨cq31, kq31, qa31, qb31, qc31⟩ := isOf hZ3 rfl (EO.ext O30.2)
          obtain ⟨_, _, ⟨T31, L31, k31, n31⟩, -, X31, ⟨Lc31, hQ31, l31, y31, z31⟩, st31⟩ := X30.virtualBack hx (y := (⟨"java/util/Optional", "isPresent", "()Z"⟩ : MethodName)) (z := (⟨"java/util/Optional", "isPresent", "()Z"⟩ : MethodName)) hown3 (mvT hZ3 (own_w hw 90 rfl)) (mvT hZ3 (own_w hw 91 rfl)) (notFace_of_selects (args := #[]) (mvT hZ3 (own_w hw 93 rfl))) (mvT hZ3 (own_w hw 93 rfl)) (mvT hZ3 (own_w hw 92 rfl)) (by decide) (backOf (W := 0) (rmp0 l Z a0 hw [] oe T30.heap n0 O30 (FO.ext O30.2)) hZ3 (own_w hw 94 rfl) (own_w hw 75 rfl) (by decide) (by decide)) qa31 qc31 (g := (mkF m 435 #[.val (.int p0), .val (.int p1), .val (.long p2), .second, .val (.int p4), .val (.int p5), .val (.int (p0 &&& (3 : Int32))), .val (.ref b1), .val (.int n), .val .null, .val .null, .val (.ref oe)] [(.ref oe)])) rfl (by rw [hml]; rfl) (Steps.refl _) (argsL := []) (rest := []) (lenOf pd0_3 rfl) rfl (by show 2 * 0 + _ ≤ _; exact Nat.le_of_eq rfl) (hb hby at_435) (fun _ _ => ⟨rfl, rfl, (by decide : 6 + 0 ≤ _), (by decide : 33 + 0 ≤ _)⟩)
          dsimp only [Pt.U, Pt.locs, Pt.cells, Pt.slots] at X31 l31 y31 z31 st31 hQ31
          subst y31 z31
          obtain ⟨rfl, Nc31, e31⟩ := hQ31
          have N31 : Fr n0 L31 := by rw [l31]; exact Fr.app N30 Nc31
          refine GoV.tr st31 ?_
          show GoV p e below s _ _ _ (T31.setTop (mkF m 438 #[.val (.int p0), .val (.int p1), .val (.long p2), .second, .val (.int p4), .val (.int p5), .val (.int (p0 &&& (3 : Int32))), .val (.ref b1), .val (.int n), .val .null, .val .null, .val (.ref oe)] [(.int (0 : Int32))]))
          refine GoV.st (fun _ kq_ => XS.ifNo X31.here hx rfl (hb hby at_438) rfl (by decide) kq_) ?_
          show GoV p e below s _ _ _ (T31.setTop (mkF m 441 #[.val (.int p0), .val (.int p1), .val (.long p2), .second, .val (.int p4), .val (.int p5), .val (.int (p0 &&& (3 : Int32))), .val (.ref b1), .val (.int n), .val .null, .val .null, .val (.ref oe)] []))
          refine GoV.st (fun _ kq_ => XS.iconst X31.here hx rfl (hb hby at_441) kq_) ?_
          show GoV p e below s _ _ _ (T31.setTop (mkF m 442 #[.val (.int p0), .val (.int p1), .val (.long p2), .second, .val (.int p4), .val (.int p5), .val (.int (p0 &&& (3 : Int32))), .val (.ref b1), .val (.int n), .val .null, .val .null, .val (.ref oe)] [(.int (1 : Int32))]))
          refine GoV.st (fun _ kq_ => XS.goto X31.here hx rfl (pc0 := 442) (pc' := 446) rfl (hb hby at_442) (by decide) (by decide) kq_) ?_
          show GoV p e below s _ _ _ (T31.setTop (mkF m 446 #[.val (.int p0), .val (.int p1), .val (.long p2), .second, .val (.int p4), .val (.int p5), .val (.int (p0 &&& (3 : Int32))), .val (.ref b1), .val (.int n), .val .null, .val .null, .val (.ref oe)] [(.int (1 : Int32))]))
          exact GoV.ret (vm1 := T3.vm) X31 hlk hS3 (by rw [e31]; exact hk30) (some (.int (nar .boolean (1 : Int32)))) (fun h => by rw [Bd.returns] at h; cases h) (by rw [e31]; exact ⟨rfl, N31⟩) (by decide) (by decide) (fun fs hr => retN X31 hx (t := .boolean) Bd.returns (by simp) (hb hby at_446) hr)
      · refine GoV.st (fun _ kq_ => XS.icmpYes X3.here hx rfl (pc0 := 366) (pc' := 380) rfl (hb hby at_366) rfl (XT.ii_ne_t c366_4) (by decide) (by decide) kq_) ?_
        show GoV p e below s _ _ _ (T3.setTop (mkF m 380 #[.val (.int p0), .val (.int p1), .val (.long p2), .second, .val (.int p4), .val (.int p5), .val (.int (p0 &&& (3 : Int32))), .val (.ref b1), .val (.int n), .val (.ref x), .unset, .unset] []))
        refine GoV.st (fun _ kq_ => XS.aconstNull X3.here hx rfl (hb hby at_380) kq_) ?_
        show GoV p e below s _ _ _ (T3.setTop (mkF m 381 #[.val (.int p0), .val (.int p1), .val (.long p2), .second, .val (.int p4), .val (.int p5), .val (.int (p0 &&& (3 : Int32))), .val (.ref b1), .val (.int n), .val (.ref x), .unset, .unset] [.null]))
        refine GoV.st (fun _ kq_ => XS.astore X3.here hx rfl (hb hby at_381) rfl rfl (l' := #[.val (.int p0), .val (.int p1), .val (.long p2), .second, .val (.int p4), .val (.int p5), .val (.int (p0 &&& (3 : Int32))), .val (.ref b1), .val (.int n), .val (.ref x), .val .null, .unset]) rfl kq_) ?_
        show GoV p e below s _ _ _ (T3.setTop (mkF m 383 #[.val (.int p0), .val (.int p1), .val (.long p2), .second, .val (.int p4), .val (.int p5), .val (.int (p0 &&& (3 : Int32))), .val (.ref b1), .val (.int n), .val (.ref x), .val .null, .unset] []))
        refine GoV.st (fun _ kq_ => XS.aload X3.here hx rfl (hb hby at_383) rfl rfl kq_) ?_
        show GoV p e below s _ _ _ (T3.setTop (mkF m 385 #[.val (.int p0), .val (.int p1), .val (.long p2), .second, .val (.int p4), .val (.int p5), .val (.int (p0 &&& (3 : Int32))), .val (.ref b1), .val (.int n), .val (.ref x), .val .null, .unset] [(.ref x)]))
        refine GoV.st (fun _ kq_ => XS.ifnullNo X3.here hx rfl (hb hby at_385) rfl kq_) ?_
        show GoV p e below s _ _ _ (T3.setTop (mkF m 388 #[.val (.int p0), .val (.int p1), .val (.long p2), .second, .val (.int p4), .val (.int p5), .val (.int (p0 &&& (3 : Int32))), .val (.ref b1), .val (.int n), .val (.ref x), .val .null, .unset] []))
        refine GoV.st (fun _ kq_ => XS.aload X3.here hx rfl (hb hby at_388) rfl rfl kq_) ?_
        show GoV p e below s _ _ _ (T3.setTop (mkF m 390 #[.val (.int p0), .val (.int p1), .val (.long p2), .second, .val (.int p4), .val (.int p5), .val (.int (p0 &&& (3 : Int32))), .val (.ref b1), .val (.int n), .val (.ref x), .val .null, .unset] [(.ref x)]))
        obtain ⟨u32, T32, h32, kk32, ub32, kb32, X32, e32, E32, hS32, hk32, hZ32, hown32, NE, NC, NV, NB, lta32, ltb32, I32, LT32, st32⟩ := ldcSVL (vm0 := T3.vm) X3 hx hZ3 hown3 (own_w hw 35 rfl) wS rfl hS3 hk3 (by rw [hs0]; exact N3) hkp I3 (by decide) (hcon ("com/example/rootward/rootward/model/PolicyNamedPinLaw", 21) (by decide)) hcw (vs := [(.int (115 : Int32)), (.int (105 : Int32)), (.int (110 : Int32)), (.int (103 : Int32)), (.int (108 : Int32)), (.int (101 : Int32))]) (z := (6 : Int32)) (by decide) (by decide) rfl (g := (mkF m 390 #[.val (.int p0), .val (.int p1), .val (.long p2), .second, .val (.int p4), .val (.int p5), .val (.int (p0 &&& (3 : Int32))), .val (.ref b1), .val (.int n), .val (.ref x), .val .null, .unset] [(.ref x)])) rfl (hb hby at_390) (n := 24) (by decide) (by decide) (by decide) (by decide)
        have V_b1 := V_b1.ext E32
        have E_x := E_x.ext E32
        have F_x_coder := F_x_coder.ext E32
        have F_x_value := F_x_value.ext E32
        have V_t := V_t.ext E32
        have O32 := O3.ext E32
        have E_u32 : Exa Z h32 u32 "java/lang/String" := NE
        have F_u32_coder : Fld Z h32 u32 "java/lang/String" "coder" "B" (.int (0 : Int32)) := NC
        have F_u32_value : Fld Z h32 u32 "java/lang/String" "value" "[B" (.ref ub32) := NV
        have V_ub32 : Arv Z h32 ub32 kb32 .byte (6 : Int32) [(.int (115 : Int32)), (.int (105 : Int32)), (.int (110 : Int32)), (.int (103 : Int32)), (.int (108 : Int32)), (.int (101 : Int32))] (.int (0 : Int32)) := NB
        refine GoV.st st32 ?_
        show GoV p e below s _ _ _ (T32.setTop (mkF m 392 #[.val (.int p0), .val (.int p1), .val (.long p2), .second, .val (.int p4), .val (.int p5), .val (.int (p0 &&& (3 : Int32))), .val (.ref b1), .val (.int n), .val (.ref x), .val .null, .unset] [(.ref u32), (.ref x)]))
        obtain ⟨cq33, kq33, qa33, qb33, qc33⟩ := isOf hZ32 e32 E_x
        obtain ⟨_, _, ⟨T33, L33, k33, n33⟩, -, X33, ⟨Lc33, hQ33, l33, y33, z33⟩, st33⟩ := X32.virtualBack hx (y := (⟨"java/lang/String", "equals", "(Ljava/lang/Object;)Z"⟩ : MethodName)) (z := (⟨"java/lang/String", "equals", "(Ljava/lang/Object;)Z"⟩ : MethodName)) hown32 (mvT hZ32 (own_w hw 38 rfl)) (mvT hZ32 (own_w hw 39 rfl)) (notFace_of_selects (args := #[]) (mvT hZ32 (own_w hw 41 rfl))) (mvT hZ32 (own_w hw 41 rfl)) (mvT hZ32 (own_w hw 40 rfl)) (by decide) (StrChars.Road.eqW (W := 0) hZ32 heq (kI := 4) (own_w hw 7 rfl) (cs := cs) (ds := ([(115 : Int32), (105 : Int32), (110 : Int32), (103 : Int32), (108 : Int32), (101 : Int32)] : List Int32)) E_x F_x_value F_x_coder V_t hcX hbX hlX E_u32 F_u32_value F_u32_coder V_ub32 own_codS own_bS (by decide) (SC.ext O32.2) hcs (by decide) (by decide)) qa33 qc33 (g := (mkF m 392 #[.val (.int p0), .val (.int p1), .val (.long p2), .second, .val (.int p4), .val (.int p5), .val (.int (p0 &&& (3 : Int32))), .val (.ref b1), .val (.int n), .val (.ref x), .val .null, .unset] [(.ref u32), (.ref x)])) rfl (by rw [hml]; rfl) (Steps.refl _) (argsL := [(.ref u32)]) (rest := []) (lenOf pd0_1 rfl) rfl (by show 2 * 0 + _ ≤ _; exact Nat.le_of_eq rfl) (hb hby at_392) (fun _ _ => ⟨rfl, e32, (by decide : 7 + 0 ≤ _), (by decide : 59 + 0 ≤ _)⟩)
        dsimp only [Pt.U, Pt.locs, Pt.cells, Pt.slots] at X33 l33 y33 z33 st33 hQ33
        subst y33 z33
        obtain ⟨hz33, el33, e33⟩ := hQ33
        obtain ⟨zq33, rfl, hzq33⟩ := own_zz hz33
        have Nc33 : Fr n0 Lc33 := by rw [el33]; exact Fr.nil n0
        have N33 : Fr n0 L33 := by rw [l33]; exact Fr.app N3 Nc33
        refine GoV.tr st33 ?_
        show GoV p e below s _ _ _ (T33.setTop (mkF m 395 #[.val (.int p0), .val (.int p1), .val (.long p2), .second, .val (.int p4), .val (.int p5), .val (.int (p0 &&& (3 : Int32))), .val (.ref b1), .val (.int n), .val (.ref x), .val .null, .unset] [(.int zq33)]))
        by_cases c395_34 : zq33 = (0 : Int32)
        · refine GoV.st (fun _ kq_ => XS.ifYes X33.here hx rfl (pc0 := 395) (pc' := 406) rfl (hb hby at_395) rfl (XT.i0_eq_t c395_34) (by decide) (by decide) kq_) ?_
          show GoV p e below s _ _ _ (T33.setTop (mkF m 406 #[.val (.int p0), .val (.int p1), .val (.long p2), .second, .val (.int p4), .val (.int p5), .val (.int (p0 &&& (3 : Int32))), .val (.ref b1), .val (.int n), .val (.ref x), .val .null, .unset] []))
          refine GoV.st (fun _ kq_ => XS.aload X33.here hx rfl (hb hby at_406) rfl rfl kq_) ?_
          show GoV p e below s _ _ _ (T33.setTop (mkF m 408 #[.val (.int p0), .val (.int p1), .val (.long p2), .second, .val (.int p4), .val (.int p5), .val (.int (p0 &&& (3 : Int32))), .val (.ref b1), .val (.int n), .val (.ref x), .val .null, .unset] [(.ref x)]))
          obtain ⟨u35, T35, h35, kk35, ub35, kb35, X35, e35, E35, hS35, hk35, hZ35, hown35, NE, NC, NV, NB, lta35, ltb35, I35, LT35, st35⟩ := ldcSVL (vm0 := T32.vm) X33 hx hZ32 hown32 (own_w hw 108 rfl) wS e33 hS32 hk32 (by rw [hs0]; exact N33) hkp I32 (by decide) (hcon ("com/example/rootward/rootward/model/PolicyNamedPinLaw", 33) (by decide)) hcw (vs := [(.int (109 : Int32)), (.int (117 : Int32)), (.int (108 : Int32)), (.int (116 : Int32)), (.int (105 : Int32)), (.int (112 : Int32)), (.int (108 : Int32)), (.int (101 : Int32))]) (z := (8 : Int32)) (by decide) (by decide) rfl (g := (mkF m 408 #[.val (.int p0), .val (.int p1), .val (.long p2), .second, .val (.int p4), .val (.int p5), .val (.int (p0 &&& (3 : Int32))), .val (.ref b1), .val (.int n), .val (.ref x), .val .null, .unset] [(.ref x)])) rfl (hb hby at_408) (n := 32) (by decide) (by decide) (by decide) (by decide)
          have V_b1 := V_b1.ext E35
          have E_x := E_x.ext E35
          have F_x_coder := F_x_coder.ext E35
          have F_x_value := F_x_value.ext E35
          have V_t := V_t.ext E35
          have E_u32 := E_u32.ext E35
          have F_u32_coder := F_u32_coder.ext E35
          have F_u32_value := F_u32_value.ext E35
          have V_ub32 := V_ub32.ext E35
          have O35 := O32.ext E35
          have E_u35 : Exa Z h35 u35 "java/lang/String" := NE
          have F_u35_coder : Fld Z h35 u35 "java/lang/String" "coder" "B" (.int (0 : Int32)) := NC
          have F_u35_value : Fld Z h35 u35 "java/lang/String" "value" "[B" (.ref ub35) := NV
          have V_ub35 : Arv Z h35 ub35 kb35 .byte (8 : Int32) [(.int (109 : Int32)), (.int (117 : Int32)), (.int (108 : Int32)), (.int (116 : Int32)), (.int (105 : Int32)), (.int (112 : Int32)), (.int (108 : Int32)), (.int (101 : Int32))] (.int (0 : Int32)) := NB
          refine GoV.st st35 ?_
          show GoV p e below s _ _ _ (T35.setTop (mkF m 410 #[.val (.int p0), .val (.int p1), .val (.long p2), .second, .val (.int p4), .val (.int p5), .val (.int (p0 &&& (3 : Int32))), .val (.ref b1), .val (.int n), .val (.ref x), .val .null, .unset] [(.ref u35), (.ref x)]))
          obtain ⟨cq36, kq36, qa36, qb36, qc36⟩ := isOf hZ35 e35 E_x
          obtain ⟨_, _, ⟨T36, L36, k36, n36⟩, -, X36, ⟨Lc36, hQ36, l36, y36, z36⟩, st36⟩ := X35.virtualBack hx (y := (⟨"java/lang/String", "equals", "(Ljava/lang/Object;)Z"⟩ : MethodName)) (z := (⟨"java/lang/String", "equals", "(Ljava/lang/Object;)Z"⟩ : MethodName)) hown35 (mvT hZ35 (own_w hw 38 rfl)) (mvT hZ35 (own_w hw 39 rfl)) (notFace_of_selects (args := #[]) (mvT hZ35 (own_w hw 41 rfl))) (mvT hZ35 (own_w hw 41 rfl)) (mvT hZ35 (own_w hw 40 rfl)) (by decide) (StrChars.Road.eqW (W := 0) hZ35 heq (kI := 4) (own_w hw 7 rfl) (cs := cs) (ds := ([(109 : Int32), (117 : Int32), (108 : Int32), (116 : Int32), (105 : Int32), (112 : Int32), (108 : Int32), (101 : Int32)] : List Int32)) E_x F_x_value F_x_coder V_t hcX hbX hlX E_u35 F_u35_value F_u35_coder V_ub35 own_codM own_bM (by decide) (SC.ext O35.2) hcs (by decide) (by decide)) qa36 qc36 (g := (mkF m 410 #[.val (.int p0), .val (.int p1), .val (.long p2), .second, .val (.int p4), .val (.int p5), .val (.int (p0 &&& (3 : Int32))), .val (.ref b1), .val (.int n), .val (.ref x), .val .null, .unset] [(.ref u35), (.ref x)])) rfl (by rw [hml]; rfl) (Steps.refl _) (argsL := [(.ref u35)]) (rest := []) (lenOf pd0_1 rfl) rfl (by show 2 * 0 + _ ≤ _; exact Nat.le_of_eq rfl) (hb hby at_410) (fun _ _ => ⟨rfl, e35, (by decide : 9 + 0 ≤ _), (by decide : 95 + 0 ≤ _)⟩)
          dsimp only [Pt.U, Pt.locs, Pt.cells, Pt.slots] at X36 l36 y36 z36 st36 hQ36
          subst y36 z36
          obtain ⟨hz36, el36, e36⟩ := hQ36
          obtain ⟨zq36, rfl, hzq36⟩ := own_zz hz36
          have Nc36 : Fr n0 Lc36 := by rw [el36]; exact Fr.nil n0
          have N36 : Fr n0 L36 := by rw [l36]; exact Fr.app N33 Nc36
          refine GoV.tr st36 ?_
          show GoV p e below s _ _ _ (T36.setTop (mkF m 413 #[.val (.int p0), .val (.int p1), .val (.long p2), .second, .val (.int p4), .val (.int p5), .val (.int (p0 &&& (3 : Int32))), .val (.ref b1), .val (.int n), .val (.ref x), .val .null, .unset] [(.int zq36)]))
          by_cases c413_37 : zq36 = (0 : Int32)
          · refine GoV.st (fun _ kq_ => XS.ifYes X36.here hx rfl (pc0 := 413) (pc' := 421) rfl (hb hby at_413) rfl (XT.i0_eq_t c413_37) (by decide) (by decide) kq_) ?_
            show GoV p e below s _ _ _ (T36.setTop (mkF m 421 #[.val (.int p0), .val (.int p1), .val (.long p2), .second, .val (.int p4), .val (.int p5), .val (.int (p0 &&& (3 : Int32))), .val (.ref b1), .val (.int n), .val (.ref x), .val .null, .unset] []))
            refine GoV.st (fun _ kq_ => XS.aload X36.here hx rfl (hb hby at_421) rfl rfl kq_) ?_
            show GoV p e below s _ _ _ (T36.setTop (mkF m 423 #[.val (.int p0), .val (.int p1), .val (.long p2), .second, .val (.int p4), .val (.int p5), .val (.int (p0 &&& (3 : Int32))), .val (.ref b1), .val (.int n), .val (.ref x), .val .null, .unset] [(.ref x)]))
            obtain ⟨_, _, ⟨T38, L38, k38, n38⟩, -, X38, ⟨Lc38, hQ38, l38, y38, z38⟩, st38⟩ := Jvm.LawKit.callS X36 hx (y := (⟨"com/example/rootward/rootward/model/Policy", "named", "(Ljava/lang/String;)Ljava/util/Optional;"⟩ : MethodName)) hown35 (mvT hZ35 (own_w hw 51 rfl)) (mvT hZ35 (own_w hw 52 rfl)) (mvT hZ35 (own_w hw 49 rfl)) (mvT hZ35 (own_w hw 53 rfl)) (by decide) (backOf (W := 0) (rmnE l Z a0 hw [] x t kt N vs cs sg mu va ts ys tm ym oe kv ks km zc h35 n0 O35 E_x F_x_coder F_x_value V_t hcX hbX hlX EV VV E_sg J_sg E_ts F_ts_coder F_ts_value V_ys E_mu J_mu E_tm F_tm_coder F_tm_value V_ym SV SO SC hcs (own_z0 hzq33 c395_34) (own_z0 hzq36 c413_37)) hZ35 (own_w hw 53 rfl) (own_w hw 49 rfl) (by decide) (by decide)) (g := (mkF m 423 #[.val (.int p0), .val (.int p1), .val (.long p2), .second, .val (.int p4), .val (.int p5), .val (.int (p0 &&& (3 : Int32))), .val (.ref b1), .val (.int n), .val (.ref x), .val .null, .unset] [(.ref x)])) rfl (by rw [hml]; rfl) (argsL := [(.ref x)]) (rest := []) (lenOf pd0_2 rfl) rfl (by show 2 * 0 + _ ≤ _; exact Nat.le_of_eq rfl) (hb hby at_423) (fun _ _ => ⟨rfl, e36, (by decide : 9 + 1 ≤ _), (by decide : 95 + 2 ≤ _)⟩)
            dsimp only [Pt.U, Pt.locs, Pt.cells, Pt.slots] at X38 l38 y38 z38 st38 hQ38
            subst y38 z38
            obtain ⟨rfl, Nc38, Kc38⟩ := hQ38
            have N38 : Fr n0 L38 := by rw [l38]; exact Fr.app N36 Nc38
            have V_b1 := V_b1.keep Kc38 nin0
            have E_x := E_x.keep Kc38
            have F_x_coder := F_x_coder.keep Kc38 nin0
            have F_x_value := F_x_value.keep Kc38 nin0
            have V_t := V_t.keep Kc38 nin0
            have E_u32 := E_u32.keep Kc38
            have F_u32_coder := F_u32_coder.keep Kc38 nin0
            have F_u32_value := F_u32_value.keep Kc38 nin0
            have V_ub32 := V_ub32.keep Kc38 nin0
            have E_u35 := E_u35.keep Kc38
            have F_u35_coder := F_u35_coder.keep Kc38 nin0
            have F_u35_value := F_u35_value.keep Kc38 nin0
            have V_ub35 := V_ub35.keep Kc38 nin0
            have hk38 := Nat.le_trans hk35 Kc38.1
            have O38 := O35.keep Kc38 all0
            refine GoV.st st38 ?_
            show GoV p e below s _ _ _ (T38.setTop (mkF m 426 #[.val (.int p0), .val (.int p1), .val (.long p2), .second, .val (.int p4), .val (.int p5), .val (.int (p0 &&& (3 : Int32))), .val (.ref b1), .val (.int n), .val (.ref x), .val .null, .unset] [(.ref oe)]))
            refine GoV.st (fun _ kq_ => XS.astore X38.here hx rfl (hb hby at_426) rfl rfl (l' := #[.val (.int p0), .val (.int p1), .val (.long p2), .second, .val (.int p4), .val (.int p5), .val (.int (p0 &&& (3 : Int32))), .val (.ref b1), .val (.int n), .val (.ref x), .val .null, .val (.ref oe)]) rfl kq_) ?_
            show GoV p e below s _ _ _ (T38.setTop (mkF m 428 #[.val (.int p0), .val (.int p1), .val (.long p2), .second, .val (.int p4), .val (.int p5), .val (.int (p0 &&& (3 : Int32))), .val (.ref b1), .val (.int n), .val (.ref x), .val .null, .val (.ref oe)] []))
            refine GoV.st (fun _ kq_ => XS.aload X38.here hx rfl (hb hby at_428) rfl rfl kq_) ?_
            show GoV p e below s _ _ _ (T38.setTop (mkF m 430 #[.val (.int p0), .val (.int p1), .val (.long p2), .second, .val (.int p4), .val (.int p5), .val (.int (p0 &&& (3 : Int32))), .val (.ref b1), .val (.int n), .val (.ref x), .val .null, .val (.ref oe)] [.null]))
            refine GoV.st (fun _ kq_ => XT.ifnonnullNo X38.here hx rfl (hb hby at_430) rfl kq_) ?_
            show GoV p e below s _ _ _ (T38.setTop (mkF m 433 #[.val (.int p0), .val (.int p1), .val (.long p2), .second, .val (.int p4), .val (.int p5), .val (.int (p0 &&& (3 : Int32))), .val (.ref b1), .val (.int n), .val (.ref x), .val .null, .val (.ref oe)] []))
            refine GoV.st (fun _ kq_ => XS.aload X38.here hx rfl (hb hby at_433) rfl rfl kq_) ?_
            show GoV p e below s _ _ _ (T38.setTop (mkF m 435 #[.val (.int p0), .val (.int p1), .val (.long p2), .second, .val (.int p4), .val (.int p5), .val (.int (p0 &&& (3 : Int32))), .val (.ref b1), .val (.int n), .val (.ref x), .val .null, .val (.ref oe)] [(.ref oe)]))
            obtain ⟨cq39, kq39, qa39, qb39, qc39⟩ := isOf hZ35 rfl (EO.ext O38.2)
            obtain ⟨_, _, ⟨T39, L39, k39, n39⟩, -, X39, ⟨Lc39, hQ39, l39, y39, z39⟩, st39⟩ := X38.virtualBack hx (y := (⟨"java/util/Optional", "isPresent", "()Z"⟩ : MethodName)) (z := (⟨"java/util/Optional", "isPresent", "()Z"⟩ : MethodName)) hown35 (mvT hZ35 (own_w hw 90 rfl)) (mvT hZ35 (own_w hw 91 rfl)) (notFace_of_selects (args := #[]) (mvT hZ35 (own_w hw 93 rfl))) (mvT hZ35 (own_w hw 93 rfl)) (mvT hZ35 (own_w hw 92 rfl)) (by decide) (backOf (W := 0) (rmp0 l Z a0 hw [] oe T38.heap n0 O38 (FO.ext O38.2)) hZ35 (own_w hw 94 rfl) (own_w hw 75 rfl) (by decide) (by decide)) qa39 qc39 (g := (mkF m 435 #[.val (.int p0), .val (.int p1), .val (.long p2), .second, .val (.int p4), .val (.int p5), .val (.int (p0 &&& (3 : Int32))), .val (.ref b1), .val (.int n), .val (.ref x), .val .null, .val (.ref oe)] [(.ref oe)])) rfl (by rw [hml]; rfl) (Steps.refl _) (argsL := []) (rest := []) (lenOf pd0_3 rfl) rfl (by show 2 * 0 + _ ≤ _; exact Nat.le_of_eq rfl) (hb hby at_435) (fun _ _ => ⟨rfl, rfl, (by decide : 10 + 0 ≤ _), (by decide : 97 + 0 ≤ _)⟩)
            dsimp only [Pt.U, Pt.locs, Pt.cells, Pt.slots] at X39 l39 y39 z39 st39 hQ39
            subst y39 z39
            obtain ⟨rfl, Nc39, e39⟩ := hQ39
            have N39 : Fr n0 L39 := by rw [l39]; exact Fr.app N38 Nc39
            refine GoV.tr st39 ?_
            show GoV p e below s _ _ _ (T39.setTop (mkF m 438 #[.val (.int p0), .val (.int p1), .val (.long p2), .second, .val (.int p4), .val (.int p5), .val (.int (p0 &&& (3 : Int32))), .val (.ref b1), .val (.int n), .val (.ref x), .val .null, .val (.ref oe)] [(.int (0 : Int32))]))
            refine GoV.st (fun _ kq_ => XS.ifNo X39.here hx rfl (hb hby at_438) rfl (by decide) kq_) ?_
            show GoV p e below s _ _ _ (T39.setTop (mkF m 441 #[.val (.int p0), .val (.int p1), .val (.long p2), .second, .val (.int p4), .val (.int p5), .val (.int (p0 &&& (3 : Int32))), .val (.ref b1), .val (.int n), .val (.ref x), .val .null, .val (.ref oe)] []))
            refine GoV.st (fun _ kq_ => XS.iconst X39.here hx rfl (hb hby at_441) kq_) ?_
            show GoV p e below s _ _ _ (T39.setTop (mkF m 442 #[.val (.int p0), .val (.int p1), .val (.long p2), .second, .val (.int p4), .val (.int p5), .val (.int (p0 &&& (3 : Int32))), .val (.ref b1), .val (.int n), .val (.ref x), .val .null, .val (.ref oe)] [(.int (1 : Int32))]))
            refine GoV.st (fun _ kq_ => XS.goto X39.here hx rfl (pc0 := 442) (pc' := 446) rfl (hb hby at_442) (by decide) (by decide) kq_) ?_
            show GoV p e below s _ _ _ (T39.setTop (mkF m 446 #[.val (.int p0), .val (.int p1), .val (.long p2), .second, .val (.int p4), .val (.int p5), .val (.int (p0 &&& (3 : Int32))), .val (.ref b1), .val (.int n), .val (.ref x), .val .null, .val (.ref oe)] [(.int (1 : Int32))]))
            exact GoV.ret (vm1 := T35.vm) X39 hlk hS35 (by rw [e39]; exact hk38) (some (.int (nar .boolean (1 : Int32)))) (fun h => by rw [Bd.returns] at h; cases h) (by rw [e39]; exact ⟨rfl, N39⟩) (by decide) (by decide) (fun fs hr => retN X39 hx (t := .boolean) Bd.returns (by simp) (hb hby at_446) hr)
          · refine GoV.st (fun _ kq_ => XS.ifNo X36.here hx rfl (hb hby at_413) rfl (XT.i0_eq_f c413_37) kq_) ?_
            show GoV p e below s _ _ _ (T36.setTop (mkF m 416 #[.val (.int p0), .val (.int p1), .val (.long p2), .second, .val (.int p4), .val (.int p5), .val (.int (p0 &&& (3 : Int32))), .val (.ref b1), .val (.int n), .val (.ref x), .val .null, .unset] []))
            obtain ⟨T40, X40, e40, st40⟩ := getS X36 hx hZ35 hown35 (host := "") (own_w hw 114 rfl) Via.refl e36 (SM.ext O35.2) (g := (mkF m 416 #[.val (.int p0), .val (.int p1), .val (.long p2), .second, .val (.int p4), .val (.int p5), .val (.int (p0 &&& (3 : Int32))), .val (.ref b1), .val (.int n), .val (.ref x), .val .null, .unset] [])) rfl (hb hby at_416)
            refine GoV.st st40 ?_
            show GoV p e below s _ _ _ (T40.setTop (mkF m 419 #[.val (.int p0), .val (.int p1), .val (.long p2), .second, .val (.int p4), .val (.int p5), .val (.int (p0 &&& (3 : Int32))), .val (.ref b1), .val (.int n), .val (.ref x), .val .null, .unset] [(.ref mu)]))
            refine GoV.st (fun _ kq_ => XS.astore X40.here hx rfl (hb hby at_419) rfl rfl (l' := #[.val (.int p0), .val (.int p1), .val (.long p2), .second, .val (.int p4), .val (.int p5), .val (.int (p0 &&& (3 : Int32))), .val (.ref b1), .val (.int n), .val (.ref x), .val (.ref mu), .unset]) rfl kq_) ?_
            show GoV p e below s _ _ _ (T40.setTop (mkF m 421 #[.val (.int p0), .val (.int p1), .val (.long p2), .second, .val (.int p4), .val (.int p5), .val (.int (p0 &&& (3 : Int32))), .val (.ref b1), .val (.int n), .val (.ref x), .val (.ref mu), .unset] []))
            refine GoV.st (fun _ kq_ => XS.aload X40.here hx rfl (hb hby at_421) rfl rfl kq_) ?_
            show GoV p e below s _ _ _ (T40.setTop (mkF m 423 #[.val (.int p0), .val (.int p1), .val (.long p2), .second, .val (.int p4), .val (.int p5), .val (.int (p0 &&& (3 : Int32))), .val (.ref b1), .val (.int n), .val (.ref x), .val (.ref mu), .unset] [(.ref x)]))
            obtain ⟨_, _, ⟨T41, L41, k41, n41⟩, -, X41, ⟨Lc41, hQ41, l41, y41, z41⟩, st41⟩ := Jvm.LawKit.callS X40 hx (y := (⟨"com/example/rootward/rootward/model/Policy", "named", "(Ljava/lang/String;)Ljava/util/Optional;"⟩ : MethodName)) hown35 (mvT hZ35 (own_w hw 51 rfl)) (mvT hZ35 (own_w hw 52 rfl)) (mvT hZ35 (own_w hw 49 rfl)) (mvT hZ35 (own_w hw 53 rfl)) (by decide) (backOf (W := 0) (rmnM l Z a0 hw [] x t kt N vs cs sg mu va ts ys tm ym oe kv ks km zc h35 n0 O35 E_x F_x_coder F_x_value V_t hcX hbX hlX EV VV E_sg J_sg E_ts F_ts_coder F_ts_value V_ys E_mu J_mu E_tm F_tm_coder F_tm_value V_ym SV SO SC hcs (own_z1 hzq36 c413_37)) hZ35 (own_w hw 53 rfl) (own_w hw 49 rfl) (by decide) (by decide)) (g := (mkF m 423 #[.val (.int p0), .val (.int p1), .val (.long p2), .second, .val (.int p4), .val (.int p5), .val (.int (p0 &&& (3 : Int32))), .val (.ref b1), .val (.int n), .val (.ref x), .val (.ref mu), .unset] [(.ref x)])) rfl (by rw [hml]; rfl) (argsL := [(.ref x)]) (rest := []) (lenOf pd0_2 rfl) rfl (by show 2 * 0 + _ ≤ _; exact Nat.le_of_eq rfl) (hb hby at_423) (fun _ _ => ⟨rfl, e40, (by decide : 9 + 2 ≤ _), (by decide : 95 + 3 ≤ _)⟩)
            dsimp only [Pt.U, Pt.locs, Pt.cells, Pt.slots] at X41 l41 y41 z41 st41 hQ41
            subst y41 z41
            obtain ⟨r41, rfl, Nc41, Kc41, gr41, szr41, NE, NV⟩ := hQ41
            have N41 : Fr n0 L41 := by rw [l41]; exact Fr.app N36 Nc41
            have g_r41 : n0 ≤ r41 := gr41
            have ne_b1_r41 : b1 ≠ r41 := Nat.ne_of_lt (Nat.lt_of_lt_of_le V_b1.lt szr41)
            have ne_x_r41 : x ≠ r41 := Nat.ne_of_lt (Nat.lt_of_lt_of_le E_x.lt szr41)
            have ne_t_r41 : t ≠ r41 := Nat.ne_of_lt (Nat.lt_of_lt_of_le V_t.lt szr41)
            have ne_u32_r41 : u32 ≠ r41 := Nat.ne_of_lt (Nat.lt_of_lt_of_le E_u32.lt szr41)
            have ne_ub32_r41 : ub32 ≠ r41 := Nat.ne_of_lt (Nat.lt_of_lt_of_le V_ub32.lt szr41)
            have ne_u35_r41 : u35 ≠ r41 := Nat.ne_of_lt (Nat.lt_of_lt_of_le E_u35.lt szr41)
            have ne_ub35_r41 : ub35 ≠ r41 := Nat.ne_of_lt (Nat.lt_of_lt_of_le V_ub35.lt szr41)
            have V_b1 := V_b1.keep Kc41 nin0
            have E_x := E_x.keep Kc41
            have F_x_coder := F_x_coder.keep Kc41 nin0
            have F_x_value := F_x_value.keep Kc41 nin0
            have V_t := V_t.keep Kc41 nin0
            have E_u32 := E_u32.keep Kc41
            have F_u32_coder := F_u32_coder.keep Kc41 nin0
            have F_u32_value := F_u32_value.keep Kc41 nin0
            have V_ub32 := V_ub32.keep Kc41 nin0
            have E_u35 := E_u35.keep Kc41
            have F_u35_coder := F_u35_coder.keep Kc41 nin0
            have F_u35_value := F_u35_value.keep Kc41 nin0
            have V_ub35 := V_ub35.keep Kc41 nin0
            have hk41 := Nat.le_trans hk35 Kc41.1
            have O41 := O35.keep Kc41 all0
            have E_r41 := NE
            have F_r41_value := NV
            refine GoV.st st41 ?_
            show GoV p e below s _ _ _ (T41.setTop (mkF m 426 #[.val (.int p0), .val (.int p1), .val (.long p2), .second, .val (.int p4), .val (.int p5), .val (.int (p0 &&& (3 : Int32))), .val (.ref b1), .val (.int n), .val (.ref x), .val (.ref mu), .unset] [(.ref r41)]))
            refine GoV.st (fun _ kq_ => XS.astore X41.here hx rfl (hb hby at_426) rfl rfl (l' := #[.val (.int p0), .val (.int p1), .val (.long p2), .second, .val (.int p4), .val (.int p5), .val (.int (p0 &&& (3 : Int32))), .val (.ref b1), .val (.int n), .val (.ref x), .val (.ref mu), .val (.ref r41)]) rfl kq_) ?_
            show GoV p e below s _ _ _ (T41.setTop (mkF m 428 #[.val (.int p0), .val (.int p1), .val (.long p2), .second, .val (.int p4), .val (.int p5), .val (.int (p0 &&& (3 : Int32))), .val (.ref b1), .val (.int n), .val (.ref x), .val (.ref mu), .val (.ref r41)] []))
            refine GoV.st (fun _ kq_ => XS.aload X41.here hx rfl (hb hby at_428) rfl rfl kq_) ?_
            show GoV p e below s _ _ _ (T41.setTop (mkF m 430 #[.val (.int p0), .val (.int p1), .val (.long p2), .second, .val (.int p4), .val (.int p5), .val (.int (p0 &&& (3 : Int32))), .val (.ref b1), .val (.int n), .val (.ref x), .val (.ref mu), .val (.ref r41)] [(.ref mu)]))
            refine GoV.st (fun _ kq_ => XT.ifnonnullYes X41.here hx rfl (pc0 := 430) (pc' := 447) rfl (hb hby at_430) rfl (by decide) (by decide) kq_) ?_
            show GoV p e below s _ _ _ (T41.setTop (mkF m 447 #[.val (.int p0), .val (.int p1), .val (.long p2), .second, .val (.int p4), .val (.int p5), .val (.int (p0 &&& (3 : Int32))), .val (.ref b1), .val (.int n), .val (.ref x), .val (.ref mu), .val (.ref r41)] []))
            refine GoV.st (fun _ kq_ => XS.aload X41.here hx rfl (hb hby at_447) rfl rfl kq_) ?_
            show GoV p e below s _ _ _ (T41.setTop (mkF m 449 #[.val (.int p0), .val (.int p1), .val (.long p2), .second, .val (.int p4), .val (.int p5), .val (.int (p0 &&& (3 : Int32))), .val (.ref b1), .val (.int n), .val (.ref x), .val (.ref mu), .val (.ref r41)] [(.ref r41)]))
            obtain ⟨cq42, kq42, qa42, qb42, qc42⟩ := isOf hZ35 rfl E_r41
            obtain ⟨_, _, ⟨T42, L42, k42, n42⟩, -, X42, ⟨Lc42, hQ42, l42, y42, z42⟩, st42⟩ := X41.virtualBack hx (y := (⟨"java/util/Optional", "isPresent", "()Z"⟩ : MethodName)) (z := (⟨"java/util/Optional", "isPresent", "()Z"⟩ : MethodName)) hown35 (mvT hZ35 (own_w hw 90 rfl)) (mvT hZ35 (own_w hw 91 rfl)) (notFace_of_selects (args := #[]) (mvT hZ35 (own_w hw 93 rfl))) (mvT hZ35 (own_w hw 93 rfl)) (mvT hZ35 (own_w hw 92 rfl)) (by decide) (backOf (W := 0) (rmp1 l Z a0 hw [] r41 mu T41.heap n0 O41 F_r41_value) hZ35 (own_w hw 94 rfl) (own_w hw 75 rfl) (by decide) (by decide)) qa42 qc42 (g := (mkF m 449 #[.val (.int p0), .val (.int p1), .val (.long p2), .second, .val (.int p4), .val (.int p5), .val (.int (p0 &&& (3 : Int32))), .val (.ref b1), .val (.int n), .val (.ref x), .val (.ref mu), .val (.ref r41)] [(.ref r41)])) rfl (by rw [hml]; rfl) (Steps.refl _) (argsL := []) (rest := []) (lenOf pd0_3 rfl) rfl (by show 2 * 0 + _ ≤ _; exact Nat.le_of_eq rfl) (hb hby at_449) (fun _ _ => ⟨rfl, rfl, (by decide : 11 + 0 ≤ _), (by decide : 98 + 0 ≤ _)⟩)
            dsimp only [Pt.U, Pt.locs, Pt.cells, Pt.slots] at X42 l42 y42 z42 st42 hQ42
            subst y42 z42
            obtain ⟨rfl, Nc42, e42⟩ := hQ42
            have N42 : Fr n0 L42 := by rw [l42]; exact Fr.app N41 Nc42
            refine GoV.tr st42 ?_
            show GoV p e below s _ _ _ (T42.setTop (mkF m 452 #[.val (.int p0), .val (.int p1), .val (.long p2), .second, .val (.int p4), .val (.int p5), .val (.int (p0 &&& (3 : Int32))), .val (.ref b1), .val (.int n), .val (.ref x), .val (.ref mu), .val (.ref r41)] [(.int (1 : Int32))]))
            refine GoV.st (fun _ kq_ => XS.ifNo X42.here hx rfl (hb hby at_452) rfl (by decide) kq_) ?_
            show GoV p e below s _ _ _ (T42.setTop (mkF m 455 #[.val (.int p0), .val (.int p1), .val (.long p2), .second, .val (.int p4), .val (.int p5), .val (.int (p0 &&& (3 : Int32))), .val (.ref b1), .val (.int n), .val (.ref x), .val (.ref mu), .val (.ref r41)] []))
            refine GoV.st (fun _ kq_ => XS.aload X42.here hx rfl (hb hby at_455) rfl rfl kq_) ?_
            show GoV p e below s _ _ _ (T42.setTop (mkF m 457 #[.val (.int p0), .val (.int p1), .val (.long p2), .second, .val (.int p4), .val (.int p5), .val (.int (p0 &&& (3 : Int32))), .val (.ref b1), .val (.int n), .val (.ref x), .val (.ref mu), .val (.ref r41)] [(.ref r41)]))
            obtain ⟨cq43, kq43, qa43, qb43, qc43⟩ := isOf hZ35 e42 E_r41
            obtain ⟨_, _, ⟨T43, L43, k43, n43⟩, -, X43, ⟨Lc43, hQ43, l43, y43, z43⟩, st43⟩ := X42.virtualBack hx (y := (⟨"java/util/Optional", "get", "()Ljava/lang/Object;"⟩ : MethodName)) (z := (⟨"java/util/Optional", "get", "()Ljava/lang/Object;"⟩ : MethodName)) hown35 (mvT hZ35 (own_w hw 95 rfl)) (mvT hZ35 (own_w hw 96 rfl)) (notFace_of_selects (args := #[]) (mvT hZ35 (own_w hw 98 rfl))) (mvT hZ35 (own_w hw 98 rfl)) (mvT hZ35 (own_w hw 97 rfl)) (by decide) (backOf (W := 0) (rmg l Z a0 hw [] r41 mu T41.heap n0 O41 F_r41_value) hZ35 (own_w hw 99 rfl) (own_w hw 75 rfl) (by decide) (by decide)) qa43 qc43 (g := (mkF m 457 #[.val (.int p0), .val (.int p1), .val (.long p2), .second, .val (.int p4), .val (.int p5), .val (.int (p0 &&& (3 : Int32))), .val (.ref b1), .val (.int n), .val (.ref x), .val (.ref mu), .val (.ref r41)] [(.ref r41)])) rfl (by rw [hml]; rfl) (Steps.refl _) (argsL := []) (rest := []) (lenOf pd0_4 rfl) rfl (by show 2 * 0 + _ ≤ _; exact Nat.le_of_eq rfl) (hb hby at_457) (fun _ _ => ⟨rfl, e42, (by decide : 11 + 0 ≤ _), (by decide : 98 + 0 ≤ _)⟩)
            dsimp only [Pt.U, Pt.locs, Pt.cells, Pt.slots] at X43 l43 y43 z43 st43 hQ43
            subst y43 z43
            obtain ⟨rfl, Nc43, e43⟩ := hQ43
            have N43 : Fr n0 L43 := by rw [l43]; exact Fr.app N42 Nc43
            refine GoV.tr st43 ?_
            show GoV p e below s _ _ _ (T43.setTop (mkF m 460 #[.val (.int p0), .val (.int p1), .val (.long p2), .second, .val (.int p4), .val (.int p5), .val (.int (p0 &&& (3 : Int32))), .val (.ref b1), .val (.int n), .val (.ref x), .val (.ref mu), .val (.ref r41)] [(.ref mu)]))
            refine GoV.st (fun _ kq_ => XS.aload X43.here hx rfl (hb hby at_460) rfl rfl kq_) ?_
            show GoV p e below s _ _ _ (T43.setTop (mkF m 462 #[.val (.int p0), .val (.int p1), .val (.long p2), .second, .val (.int p4), .val (.int p5), .val (.int (p0 &&& (3 : Int32))), .val (.ref b1), .val (.int n), .val (.ref x), .val (.ref mu), .val (.ref r41)] [(.ref mu), (.ref mu)]))
            refine GoV.st (fun _ kq_ => XT.acmpNo X43.here hx rfl (hb hby at_462) rfl rfl rfl (XT.aa_ne_f rfl) kq_) ?_
            show GoV p e below s _ _ _ (T43.setTop (mkF m 465 #[.val (.int p0), .val (.int p1), .val (.long p2), .second, .val (.int p4), .val (.int p5), .val (.int (p0 &&& (3 : Int32))), .val (.ref b1), .val (.int n), .val (.ref x), .val (.ref mu), .val (.ref r41)] []))
            refine GoV.st (fun _ kq_ => XS.aload X43.here hx rfl (hb hby at_465) rfl rfl kq_) ?_
            show GoV p e below s _ _ _ (T43.setTop (mkF m 467 #[.val (.int p0), .val (.int p1), .val (.long p2), .second, .val (.int p4), .val (.int p5), .val (.int (p0 &&& (3 : Int32))), .val (.ref b1), .val (.int n), .val (.ref x), .val (.ref mu), .val (.ref r41)] [(.ref r41)]))
            obtain ⟨cq44, kq44, qa44, qb44, qc44⟩ := isOf hZ35 e43 E_r41
            obtain ⟨_, _, ⟨T44, L44, k44, n44⟩, -, X44, ⟨Lc44, hQ44, l44, y44, z44⟩, st44⟩ := X43.virtualBack hx (y := (⟨"java/util/Optional", "get", "()Ljava/lang/Object;"⟩ : MethodName)) (z := (⟨"java/util/Optional", "get", "()Ljava/lang/Object;"⟩ : MethodName)) hown35 (mvT hZ35 (own_w hw 95 rfl)) (mvT hZ35 (own_w hw 96 rfl)) (notFace_of_selects (args := #[]) (mvT hZ35 (own_w hw 98 rfl))) (mvT hZ35 (own_w hw 98 rfl)) (mvT hZ35 (own_w hw 97 rfl)) (by decide) (backOf (W := 0) (rmg l Z a0 hw [] r41 mu T41.heap n0 O41 F_r41_value) hZ35 (own_w hw 99 rfl) (own_w hw 75 rfl) (by decide) (by decide)) qa44 qc44 (g := (mkF m 467 #[.val (.int p0), .val (.int p1), .val (.long p2), .second, .val (.int p4), .val (.int p5), .val (.int (p0 &&& (3 : Int32))), .val (.ref b1), .val (.int n), .val (.ref x), .val (.ref mu), .val (.ref r41)] [(.ref r41)])) rfl (by rw [hml]; rfl) (Steps.refl _) (argsL := []) (rest := []) (lenOf pd0_4 rfl) rfl (by show 2 * 0 + _ ≤ _; exact Nat.le_of_eq rfl) (hb hby at_467) (fun _ _ => ⟨rfl, e43, (by decide : 11 + 0 ≤ _), (by decide : 98 + 0 ≤ _)⟩)
            dsimp only [Pt.U, Pt.locs, Pt.cells, Pt.slots] at X44 l44 y44 z44 st44 hQ44
            subst y44 z44
            obtain ⟨rfl, Nc44, e44⟩ := hQ44
            have N44 : Fr n0 L44 := by rw [l44]; exact Fr.app N43 Nc44
            refine GoV.tr st44 ?_
            show GoV p e below s _ _ _ (T44.setTop (mkF m 470 #[.val (.int p0), .val (.int p1), .val (.long p2), .second, .val (.int p4), .val (.int p5), .val (.int (p0 &&& (3 : Int32))), .val (.ref b1), .val (.int n), .val (.ref x), .val (.ref mu), .val (.ref r41)] [(.ref mu)]))
            obtain ⟨T45, X45, e45, st45⟩ := castY X44 hx hZ35 hown35 (own_w hw 100 rfl) e44 (Ins.self (E_mu.ext O41.2)) (g := (mkF m 470 #[.val (.int p0), .val (.int p1), .val (.long p2), .second, .val (.int p4), .val (.int p5), .val (.int (p0 &&& (3 : Int32))), .val (.ref b1), .val (.int n), .val (.ref x), .val (.ref mu), .val (.ref r41)] [(.ref mu)])) rfl rfl (hb hby at_470)
            refine GoV.st st45 ?_
            show GoV p e below s _ _ _ (T45.setTop (mkF m 473 #[.val (.int p0), .val (.int p1), .val (.long p2), .second, .val (.int p4), .val (.int p5), .val (.int (p0 &&& (3 : Int32))), .val (.ref b1), .val (.int n), .val (.ref x), .val (.ref mu), .val (.ref r41)] [(.ref mu)]))
            obtain ⟨cq46, kq46, qa46, qb46, qc46⟩ := isOf hZ35 e45 (E_mu.ext O41.2)
            obtain ⟨_, _, ⟨T46, L46, k46, n46⟩, -, X46, ⟨Lc46, hQ46, l46, y46, z46⟩, st46⟩ := X45.virtualBack hx (y := (⟨"com/example/rootward/rootward/model/Policy", "jsonName", "()Ljava/lang/String;"⟩ : MethodName)) (z := (⟨"com/example/rootward/rootward/model/Policy", "jsonName", "()Ljava/lang/String;"⟩ : MethodName)) hown35 (mvT hZ35 (own_w hw 102 rfl)) (mvT hZ35 (own_w hw 103 rfl)) (notFace_of_selects (args := #[]) (mvT hZ35 (own_w hw 105 rfl))) (mvT hZ35 (own_w hw 105 rfl)) (mvT hZ35 (own_w hw 104 rfl)) (by decide) (backOf (W := 0) (rmj l Z a0 hw [] mu tm T41.heap n0 O41 (J_mu.ext O41.2)) hZ35 (own_w hw 106 rfl) (own_w hw 49 rfl) (by decide) (by decide)) qa46 qc46 (g := (mkF m 473 #[.val (.int p0), .val (.int p1), .val (.long p2), .second, .val (.int p4), .val (.int p5), .val (.int (p0 &&& (3 : Int32))), .val (.ref b1), .val (.int n), .val (.ref x), .val (.ref mu), .val (.ref r41)] [(.ref mu)])) rfl (by rw [hml]; rfl) (Steps.refl _) (argsL := []) (rest := []) (lenOf pd0_5 rfl) rfl (by show 2 * 0 + _ ≤ _; exact Nat.le_of_eq rfl) (hb hby at_473) (fun _ _ => ⟨rfl, e45, (by decide : 11 + 0 ≤ _), (by decide : 98 + 0 ≤ _)⟩)
            dsimp only [Pt.U, Pt.locs, Pt.cells, Pt.slots] at X46 l46 y46 z46 st46 hQ46
            subst y46 z46
            obtain ⟨rfl, Nc46, e46⟩ := hQ46
            have N46 : Fr n0 L46 := by rw [l46]; exact Fr.app N44 Nc46
            refine GoV.tr st46 ?_
            show GoV p e below s _ _ _ (T46.setTop (mkF m 476 #[.val (.int p0), .val (.int p1), .val (.long p2), .second, .val (.int p4), .val (.int p5), .val (.int (p0 &&& (3 : Int32))), .val (.ref b1), .val (.int n), .val (.ref x), .val (.ref mu), .val (.ref r41)] [(.ref tm)]))
            refine GoV.st (fun _ kq_ => XS.aload X46.here hx rfl (hb hby at_476) rfl rfl kq_) ?_
            show GoV p e below s _ _ _ (T46.setTop (mkF m 478 #[.val (.int p0), .val (.int p1), .val (.long p2), .second, .val (.int p4), .val (.int p5), .val (.int (p0 &&& (3 : Int32))), .val (.ref b1), .val (.int n), .val (.ref x), .val (.ref mu), .val (.ref r41)] [(.ref x), (.ref tm)]))
            obtain ⟨cq47, kq47, qa47, qb47, qc47⟩ := isOf hZ35 e46 (E_tm.ext O41.2)
            obtain ⟨_, _, ⟨T47, L47, k47, n47⟩, -, X47, ⟨Lc47, hQ47, l47, y47, z47⟩, st47⟩ := X46.virtualBack hx (y := (⟨"java/lang/String", "equals", "(Ljava/lang/Object;)Z"⟩ : MethodName)) (z := (⟨"java/lang/String", "equals", "(Ljava/lang/Object;)Z"⟩ : MethodName)) hown35 (mvT hZ35 (own_w hw 38 rfl)) (mvT hZ35 (own_w hw 39 rfl)) (notFace_of_selects (args := #[]) (mvT hZ35 (own_w hw 41 rfl))) (mvT hZ35 (own_w hw 41 rfl)) (mvT hZ35 (own_w hw 40 rfl)) (by decide) (StrChars.Road.eqW (W := 0) hZ35 heq (kI := 4) (own_w hw 7 rfl) (cs := ([(109 : Int32), (117 : Int32), (108 : Int32), (116 : Int32), (105 : Int32), (112 : Int32), (108 : Int32), (101 : Int32)] : List Int32)) (ds := cs) (E_tm.ext O41.2) (F_tm_value.ext O41.2) (F_tm_coder.ext O41.2) (V_ym.ext O41.2) own_codM own_bM (by decide) E_x F_x_value F_x_coder V_t hcX hbX hlX (SC.ext O41.2) hcs (by decide) (by decide)) qa47 qc47 (g := (mkF m 478 #[.val (.int p0), .val (.int p1), .val (.long p2), .second, .val (.int p4), .val (.int p5), .val (.int (p0 &&& (3 : Int32))), .val (.ref b1), .val (.int n), .val (.ref x), .val (.ref mu), .val (.ref r41)] [(.ref x), (.ref tm)])) rfl (by rw [hml]; rfl) (Steps.refl _) (argsL := [(.ref x)]) (rest := []) (lenOf pd0_1 rfl) rfl (by show 2 * 0 + _ ≤ _; exact Nat.le_of_eq rfl) (hb hby at_478) (fun _ _ => ⟨rfl, e46, (by decide : 11 + 0 ≤ _), (by decide : 98 + 0 ≤ _)⟩)
            dsimp only [Pt.U, Pt.locs, Pt.cells, Pt.slots] at X47 l47 y47 z47 st47 hQ47
            subst y47 z47
            obtain ⟨hz47, el47, e47⟩ := hQ47
            obtain ⟨zq47, rfl, hzq47⟩ := own_zz hz47
            have Nc47 : Fr n0 Lc47 := by rw [el47]; exact Fr.nil n0
            have N47 : Fr n0 L47 := by rw [l47]; exact Fr.app N46 Nc47
            refine GoV.tr st47 ?_
            show GoV p e below s _ _ _ (T47.setTop (mkF m 481 #[.val (.int p0), .val (.int p1), .val (.long p2), .second, .val (.int p4), .val (.int p5), .val (.int (p0 &&& (3 : Int32))), .val (.ref b1), .val (.int n), .val (.ref x), .val (.ref mu), .val (.ref r41)] [(.int zq47)]))
            refine GoV.st (fun _ kq_ => XS.ifNo X47.here hx rfl (hb hby at_481) rfl (XT.i0_eq_f (own_zp hzq47 (own_z1 hzq36 c413_37).symm)) kq_) ?_
            show GoV p e below s _ _ _ (T47.setTop (mkF m 484 #[.val (.int p0), .val (.int p1), .val (.long p2), .second, .val (.int p4), .val (.int p5), .val (.int (p0 &&& (3 : Int32))), .val (.ref b1), .val (.int n), .val (.ref x), .val (.ref mu), .val (.ref r41)] []))
            refine GoV.st (fun _ kq_ => XS.iconst X47.here hx rfl (hb hby at_484) kq_) ?_
            show GoV p e below s _ _ _ (T47.setTop (mkF m 485 #[.val (.int p0), .val (.int p1), .val (.long p2), .second, .val (.int p4), .val (.int p5), .val (.int (p0 &&& (3 : Int32))), .val (.ref b1), .val (.int n), .val (.ref x), .val (.ref mu), .val (.ref r41)] [(.int (1 : Int32))]))
            refine GoV.st (fun _ kq_ => XS.goto X47.here hx rfl (pc0 := 485) (pc' := 489) rfl (hb hby at_485) (by decide) (by decide) kq_) ?_
            show GoV p e below s _ _ _ (T47.setTop (mkF m 489 #[.val (.int p0), .val (.int p1), .val (.long p2), .second, .val (.int p4), .val (.int p5), .val (.int (p0 &&& (3 : Int32))), .val (.ref b1), .val (.int n), .val (.ref x), .val (.ref mu), .val (.ref r41)] [(.int (1 : Int32))]))
            exact GoV.ret (vm1 := T35.vm) X47 hlk hS35 (by rw [e47]; exact hk41) (some (.int (nar .boolean (1 : Int32)))) (fun h => by rw [Bd.returns] at h; cases h) (by rw [e47]; exact ⟨rfl, N47⟩) (by decide) (by decide) (fun fs hr => retN X47 hx (t := .boolean) Bd.returns (by simp) (hb hby at_489) hr)
        · refine GoV.st (fun _ kq_ => XS.ifNo X33.here hx rfl (hb hby at_395) rfl (XT.i0_eq_f c395_34) kq_) ?_
          show GoV p e below s _ _ _ (T33.setTop (mkF m 398 #[.val (.int p0), .val (.int p1), .val (.long p2), .second, .val (.int p4), .val (.int p5), .val (.int (p0 &&& (3 : Int32))), .val (.ref b1), .val (.int n), .val (.ref x), .val .null, .unset] []))
          obtain ⟨T48, X48, e48, st48⟩ := getS X33 hx hZ32 hown32 (host := "") (own_w hw 48 rfl) Via.refl e33 (SS.ext O32.2) (g := (mkF m 398 #[.val (.int p0), .val (.int p1), .val (.long p2), .second, .val (.int p4), .val (.int p5), .val (.int (p0 &&& (3 : Int32))), .val (.ref b1), .val (.int n), .val (.ref x), .val .null, .unset] [])) rfl (hb hby at_398)
          refine GoV.st st48 ?_
          show GoV p e below s _ _ _ (T48.setTop (mkF m 401 #[.val (.int p0), .val (.int p1), .val (.long p2), .second, .val (.int p4), .val (.int p5), .val (.int (p0 &&& (3 : Int32))), .val (.ref b1), .val (.int n), .val (.ref x), .val .null, .unset] [(.ref sg)]))
          refine GoV.st (fun _ kq_ => XS.astore X48.here hx rfl (hb hby at_401) rfl rfl (l' := #[.val (.int p0), .val (.int p1), .val (.long p2), .second, .val (.int p4), .val (.int p5), .val (.int (p0 &&& (3 : Int32))), .val (.ref b1), .val (.int n), .val (.ref x), .val (.ref sg), .unset]) rfl kq_) ?_
          show GoV p e below s _ _ _ (T48.setTop (mkF m 403 #[.val (.int p0), .val (.int p1), .val (.long p2), .second, .val (.int p4), .val (.int p5), .val (.int (p0 &&& (3 : Int32))), .val (.ref b1), .val (.int n), .val (.ref x), .val (.ref sg), .unset] []))
          refine GoV.st (fun _ kq_ => XS.goto X48.here hx rfl (pc0 := 403) (pc' := 421) rfl (hb hby at_403) (by decide) (by decide) kq_) ?_
          show GoV p e below s _ _ _ (T48.setTop (mkF m 421 #[.val (.int p0), .val (.int p1), .val (.long p2), .second, .val (.int p4), .val (.int p5), .val (.int (p0 &&& (3 : Int32))), .val (.ref b1), .val (.int n), .val (.ref x), .val (.ref sg), .unset] []))
          refine GoV.st (fun _ kq_ => XS.aload X48.here hx rfl (hb hby at_421) rfl rfl kq_) ?_
          show GoV p e below s _ _ _ (T48.setTop (mkF m 423 #[.val (.int p0), .val (.int p1), .val (.long p2), .second, .val (.int p4), .val (.int p5), .val (.int (p0 &&& (3 : Int32))), .val (.ref b1), .val (.int n), .val (.ref x), .val (.ref sg), .unset] [(.ref x)]))
          obtain ⟨_, _, ⟨T49, L49, k49, n49⟩, -, X49, ⟨Lc49, hQ49, l49, y49, z49⟩, st49⟩ := Jvm.LawKit.callS X48 hx (y := (⟨"com/example/rootward/rootward/model/Policy", "named", "(Ljava/lang/String;)Ljava/util/Optional;"⟩ : MethodName)) hown32 (mvT hZ32 (own_w hw 51 rfl)) (mvT hZ32 (own_w hw 52 rfl)) (mvT hZ32 (own_w hw 49 rfl)) (mvT hZ32 (own_w hw 53 rfl)) (by decide) (backOf (W := 0) (rmnS l Z a0 hw [] x t kt N vs cs sg mu va ts ys tm ym oe kv ks km zc h32 n0 O32 E_x F_x_coder F_x_value V_t hcX hbX hlX EV VV E_sg J_sg E_ts F_ts_coder F_ts_value V_ys E_mu J_mu E_tm F_tm_coder F_tm_value V_ym SV SO SC hcs (own_z1 hzq33 c395_34)) hZ32 (own_w hw 53 rfl) (own_w hw 49 rfl) (by decide) (by decide)) (g := (mkF m 423 #[.val (.int p0), .val (.int p1), .val (.long p2), .second, .val (.int p4), .val (.int p5), .val (.int (p0 &&& (3 : Int32))), .val (.ref b1), .val (.int n), .val (.ref x), .val (.ref sg), .unset] [(.ref x)])) rfl (by rw [hml]; rfl) (argsL := [(.ref x)]) (rest := []) (lenOf pd0_2 rfl) rfl (by show 2 * 0 + _ ≤ _; exact Nat.le_of_eq rfl) (hb hby at_423) (fun _ _ => ⟨rfl, e48, (by decide : 7 + 2 ≤ _), (by decide : 59 + 3 ≤ _)⟩)
          dsimp only [Pt.U, Pt.locs, Pt.cells, Pt.slots] at X49 l49 y49 z49 st49 hQ49
          subst y49 z49
          obtain ⟨r49, rfl, Nc49, Kc49, gr49, szr49, NE, NV⟩ := hQ49
          have N49 : Fr n0 L49 := by rw [l49]; exact Fr.app N33 Nc49
          have g_r49 : n0 ≤ r49 := gr49
          have ne_b1_r49 : b1 ≠ r49 := Nat.ne_of_lt (Nat.lt_of_lt_of_le V_b1.lt szr49)
          have ne_x_r49 : x ≠ r49 := Nat.ne_of_lt (Nat.lt_of_lt_of_le E_x.lt szr49)
          have ne_t_r49 : t ≠ r49 := Nat.ne_of_lt (Nat.lt_of_lt_of_le V_t.lt szr49)
          have ne_u32_r49 : u32 ≠ r49 := Nat.ne_of_lt (Nat.lt_of_lt_of_le E_u32.lt szr49)
          have ne_ub32_r49 : ub32 ≠ r49 := Nat.ne_of_lt (Nat.lt_of_lt_of_le V_ub32.lt szr49)
          have V_b1 := V_b1.keep Kc49 nin0
          have E_x := E_x.keep Kc49
          have F_x_coder := F_x_coder.keep Kc49 nin0
          have F_x_value := F_x_value.keep Kc49 nin0
          have V_t := V_t.keep Kc49 nin0
          have E_u32 := E_u32.keep Kc49
          have F_u32_coder := F_u32_coder.keep Kc49 nin0
          have F_u32_value := F_u32_value.keep Kc49 nin0
          have V_ub32 := V_ub32.keep Kc49 nin0
          have hk49 := Nat.le_trans hk32 Kc49.1
          have O49 := O32.keep Kc49 all0
          have E_r49 := NE
          have F_r49_value := NV
          refine GoV.st st49 ?_
          show GoV p e below s _ _ _ (T49.setTop (mkF m 426 #[.val (.int p0), .val (.int p1), .val (.long p2), .second, .val (.int p4), .val (.int p5), .val (.int (p0 &&& (3 : Int32))), .val (.ref b1), .val (.int n), .val (.ref x), .val (.ref sg), .unset] [(.ref r49)]))
          refine GoV.st (fun _ kq_ => XS.astore X49.here hx rfl (hb hby at_426) rfl rfl (l' := #[.val (.int p0), .val (.int p1), .val (.long p2), .second, .val (.int p4), .val (.int p5), .val (.int (p0 &&& (3 : Int32))), .val (.ref b1), .val (.int n), .val (.ref x), .val (.ref sg), .val (.ref r49)]) rfl kq_) ?_
          show GoV p e below s _ _ _ (T49.setTop (mkF m 428 #[.val (.int p0), .val (.int p1), .val (.long p2), .second, .val (.int p4), .val (.int p5), .val (.int (p0 &&& (3 : Int32))), .val (.ref b1), .val (.int n), .val (.ref x), .val (.ref sg), .val (.ref r49)] []))
          refine GoV.st (fun _ kq_ => XS.aload X49.here hx rfl (hb hby at_428) rfl rfl kq_) ?_
          show GoV p e below s _ _ _ (T49.setTop (mkF m 430 #[.val (.int p0), .val (.int p1), .val (.long p2), .second, .val (.int p4), .val (.int p5), .val (.int (p0 &&& (3 : Int32))), .val (.ref b1), .val (.int n), .val (.ref x), .val (.ref sg), .val (.ref r49)] [(.ref sg)]))
          refine GoV.st (fun _ kq_ => XT.ifnonnullYes X49.here hx rfl (pc0 := 430) (pc' := 447) rfl (hb hby at_430) rfl (by decide) (by decide) kq_) ?_
          show GoV p e below s _ _ _ (T49.setTop (mkF m 447 #[.val (.int p0), .val (.int p1), .val (.long p2), .second, .val (.int p4), .val (.int p5), .val (.int (p0 &&& (3 : Int32))), .val (.ref b1), .val (.int n), .val (.ref x), .val (.ref sg), .val (.ref r49)] []))
          refine GoV.st (fun _ kq_ => XS.aload X49.here hx rfl (hb hby at_447) rfl rfl kq_) ?_
          show GoV p e below s _ _ _ (T49.setTop (mkF m 449 #[.val (.int p0), .val (.int p1), .val (.long p2), .second, .val (.int p4), .val (.int p5), .val (.int (p0 &&& (3 : Int32))), .val (.ref b1), .val (.int n), .val (.ref x), .val (.ref sg), .val (.ref r49)] [(.ref r49)]))
          obtain ⟨cq50, kq50, qa50, qb50, qc50⟩ := isOf hZ32 rfl E_r49
          obtain ⟨_, _, ⟨T50, L50, k50, n50⟩, -, X50, ⟨Lc50, hQ50, l50, y50, z50⟩, st50⟩ := X49.virtualBack hx (y := (⟨"java/util/Optional", "isPresent", "()Z"⟩ : MethodName)) (z := (⟨"java/util/Optional", "isPresent", "()Z"⟩ : MethodName)) hown32 (mvT hZ32 (own_w hw 90 rfl)) (mvT hZ32 (own_w hw 91 rfl)) (notFace_of_selects (args := #[]) (mvT hZ32 (own_w hw 93 rfl))) (mvT hZ32 (own_w hw 93 rfl)) (mvT hZ32 (own_w hw 92 rfl)) (by decide) (backOf (W := 0) (rmp1 l Z a0 hw [] r49 sg T49.heap n0 O49 F_r49_value) hZ32 (own_w hw 94 rfl) (own_w hw 75 rfl) (by decide) (by decide)) qa50 qc50 (g := (mkF m 449 #[.val (.int p0), .val (.int p1), .val (.long p2), .second, .val (.int p4), .val (.int p5), .val (.int (p0 &&& (3 : Int32))), .val (.ref b1), .val (.int n), .val (.ref x), .val (.ref sg), .val (.ref r49)] [(.ref r49)])) rfl (by rw [hml]; rfl) (Steps.refl _) (argsL := []) (rest := []) (lenOf pd0_3 rfl) rfl (by show 2 * 0 + _ ≤ _; exact Nat.le_of_eq rfl) (hb hby at_449) (fun _ _ => ⟨rfl, rfl, (by decide : 9 + 0 ≤ _), (by decide : 62 + 0 ≤ _)⟩)
          dsimp only [Pt.U, Pt.locs, Pt.cells, Pt.slots] at X50 l50 y50 z50 st50 hQ50
          subst y50 z50
          obtain ⟨rfl, Nc50, e50⟩ := hQ50
          have N50 : Fr n0 L50 := by rw [l50]; exact Fr.app N49 Nc50
          refine GoV.tr st50 ?_
          show GoV p e below s _ _ _ (T50.setTop (mkF m 452 #[.val (.int p0), .val (.int p1), .val (.long p2), .second, .val (.int p4), .val (.int p5), .val (.int (p0 &&& (3 : Int32))), .val (.ref b1), .val (.int n), .val (.ref x), .val (.ref sg), .val (.ref r49)] [(.int (1 : Int32))]))
          refine GoV.st (fun _ kq_ => XS.ifNo X50.here hx rfl (hb hby at_452) rfl (by decide) kq_) ?_
          show GoV p e below s _ _ _ (T50.setTop (mkF m 455 #[.val (.int p0), .val (.int p1), .val (.long p2), .second, .val (.int p4), .val (.int p5), .val (.int (p0 &&& (3 : Int32))), .val (.ref b1), .val (.int n), .val (.ref x), .val (.ref sg), .val (.ref r49)] []))
          refine GoV.st (fun _ kq_ => XS.aload X50.here hx rfl (hb hby at_455) rfl rfl kq_) ?_
          show GoV p e below s _ _ _ (T50.setTop (mkF m 457 #[.val (.int p0), .val (.int p1), .val (.long p2), .second, .val (.int p4), .val (.int p5), .val (.int (p0 &&& (3 : Int32))), .val (.ref b1), .val (.int n), .val (.ref x), .val (.ref sg), .val (.ref r49)] [(.ref r49)]))
          obtain ⟨cq51, kq51, qa51, qb51, qc51⟩ := isOf hZ32 e50 E_r49
          obtain ⟨_, _, ⟨T51, L51, k51, n51⟩, -, X51, ⟨Lc51, hQ51, l51, y51, z51⟩, st51⟩ := X50.virtualBack hx (y := (⟨"java/util/Optional", "get", "()Ljava/lang/Object;"⟩ : MethodName)) (z := (⟨"java/util/Optional", "get", "()Ljava/lang/Object;"⟩ : MethodName)) hown32 (mvT hZ32 (own_w hw 95 rfl)) (mvT hZ32 (own_w hw 96 rfl)) (notFace_of_selects (args := #[]) (mvT hZ32 (own_w hw 98 rfl))) (mvT hZ32 (own_w hw 98 rfl)) (mvT hZ32 (own_w hw 97 rfl)) (by decide) (backOf (W := 0) (rmg l Z a0 hw [] r49 sg T49.heap n0 O49 F_r49_value) hZ32 (own_w hw 99 rfl) (own_w hw 75 rfl) (by decide) (by decide)) qa51 qc51 (g := (mkF m 457 #[.val (.int p0), .val (.int p1), .val (.long p2), .second, .val (.int p4), .val (.int p5), .val (.int (p0 &&& (3 : Int32))), .val (.ref b1), .val (.int n), .val (.ref x), .val (.ref sg), .val (.ref r49)] [(.ref r49)])) rfl (by rw [hml]; rfl) (Steps.refl _) (argsL := []) (rest := []) (lenOf pd0_4 rfl) rfl (by show 2 * 0 + _ ≤ _; exact Nat.le_of_eq rfl) (hb hby at_457) (fun _ _ => ⟨rfl, e50, (by decide : 9 + 0 ≤ _), (by decide : 62 + 0 ≤ _)⟩)
          dsimp only [Pt.U, Pt.locs, Pt.cells, Pt.slots] at X51 l51 y51 z51 st51 hQ51
          subst y51 z51
          obtain ⟨rfl, Nc51, e51⟩ := hQ51
          have N51 : Fr n0 L51 := by rw [l51]; exact Fr.app N50 Nc51
          refine GoV.tr st51 ?_
          show GoV p e below s _ _ _ (T51.setTop (mkF m 460 #[.val (.int p0), .val (.int p1), .val (.long p2), .second, .val (.int p4), .val (.int p5), .val (.int (p0 &&& (3 : Int32))), .val (.ref b1), .val (.int n), .val (.ref x), .val (.ref sg), .val (.ref r49)] [(.ref sg)]))
          refine GoV.st (fun _ kq_ => XS.aload X51.here hx rfl (hb hby at_460) rfl rfl kq_) ?_
          show GoV p e below s _ _ _ (T51.setTop (mkF m 462 #[.val (.int p0), .val (.int p1), .val (.long p2), .second, .val (.int p4), .val (.int p5), .val (.int (p0 &&& (3 : Int32))), .val (.ref b1), .val (.int n), .val (.ref x), .val (.ref sg), .val (.ref r49)] [(.ref sg), (.ref sg)]))
          refine GoV.st (fun _ kq_ => XT.acmpNo X51.here hx rfl (hb hby at_462) rfl rfl rfl (XT.aa_ne_f rfl) kq_) ?_
          show GoV p e below s _ _ _ (T51.setTop (mkF m 465 #[.val (.int p0), .val (.int p1), .val (.long p2), .second, .val (.int p4), .val (.int p5), .val (.int (p0 &&& (3 : Int32))), .val (.ref b1), .val (.int n), .val (.ref x), .val (.ref sg), .val (.ref r49)] []))
          refine GoV.st (fun _ kq_ => XS.aload X51.here hx rfl (hb hby at_465) rfl rfl kq_) ?_
          show GoV p e below s _ _ _ (T51.setTop (mkF m 467 #[.val (.int p0), .val (.int p1), .val (.long p2), .second, .val (.int p4), .val (.int p5), .val (.int (p0 &&& (3 : Int32))), .val (.ref b1), .val (.int n), .val (.ref x), .val (.ref sg), .val (.ref r49)] [(.ref r49)]))
          obtain ⟨cq52, kq52, qa52, qb52, qc52⟩ := isOf hZ32 e51 E_r49
          obtain ⟨_, _, ⟨T52, L52, k52, n52⟩, -, X52, ⟨Lc52, hQ52, l52, y52, z52⟩, st52⟩ := X51.virtualBack hx (y := (⟨"java/util/Optional", "get", "()Ljava/lang/Object;"⟩ : MethodName)) (z := (⟨"java/util/Optional", "get", "()Ljava/lang/Object;"⟩ : MethodName)) hown32 (mvT hZ32 (own_w hw 95 rfl)) (mvT hZ32 (own_w hw 96 rfl)) (notFace_of_selects (args := #[]) (mvT hZ32 (own_w hw 98 rfl))) (mvT hZ32 (own_w hw 98 rfl)) (mvT hZ32 (own_w hw 97 rfl)) (by decide) (backOf (W := 0) (rmg l Z a0 hw [] r49 sg T49.heap n0 O49 F_r49_value) hZ32 (own_w hw 99 rfl) (own_w hw 75 rfl) (by decide) (by decide)) qa52 qc52 (g := (mkF m 467 #[.val (.int p0), .val (.int p1), .val (.long p2), .second, .val (.int p4), .val (.int p5), .val (.int (p0 &&& (3 : Int32))), .val (.ref b1), .val (.int n), .val (.ref x), .val (.ref sg), .val (.ref r49)] [(.ref r49)])) rfl (by rw [hml]; rfl) (Steps.refl _) (argsL := []) (rest := []) (lenOf pd0_4 rfl) rfl (by show 2 * 0 + _ ≤ _; exact Nat.le_of_eq rfl) (hb hby at_467) (fun _ _ => ⟨rfl, e51, (by decide : 9 + 0 ≤ _), (by decide : 62 + 0 ≤ _)⟩)
          dsimp only [Pt.U, Pt.locs, Pt.cells, Pt.slots] at X52 l52 y52 z52 st52 hQ52
          subst y52 z52
          obtain ⟨rfl, Nc52, e52⟩ := hQ52
          have N52 : Fr n0 L52 := by rw [l52]; exact Fr.app N51 Nc52
          refine GoV.tr st52 ?_
          show GoV p e below s _ _ _ (T52.setTop (mkF m 470 #[.val (.int p0), .val (.int p1), .val (.long p2), .second, .val (.int p4), .val (.int p5), .val (.int (p0 &&& (3 : Int32))), .val (.ref b1), .val (.int n), .val (.ref x), .val (.ref sg), .val (.ref r49)] [(.ref sg)]))
          obtain ⟨T53, X53, e53, st53⟩ := castY X52 hx hZ32 hown32 (own_w hw 100 rfl) e52 (Ins.self (E_sg.ext O49.2)) (g := (mkF m 470 #[.val (.int p0), .val (.int p1), .val (.long p2), .second, .val (.int p4), .val (.int p5), .val (.int (p0 &&& (3 : Int32))), .val (.ref b1), .val (.int n), .val (.ref x), .val (.ref sg), .val (.ref r49)] [(.ref sg)])) rfl rfl (hb hby at_470)
          refine GoV.st st53 ?_
          show GoV p e below s _ _ _ (T53.setTop (mkF m 473 #[.val (.int p0), .val (.int p1), .val (.long p2), .second, .val (.int p4), .val (.int p5), .val (.int (p0 &&& (3 : Int32))), .val (.ref b1), .val (.int n), .val (.ref x), .val (.ref sg), .val (.ref r49)] [(.ref sg)]))
          obtain ⟨cq54, kq54, qa54, qb54, qc54⟩ := isOf hZ32 e53 (E_sg.ext O49.2)
          obtain ⟨_, _, ⟨T54, L54, k54, n54⟩, -, X54, ⟨Lc54, hQ54, l54, y54, z54⟩, st54⟩ := X53.virtualBack hx (y := (⟨"com/example/rootward/rootward/model/Policy", "jsonName", "()Ljava/lang/String;"⟩ : MethodName)) (z := (⟨"com/example/rootward/rootward/model/Policy", "jsonName", "()Ljava/lang/String;"⟩ : MethodName)) hown32 (mvT hZ32 (own_w hw 102 rfl)) (mvT hZ32 (own_w hw 103 rfl)) (notFace_of_selects (args := #[]) (mvT hZ32 (own_w hw 105 rfl))) (mvT hZ32 (own_w hw 105 rfl)) (mvT hZ32 (own_w hw 104 rfl)) (by decide) (backOf (W := 0) (rmj l Z a0 hw [] sg ts T49.heap n0 O49 (J_sg.ext O49.2)) hZ32 (own_w hw 106 rfl) (own_w hw 49 rfl) (by decide) (by decide)) qa54 qc54 (g := (mkF m 473 #[.val (.int p0), .val (.int p1), .val (.long p2), .second, .val (.int p4), .val (.int p5), .val (.int (p0 &&& (3 : Int32))), .val (.ref b1), .val (.int n), .val (.ref x), .val (.ref sg), .val (.ref r49)] [(.ref sg)])) rfl (by rw [hml]; rfl) (Steps.refl _) (argsL := []) (rest := []) (lenOf pd0_5 rfl) rfl (by show 2 * 0 + _ ≤ _; exact Nat.le_of_eq rfl) (hb hby at_473) (fun _ _ => ⟨rfl, e53, (by decide : 9 + 0 ≤ _), (by decide : 62 + 0 ≤ _)⟩)
          dsimp only [Pt.U, Pt.locs, Pt.cells, Pt.slots] at X54 l54 y54 z54 st54 hQ54
          subst y54 z54
          obtain ⟨rfl, Nc54, e54⟩ := hQ54
          have N54 : Fr n0 L54 := by rw [l54]; exact Fr.app N52 Nc54
          refine GoV.tr st54 ?_
          show GoV p e below s _ _ _ (T54.setTop (mkF m 476 #[.val (.int p0), .val (.int p1), .val (.long p2), .second, .val (.int p4), .val (.int p5), .val (.int (p0 &&& (3 : Int32))), .val (.ref b1), .val (.int n), .val (.ref x), .val (.ref sg), .val (.ref r49)] [(.ref ts)]))
          refine GoV.st (fun _ kq_ => XS.aload X54.here hx rfl (hb hby at_476) rfl rfl kq_) ?_
          show GoV p e below s _ _ _ (T54.setTop (mkF m 478 #[.val (.int p0), .val (.int p1), .val (.long p2), .second, .val (.int p4), .val (.int p5), .val (.int (p0 &&& (3 : Int32))), .val (.ref b1), .val (.int n), .val (.ref x), .val (.ref sg), .val (.ref r49)] [(.ref x), (.ref ts)]))
          obtain ⟨cq55, kq55, qa55, qb55, qc55⟩ := isOf hZ32 e54 (E_ts.ext O49.2)
          obtain ⟨_, _, ⟨T55, L55, k55, n55⟩, -, X55, ⟨Lc55, hQ55, l55, y55, z55⟩, st55⟩ := X54.virtualBack hx (y := (⟨"java/lang/String", "equals", "(Ljava/lang/Object;)Z"⟩ : MethodName)) (z := (⟨"java/lang/String", "equals", "(Ljava/lang/Object;)Z"⟩ : MethodName)) hown32 (mvT hZ32 (own_w hw 38 rfl)) (mvT hZ32 (own_w hw 39 rfl)) (notFace_of_selects (args := #[]) (mvT hZ32 (own_w hw 41 rfl))) (mvT hZ32 (own_w hw 41 rfl)) (mvT hZ32 (own_w hw 40 rfl)) (by decide) (StrChars.Road.eqW (W := 0) hZ32 heq (kI := 4) (own_w hw 7 rfl) (cs := ([(115 : Int32), (105 : Int32), (110 : Int32), (103 : Int32), (108 : Int32), (101 : Int32)] : List Int32)) (ds := cs) (E_ts.ext O49.2) (F_ts_value.ext O49.2) (F_ts_coder.ext O49.2) (V_ys.ext O49.2) own_codS own_bS (by decide) E_x F_x_value F_x_coder V_t hcX hbX hlX (SC.ext O49.2) hcs (by decide) (by decide)) qa55 qc55 (g := (mkF m 478 #[.val (.int p0), .val (.int p1), .val (.long p2), .second, .val (.int p4), .val (.int p5), .val (.int (p0 &&& (3 : Int32))), .val (.ref b1), .val (.int n), .val (.ref x), .val (.ref sg), .val (.ref r49)] [(.ref x), (.ref ts)])) rfl (by rw [hml]; rfl) (Steps.refl _) (argsL := [(.ref x)]) (rest := []) (lenOf pd0_1 rfl) rfl (by show 2 * 0 + _ ≤ _; exact Nat.le_of_eq rfl) (hb hby at_478) (fun _ _ => ⟨rfl, e54, (by decide : 9 + 0 ≤ _), (by decide : 62 + 0 ≤ _)⟩)
          dsimp only [Pt.U, Pt.locs, Pt.cells, Pt.slots] at X55 l55 y55 z55 st55 hQ55
          subst y55 z55
          obtain ⟨hz55, el55, e55⟩ := hQ55
          obtain ⟨zq55, rfl, hzq55⟩ := own_zz hz55
          have Nc55 : Fr n0 Lc55 := by rw [el55]; exact Fr.nil n0
          have N55 : Fr n0 L55 := by rw [l55]; exact Fr.app N54 Nc55
          refine GoV.tr st55 ?_
          show GoV p e below s _ _ _ (T55.setTop (mkF m 481 #[.val (.int p0), .val (.int p1), .val (.long p2), .second, .val (.int p4), .val (.int p5), .val (.int (p0 &&& (3 : Int32))), .val (.ref b1), .val (.int n), .val (.ref x), .val (.ref sg), .val (.ref r49)] [(.int zq55)]))
          refine GoV.st (fun _ kq_ => XS.ifNo X55.here hx rfl (hb hby at_481) rfl (XT.i0_eq_f (own_zp hzq55 (own_z1 hzq33 c395_34).symm)) kq_) ?_
          show GoV p e below s _ _ _ (T55.setTop (mkF m 484 #[.val (.int p0), .val (.int p1), .val (.long p2), .second, .val (.int p4), .val (.int p5), .val (.int (p0 &&& (3 : Int32))), .val (.ref b1), .val (.int n), .val (.ref x), .val (.ref sg), .val (.ref r49)] []))
          refine GoV.st (fun _ kq_ => XS.iconst X55.here hx rfl (hb hby at_484) kq_) ?_
          show GoV p e below s _ _ _ (T55.setTop (mkF m 485 #[.val (.int p0), .val (.int p1), .val (.long p2), .second, .val (.int p4), .val (.int p5), .val (.int (p0 &&& (3 : Int32))), .val (.ref b1), .val (.int n), .val (.ref x), .val (.ref sg), .val (.ref r49)] [(.int (1 : Int32))]))
          refine GoV.st (fun _ kq_ => XS.goto X55.here hx rfl (pc0 := 485) (pc' := 489) rfl (hb hby at_485) (by decide) (by decide) kq_) ?_
          show GoV p e below s _ _ _ (T55.setTop (mkF m 489 #[.val (.int p0), .val (.int p1), .val (.long p2), .second, .val (.int p4), .val (.int p5), .val (.int (p0 &&& (3 : Int32))), .val (.ref b1), .val (.int n), .val (.ref x), .val (.ref sg), .val (.ref r49)] [(.int (1 : Int32))]))
          exact GoV.ret (vm1 := T32.vm) X55 hlk hS32 (by rw [e55]; exact hk49) (some (.int (nar .boolean (1 : Int32)))) (fun h => by rw [Bd.returns] at h; cases h) (by rw [e55]; exact ⟨rfl, N55⟩) (by decide) (by decide) (fun fs hr => retN X55 hx (t := .boolean) Bd.returns (by simp) (hb hby at_489) hr)
    have J337 : ∀ (c0 : Int32) (c1 : Int32) (c2 : Int32) (c3 : Int32) (c4 : Int32) (c5 : Int32) (c6 : Int32) (c7 : Int32) (c8 : Int32) (n : Int32) (T56 : State) (h56 : Heap) (lc56 : List Loc) (X56 : Stand p l e room_1 s m #[(.int p0), (.int p1), (.long p2), (.int p4), (.int p5)] below meth cd T56 lc56 1 9) (e56 : T56.heap = h56) (N56 : Fr n0 lc56) (O56 : Old Z n0 h56) (hk56 : h0.size ≤ h56.size) (V_b1 : Arv Z h56 b1 k1 .char (9 : Int32) [(.int c0), (.int c1), (.int c2), (.int c3), (.int c4), (.int c5), (.int c6), (.int c7), (.int c8)] (.int (0 : Int32))) (hc0 : ¬ c0 < 0 ∧ ¬ (255 : Int32) < c0) (hc1 : ¬ c1 < 0 ∧ ¬ (255 : Int32) < c1) (hc2 : ¬ c2 < 0 ∧ ¬ (255 : Int32) < c2) (hc3 : ¬ c3 < 0 ∧ ¬ (255 : Int32) < c3) (hc4 : ¬ c4 < 0 ∧ ¬ (255 : Int32) < c4) (hc5 : ¬ c5 < 0 ∧ ¬ (255 : Int32) < c5) (hc6 : ¬ c6 < 0 ∧ ¬ (255 : Int32) < c6) (hc7 : ¬ c7 < 0 ∧ ¬ (255 : Int32) < c7) (hc8 : ¬ c8 < 0 ∧ ¬ (255 : Int32) < c8) (hn : ¬ n < 0 ∧ n < 10), GoV p e below s room_1.cells room_1.slots (Q0 Z p0 p1 p2 p4 p5 sg mu va ts ys tm ym oe kv ks km zc h0 n0) (T56.setTop (mkF m 337 #[.val (.int p0), .val (.int p1), .val (.long p2), .second, .val (.int p4), .val (.int p5), .val (.int (p0 &&& (3 : Int32))), .val (.ref b1), .val (.int n), .unset, .unset, .unset] [])) := by
      intro c0 c1 c2 c3 c4 c5 c6 c7 c8 n T56 h56 lc56 X56 e56 N56 O56 hk56 V_b1 hc0 hc1 hc2 hc3 hc4 hc5 hc6 hc7 hc8 hn
      refine GoV.st (fun _ kq_ => XS.iloadN X56.here hx rfl (hb hby at_337) rfl kq_) ?_
      show GoV p e below s _ _ _ (T56.setTop (mkF m 338 #[.val (.int p0), .val (.int p1), .val (.long p2), .second, .val (.int p4), .val (.int p5), .val (.int (p0 &&& (3 : Int32))), .val (.ref b1), .val (.int n), .unset, .unset, .unset] [(.int p0)]))
      refine GoV.st (fun _ kq_ => XS.iconst X56.here hx rfl (hb hby at_338) kq_) ?_
      show GoV p e below s _ _ _ (T56.setTop (mkF m 339 #[.val (.int p0), .val (.int p1), .val (.long p2), .second, .val (.int p4), .val (.int p5), .val (.int (p0 &&& (3 : Int32))), .val (.ref b1), .val (.int n), .unset, .unset, .unset] [(.int (3 : Int32)), (.int p0)]))
      refine GoV.st (fun _ kq_ => XT.iushr X56.here hx rfl (hb hby at_339) rfl kq_) ?_
      show GoV p e below s _ _ _ (T56.setTop (mkF m 340 #[.val (.int p0), .val (.int p1), .val (.long p2), .second, .val (.int p4), .val (.int p5), .val (.int (p0 &&& (3 : Int32))), .val (.ref b1), .val (.int n), .unset, .unset, .unset] [(.int (XT.ushr p0 (3 : Int32)))]))
      refine GoV.st (fun _ kq_ => XS.iconst X56.here hx rfl (hb hby at_340) kq_) ?_
      show GoV p e below s _ _ _ (T56.setTop (mkF m 341 #[.val (.int p0), .val (.int p1), .val (.long p2), .second, .val (.int p4), .val (.int p5), .val (.int (p0 &&& (3 : Int32))), .val (.ref b1), .val (.int n), .unset, .unset, .unset] [(.int (1 : Int32)), (.int (XT.ushr p0 (3 : Int32)))]))
      refine GoV.st (fun _ kq_ => XS.iand X56.here hx rfl (hb hby at_341) rfl kq_) ?_
      show GoV p e below s _ _ _ (T56.setTop (mkF m 342 #[.val (.int p0), .val (.int p1), .val (.long p2), .second, .val (.int p4), .val (.int p5), .val (.int (p0 &&& (3 : Int32))), .val (.ref b1), .val (.int n), .unset, .unset, .unset] [(.int ((XT.ushr p0 (3 : Int32)) &&& (1 : Int32)))]))
      by_cases c342_57 : ((XT.ushr p0 (3 : Int32)) &&& (1 : Int32)) = (0 : Int32)
      · refine GoV.st (fun _ kq_ => XS.ifYes X56.here hx rfl (pc0 := 342) (pc' := 354) rfl (hb hby at_342) rfl (XT.i0_eq_t c342_57) (by decide) (by decide) kq_) ?_
        show GoV p e below s _ _ _ (T56.setTop (mkF m 354 #[.val (.int p0), .val (.int p1), .val (.long p2), .second, .val (.int p4), .val (.int p5), .val (.int (p0 &&& (3 : Int32))), .val (.ref b1), .val (.int n), .unset, .unset, .unset] []))
        exact J354 c0 c1 c2 c3 c4 c5 c6 c7 c8 n _ _ _ X56 e56 N56 O56 hk56 V_b1 hc0 hc1 hc2 hc3 hc4 hc5 hc6 hc7 hc8 hn
      · refine GoV.st (fun _ kq_ => XS.ifNo X56.here hx rfl (hb hby at_342) rfl (XT.i0_eq_f c342_57) kq_) ?_
        show GoV p e below s _ _ _ (T56.setTop (mkF m 345 #[.val (.int p0), .val (.int p1), .val (.long p2), .second, .val (.int p4), .val (.int p5), .val (.int (p0 &&& (3 : Int32))), .val (.ref b1), .val (.int n), .unset, .unset, .unset] []))
        refine GoV.st (fun _ kq_ => XS.iloadN X56.here hx rfl (hb hby at_345) rfl kq_) ?_
        show GoV p e below s _ _ _ (T56.setTop (mkF m 346 #[.val (.int p0), .val (.int p1), .val (.long p2), .second, .val (.int p4), .val (.int p5), .val (.int (p0 &&& (3 : Int32))), .val (.ref b1), .val (.int n), .unset, .unset, .unset] [(.int p1)]))
        refine GoV.st (fun _ kq_ => X56.ldcI hx hown (mvT hZ (own_w hw 107 rfl)) rfl (hb hby at_346) kq_) ?_
        show GoV p e below s _ _ _ (T56.setTop (mkF m 348 #[.val (.int p0), .val (.int p1), .val (.long p2), .second, .val (.int p4), .val (.int p5), .val (.int (p0 &&& (3 : Int32))), .val (.ref b1), .val (.int n), .unset, .unset, .unset] [(.int (2147483647 : Int32)), (.int p1)]))
        refine GoV.st (fun _ kq_ => XS.iand X56.here hx rfl (hb hby at_348) rfl kq_) ?_
        show GoV p e below s _ _ _ (T56.setTop (mkF m 349 #[.val (.int p0), .val (.int p1), .val (.long p2), .second, .val (.int p4), .val (.int p5), .val (.int (p0 &&& (3 : Int32))), .val (.ref b1), .val (.int n), .unset, .unset, .unset] [(.int (p1 &&& (2147483647 : Int32)))]))
        refine GoV.st (fun _ kq_ => XS.bipush X56.here hx rfl (hb hby at_349) kq_) ?_
        show GoV p e below s _ _ _ (T56.setTop (mkF m 351 #[.val (.int p0), .val (.int p1), .val (.long p2), .second, .val (.int p4), .val (.int p5), .val (.int (p0 &&& (3 : Int32))), .val (.ref b1), .val (.int n), .unset, .unset, .unset] [(.int (10 : Int32)), (.int (p1 &&& (2147483647 : Int32)))]))
        refine GoV.st (fun _ kq_ => iremM X56 hx rfl (hb hby at_351) rfl (by decide) kq_) ?_
        show GoV p e below s _ _ _ (T56.setTop (mkF m 352 #[.val (.int p0), .val (.int p1), .val (.long p2), .second, .val (.int p4), .val (.int p5), .val (.int (p0 &&& (3 : Int32))), .val (.ref b1), .val (.int n), .unset, .unset, .unset] [(.int ((p1 &&& (2147483647 : Int32)) % (10 : Int32)))]))
        refine GoV.st (fun _ kq_ => XS.istore X56.here hx rfl (hb hby at_352) rfl (l' := #[.val (.int p0), .val (.int p1), .val (.long p2), .second, .val (.int p4), .val (.int p5), .val (.int (p0 &&& (3 : Int32))), .val (.ref b1), .val (.int ((p1 &&& (2147483647 : Int32)) % (10 : Int32))), .unset, .unset, .unset]) rfl kq_) ?_
        show GoV p e below s _ _ _ (T56.setTop (mkF m 354 #[.val (.int p0), .val (.int p1), .val (.long p2), .second, .val (.int p4), .val (.int p5), .val (.int (p0 &&& (3 : Int32))), .val (.ref b1), .val (.int ((p1 &&& (2147483647 : Int32)) % (10 : Int32))), .unset, .unset, .unset] []))
        exact J354 c0 c1 c2 c3 c4 c5 c6 c7 c8 ((p1 &&& (2147483647 : Int32)) % (10 : Int32)) _ _ _ X56 e56 N56 O56 hk56 V_b1 hc0 hc1 hc2 hc3 hc4 hc5 hc6 hc7 hc8 (own_rem p1 10 (by decide))
    have J311 : ∀ (c0 : Int32) (c1 : Int32) (c2 : Int32) (c3 : Int32) (c4 : Int32) (c5 : Int32) (c6 : Int32) (c7 : Int32) (c8 : Int32) (n : Int32) (T58 : State) (h58 : Heap) (lc58 : List Loc) (X58 : Stand p l e room_1 s m #[(.int p0), (.int p1), (.long p2), (.int p4), (.int p5)] below meth cd T58 lc58 1 9) (e58 : T58.heap = h58) (N58 : Fr n0 lc58) (O58 : Old Z n0 h58) (hk58 : h0.size ≤ h58.size) (V_b1 : Arv Z h58 b1 k1 .char (9 : Int32) [(.int c0), (.int c1), (.int c2), (.int c3), (.int c4), (.int c5), (.int c6), (.int c7), (.int c8)] (.int (0 : Int32))) (hc0 : ¬ c0 < 0 ∧ ¬ (255 : Int32) < c0) (hc1 : ¬ c1 < 0 ∧ ¬ (255 : Int32) < c1) (hc2 : ¬ c2 < 0 ∧ ¬ (255 : Int32) < c2) (hc3 : ¬ c3 < 0 ∧ ¬ (255 : Int32) < c3) (hc4 : ¬ c4 < 0 ∧ ¬ (255 : Int32) < c4) (hc5 : ¬ c5 < 0 ∧ ¬ (255 : Int32) < c5) (hc6 : ¬ c6 < 0 ∧ ¬ (255 : Int32) < c6) (hc7 : ¬ c7 < 0 ∧ ¬ (255 : Int32) < c7) (hc8 : ¬ c8 < 0 ∧ ¬ (255 : Int32) < c8) (hn : ¬ n < 0 ∧ n < 10), GoV p e below s room_1.cells room_1.slots (Q0 Z p0 p1 p2 p4 p5 sg mu va ts ys tm ym oe kv ks km zc h0 n0) (T58.setTop (mkF m 311 #[.val (.int p0), .val (.int p1), .val (.long p2), .second, .val (.int p4), .val (.int p5), .val (.int (p0 &&& (3 : Int32))), .val (.ref b1), .val (.int n), .unset, .unset, .unset] [])) := by
      intro c0 c1 c2 c3 c4 c5 c6 c7 c8 n T58 h58 lc58 X58 e58 N58 O58 hk58 V_b1 hc0 hc1 hc2 hc3 hc4 hc5 hc6 hc7 hc8 hn
      refine GoV.st (fun _ kq_ => XS.iloadN X58.here hx rfl (hb hby at_311) rfl kq_) ?_
      show GoV p e below s _ _ _ (T58.setTop (mkF m 312 #[.val (.int p0), .val (.int p1), .val (.long p2), .second, .val (.int p4), .val (.int p5), .val (.int (p0 &&& (3 : Int32))), .val (.ref b1), .val (.int n), .unset, .unset, .unset] [(.int p0)]))
      refine GoV.st (fun _ kq_ => XS.iconst X58.here hx rfl (hb hby at_312) kq_) ?_
      show GoV p e below s _ _ _ (T58.setTop (mkF m 313 #[.val (.int p0), .val (.int p1), .val (.long p2), .second, .val (.int p4), .val (.int p5), .val (.int (p0 &&& (3 : Int32))), .val (.ref b1), .val (.int n), .unset, .unset, .unset] [(.int (2 : Int32)), (.int p0)]))
      refine GoV.st (fun _ kq_ => XT.iushr X58.here hx rfl (hb hby at_313) rfl kq_) ?_
      show GoV p e below s _ _ _ (T58.setTop (mkF m 314 #[.val (.int p0), .val (.int p1), .val (.long p2), .second, .val (.int p4), .val (.int p5), .val (.int (p0 &&& (3 : Int32))), .val (.ref b1), .val (.int n), .unset, .unset, .unset] [(.int (XT.ushr p0 (2 : Int32)))]))
      refine GoV.st (fun _ kq_ => XS.iconst X58.here hx rfl (hb hby at_314) kq_) ?_
      show GoV p e below s _ _ _ (T58.setTop (mkF m 315 #[.val (.int p0), .val (.int p1), .val (.long p2), .second, .val (.int p4), .val (.int p5), .val (.int (p0 &&& (3 : Int32))), .val (.ref b1), .val (.int n), .unset, .unset, .unset] [(.int (1 : Int32)), (.int (XT.ushr p0 (2 : Int32)))]))
      refine GoV.st (fun _ kq_ => XS.iand X58.here hx rfl (hb hby at_315) rfl kq_) ?_
      show GoV p e below s _ _ _ (T58.setTop (mkF m 316 #[.val (.int p0), .val (.int p1), .val (.long p2), .second, .val (.int p4), .val (.int p5), .val (.int (p0 &&& (3 : Int32))), .val (.ref b1), .val (.int n), .unset, .unset, .unset] [(.int ((XT.ushr p0 (2 : Int32)) &&& (1 : Int32)))]))
      by_cases c316_59 : ((XT.ushr p0 (2 : Int32)) &&& (1 : Int32)) = (0 : Int32)
      · refine GoV.st (fun _ kq_ => XS.ifYes X58.here hx rfl (pc0 := 316) (pc' := 337) rfl (hb hby at_316) rfl (XT.i0_eq_t c316_59) (by decide) (by decide) kq_) ?_
        show GoV p e below s _ _ _ (T58.setTop (mkF m 337 #[.val (.int p0), .val (.int p1), .val (.long p2), .second, .val (.int p4), .val (.int p5), .val (.int (p0 &&& (3 : Int32))), .val (.ref b1), .val (.int n), .unset, .unset, .unset] []))
        exact J337 c0 c1 c2 c3 c4 c5 c6 c7 c8 n _ _ _ X58 e58 N58 O58 hk58 V_b1 hc0 hc1 hc2 hc3 hc4 hc5 hc6 hc7 hc8 hn
      · refine GoV.st (fun _ kq_ => XS.ifNo X58.here hx rfl (hb hby at_316) rfl (XT.i0_eq_f c316_59) kq_) ?_
        show GoV p e below s _ _ _ (T58.setTop (mkF m 319 #[.val (.int p0), .val (.int p1), .val (.long p2), .second, .val (.int p4), .val (.int p5), .val (.int (p0 &&& (3 : Int32))), .val (.ref b1), .val (.int n), .unset, .unset, .unset] []))
        refine GoV.st (fun _ kq_ => XS.aload X58.here hx rfl (hb hby at_319) rfl rfl kq_) ?_
        show GoV p e below s _ _ _ (T58.setTop (mkF m 321 #[.val (.int p0), .val (.int p1), .val (.long p2), .second, .val (.int p4), .val (.int p5), .val (.int (p0 &&& (3 : Int32))), .val (.ref b1), .val (.int n), .unset, .unset, .unset] [(.ref b1)]))
        refine GoV.st (fun _ kq_ => XS.iload X58.here hx rfl (hb hby at_321) rfl kq_) ?_
        show GoV p e below s _ _ _ (T58.setTop (mkF m 323 #[.val (.int p0), .val (.int p1), .val (.long p2), .second, .val (.int p4), .val (.int p5), .val (.int (p0 &&& (3 : Int32))), .val (.ref b1), .val (.int n), .unset, .unset, .unset] [(.int p4), (.ref b1)]))
        refine GoV.st (fun _ kq_ => X58.ldcI hx hown (mvT hZ (own_w hw 107 rfl)) rfl (hb hby at_323) kq_) ?_
        show GoV p e below s _ _ _ (T58.setTop (mkF m 325 #[.val (.int p0), .val (.int p1), .val (.long p2), .second, .val (.int p4), .val (.int p5), .val (.int (p0 &&& (3 : Int32))), .val (.ref b1), .val (.int n), .unset, .unset, .unset] [(.int (2147483647 : Int32)), (.int p4), (.ref b1)]))
        refine GoV.st (fun _ kq_ => XS.iand X58.here hx rfl (hb hby at_325) rfl kq_) ?_
        show GoV p e below s _ _ _ (T58.setTop (mkF m 326 #[.val (.int p0), .val (.int p1), .val (.long p2), .second, .val (.int p4), .val (.int p5), .val (.int (p0 &&& (3 : Int32))), .val (.ref b1), .val (.int n), .unset, .unset, .unset] [(.int (p4 &&& (2147483647 : Int32))), (.ref b1)]))
        refine GoV.st (fun _ kq_ => XS.bipush X58.here hx rfl (hb hby at_326) kq_) ?_
        show GoV p e below s _ _ _ (T58.setTop (mkF m 328 #[.val (.int p0), .val (.int p1), .val (.long p2), .second, .val (.int p4), .val (.int p5), .val (.int (p0 &&& (3 : Int32))), .val (.ref b1), .val (.int n), .unset, .unset, .unset] [(.int (9 : Int32)), (.int (p4 &&& (2147483647 : Int32))), (.ref b1)]))
        refine GoV.st (fun _ kq_ => iremM X58 hx rfl (hb hby at_328) rfl (by decide) kq_) ?_
        show GoV p e below s _ _ _ (T58.setTop (mkF m 329 #[.val (.int p0), .val (.int p1), .val (.long p2), .second, .val (.int p4), .val (.int p5), .val (.int (p0 &&& (3 : Int32))), .val (.ref b1), .val (.int n), .unset, .unset, .unset] [(.int ((p4 &&& (2147483647 : Int32)) % (9 : Int32))), (.ref b1)]))
        refine GoV.st (fun _ kq_ => XS.iload X58.here hx rfl (hb hby at_329) rfl kq_) ?_
        show GoV p e below s _ _ _ (T58.setTop (mkF m 331 #[.val (.int p0), .val (.int p1), .val (.long p2), .second, .val (.int p4), .val (.int p5), .val (.int (p0 &&& (3 : Int32))), .val (.ref b1), .val (.int n), .unset, .unset, .unset] [(.int p5), (.int ((p4 &&& (2147483647 : Int32)) % (9 : Int32))), (.ref b1)]))
        refine GoV.st (fun _ kq_ => XS.sipush X58.here hx rfl (hb hby at_331) kq_) ?_
        show GoV p e below s _ _ _ (T58.setTop (mkF m 334 #[.val (.int p0), .val (.int p1), .val (.long p2), .second, .val (.int p4), .val (.int p5), .val (.int (p0 &&& (3 : Int32))), .val (.ref b1), .val (.int n), .unset, .unset, .unset] [(.int (255 : Int32)), (.int p5), (.int ((p4 &&& (2147483647 : Int32)) % (9 : Int32))), (.ref b1)]))
        refine GoV.st (fun _ kq_ => XS.iand X58.here hx rfl (hb hby at_334) rfl kq_) ?_
        show GoV p e below s _ _ _ (T58.setTop (mkF m 335 #[.val (.int p0), .val (.int p1), .val (.long p2), .second, .val (.int p4), .val (.int p5), .val (.int (p0 &&& (3 : Int32))), .val (.ref b1), .val (.int n), .unset, .unset, .unset] [(.int (p5 &&& (255 : Int32))), (.int ((p4 &&& (2147483647 : Int32)) % (9 : Int32))), (.ref b1)]))
        refine GoV.st (fun _ kq_ => XT.i2c X58.here hx rfl (hb hby at_335) rfl kq_) ?_
        show GoV p e below s _ _ _ (T58.setTop (mkF m 336 #[.val (.int p0), .val (.int p1), .val (.long p2), .second, .val (.int p4), .val (.int p5), .val (.int (p0 &&& (3 : Int32))), .val (.ref b1), .val (.int n), .unset, .unset, .unset] [(.int ((p5 &&& (255 : Int32)).toUInt32.toUInt16.toUInt32.toInt32)), (.int ((p4 &&& (2147483647 : Int32)) % (9 : Int32))), (.ref b1)]))
        obtain ⟨jj, hjj⟩ : ∃ z, ((p4 &&& (2147483647 : Int32)) % (9 : Int32)) = z := ⟨_, rfl⟩
        have hr9 : ¬ jj < 0 ∧ jj < 9 := hjj ▸ own_rem p4 9 (by decide)
        rw [hjj]
        rcases own_9 hr9 with rfl | rfl | rfl | rfl | rfl | rfl | rfl | rfl | rfl
        · show GoV p e below s _ _ _ (T58.setTop (mkF m 336 #[.val (.int p0), .val (.int p1), .val (.long p2), .second, .val (.int p4), .val (.int p5), .val (.int (p0 &&& (3 : Int32))), .val (.ref b1), .val (.int n), .unset, .unset, .unset] [(.int ((p5 &&& (255 : Int32)).toUInt32.toUInt16.toUInt32.toInt32)), (.int (0 : Int32)), (.ref b1)]))
          obtain ⟨T60, h60, X60, e60, W60, V60, st60⟩ := own_stC X58 hx hZ e58 V_b1 (j := (0 : Int32)) (by decide) (by decide) 0 rfl (Nat.le_of_ble_eq_true rfl) (g := (mkF m 336 #[.val (.int p0), .val (.int p1), .val (.long p2), .second, .val (.int p4), .val (.int p5), .val (.int (p0 &&& (3 : Int32))), .val (.ref b1), .val (.int n), .unset, .unset, .unset] [(.int ((p5 &&& (255 : Int32)).toUInt32.toUInt16.toUInt32.toInt32)), (.int (0 : Int32)), (.ref b1)])) rfl rfl (hb hby at_336)
          obtain ⟨lc60, X60, N60⟩ := own_gen X60 (Fr.snoc X60 N58 g_b1)
          have O60 := O58.wr W60 g_b1
          have hk60 := Nat.le_trans hk58 (Nat.le_of_eq W60.size.symm)
          have V_b1 : Arv Z h60 b1 k1 .char (9 : Int32) [(.int (nar .char ((p5 &&& (255 : Int32)).toUInt32.toUInt16.toUInt32.toInt32))), (.int c1), (.int c2), (.int c3), (.int c4), (.int c5), (.int c6), (.int c7), (.int c8)] (.int (0 : Int32)) := V60
          refine GoV.st st60 ?_
          show GoV p e below s _ _ _ (T60.setTop (mkF m 337 #[.val (.int p0), .val (.int p1), .val (.long p2), .second, .val (.int p4), .val (.int p5), .val (.int (p0 &&& (3 : Int32))), .val (.ref b1), .val (.int n), .unset, .unset, .unset] []))
          exact J337 (nar .char ((p5 &&& (255 : Int32)).toUInt32.toUInt16.toUInt32.toInt32)) c1 c2 c3 c4 c5 c6 c7 c8 n _ _ _ X60 e60 N60 O60 hk60 V_b1 (own_ch _) hc1 hc2 hc3 hc4 hc5 hc6 hc7 hc8 hn
        · show GoV p e below s _ _ _ (T58.setTop (mkF m 336 #[.val (.int p0), .val (.int p1), .val (.long p2), .second, .val (.int p4), .val (.int p5), .val (.int (p0 &&& (3 : Int32))), .val (.ref b1), .val (.int n), .unset, .unset, .unset] [(.int ((p5 &&& (255 : Int32)).toUInt32.toUInt16.toUInt32.toInt32)), (.int (1 : Int32)), (.ref b1)]))
          obtain ⟨T61, h61, X61, e61, W61, V61, st61⟩ := own_stC X58 hx hZ e58 V_b1 (j := (1 : Int32)) (by decide) (by decide) 1 rfl (Nat.le_of_ble_eq_true rfl) (g := (mkF m 336 #[.val (.int p0), .val (.int p1), .val (.long p2), .second, .val (.int p4), .val (.int p5), .val (.int (p0 &&& (3 : Int32))), .val (.ref b1), .val (.int n), .unset, .unset, .unset] [(.int ((p5 &&& (255 : Int32)).toUInt32.toUInt16.toUInt32.toInt32)), (.int (1 : Int32)), (.ref b1)])) rfl rfl (hb hby at_336)
          obtain ⟨lc61, X61, N61⟩ := own_gen X61 (Fr.snoc X61 N58 g_b1)
          have O61 := O58.wr W61 g_b1
          have hk61 := Nat.le_trans hk58 (Nat.le_of_eq W61.size.symm)
          have V_b1 : Arv Z h61 b1 k1 .char (9 : Int32) [(.int c0), (.int (nar .char ((p5 &&& (255 : Int32)).toUInt32.toUInt16.toUInt32.toInt32))), (.int c2), (.int c3), (.int c4), (.int c5), (.int c6), (.int c7), (.int c8)] (.int (0 : Int32)) := V61
          refine GoV.st st61 ?_
          show GoV p e below s _ _ _ (T61.setTop (mkF m 337 #[.val (.int p0), .val (.int p1), .val (.long p2), .second, .val (.int p4), .val (.int p5), .val (.int (p0 &&& (3 : Int32))), .val (.ref b1), .val (.int n), .unset, .unset, .unset] []))
          exact J337 c0 (nar .char ((p5 &&& (255 : Int32)).toUInt32.toUInt16.toUInt32.toInt32)) c2 c3 c4 c5 c6 c7 c8 n _ _ _ X61 e61 N61 O61 hk61 V_b1 hc0 (own_ch _) hc2 hc3 hc4 hc5 hc6 hc7 hc8 hn
        · show GoV p e below s _ _ _ (T58.setTop (mkF m 336 #[.val (.int p0), .val (.int p1), .val (.long p2), .second, .val (.int p4), .val (.int p5), .val (.int (p0 &&& (3 : Int32))), .val (.ref b1), .val (.int n), .unset, .unset, .unset] [(.int ((p5 &&& (255 : Int32)).toUInt32.toUInt16.toUInt32.toInt32)), (.int (2 : Int32)), (.ref b1)]))
          obtain ⟨T62, h62, X62, e62, W62, V62, st62⟩ := own_stC X58 hx hZ e58 V_b1 (j := (2 : Int32)) (by decide) (by decide) 2 rfl (Nat.le_of_ble_eq_true rfl) (g := (mkF m 336 #[.val (.int p0), .val (.int p1), .val (.long p2), .second, .val (.int p4), .val (.int p5), .val (.int (p0 &&& (3 : Int32))), .val (.ref b1), .val (.int n), .unset, .unset, .unset] [(.int ((p5 &&& (255 : Int32)).toUInt32.toUInt16.toUInt32.toInt32)), (.int (2 : Int32)), (.ref b1)])) rfl rfl (hb hby at_336)
          obtain ⟨lc62, X62, N62⟩ := own_gen X62 (Fr.snoc X62 N58 g_b1)
          have O62 := O58.wr W62 g_b1
          have hk62 := Nat.le_trans hk58 (Nat.le_of_eq W62.size.symm)
          have V_b1 : Arv Z h62 b1 k1 .char (9 : Int32) [(.int c0), (.int c1), (.int (nar .char ((p5 &&& (255 : Int32)).toUInt32.toUInt16.toUInt32.toInt32))), (.int c3), (.int c4), (.int c5), (.int c6), (.int c7), (.int c8)] (.int (0 : Int32)) := V62
          refine GoV.st st62 ?_
          show GoV p e below s _ _ _ (T62.setTop (mkF m 337 #[.val (.int p0), .val (.int p1), .val (.long p2), .second, .val (.int p4), .val (.int p5), .val (.int (p0 &&& (3 : Int32))), .val (.ref b1), .val (.int n), .unset, .unset, .unset] []))
          exact J337 c0 c1 (nar .char ((p5 &&& (255 : Int32)).toUInt32.toUInt16.toUInt32.toInt32)) c3 c4 c5 c6 c7 c8 n _ _ _ X62 e62 N62 O62 hk62 V_b1 hc0 hc1 (own_ch _) hc3 hc4 hc5 hc6 hc7 hc8 hn
        · show GoV p e below s _ _ _ (T58.setTop (mkF m 336 #[.val (.int p0), .val (.int p1), .val (.long p2), .second, .val (.int p4), .val (.int p5), .val (.int (p0 &&& (3 : Int32))), .val (.ref b1), .val (.int n), .unset, .unset, .unset] [(.int ((p5 &&& (255 : Int32)).toUInt32.toUInt16.toUInt32.toInt32)), (.int (3 : Int32)), (.ref b1)]))
          obtain ⟨T63, h63, X63, e63, W63, V63, st63⟩ := own_stC X58 hx hZ e58 V_b1 (j := (3 : Int32)) (by decide) (by decide) 3 rfl (Nat.le_of_ble_eq_true rfl) (g := (mkF m 336 #[.val (.int p0), .val (.int p1), .val (.long p2), .second, .val (.int p4), .val (.int p5), .val (.int (p0 &&& (3 : Int32))), .val (.ref b1), .val (.int n), .unset, .unset, .unset] [(.int ((p5 &&& (255 : Int32)).toUInt32.toUInt16.toUInt32.toInt32)), (.int (3 : Int32)), (.ref b1)])) rfl rfl (hb hby at_336)
          obtain ⟨lc63, X63, N63⟩ := own_gen X63 (Fr.snoc X63 N58 g_b1)
          have O63 := O58.wr W63 g_b1
          have hk63 := Nat.le_trans hk58 (Nat.le_of_eq W63.size.symm)
          have V_b1 : Arv Z h63 b1 k1 .char (9 : Int32) [(.int c0), (.int c1), (.int c2), (.int (nar .char ((p5 &&& (255 : Int32)).toUInt32.toUInt16.toUInt32.toInt32))), (.int c4), (.int c5), (.int c6), (.int c7), (.int c8)] (.int (0 : Int32)) := V63
          refine GoV.st st63 ?_
          show GoV p e below s _ _ _ (T63.setTop (mkF m 337 #[.val (.int p0), .val (.int p1), .val (.long p2), .second, .val (.int p4), .val (.int p5), .val (.int (p0 &&& (3 : Int32))), .val (.ref b1), .val (.int n), .unset, .unset, .unset] []))
          exact J337 c0 c1 c2 (nar .char ((p5 &&& (255 : Int32)).toUInt32.toUInt16.toUInt32.toInt32)) c4 c5 c6 c7 c8 n _ _ _ X63 e63 N63 O63 hk63 V_b1 hc0 hc1 hc2 (own_ch _) hc4 hc5 hc6 hc7 hc8 hn
        · show GoV p e below s _ _ _ (T58.setTop (mkF m 336 #[.val (.int p0), .val (.int p1), .val (.long p2), .second, .val (.int p4), .val (.int p5), .val (.int (p0 &&& (3 : Int32))), .val (.ref b1), .val (.int n), .unset, .unset, .unset] [(.int ((p5 &&& (255 : Int32)).toUInt32.toUInt16.toUInt32.toInt32)), (.int (4 : Int32)), (.ref b1)]))
          obtain ⟨T64, h64, X64, e64, W64, V64, st64⟩ := own_stC X58 hx hZ e58 V_b1 (j := (4 : Int32)) (by decide) (by decide) 4 rfl (Nat.le_of_ble_eq_true rfl) (g := (mkF m 336 #[.val (.int p0), .val (.int p1), .val (.long p2), .second, .val (.int p4), .val (.int p5), .val (.int (p0 &&& (3 : Int32))), .val (.ref b1), .val (.int n), .unset, .unset, .unset] [(.int ((p5 &&& (255 : Int32)).toUInt32.toUInt16.toUInt32.toInt32)), (.int (4 : Int32)), (.ref b1)])) rfl rfl (hb hby at_336)
          obtain ⟨lc64, X64, N64⟩ := own_gen X64 (Fr.snoc X64 N58 g_b1)
          have O64 := O58.wr W64 g_b1
          have hk64 := Nat.le_trans hk58 (Nat.le_of_eq W64.size.symm)
          have V_b1 : Arv Z h64 b1 k1 .char (9 : Int32) [(.int c0), (.int c1), (.int c2), (.int c3), (.int (nar .char ((p5 &&& (255 : Int32)).toUInt32.toUInt16.toUInt32.toInt32))), (.int c5), (.int c6), (.int c7), (.int c8)] (.int (0 : Int32)) := V64
          refine GoV.st st64 ?_
          show GoV p e below s _ _ _ (T64.setTop (mkF m 337 #[.val (.int p0), .val (.int p1), .val (.long p2), .second, .val (.int p4), .val (.int p5), .val (.int (p0 &&& (3 : Int32))), .val (.ref b1), .val (.int n), .unset, .unset, .unset] []))
          exact J337 c0 c1 c2 c3 (nar .char ((p5 &&& (255 : Int32)).toUInt32.toUInt16.toUInt32.toInt32)) c5 c6 c7 c8 n _ _ _ X64 e64 N64 O64 hk64 V_b1 hc0 hc1 hc2 hc3 (own_ch _) hc5 hc6 hc7 hc8 hn
        · show GoV p e below s _ _ _ (T58.setTop (mkF m 336 #[.val (.int p0), .val (.int p1), .val (.long p2), .second, .val (.int p4), .val (.int p5), .val (.int (p0 &&& (3 : Int32))), .val (.ref b1), .val (.int n), .unset, .unset, .unset] [(.int ((p5 &&& (255 : Int32)).toUInt32.toUInt16.toUInt32.toInt32)), (.int (5 : Int32)), (.ref b1)]))
          obtain ⟨T65, h65, X65, e65, W65, V65, st65⟩ := own_stC X58 hx hZ e58 V_b1 (j := (5 : Int32)) (by decide) (by decide) 5 rfl (Nat.le_of_ble_eq_true rfl) (g := (mkF m 336 #[.val (.int p0), .val (.int p1), .val (.long p2), .second, .val (.int p4), .val (.int p5), .val (.int (p0 &&& (3 : Int32))), .val (.ref b1), .val (.int n), .unset, .unset, .unset] [(.int ((p5 &&& (255 : Int32)).toUInt32.toUInt16.toUInt32.toInt32)), (.int (5 : Int32)), (.ref b1)])) rfl rfl (hb hby at_336)
          obtain ⟨lc65, X65, N65⟩ := own_gen X65 (Fr.snoc X65 N58 g_b1)
          have O65 := O58.wr W65 g_b1
          have hk65 := Nat.le_trans hk58 (Nat.le_of_eq W65.size.symm)
          have V_b1 : Arv Z h65 b1 k1 .char (9 : Int32) [(.int c0), (.int c1), (.int c2), (.int c3), (.int c4), (.int (nar .char ((p5 &&& (255 : Int32)).toUInt32.toUInt16.toUInt32.toInt32))), (.int c6), (.int c7), (.int c8)] (.int (0 : Int32)) := V65
          refine GoV.st st65 ?_
          show GoV p e below s _ _ _ (T65.setTop (mkF m 337 #[.val (.int p0), .val (.int p1), .val (.long p2), .second, .val (.int p4), .val (.int p5), .val (.int (p0 &&& (3 : Int32))), .val (.ref b1), .val (.int n), .unset, .unset, .unset] []))
          exact J337 c0 c1 c2 c3 c4 (nar .char ((p5 &&& (255 : Int32)).toUInt32.toUInt16.toUInt32.toInt32)) c6 c7 c8 n _ _ _ X65 e65 N65 O65 hk65 V_b1 hc0 hc1 hc2 hc3 hc4 (own_ch _) hc6 hc7 hc8 hn
        · show GoV p e below s _ _ _ (T58.setTop (mkF m 336 #[.val (.int p0), .val (.int p1), .val (.long p2), .second, .val (.int p4), .val (.int p5), .val (.int (p0 &&& (3 : Int32))), .val (.ref b1), .val (.int n), .unset, .unset, .unset] [(.int ((p5 &&& (255 : Int32)).toUInt32.toUInt16.toUInt32.toInt32)), (.int (6 : Int32)), (.ref b1)]))
          obtain ⟨T66, h66, X66, e66, W66, V66, st66⟩ := own_stC X58 hx hZ e58 V_b1 (j := (6 : Int32)) (by decide) (by decide) 6 rfl (Nat.le_of_ble_eq_true rfl) (g := (mkF m 336 #[.val (.int p0), .val (.int p1), .val (.long p2), .second, .val (.int p4), .val (.int p5), .val (.int (p0 &&& (3 : Int32))), .val (.ref b1), .val (.int n), .unset, .unset, .unset] [(.int ((p5 &&& (255 : Int32)).toUInt32.toUInt16.toUInt32.toInt32)), (.int (6 : Int32)), (.ref b1)])) rfl rfl (hb hby at_336)
          obtain ⟨lc66, X66, N66⟩ := own_gen X66 (Fr.snoc X66 N58 g_b1)
          have O66 := O58.wr W66 g_b1
          have hk66 := Nat.le_trans hk58 (Nat.le_of_eq W66.size.symm)
          have V_b1 : Arv Z h66 b1 k1 .char (9 : Int32) [(.int c0), (.int c1), (.int c2), (.int c3), (.int c4), (.int c5), (.int (nar .char ((p5 &&& (255 : Int32)).toUInt32.toUInt16.toUInt32.toInt32))), (.int c7), (.int c8)] (.int (0 : Int32)) := V66
          refine GoV.st st66 ?_
          show GoV p e below s _ _ _ (T66.setTop (mkF m 337 #[.val (.int p0), .val (.int p1), .val (.long p2), .second, .val (.int p4), .val (.int p5), .val (.int (p0 &&& (3 : Int32))), .val (.ref b1), .val (.int n), .unset, .unset, .unset] []))
          exact J337 c0 c1 c2 c3 c4 c5 (nar .char ((p5 &&& (255 : Int32)).toUInt32.toUInt16.toUInt32.toInt32)) c7 c8 n _ _ _ X66 e66 N66 O66 hk66 V_b1 hc0 hc1 hc2 hc3 hc4 hc5 (own_ch _) hc7 hc8 hn
        · show GoV p e below s _ _ _ (T58.setTop (mkF m 336 #[.val (.int p0), .val (.int p1), .val (.long p2), .second, .val (.int p4), .val (.int p5), .val (.int (p0 &&& (3 : Int32))), .val (.ref b1), .val (.int n), .unset, .unset, .unset] [(.int ((p5 &&& (255 : Int32)).toUInt32.toUInt16.toUInt32.toInt32)), (.int (7 : Int32)), (.ref b1)]))
          obtain ⟨T67, h67, X67, e67, W67, V67, st67⟩ := own_stC X58 hx hZ e58 V_b1 (j := (7 : Int32)) (by decide) (by decide) 7 rfl (Nat.le_of_ble_eq_true rfl) (g := (mkF m 336 #[.val (.int p0), .val (.int p1), .val (.long p2), .second, .val (.int p4), .val (.int p5), .val (.int (p0 &&& (3 : Int32))), .val (.ref b1), .val (.int n), .unset, .unset, .unset] [(.int ((p5 &&& (255 : Int32)).toUInt32.toUInt16.toUInt32.toInt32)), (.int (7 : Int32)), (.ref b1)])) rfl rfl (hb hby at_336)
          obtain ⟨lc67, X67, N67⟩ := own_gen X67 (Fr.snoc X67 N58 g_b1)
          have O67 := O58.wr W67 g_b1
          have hk67 := Nat.le_trans hk58 (Nat.le_of_eq W67.size.symm)
          have V_b1 : Arv Z h67 b1 k1 .char (9 : Int32) [(.int c0), (.int c1), (.int c2), (.int c3), (.int c4), (.int c5), (.int c6), (.int (nar .char ((p5 &&& (255 : Int32)).toUInt32.toUInt16.toUInt32.toInt32))), (.int c8)] (.int (0 : Int32)) := V67
          refine GoV.st st67 ?_
          show GoV p e below s _ _ _ (T67.setTop (mkF m 337 #[.val (.int p0), .val (.int p1), .val (.long p2), .second, .val (.int p4), .val (.int p5), .val (.int (p0 &&& (3 : Int32))), .val (.ref b1), .val (.int n), .unset, .unset, .unset] []))
          exact J337 c0 c1 c2 c3 c4 c5 c6 (nar .char ((p5 &&& (255 : Int32)).toUInt32.toUInt16.toUInt32.toInt32)) c8 n _ _ _ X67 e67 N67 O67 hk67 V_b1 hc0 hc1 hc2 hc3 hc4 hc5 hc6 (own_ch _) hc8 hn
        · show GoV p e below s _ _ _ (T58.setTop (mkF m 336 #[.val (.int p0), .val (.int p1), .val (.long p2), .second, .val (.int p4), .val (.int p5), .val (.int (p0 &&& (3 : Int32))), .val (.ref b1), .val (.int n), .unset, .unset, .unset] [(.int ((p5 &&& (255 : Int32)).toUInt32.toUInt16.toUInt32.toInt32)), (.int (8 : Int32)), (.ref b1)]))
          obtain ⟨T68, h68, X68, e68, W68, V68, st68⟩ := own_stC X58 hx hZ e58 V_b1 (j := (8 : Int32)) (by decide) (by decide) 8 rfl (Nat.le_of_ble_eq_true rfl) (g := (mkF m 336 #[.val (.int p0), .val (.int p1), .val (.long p2), .second, .val (.int p4), .val (.int p5), .val (.int (p0 &&& (3 : Int32))), .val (.ref b1), .val (.int n), .unset, .unset, .unset] [(.int ((p5 &&& (255 : Int32)).toUInt32.toUInt16.toUInt32.toInt32)), (.int (8 : Int32)), (.ref b1)])) rfl rfl (hb hby at_336)
          obtain ⟨lc68, X68, N68⟩ := own_gen X68 (Fr.snoc X68 N58 g_b1)
          have O68 := O58.wr W68 g_b1
          have hk68 := Nat.le_trans hk58 (Nat.le_of_eq W68.size.symm)
          have V_b1 : Arv Z h68 b1 k1 .char (9 : Int32) [(.int c0), (.int c1), (.int c2), (.int c3), (.int c4), (.int c5), (.int c6), (.int c7), (.int (nar .char ((p5 &&& (255 : Int32)).toUInt32.toUInt16.toUInt32.toInt32)))] (.int (0 : Int32)) := V68
          refine GoV.st st68 ?_
          show GoV p e below s _ _ _ (T68.setTop (mkF m 337 #[.val (.int p0), .val (.int p1), .val (.long p2), .second, .val (.int p4), .val (.int p5), .val (.int (p0 &&& (3 : Int32))), .val (.ref b1), .val (.int n), .unset, .unset, .unset] []))
          exact J337 c0 c1 c2 c3 c4 c5 c6 c7 (nar .char ((p5 &&& (255 : Int32)).toUInt32.toUInt16.toUInt32.toInt32)) n _ _ _ X68 e68 N68 O68 hk68 V_b1 hc0 hc1 hc2 hc3 hc4 hc5 hc6 hc7 (own_ch _) hn
    refine GoV.st (fun _ kq_ => XS.iload X1.here hx rfl (hb hby at_11) rfl kq_) ?_
    show GoV p e below s _ _ _ (T1.setTop (mkF m 13 #[.val (.int p0), .val (.int p1), .val (.long p2), .second, .val (.int p4), .val (.int p5), .val (.int (p0 &&& (3 : Int32))), .val (.ref b1), .unset, .unset, .unset, .unset] [(.int (p0 &&& (3 : Int32)))]))
    by_cases c13_69 : (p0 &&& (3 : Int32)) = (0 : Int32)
    · refine GoV.st (fun _ kq_ => XS.ifNo X1.here hx rfl (hb hby at_13) rfl (XT.i0_ne_f c13_69) kq_) ?_
      show GoV p e below s _ _ _ (T1.setTop (mkF m 16 #[.val (.int p0), .val (.int p1), .val (.long p2), .second, .val (.int p4), .val (.int p5), .val (.int (p0 &&& (3 : Int32))), .val (.ref b1), .unset, .unset, .unset, .unset] []))
      refine GoV.st (fun _ kq_ => XS.aload X1.here hx rfl (hb hby at_16) rfl rfl kq_) ?_
      show GoV p e below s _ _ _ (T1.setTop (mkF m 18 #[.val (.int p0), .val (.int p1), .val (.long p2), .second, .val (.int p4), .val (.int p5), .val (.int (p0 &&& (3 : Int32))), .val (.ref b1), .unset, .unset, .unset, .unset] [(.ref b1)]))
      refine GoV.st (fun _ kq_ => XS.iconst X1.here hx rfl (hb hby at_18) kq_) ?_
      show GoV p e below s _ _ _ (T1.setTop (mkF m 19 #[.val (.int p0), .val (.int p1), .val (.long p2), .second, .val (.int p4), .val (.int p5), .val (.int (p0 &&& (3 : Int32))), .val (.ref b1), .unset, .unset, .unset, .unset] [(.int (0 : Int32)), (.ref b1)]))
      refine GoV.st (fun _ kq_ => XS.bipush X1.here hx rfl (hb hby at_19) kq_) ?_
      show GoV p e below s _ _ _ (T1.setTop (mkF m 21 #[.val (.int p0), .val (.int p1), .val (.long p2), .second, .val (.int p4), .val (.int p5), .val (.int (p0 &&& (3 : Int32))), .val (.ref b1), .unset, .unset, .unset, .unset] [(.int (115 : Int32)), (.int (0 : Int32)), (.ref b1)]))
      obtain ⟨T70, h70, X70, e70, W70, V70, st70⟩ := own_stC X1 hx hZ e1 V_b1 (j := (0 : Int32)) (by decide) (by decide) 0 rfl (Nat.le_of_ble_eq_true rfl) (g := (mkF m 21 #[.val (.int p0), .val (.int p1), .val (.long p2), .second, .val (.int p4), .val (.int p5), .val (.int (p0 &&& (3 : Int32))), .val (.ref b1), .unset, .unset, .unset, .unset] [(.int (115 : Int32)), (.int (0 : Int32)), (.ref b1)])) rfl rfl (hb hby at_21)
      obtain ⟨lc70, X70, N70⟩ := own_gen X70 (Fr.snoc X70 N0 g_b1)
      have O70 := O1.wr W70 g_b1
      have hk70 := Nat.le_trans hk1 (Nat.le_of_eq W70.size.symm)
      have V_b1 : Arv Z h70 b1 k1 .char (9 : Int32) [(.int (115 : Int32)), (.int (0 : Int32)), (.int (0 : Int32)), (.int (0 : Int32)), (.int (0 : Int32)), (.int (0 : Int32)), (.int (0 : Int32)), (.int (0 : Int32)), (.int (0 : Int32))] (.int (0 : Int32)) := V70
      refine GoV.st st70 ?_
      show GoV p e below s _ _ _ (T70.setTop (mkF m 22 #[.val (.int p0), .val (.int p1), .val (.long p2), .second, .val (.int p4), .val (.int p5), .val (.int (p0 &&& (3 : Int32))), .val (.ref b1), .unset, .unset, .unset, .unset] []))
      refine GoV.st (fun _ kq_ => XS.aload X70.here hx rfl (hb hby at_22) rfl rfl kq_) ?_
      show GoV p e below s _ _ _ (T70.setTop (mkF m 24 #[.val (.int p0), .val (.int p1), .val (.long p2), .second, .val (.int p4), .val (.int p5), .val (.int (p0 &&& (3 : Int32))), .val (.ref b1), .unset, .unset, .unset, .unset] [(.ref b1)]))
      refine GoV.st (fun _ kq_ => XS.iconst X70.here hx rfl (hb hby at_24) kq_) ?_
      show GoV p e below s _ _ _ (T70.setTop (mkF m 25 #[.val (.int p0), .val (.int p1), .val (.long p2), .second, .val (.int p4), .val (.int p5), .val (.int (p0 &&& (3 : Int32))), .val (.ref b1), .unset, .unset, .unset, .unset] [(.int (1 : Int32)), (.ref b1)]))
      refine GoV.st (fun _ kq_ => XS.bipush X70.here hx rfl (hb hby at_25) kq_) ?_
      show GoV p e below s _ _ _ (T70.setTop (mkF m 27 #[.val (.int p0), .val (.int p1), .val (.long p2), .second, .val (.int p4), .val (.int p5), .val (.int (p0 &&& (3 : Int32))), .val (.ref b1), .unset, .unset, .unset, .unset] [(.int (105 : Int32)), (.int (1 : Int32)), (.ref b1)]))
      obtain ⟨T71, h71, X71, e71, W71, V71, st71⟩ := own_stC X70 hx hZ e70 V_b1 (j := (1 : Int32)) (by decide) (by decide) 1 rfl (Nat.le_of_ble_eq_true rfl) (g := (mkF m 27 #[.val (.int p0), .val (.int p1), .val (.long p2), .second, .val (.int p4), .val (.int p5), .val (.int (p0 &&& (3 : Int32))), .val (.ref b1), .unset, .unset, .unset, .unset] [(.int (105 : Int32)), (.int (1 : Int32)), (.ref b1)])) rfl rfl (hb hby at_27)
      obtain ⟨lc71, X71, N71⟩ := own_gen X71 (Fr.snoc X71 N70 g_b1)
      have O71 := O70.wr W71 g_b1
      have hk71 := Nat.le_trans hk70 (Nat.le_of_eq W71.size.symm)
      have V_b1 : Arv Z h71 b1 k1 .char (9 : Int32) [(.int (115 : Int32)), (.int (105 : Int32)), (.int (0 : Int32)), (.int (0 : Int32)), (.int (0 : Int32)), (.int (0 : Int32)), (.int (0 : Int32)), (.int (0 : Int32)), (.int (0 : Int32))] (.int (0 : Int32)) := V71
      refine GoV.st st71 ?_
      show GoV p e below s _ _ _ (T71.setTop (mkF m 28 #[.val (.int p0), .val (.int p1), .val (.long p2), .second, .val (.int p4), .val (.int p5), .val (.int (p0 &&& (3 : Int32))), .val (.ref b1), .unset, .unset, .unset, .unset] []))
      refine GoV.st (fun _ kq_ => XS.aload X71.here hx rfl (hb hby at_28) rfl rfl kq_) ?_
      show GoV p e below s _ _ _ (T71.setTop (mkF m 30 #[.val (.int p0), .val (.int p1), .val (.long p2), .second, .val (.int p4), .val (.int p5), .val (.int (p0 &&& (3 : Int32))), .val (.ref b1), .unset, .unset, .unset, .unset] [(.ref b1)]))
      refine GoV.st (fun _ kq_ => XS.iconst X71.here hx rfl (hb hby at_30) kq_) ?_
      show GoV p e below s _ _ _ (T71.setTop (mkF m 31 #[.val (.int p0), .val (.int p1), .val (.long p2), .second, .val (.int p4), .val (.int p5), .val (.int (p0 &&& (3 : Int32))), .val (.ref b1), .unset, .unset, .unset, .unset] [(.int (2 : Int32)), (.ref b1)]))
      refine GoV.st (fun _ kq_ => XS.bipush X71.here hx rfl (hb hby at_31) kq_) ?_
      show GoV p e below s _ _ _ (T71.setTop (mkF m 33 #[.val (.int p0), .val (.int p1), .val (.long p2), .second, .val (.int p4), .val (.int p5), .val (.int (p0 &&& (3 : Int32))), .val (.ref b1), .unset, .unset, .unset, .unset] [(.int (110 : Int32)), (.int (2 : Int32)), (.ref b1)]))
      obtain ⟨T72, h72, X72, e72, W72, V72, st72⟩ := own_stC X71 hx hZ e71 V_b1 (j := (2 : Int32)) (by decide) (by decide) 2 rfl (Nat.le_of_ble_eq_true rfl) (g := (mkF m 33 #[.val (.int p0), .val (.int p1), .val (.long p2), .second, .val (.int p4), .val (.int p5), .val (.int (p0 &&& (3 : Int32))), .val (.ref b1), .unset, .unset, .unset, .unset] [(.int (110 : Int32)), (.int (2 : Int32)), (.ref b1)])) rfl rfl (hb hby at_33)
      obtain ⟨lc72, X72, N72⟩ := own_gen X72 (Fr.snoc X72 N71 g_b1)
      have O72 := O71.wr W72 g_b1
      have hk72 := Nat.le_trans hk71 (Nat.le_of_eq W72.size.symm)
      have V_b1 : Arv Z h72 b1 k1 .char (9 : Int32) [(.int (115 : Int32)), (.int (105 : Int32)), (.int (110 : Int32)), (.int (0 : Int32)), (.int (0 : Int32)), (.int (0 : Int32)), (.int (0 : Int32)), (.int (0 : Int32)), (.int (0 : Int32))] (.int (0 : Int32)) := V72
      refine GoV.st st72 ?_
      show GoV p e below s _ _ _ (T72.setTop (mkF m 34 #[.val (.int p0), .val (.int p1), .val (.long p2), .second, .val (.int p4), .val (.int p5), .val (.int (p0 &&& (3 : Int32))), .val (.ref b1), .unset, .unset, .unset, .unset] []))
      refine GoV.st (fun _ kq_ => XS.aload X72.here hx rfl (hb hby at_34) rfl rfl kq_) ?_
      show GoV p e below s _ _ _ (T72.setTop (mkF m 36 #[.val (.int p0), .val (.int p1), .val (.long p2), .second, .val (.int p4), .val (.int p5), .val (.int (p0 &&& (3 : Int32))), .val (.ref b1), .unset, .unset, .unset, .unset] [(.ref b1)]))
      refine GoV.st (fun _ kq_ => XS.iconst X72.here hx rfl (hb hby at_36) kq_) ?_
      show GoV p e below s _ _ _ (T72.setTop (mkF m 37 #[.val (.int p0), .val (.int p1), .val (.long p2), .second, .val (.int p4), .val (.int p5), .val (.int (p0 &&& (3 : Int32))), .val (.ref b1), .unset, .unset, .unset, .unset] [(.int (3 : Int32)), (.ref b1)]))
      refine GoV.st (fun _ kq_ => XS.bipush X72.here hx rfl (hb hby at_37) kq_) ?_
      show GoV p e below s _ _ _ (T72.setTop (mkF m 39 #[.val (.int p0), .val (.int p1), .val (.long p2), .second, .val (.int p4), .val (.int p5), .val (.int (p0 &&& (3 : Int32))), .val (.ref b1), .unset, .unset, .unset, .unset] [(.int (103 : Int32)), (.int (3 : Int32)), (.ref b1)]))
      obtain ⟨T73, h73, X73, e73, W73, V73, st73⟩ := own_stC X72 hx hZ e72 V_b1 (j := (3 : Int32)) (by decide) (by decide) 3 rfl (Nat.le_of_ble_eq_true rfl) (g := (mkF m 39 #[.val (.int p0), .val (.int p1), .val (.long p2), .second, .val (.int p4), .val (.int p5), .val (.int (p0 &&& (3 : Int32))), .val (.ref b1), .unset, .unset, .unset, .unset] [(.int (103 : Int32)), (.int (3 : Int32)), (.ref b1)])) rfl rfl (hb hby at_39)
      obtain ⟨lc73, X73, N73⟩ := own_gen X73 (Fr.snoc X73 N72 g_b1)
      have O73 := O72.wr W73 g_b1
      have hk73 := Nat.le_trans hk72 (Nat.le_of_eq W73.size.symm)
      have V_b1 : Arv Z h73 b1 k1 .char (9 : Int32) [(.int (115 : Int32)), (.int (105 : Int32)), (.int (110 : Int32)), (.int (103 : Int32)), (.int (0 : Int32)), (.int (0 : Int32)), (.int (0 : Int32)), (.int (0 : Int32)), (.int (0 : Int32))] (.int (0 : Int32)) := V73
      refine GoV.st st73 ?_
      show GoV p e below s _ _ _ (T73.setTop (mkF m 40 #[.val (.int p0), .val (.int p1), .val (.long p2), .second, .val (.int p4), .val (.int p5), .val (.int (p0 &&& (3 : Int32))), .val (.ref b1), .unset, .unset, .unset, .unset] []))
      refine GoV.st (fun _ kq_ => XS.aload X73.here hx rfl (hb hby at_40) rfl rfl kq_) ?_
      show GoV p e below s _ _ _ (T73.setTop (mkF m 42 #[.val (.int p0), .val (.int p1), .val (.long p2), .second, .val (.int p4), .val (.int p5), .val (.int (p0 &&& (3 : Int32))), .val (.ref b1), .unset, .unset, .unset, .unset] [(.ref b1)]))
      refine GoV.st (fun _ kq_ => XS.iconst X73.here hx rfl (hb hby at_42) kq_) ?_
      show GoV p e below s _ _ _ (T73.setTop (mkF m 43 #[.val (.int p0), .val (.int p1), .val (.long p2), .second, .val (.int p4), .val (.int p5), .val (.int (p0 &&& (3 : Int32))), .val (.ref b1), .unset, .unset, .unset, .unset] [(.int (4 : Int32)), (.ref b1)]))
      refine GoV.st (fun _ kq_ => XS.bipush X73.here hx rfl (hb hby at_43) kq_) ?_
      show GoV p e below s _ _ _ (T73.setTop (mkF m 45 #[.val (.int p0), .val (.int p1), .val (.long p2), .second, .val (.int p4), .val (.int p5), .val (.int (p0 &&& (3 : Int32))), .val (.ref b1), .unset, .unset, .unset, .unset] [(.int (108 : Int32)), (.int (4 : Int32)), (.ref b1)]))
      obtain ⟨T74, h74, X74, e74, W74, V74, st74⟩ := own_stC X73 hx hZ e73 V_b1 (j := (4 : Int32)) (by decide) (by decide) 4 rfl (Nat.le_of_ble_eq_true rfl) (g := (mkF m 45 #[.val (.int p0), .val (.int p1), .val (.long p2), .second, .val (.int p4), .val (.int p5), .val (.int (p0 &&& (3 : Int32))), .val (.ref b1), .unset, .unset, .unset, .unset] [(.int (108 : Int32)), (.int (4 : Int32)), (.ref b1)])) rfl rfl (hb hby at_45)
      obtain ⟨lc74, X74, N74⟩ := own_gen X74 (Fr.snoc X74 N73 g_b1)
      have O74 := O73.wr W74 g_b1
      have hk74 := Nat.le_trans hk73 (Nat.le_of_eq W74.size.symm)
      have V_b1 : Arv Z h74 b1 k1 .char (9 : Int32) [(.int (115 : Int32)), (.int (105 : Int32)), (.int (110 : Int32)), (.int (103 : Int32)), (.int (108 : Int32)), (.int (0 : Int32)), (.int (0 : Int32)), (.int (0 : Int32)), (.int (0 : Int32))] (.int (0 : Int32)) := V74
      refine GoV.st st74 ?_
      show GoV p e below s _ _ _ (T74.setTop (mkF m 46 #[.val (.int p0), .val (.int p1), .val (.long p2), .second, .val (.int p4), .val (.int p5), .val (.int (p0 &&& (3 : Int32))), .val (.ref b1), .unset, .unset, .unset, .unset] []))
      refine GoV.st (fun _ kq_ => XS.aload X74.here hx rfl (hb hby at_46) rfl rfl kq_) ?_
      show GoV p e below s _ _ _ (T74.setTop (mkF m 48 #[.val (.int p0), .val (.int p1), .val (.long p2), .second, .val (.int p4), .val (.int p5), .val (.int (p0 &&& (3 : Int32))), .val (.ref b1), .unset, .unset, .unset, .unset] [(.ref b1)]))
      refine GoV.st (fun _ kq_ => XS.iconst X74.here hx rfl (hb hby at_48) kq_) ?_
      show GoV p e below s _ _ _ (T74.setTop (mkF m 49 #[.val (.int p0), .val (.int p1), .val (.long p2), .second, .val (.int p4), .val (.int p5), .val (.int (p0 &&& (3 : Int32))), .val (.ref b1), .unset, .unset, .unset, .unset] [(.int (5 : Int32)), (.ref b1)]))
      refine GoV.st (fun _ kq_ => XS.bipush X74.here hx rfl (hb hby at_49) kq_) ?_
      show GoV p e below s _ _ _ (T74.setTop (mkF m 51 #[.val (.int p0), .val (.int p1), .val (.long p2), .second, .val (.int p4), .val (.int p5), .val (.int (p0 &&& (3 : Int32))), .val (.ref b1), .unset, .unset, .unset, .unset] [(.int (101 : Int32)), (.int (5 : Int32)), (.ref b1)]))
      obtain ⟨T75, h75, X75, e75, W75, V75, st75⟩ := own_stC X74 hx hZ e74 V_b1 (j := (5 : Int32)) (by decide) (by decide) 5 rfl (Nat.le_of_ble_eq_true rfl) (g := (mkF m 51 #[.val (.int p0), .val (.int p1), .val (.long p2), .second, .val (.int p4), .val (.int p5), .val (.int (p0 &&& (3 : Int32))), .val (.ref b1), .unset, .unset, .unset, .unset] [(.int (101 : Int32)), (.int (5 : Int32)), (.ref b1)])) rfl rfl (hb hby at_51)
      obtain ⟨lc75, X75, N75⟩ := own_gen X75 (Fr.snoc X75 N74 g_b1)
      have O75 := O74.wr W75 g_b1
      have hk75 := Nat.le_trans hk74 (Nat.le_of_eq W75.size.symm)
      have V_b1 : Arv Z h75 b1 k1 .char (9 : Int32) [(.int (115 : Int32)), (.int (105 : Int32)), (.int (110 : Int32)), (.int (103 : Int32)), (.int (108 : Int32)), (.int (101 : Int32)), (.int (0 : Int32)), (.int (0 : Int32)), (.int (0 : Int32))] (.int (0 : Int32)) := V75
      refine GoV.st st75 ?_
      show GoV p e below s _ _ _ (T75.setTop (mkF m 52 #[.val (.int p0), .val (.int p1), .val (.long p2), .second, .val (.int p4), .val (.int p5), .val (.int (p0 &&& (3 : Int32))), .val (.ref b1), .unset, .unset, .unset, .unset] []))
      refine GoV.st (fun _ kq_ => XS.aload X75.here hx rfl (hb hby at_52) rfl rfl kq_) ?_
      show GoV p e below s _ _ _ (T75.setTop (mkF m 54 #[.val (.int p0), .val (.int p1), .val (.long p2), .second, .val (.int p4), .val (.int p5), .val (.int (p0 &&& (3 : Int32))), .val (.ref b1), .unset, .unset, .unset, .unset] [(.ref b1)]))
      refine GoV.st (fun _ kq_ => XS.bipush X75.here hx rfl (hb hby at_54) kq_) ?_
      show GoV p e below s _ _ _ (T75.setTop (mkF m 56 #[.val (.int p0), .val (.int p1), .val (.long p2), .second, .val (.int p4), .val (.int p5), .val (.int (p0 &&& (3 : Int32))), .val (.ref b1), .unset, .unset, .unset, .unset] [(.int (6 : Int32)), (.ref b1)]))
      refine GoV.st (fun _ kq_ => XT.lloadN X75.here hx rfl (hb hby at_56) rfl kq_) ?_
      show GoV p e below s _ _ _ (T75.setTop (mkF m 57 #[.val (.int p0), .val (.int p1), .val (.long p2), .second, .val (.int p4), .val (.int p5), .val (.int (p0 &&& (3 : Int32))), .val (.ref b1), .unset, .unset, .unset, .unset] [(.long p2), (.int (6 : Int32)), (.ref b1)]))
      refine GoV.st (fun _ kq_ => X75.ldc2J hx hown (mvT hZ (own_w hw 1 rfl)) rfl (hb hby at_57) kq_) ?_
      show GoV p e below s _ _ _ (T75.setTop (mkF m 60 #[.val (.int p0), .val (.int p1), .val (.long p2), .second, .val (.int p4), .val (.int p5), .val (.int (p0 &&& (3 : Int32))), .val (.ref b1), .unset, .unset, .unset, .unset] [(.long (255 : Int64)), (.long p2), (.int (6 : Int32)), (.ref b1)]))
      refine GoV.st (fun _ kq_ => XT.land X75.here hx rfl (hb hby at_60) rfl kq_) ?_
      show GoV p e below s _ _ _ (T75.setTop (mkF m 61 #[.val (.int p0), .val (.int p1), .val (.long p2), .second, .val (.int p4), .val (.int p5), .val (.int (p0 &&& (3 : Int32))), .val (.ref b1), .unset, .unset, .unset, .unset] [(.long (p2 &&& (255 : Int64))), (.int (6 : Int32)), (.ref b1)]))
      refine GoV.st (fun _ kq_ => XT.l2i X75.here hx rfl (hb hby at_61) rfl kq_) ?_
      show GoV p e below s _ _ _ (T75.setTop (mkF m 62 #[.val (.int p0), .val (.int p1), .val (.long p2), .second, .val (.int p4), .val (.int p5), .val (.int (p0 &&& (3 : Int32))), .val (.ref b1), .unset, .unset, .unset, .unset] [(.int ((p2 &&& (255 : Int64)).toInt32)), (.int (6 : Int32)), (.ref b1)]))
      refine GoV.st (fun _ kq_ => XT.i2c X75.here hx rfl (hb hby at_62) rfl kq_) ?_
      show GoV p e below s _ _ _ (T75.setTop (mkF m 63 #[.val (.int p0), .val (.int p1), .val (.long p2), .second, .val (.int p4), .val (.int p5), .val (.int (p0 &&& (3 : Int32))), .val (.ref b1), .unset, .unset, .unset, .unset] [(.int (((p2 &&& (255 : Int64)).toInt32).toUInt32.toUInt16.toUInt32.toInt32)), (.int (6 : Int32)), (.ref b1)]))
      obtain ⟨T76, h76, X76, e76, W76, V76, st76⟩ := own_stC X75 hx hZ e75 V_b1 (j := (6 : Int32)) (by decide) (by decide) 6 rfl (Nat.le_of_ble_eq_true rfl) (g := (mkF m 63 #[.val (.int p0), .val (.int p1), .val (.long p2), .second, .val (.int p4), .val (.int p5), .val (.int (p0 &&& (3 : Int32))), .val (.ref b1), .unset, .unset, .unset, .unset] [(.int (((p2 &&& (255 : Int64)).toInt32).toUInt32.toUInt16.toUInt32.toInt32)), (.int (6 : Int32)), (.ref b1)])) rfl rfl (hb hby at_63)
      obtain ⟨lc76, X76, N76⟩ := own_gen X76 (Fr.snoc X76 N75 g_b1)
      have O76 := O75.wr W76 g_b1
      have hk76 := Nat.le_trans hk75 (Nat.le_of_eq W76.size.symm)
      have V_b1 : Arv Z h76 b1 k1 .char (9 : Int32) [(.int (115 : Int32)), (.int (105 : Int32)), (.int (110 : Int32)), (.int (103 : Int32)), (.int (108 : Int32)), (.int (101 : Int32)), (.int (nar .char (((p2 &&& (255 : Int64)).toInt32).toUInt32.toUInt16.toUInt32.toInt32))), (.int (0 : Int32)), (.int (0 : Int32))] (.int (0 : Int32)) := V76
      refine GoV.st st76 ?_
      show GoV p e below s _ _ _ (T76.setTop (mkF m 64 #[.val (.int p0), .val (.int p1), .val (.long p2), .second, .val (.int p4), .val (.int p5), .val (.int (p0 &&& (3 : Int32))), .val (.ref b1), .unset, .unset, .unset, .unset] []))
      refine GoV.st (fun _ kq_ => XS.aload X76.here hx rfl (hb hby at_64) rfl rfl kq_) ?_
      show GoV p e below s _ _ _ (T76.setTop (mkF m 66 #[.val (.int p0), .val (.int p1), .val (.long p2), .second, .val (.int p4), .val (.int p5), .val (.int (p0 &&& (3 : Int32))), .val (.ref b1), .unset, .unset, .unset, .unset] [(.ref b1)]))
      refine GoV.st (fun _ kq_ => XS.bipush X76.here hx rfl (hb hby at_66) kq_) ?_
      show GoV p e below s _ _ _ (T76.setTop (mkF m 68 #[.val (.int p0), .val (.int p1), .val (.long p2), .second, .val (.int p4), .val (.int p5), .val (.int (p0 &&& (3 : Int32))), .val (.ref b1), .unset, .unset, .unset, .unset] [(.int (7 : Int32)), (.ref b1)]))
      refine GoV.st (fun _ kq_ => XT.lloadN X76.here hx rfl (hb hby at_68) rfl kq_) ?_
      show GoV p e below s _ _ _ (T76.setTop (mkF m 69 #[.val (.int p0), .val (.int p1), .val (.long p2), .second, .val (.int p4), .val (.int p5), .val (.int (p0 &&& (3 : Int32))), .val (.ref b1), .unset, .unset, .unset, .unset] [(.long p2), (.int (7 : Int32)), (.ref b1)]))
      refine GoV.st (fun _ kq_ => XS.bipush X76.here hx rfl (hb hby at_69) kq_) ?_
      show GoV p e below s _ _ _ (T76.setTop (mkF m 71 #[.val (.int p0), .val (.int p1), .val (.long p2), .second, .val (.int p4), .val (.int p5), .val (.int (p0 &&& (3 : Int32))), .val (.ref b1), .unset, .unset, .unset, .unset] [(.int (8 : Int32)), (.long p2), (.int (7 : Int32)), (.ref b1)]))
      refine GoV.st (fun _ kq_ => XT.lushr X76.here hx rfl (hb hby at_71) rfl kq_) ?_
      show GoV p e below s _ _ _ (T76.setTop (mkF m 72 #[.val (.int p0), .val (.int p1), .val (.long p2), .second, .val (.int p4), .val (.int p5), .val (.int (p0 &&& (3 : Int32))), .val (.ref b1), .unset, .unset, .unset, .unset] [(.long (XT.ushrL p2 (8 : Int32))), (.int (7 : Int32)), (.ref b1)]))
      refine GoV.st (fun _ kq_ => X76.ldc2J hx hown (mvT hZ (own_w hw 1 rfl)) rfl (hb hby at_72) kq_) ?_
      show GoV p e below s _ _ _ (T76.setTop (mkF m 75 #[.val (.int p0), .val (.int p1), .val (.long p2), .second, .val (.int p4), .val (.int p5), .val (.int (p0 &&& (3 : Int32))), .val (.ref b1), .unset, .unset, .unset, .unset] [(.long (255 : Int64)), (.long (XT.ushrL p2 (8 : Int32))), (.int (7 : Int32)), (.ref b1)]))
      refine GoV.st (fun _ kq_ => XT.land X76.here hx rfl (hb hby at_75) rfl kq_) ?_
      show GoV p e below s _ _ _ (T76.setTop (mkF m 76 #[.val (.int p0), .val (.int p1), .val (.long p2), .second, .val (.int p4), .val (.int p5), .val (.int (p0 &&& (3 : Int32))), .val (.ref b1), .unset, .unset, .unset, .unset] [(.long ((XT.ushrL p2 (8 : Int32)) &&& (255 : Int64))), (.int (7 : Int32)), (.ref b1)]))
      refine GoV.st (fun _ kq_ => XT.l2i X76.here hx rfl (hb hby at_76) rfl kq_) ?_
      show GoV p e below s _ _ _ (T76.setTop (mkF m 77 #[.val (.int p0), .val (.int p1), .val (.long p2), .second, .val (.int p4), .val (.int p5), .val (.int (p0 &&& (3 : Int32))), .val (.ref b1), .unset, .unset, .unset, .unset] [(.int (((XT.ushrL p2 (8 : Int32)) &&& (255 : Int64)).toInt32)), (.int (7 : Int32)), (.ref b1)]))
      refine GoV.st (fun _ kq_ => XT.i2c X76.here hx rfl (hb hby at_77) rfl kq_) ?_
      show GoV p e below s _ _ _ (T76.setTop (mkF m 78 #[.val (.int p0), .val (.int p1), .val (.long p2), .second, .val (.int p4), .val (.int p5), .val (.int (p0 &&& (3 : Int32))), .val (.ref b1), .unset, .unset, .unset, .unset] [(.int ((((XT.ushrL p2 (8 : Int32)) &&& (255 : Int64)).toInt32).toUInt32.toUInt16.toUInt32.toInt32)), (.int (7 : Int32)), (.ref b1)]))
      obtain ⟨T77, h77, X77, e77, W77, V77, st77⟩ := own_stC X76 hx hZ e76 V_b1 (j := (7 : Int32)) (by decide) (by decide) 7 rfl (Nat.le_of_ble_eq_true rfl) (g := (mkF m 78 #[.val (.int p0), .val (.int p1), .val (.long p2), .second, .val (.int p4), .val (.int p5), .val (.int (p0 &&& (3 : Int32))), .val (.ref b1), .unset, .unset, .unset, .unset] [(.int ((((XT.ushrL p2 (8 : Int32)) &&& (255 : Int64)).toInt32).toUInt32.toUInt16.toUInt32.toInt32)), (.int (7 : Int32)), (.ref b1)])) rfl rfl (hb hby at_78)
      obtain ⟨lc77, X77, N77⟩ := own_gen X77 (Fr.snoc X77 N76 g_b1)
      have O77 := O76.wr W77 g_b1
      have hk77 := Nat.le_trans hk76 (Nat.le_of_eq W77.size.symm)
      have V_b1 : Arv Z h77 b1 k1 .char (9 : Int32) [(.int (115 : Int32)), (.int (105 : Int32)), (.int (110 : Int32)), (.int (103 : Int32)), (.int (108 : Int32)), (.int (101 : Int32)), (.int (nar .char (((p2 &&& (255 : Int64)).toInt32).toUInt32.toUInt16.toUInt32.toInt32))), (.int (nar .char ((((XT.ushrL p2 (8 : Int32)) &&& (255 : Int64)).toInt32).toUInt32.toUInt16.toUInt32.toInt32))), (.int (0 : Int32))] (.int (0 : Int32)) := V77
      refine GoV.st st77 ?_
      show GoV p e below s _ _ _ (T77.setTop (mkF m 79 #[.val (.int p0), .val (.int p1), .val (.long p2), .second, .val (.int p4), .val (.int p5), .val (.int (p0 &&& (3 : Int32))), .val (.ref b1), .unset, .unset, .unset, .unset] []))
      refine GoV.st (fun _ kq_ => XS.aload X77.here hx rfl (hb hby at_79) rfl rfl kq_) ?_
      show GoV p e below s _ _ _ (T77.setTop (mkF m 81 #[.val (.int p0), .val (.int p1), .val (.long p2), .second, .val (.int p4), .val (.int p5), .val (.int (p0 &&& (3 : Int32))), .val (.ref b1), .unset, .unset, .unset, .unset] [(.ref b1)]))
      refine GoV.st (fun _ kq_ => XS.bipush X77.here hx rfl (hb hby at_81) kq_) ?_
      show GoV p e below s _ _ _ (T77.setTop (mkF m 83 #[.val (.int p0), .val (.int p1), .val (.long p2), .second, .val (.int p4), .val (.int p5), .val (.int (p0 &&& (3 : Int32))), .val (.ref b1), .unset, .unset, .unset, .unset] [(.int (8 : Int32)), (.ref b1)]))
      refine GoV.st (fun _ kq_ => XT.lloadN X77.here hx rfl (hb hby at_83) rfl kq_) ?_
      show GoV p e below s _ _ _ (T77.setTop (mkF m 84 #[.val (.int p0), .val (.int p1), .val (.long p2), .second, .val (.int p4), .val (.int p5), .val (.int (p0 &&& (3 : Int32))), .val (.ref b1), .unset, .unset, .unset, .unset] [(.long p2), (.int (8 : Int32)), (.ref b1)]))
      refine GoV.st (fun _ kq_ => XS.bipush X77.here hx rfl (hb hby at_84) kq_) ?_
      show GoV p e below s _ _ _ (T77.setTop (mkF m 86 #[.val (.int p0), .val (.int p1), .val (.long p2), .second, .val (.int p4), .val (.int p5), .val (.int (p0 &&& (3 : Int32))), .val (.ref b1), .unset, .unset, .unset, .unset] [(.int (16 : Int32)), (.long p2), (.int (8 : Int32)), (.ref b1)]))
      refine GoV.st (fun _ kq_ => XT.lushr X77.here hx rfl (hb hby at_86) rfl kq_) ?_
      show GoV p e below s _ _ _ (T77.setTop (mkF m 87 #[.val (.int p0), .val (.int p1), .val (.long p2), .second, .val (.int p4), .val (.int p5), .val (.int (p0 &&& (3 : Int32))), .val (.ref b1), .unset, .unset, .unset, .unset] [(.long (XT.ushrL p2 (16 : Int32))), (.int (8 : Int32)), (.ref b1)]))
      refine GoV.st (fun _ kq_ => X77.ldc2J hx hown (mvT hZ (own_w hw 1 rfl)) rfl (hb hby at_87) kq_) ?_
      show GoV p e below s _ _ _ (T77.setTop (mkF m 90 #[.val (.int p0), .val (.int p1), .val (.long p2), .second, .val (.int p4), .val (.int p5), .val (.int (p0 &&& (3 : Int32))), .val (.ref b1), .unset, .unset, .unset, .unset] [(.long (255 : Int64)), (.long (XT.ushrL p2 (16 : Int32))), (.int (8 : Int32)), (.ref b1)]))
      refine GoV.st (fun _ kq_ => XT.land X77.here hx rfl (hb hby at_90) rfl kq_) ?_
      show GoV p e below s _ _ _ (T77.setTop (mkF m 91 #[.val (.int p0), .val (.int p1), .val (.long p2), .second, .val (.int p4), .val (.int p5), .val (.int (p0 &&& (3 : Int32))), .val (.ref b1), .unset, .unset, .unset, .unset] [(.long ((XT.ushrL p2 (16 : Int32)) &&& (255 : Int64))), (.int (8 : Int32)), (.ref b1)]))
      refine GoV.st (fun _ kq_ => XT.l2i X77.here hx rfl (hb hby at_91) rfl kq_) ?_
      show GoV p e below s _ _ _ (T77.setTop (mkF m 92 #[.val (.int p0), .val (.int p1), .val (.long p2), .second, .val (.int p4), .val (.int p5), .val (.int (p0 &&& (3 : Int32))), .val (.ref b1), .unset, .unset, .unset, .unset] [(.int (((XT.ushrL p2 (16 : Int32)) &&& (255 : Int64)).toInt32)), (.int (8 : Int32)), (.ref b1)]))
      refine GoV.st (fun _ kq_ => XT.i2c X77.here hx rfl (hb hby at_92) rfl kq_) ?_
      show GoV p e below s _ _ _ (T77.setTop (mkF m 93 #[.val (.int p0), .val (.int p1), .val (.long p2), .second, .val (.int p4), .val (.int p5), .val (.int (p0 &&& (3 : Int32))), .val (.ref b1), .unset, .unset, .unset, .unset] [(.int ((((XT.ushrL p2 (16 : Int32)) &&& (255 : Int64)).toInt32).toUInt32.toUInt16.toUInt32.toInt32)), (.int (8 : Int32)), (.ref b1)]))
      obtain ⟨T78, h78, X78, e78, W78, V78, st78⟩ := own_stC X77 hx hZ e77 V_b1 (j := (8 : Int32)) (by decide) (by decide) 8 rfl (Nat.le_of_ble_eq_true rfl) (g := (mkF m 93 #[.val (.int p0), .val (.int p1), .val (.long p2), .second, .val (.int p4), .val (.int p5), .val (.int (p0 &&& (3 : Int32))), .val (.ref b1), .unset, .unset, .unset, .unset] [(.int ((((XT.ushrL p2 (16 : Int32)) &&& (255 : Int64)).toInt32).toUInt32.toUInt16.toUInt32.toInt32)), (.int (8 : Int32)), (.ref b1)])) rfl rfl (hb hby at_93)
      obtain ⟨lc78, X78, N78⟩ := own_gen X78 (Fr.snoc X78 N77 g_b1)
      have O78 := O77.wr W78 g_b1
      have hk78 := Nat.le_trans hk77 (Nat.le_of_eq W78.size.symm)
      have V_b1 : Arv Z h78 b1 k1 .char (9 : Int32) [(.int (115 : Int32)), (.int (105 : Int32)), (.int (110 : Int32)), (.int (103 : Int32)), (.int (108 : Int32)), (.int (101 : Int32)), (.int (nar .char (((p2 &&& (255 : Int64)).toInt32).toUInt32.toUInt16.toUInt32.toInt32))), (.int (nar .char ((((XT.ushrL p2 (8 : Int32)) &&& (255 : Int64)).toInt32).toUInt32.toUInt16.toUInt32.toInt32))), (.int (nar .char ((((XT.ushrL p2 (16 : Int32)) &&& (255 : Int64)).toInt32).toUInt32.toUInt16.toUInt32.toInt32)))] (.int (0 : Int32)) := V78
      refine GoV.st st78 ?_
      show GoV p e below s _ _ _ (T78.setTop (mkF m 94 #[.val (.int p0), .val (.int p1), .val (.long p2), .second, .val (.int p4), .val (.int p5), .val (.int (p0 &&& (3 : Int32))), .val (.ref b1), .unset, .unset, .unset, .unset] []))
      refine GoV.st (fun _ kq_ => XS.bipush X78.here hx rfl (hb hby at_94) kq_) ?_
      show GoV p e below s _ _ _ (T78.setTop (mkF m 96 #[.val (.int p0), .val (.int p1), .val (.long p2), .second, .val (.int p4), .val (.int p5), .val (.int (p0 &&& (3 : Int32))), .val (.ref b1), .unset, .unset, .unset, .unset] [(.int (6 : Int32))]))
      refine GoV.st (fun _ kq_ => XS.istore X78.here hx rfl (hb hby at_96) rfl (l' := #[.val (.int p0), .val (.int p1), .val (.long p2), .second, .val (.int p4), .val (.int p5), .val (.int (p0 &&& (3 : Int32))), .val (.ref b1), .val (.int (6 : Int32)), .unset, .unset, .unset]) rfl kq_) ?_
      show GoV p e below s _ _ _ (T78.setTop (mkF m 98 #[.val (.int p0), .val (.int p1), .val (.long p2), .second, .val (.int p4), .val (.int p5), .val (.int (p0 &&& (3 : Int32))), .val (.ref b1), .val (.int (6 : Int32)), .unset, .unset, .unset] []))
      refine GoV.st (fun _ kq_ => XS.goto X78.here hx rfl (pc0 := 98) (pc' := 311) rfl (hb hby at_98) (by decide) (by decide) kq_) ?_
      show GoV p e below s _ _ _ (T78.setTop (mkF m 311 #[.val (.int p0), .val (.int p1), .val (.long p2), .second, .val (.int p4), .val (.int p5), .val (.int (p0 &&& (3 : Int32))), .val (.ref b1), .val (.int (6 : Int32)), .unset, .unset, .unset] []))
      exact J311 (115 : Int32) (105 : Int32) (110 : Int32) (103 : Int32) (108 : Int32) (101 : Int32) (nar .char (((p2 &&& (255 : Int64)).toInt32).toUInt32.toUInt16.toUInt32.toInt32)) (nar .char ((((XT.ushrL p2 (8 : Int32)) &&& (255 : Int64)).toInt32).toUInt32.toUInt16.toUInt32.toInt32)) (nar .char ((((XT.ushrL p2 (16 : Int32)) &&& (255 : Int64)).toInt32).toUInt32.toUInt16.toUInt32.toInt32)) (6 : Int32) _ _ _ X78 e78 N78 O78 hk78 V_b1 (by decide) (by decide) (by decide) (by decide) (by decide) (by decide) (own_chJ _) (own_chJ _) (own_chJ _) (by decide)
    · refine GoV.st (fun _ kq_ => XS.ifYes X1.here hx rfl (pc0 := 13) (pc' := 101) rfl (hb hby at_13) rfl (XT.i0_ne_t c13_69) (by decide) (by decide) kq_) ?_
      show GoV p e below s _ _ _ (T1.setTop (mkF m 101 #[.val (.int p0), .val (.int p1), .val (.long p2), .second, .val (.int p4), .val (.int p5), .val (.int (p0 &&& (3 : Int32))), .val (.ref b1), .unset, .unset, .unset, .unset] []))
      refine GoV.st (fun _ kq_ => XS.iload X1.here hx rfl (hb hby at_101) rfl kq_) ?_
      show GoV p e below s _ _ _ (T1.setTop (mkF m 103 #[.val (.int p0), .val (.int p1), .val (.long p2), .second, .val (.int p4), .val (.int p5), .val (.int (p0 &&& (3 : Int32))), .val (.ref b1), .unset, .unset, .unset, .unset] [(.int (p0 &&& (3 : Int32)))]))
      refine GoV.st (fun _ kq_ => XS.iconst X1.here hx rfl (hb hby at_103) kq_) ?_
      show GoV p e below s _ _ _ (T1.setTop (mkF m 104 #[.val (.int p0), .val (.int p1), .val (.long p2), .second, .val (.int p4), .val (.int p5), .val (.int (p0 &&& (3 : Int32))), .val (.ref b1), .unset, .unset, .unset, .unset] [(.int (1 : Int32)), (.int (p0 &&& (3 : Int32)))]))
      by_cases c104_79 : (p0 &&& (3 : Int32)) = (1 : Int32)
      · refine GoV.st (fun _ kq_ => XS.icmpNo X1.here hx rfl (hb hby at_104) rfl (XT.ii_ne_f c104_79) kq_) ?_
        show GoV p e below s _ _ _ (T1.setTop (mkF m 107 #[.val (.int p0), .val (.int p1), .val (.long p2), .second, .val (.int p4), .val (.int p5), .val (.int (p0 &&& (3 : Int32))), .val (.ref b1), .unset, .unset, .unset, .unset] []))
        refine GoV.st (fun _ kq_ => XS.aload X1.here hx rfl (hb hby at_107) rfl rfl kq_) ?_
        show GoV p e below s _ _ _ (T1.setTop (mkF m 109 #[.val (.int p0), .val (.int p1), .val (.long p2), .second, .val (.int p4), .val (.int p5), .val (.int (p0 &&& (3 : Int32))), .val (.ref b1), .unset, .unset, .unset, .unset] [(.ref b1)]))
        refine GoV.st (fun _ kq_ => XS.iconst X1.here hx rfl (hb hby at_109) kq_) ?_
        show GoV p e below s _ _ _ (T1.setTop (mkF m 110 #[.val (.int p0), .val (.int p1), .val (.long p2), .second, .val (.int p4), .val (.int p5), .val (.int (p0 &&& (3 : Int32))), .val (.ref b1), .unset, .unset, .unset, .unset] [(.int (0 : Int32)), (.ref b1)]))
        refine GoV.st (fun _ kq_ => XS.bipush X1.here hx rfl (hb hby at_110) kq_) ?_
        show GoV p e below s _ _ _ (T1.setTop (mkF m 112 #[.val (.int p0), .val (.int p1), .val (.long p2), .second, .val (.int p4), .val (.int p5), .val (.int (p0 &&& (3 : Int32))), .val (.ref b1), .unset, .unset, .unset, .unset] [(.int (109 : Int32)), (.int (0 : Int32)), (.ref b1)]))
        obtain ⟨T80, h80, X80, e80, W80, V80, st80⟩ := own_stC X1 hx hZ e1 V_b1 (j := (0 : Int32)) (by decide) (by decide) 0 rfl (Nat.le_of_ble_eq_true rfl) (g := (mkF m 112 #[.val (.int p0), .val (.int p1), .val (.long p2), .second, .val (.int p4), .val (.int p5), .val (.int (p0 &&& (3 : Int32))), .val (.ref b1), .unset, .unset, .unset, .unset] [(.int (109 : Int32)), (.int (0 : Int32)), (.ref b1)])) rfl rfl (hb hby at_112)
        obtain ⟨lc80, X80, N80⟩ := own_gen X80 (Fr.snoc X80 N0 g_b1)
        have O80 := O1.wr W80 g_b1
        have hk80 := Nat.le_trans hk1 (Nat.le_of_eq W80.size.symm)
        have V_b1 : Arv Z h80 b1 k1 .char (9 : Int32) [(.int (109 : Int32)), (.int (0 : Int32)), (.int (0 : Int32)), (.int (0 : Int32)), (.int (0 : Int32)), (.int (0 : Int32)), (.int (0 : Int32)), (.int (0 : Int32)), (.int (0 : Int32))] (.int (0 : Int32)) := V80
        refine GoV.st st80 ?_
        show GoV p e below s _ _ _ (T80.setTop (mkF m 113 #[.val (.int p0), .val (.int p1), .val (.long p2), .second, .val (.int p4), .val (.int p5), .val (.int (p0 &&& (3 : Int32))), .val (.ref b1), .unset, .unset, .unset, .unset] []))
        refine GoV.st (fun _ kq_ => XS.aload X80.here hx rfl (hb hby at_113) rfl rfl kq_) ?_
        show GoV p e below s _ _ _ (T80.setTop (mkF m 115 #[.val (.int p0), .val (.int p1), .val (.long p2), .second, .val (.int p4), .val (.int p5), .val (.int (p0 &&& (3 : Int32))), .val (.ref b1), .unset, .unset, .unset, .unset] [(.ref b1)]))
        refine GoV.st (fun _ kq_ => XS.iconst X80.here hx rfl (hb hby at_115) kq_) ?_
        show GoV p e below s _ _ _ (T80.setTop (mkF m 116 #[.val (.int p0), .val (.int p1), .val (.long p2), .second, .val (.int p4), .val (.int p5), .val (.int (p0 &&& (3 : Int32))), .val (.ref b1), .unset, .unset, .unset, .unset] [(.int (1 : Int32)), (.ref b1)]))
        refine GoV.st (fun _ kq_ => XS.bipush X80.here hx rfl (hb hby at_116) kq_) ?_
        show GoV p e below s _ _ _ (T80.setTop (mkF m 118 #[.val (.int p0), .val (.int p1), .val (.long p2), .second, .val (.int p4), .val (.int p5), .val (.int (p0 &&& (3 : Int32))), .val (.ref b1), .unset, .unset, .unset, .unset] [(.int (117 : Int32)), (.int (1 : Int32)), (.ref b1)]))
        obtain ⟨T81, h81, X81, e81, W81, V81, st81⟩ := own_stC X80 hx hZ e80 V_b1 (j := (1 : Int32)) (by decide) (by decide) 1 rfl (Nat.le_of_ble_eq_true rfl) (g := (mkF m 118 #[.val (.int p0), .val (.int p1), .val (.long p2), .second, .val (.int p4), .val (.int p5), .val (.int (p0 &&& (3 : Int32))), .val (.ref b1), .unset, .unset, .unset, .unset] [(.int (117 : Int32)), (.int (1 : Int32)), (.ref b1)])) rfl rfl (hb hby at_118)
        obtain ⟨lc81, X81, N81⟩ := own_gen X81 (Fr.snoc X81 N80 g_b1)
        have O81 := O80.wr W81 g_b1
        have hk81 := Nat.le_trans hk80 (Nat.le_of_eq W81.size.symm)
        have V_b1 : Arv Z h81 b1 k1 .char (9 : Int32) [(.int (109 : Int32)), (.int (117 : Int32)), (.int (0 : Int32)), (.int (0 : Int32)), (.int (0 : Int32)), (.int (0 : Int32)), (.int (0 : Int32)), (.int (0 : Int32)), (.int (0 : Int32))] (.int (0 : Int32)) := V81
        refine GoV.st st81 ?_
        show GoV p e below s _ _ _ (T81.setTop (mkF m 119 #[.val (.int p0), .val (.int p1), .val (.long p2), .second, .val (.int p4), .val (.int p5), .val (.int (p0 &&& (3 : Int32))), .val (.ref b1), .unset, .unset, .unset, .unset] []))
        refine GoV.st (fun _ kq_ => XS.aload X81.here hx rfl (hb hby at_119) rfl rfl kq_) ?_
        show GoV p e below s _ _ _ (T81.setTop (mkF m 121 #[.val (.int p0), .val (.int p1), .val (.long p2), .second, .val (.int p4), .val (.int p5), .val (.int (p0 &&& (3 : Int32))), .val (.ref b1), .unset, .unset, .unset, .unset] [(.ref b1)]))
        refine GoV.st (fun _ kq_ => XS.iconst X81.here hx rfl (hb hby at_121) kq_) ?_
        show GoV p e below s _ _ _ (T81.setTop (mkF m 122 #[.val (.int p0), .val (.int p1), .val (.long p2), .second, .val (.int p4), .val (.int p5), .val (.int (p0 &&& (3 : Int32))), .val (.ref b1), .unset, .unset, .unset, .unset] [(.int (2 : Int32)), (.ref b1)]))
        refine GoV.st (fun _ kq_ => XS.bipush X81.here hx rfl (hb hby at_122) kq_) ?_
        show GoV p e below s _ _ _ (T81.setTop (mkF m 124 #[.val (.int p0), .val (.int p1), .val (.long p2), .second, .val (.int p4), .val (.int p5), .val (.int (p0 &&& (3 : Int32))), .val (.ref b1), .unset, .unset, .unset, .unset] [(.int (108 : Int32)), (.int (2 : Int32)), (.ref b1)]))
        obtain ⟨T82, h82, X82, e82, W82, V82, st82⟩ := own_stC X81 hx hZ e81 V_b1 (j := (2 : Int32)) (by decide) (by decide) 2 rfl (Nat.le_of_ble_eq_true rfl) (g := (mkF m 124 #[.val (.int p0), .val (.int p1), .val (.long p2), .second, .val (.int p4), .val (.int p5), .val (.int (p0 &&& (3 : Int32))), .val (.ref b1), .unset, .unset, .unset, .unset] [(.int (108 : Int32)), (.int (2 : Int32)), (.ref b1)])) rfl rfl (hb hby at_124)
        obtain ⟨lc82, X82, N82⟩ := own_gen X82 (Fr.snoc X82 N81 g_b1)
        have O82 := O81.wr W82 g_b1
        have hk82 := Nat.le_trans hk81 (Nat.le_of_eq W82.size.symm)
        have V_b1 : Arv Z h82 b1 k1 .char (9 : Int32) [(.int (109 : Int32)), (.int (117 : Int32)), (.int (108 : Int32)), (.int (0 : Int32)), (.int (0 : Int32)), (.int (0 : Int32)), (.int (0 : Int32)), (.int (0 : Int32)), (.int (0 : Int32))] (.int (0 : Int32)) := V82
        refine GoV.st st82 ?_
        show GoV p e below s _ _ _ (T82.setTop (mkF m 125 #[.val (.int p0), .val (.int p1), .val (.long p2), .second, .val (.int p4), .val (.int p5), .val (.int (p0 &&& (3 : Int32))), .val (.ref b1), .unset, .unset, .unset, .unset] []))
        refine GoV.st (fun _ kq_ => XS.aload X82.here hx rfl (hb hby at_125) rfl rfl kq_) ?_
        show GoV p e below s _ _ _ (T82.setTop (mkF m 127 #[.val (.int p0), .val (.int p1), .val (.long p2), .second, .val (.int p4), .val (.int p5), .val (.int (p0 &&& (3 : Int32))), .val (.ref b1), .unset, .unset, .unset, .unset] [(.ref b1)]))
        refine GoV.st (fun _ kq_ => XS.iconst X82.here hx rfl (hb hby at_127) kq_) ?_
        show GoV p e below s _ _ _ (T82.setTop (mkF m 128 #[.val (.int p0), .val (.int p1), .val (.long p2), .second, .val (.int p4), .val (.int p5), .val (.int (p0 &&& (3 : Int32))), .val (.ref b1), .unset, .unset, .unset, .unset] [(.int (3 : Int32)), (.ref b1)]))
        refine GoV.st (fun _ kq_ => XS.bipush X82.here hx rfl (hb hby at_128) kq_) ?_
        show GoV p e below s _ _ _ (T82.setTop (mkF m 130 #[.val (.int p0), .val (.int p1), .val (.long p2), .second, .val (.int p4), .val (.int p5), .val (.int (p0 &&& (3 : Int32))), .val (.ref b1), .unset, .unset, .unset, .unset] [(.int (116 : Int32)), (.int (3 : Int32)), (.ref b1)]))
        obtain ⟨T83, h83, X83, e83, W83, V83, st83⟩ := own_stC X82 hx hZ e82 V_b1 (j := (3 : Int32)) (by decide) (by decide) 3 rfl (Nat.le_of_ble_eq_true rfl) (g := (mkF m 130 #[.val (.int p0), .val (.int p1), .val (.long p2), .second, .val (.int p4), .val (.int p5), .val (.int (p0 &&& (3 : Int32))), .val (.ref b1), .unset, .unset, .unset, .unset] [(.int (116 : Int32)), (.int (3 : Int32)), (.ref b1)])) rfl rfl (hb hby at_130)
        obtain ⟨lc83, X83, N83⟩ := own_gen X83 (Fr.snoc X83 N82 g_b1)
        have O83 := O82.wr W83 g_b1
        have hk83 := Nat.le_trans hk82 (Nat.le_of_eq W83.size.symm)
        have V_b1 : Arv Z h83 b1 k1 .char (9 : Int32) [(.int (109 : Int32)), (.int (117 : Int32)), (.int (108 : Int32)), (.int (116 : Int32)), (.int (0 : Int32)), (.int (0 : Int32)), (.int (0 : Int32)), (.int (0 : Int32)), (.int (0 : Int32))] (.int (0 : Int32)) := V83
        refine GoV.st st83 ?_
        show GoV p e below s _ _ _ (T83.setTop (mkF m 131 #[.val (.int p0), .val (.int p1), .val (.long p2), .second, .val (.int p4), .val (.int p5), .val (.int (p0 &&& (3 : Int32))), .val (.ref b1), .unset, .unset, .unset, .unset] []))
        refine GoV.st (fun _ kq_ => XS.aload X83.here hx rfl (hb hby at_131) rfl rfl kq_) ?_
        show GoV p e below s _ _ _ (T83.setTop (mkF m 133 #[.val (.int p0), .val (.int p1), .val (.long p2), .second, .val (.int p4), .val (.int p5), .val (.int (p0 &&& (3 : Int32))), .val (.ref b1), .unset, .unset, .unset, .unset] [(.ref b1)]))
        refine GoV.st (fun _ kq_ => XS.iconst X83.here hx rfl (hb hby at_133) kq_) ?_
        show GoV p e below s _ _ _ (T83.setTop (mkF m 134 #[.val (.int p0), .val (.int p1), .val (.long p2), .second, .val (.int p4), .val (.int p5), .val (.int (p0 &&& (3 : Int32))), .val (.ref b1), .unset, .unset, .unset, .unset] [(.int (4 : Int32)), (.ref b1)]))
        refine GoV.st (fun _ kq_ => XS.bipush X83.here hx rfl (hb hby at_134) kq_) ?_
        show GoV p e below s _ _ _ (T83.setTop (mkF m 136 #[.val (.int p0), .val (.int p1), .val (.long p2), .second, .val (.int p4), .val (.int p5), .val (.int (p0 &&& (3 : Int32))), .val (.ref b1), .unset, .unset, .unset, .unset] [(.int (105 : Int32)), (.int (4 : Int32)), (.ref b1)]))
        obtain ⟨T84, h84, X84, e84, W84, V84, st84⟩ := own_stC X83 hx hZ e83 V_b1 (j := (4 : Int32)) (by decide) (by decide) 4 rfl (Nat.le_of_ble_eq_true rfl) (g := (mkF m 136 #[.val (.int p0), .val (.int p1), .val (.long p2), .second, .val (.int p4), .val (.int p5), .val (.int (p0 &&& (3 : Int32))), .val (.ref b1), .unset, .unset, .unset, .unset] [(.int (105 : Int32)), (.int (4 : Int32)), (.ref b1)])) rfl rfl (hb hby at_136)
        obtain ⟨lc84, X84, N84⟩ := own_gen X84 (Fr.snoc X84 N83 g_b1)
        have O84 := O83.wr W84 g_b1
        have hk84 := Nat.le_trans hk83 (Nat.le_of_eq W84.size.symm)
        have V_b1 : Arv Z h84 b1 k1 .char (9 : Int32) [(.int (109 : Int32)), (.int (117 : Int32)), (.int (108 : Int32)), (.int (116 : Int32)), (.int (105 : Int32)), (.int (0 : Int32)), (.int (0 : Int32)), (.int (0 : Int32)), (.int (0 : Int32))] (.int (0 : Int32)) := V84
        refine GoV.st st84 ?_
        show GoV p e below s _ _ _ (T84.setTop (mkF m 137 #[.val (.int p0), .val (.int p1), .val (.long p2), .second, .val (.int p4), .val (.int p5), .val (.int (p0 &&& (3 : Int32))), .val (.ref b1), .unset, .unset, .unset, .unset] []))
        refine GoV.st (fun _ kq_ => XS.aload X84.here hx rfl (hb hby at_137) rfl rfl kq_) ?_
        show GoV p e below s _ _ _ (T84.setTop (mkF m 139 #[.val (.int p0), .val (.int p1), .val (.long p2), .second, .val (.int p4), .val (.int p5), .val (.int (p0 &&& (3 : Int32))), .val (.ref b1), .unset, .unset, .unset, .unset] [(.ref b1)]))
        refine GoV.st (fun _ kq_ => XS.iconst X84.here hx rfl (hb hby at_139) kq_) ?_
        show GoV p e below s _ _ _ (T84.setTop (mkF m 140 #[.val (.int p0), .val (.int p1), .val (.long p2), .second, .val (.int p4), .val (.int p5), .val (.int (p0 &&& (3 : Int32))), .val (.ref b1), .unset, .unset, .unset, .unset] [(.int (5 : Int32)), (.ref b1)]))
        refine GoV.st (fun _ kq_ => XS.bipush X84.here hx rfl (hb hby at_140) kq_) ?_
        show GoV p e below s _ _ _ (T84.setTop (mkF m 142 #[.val (.int p0), .val (.int p1), .val (.long p2), .second, .val (.int p4), .val (.int p5), .val (.int (p0 &&& (3 : Int32))), .val (.ref b1), .unset, .unset, .unset, .unset] [(.int (112 : Int32)), (.int (5 : Int32)), (.ref b1)]))
        obtain ⟨T85, h85, X85, e85, W85, V85, st85⟩ := own_stC X84 hx hZ e84 V_b1 (j := (5 : Int32)) (by decide) (by decide) 5 rfl (Nat.le_of_ble_eq_true rfl) (g := (mkF m 142 #[.val (.int p0), .val (.int p1), .val (.long p2), .second, .val (.int p4), .val (.int p5), .val (.int (p0 &&& (3 : Int32))), .val (.ref b1), .unset, .unset, .unset, .unset] [(.int (112 : Int32)), (.int (5 : Int32)), (.ref b1)])) rfl rfl (hb hby at_142)
        obtain ⟨lc85, X85, N85⟩ := own_gen X85 (Fr.snoc X85 N84 g_b1)
        have O85 := O84.wr W85 g_b1
        have hk85 := Nat.le_trans hk84 (Nat.le_of_eq W85.size.symm)
        have V_b1 : Arv Z h85 b1 k1 .char (9 : Int32) [(.int (109 : Int32)), (.int (117 : Int32)), (.int (108 : Int32)), (.int (116 : Int32)), (.int (105 : Int32)), (.int (112 : Int32)), (.int (0 : Int32)), (.int (0 : Int32)), (.int (0 : Int32))] (.int (0 : Int32)) := V85
        refine GoV.st st85 ?_
        show GoV p e below s _ _ _ (T85.setTop (mkF m 143 #[.val (.int p0), .val (.int p1), .val (.long p2), .second, .val (.int p4), .val (.int p5), .val (.int (p0 &&& (3 : Int32))), .val (.ref b1), .unset, .unset, .unset, .unset] []))
        refine GoV.st (fun _ kq_ => XS.aload X85.here hx rfl (hb hby at_143) rfl rfl kq_) ?_
        show GoV p e below s _ _ _ (T85.setTop (mkF m 145 #[.val (.int p0), .val (.int p1), .val (.long p2), .second, .val (.int p4), .val (.int p5), .val (.int (p0 &&& (3 : Int32))), .val (.ref b1), .unset, .unset, .unset, .unset] [(.ref b1)]))
        refine GoV.st (fun _ kq_ => XS.bipush X85.here hx rfl (hb hby at_145) kq_) ?_
        show GoV p e below s _ _ _ (T85.setTop (mkF m 147 #[.val (.int p0), .val (.int p1), .val (.long p2), .second, .val (.int p4), .val (.int p5), .val (.int (p0 &&& (3 : Int32))), .val (.ref b1), .unset, .unset, .unset, .unset] [(.int (6 : Int32)), (.ref b1)]))
        refine GoV.st (fun _ kq_ => XS.bipush X85.here hx rfl (hb hby at_147) kq_) ?_
        show GoV p e below s _ _ _ (T85.setTop (mkF m 149 #[.val (.int p0), .val (.int p1), .val (.long p2), .second, .val (.int p4), .val (.int p5), .val (.int (p0 &&& (3 : Int32))), .val (.ref b1), .unset, .unset, .unset, .unset] [(.int (108 : Int32)), (.int (6 : Int32)), (.ref b1)]))
        obtain ⟨T86, h86, X86, e86, W86, V86, st86⟩ := own_stC X85 hx hZ e85 V_b1 (j := (6 : Int32)) (by decide) (by decide) 6 rfl (Nat.le_of_ble_eq_true rfl) (g := (mkF m 149 #[.val (.int p0), .val (.int p1), .val (.long p2), .second, .val (.int p4), .val (.int p5), .val (.int (p0 &&& (3 : Int32))), .val (.ref b1), .unset, .unset, .unset, .unset] [(.int (108 : Int32)), (.int (6 : Int32)), (.ref b1)])) rfl rfl (hb hby at_149)
        obtain ⟨lc86, X86, N86⟩ := own_gen X86 (Fr.snoc X86 N85 g_b1)
        have O86 := O85.wr W86 g_b1
        have hk86 := Nat.le_trans hk85 (Nat.le_of_eq W86.size.symm)
        have V_b1 : Arv Z h86 b1 k1 .char (9 : Int32) [(.int (109 : Int32)), (.int (117 : Int32)), (.int (108 : Int32)), (.int (116 : Int32)), (.int (105 : Int32)), (.int (112 : Int32)), (.int (108 : Int32)), (.int (0 : Int32)), (.int (0 : Int32))] (.int (0 : Int32)) := V86
        refine GoV.st st86 ?_
        show GoV p e below s _ _ _ (T86.setTop (mkF m 150 #[.val (.int p0), .val (.int p1), .val (.long p2), .second, .val (.int p4), .val (.int p5), .val (.int (p0 &&& (3 : Int32))), .val (.ref b1), .unset, .unset, .unset, .unset] []))
        refine GoV.st (fun _ kq_ => XS.aload X86.here hx rfl (hb hby at_150) rfl rfl kq_) ?_
        show GoV p e below s _ _ _ (T86.setTop (mkF m 152 #[.val (.int p0), .val (.int p1), .val (.long p2), .second, .val (.int p4), .val (.int p5), .val (.int (p0 &&& (3 : Int32))), .val (.ref b1), .unset, .unset, .unset, .unset] [(.ref b1)]))
        refine GoV.st (fun _ kq_ => XS.bipush X86.here hx rfl (hb hby at_152) kq_) ?_
        show GoV p e below s _ _ _ (T86.setTop (mkF m 154 #[.val (.int p0), .val (.int p1), .val (.long p2), .second, .val (.int p4), .val (.int p5), .val (.int (p0 &&& (3 : Int32))), .val (.ref b1), .unset, .unset, .unset, .unset] [(.int (7 : Int32)), (.ref b1)]))
        refine GoV.st (fun _ kq_ => XS.bipush X86.here hx rfl (hb hby at_154) kq_) ?_
        show GoV p e below s _ _ _ (T86.setTop (mkF m 156 #[.val (.int p0), .val (.int p1), .val (.long p2), .second, .val (.int p4), .val (.int p5), .val (.int (p0 &&& (3 : Int32))), .val (.ref b1), .unset, .unset, .unset, .unset] [(.int (101 : Int32)), (.int (7 : Int32)), (.ref b1)]))
        obtain ⟨T87, h87, X87, e87, W87, V87, st87⟩ := own_stC X86 hx hZ e86 V_b1 (j := (7 : Int32)) (by decide) (by decide) 7 rfl (Nat.le_of_ble_eq_true rfl) (g := (mkF m 156 #[.val (.int p0), .val (.int p1), .val (.long p2), .second, .val (.int p4), .val (.int p5), .val (.int (p0 &&& (3 : Int32))), .val (.ref b1), .unset, .unset, .unset, .unset] [(.int (101 : Int32)), (.int (7 : Int32)), (.ref b1)])) rfl rfl (hb hby at_156)
        obtain ⟨lc87, X87, N87⟩ := own_gen X87 (Fr.snoc X87 N86 g_b1)
        have O87 := O86.wr W87 g_b1
        have hk87 := Nat.le_trans hk86 (Nat.le_of_eq W87.size.symm)
        have V_b1 : Arv Z h87 b1 k1 .char (9 : Int32) [(.int (109 : Int32)), (.int (117 : Int32)), (.int (108 : Int32)), (.int (116 : Int32)), (.int (105 : Int32)), (.int (112 : Int32)), (.int (108 : Int32)), (.int (101 : Int32)), (.int (0 : Int32))] (.int (0 : Int32)) := V87
        refine GoV.st st87 ?_
        show GoV p e below s _ _ _ (T87.setTop (mkF m 157 #[.val (.int p0), .val (.int p1), .val (.long p2), .second, .val (.int p4), .val (.int p5), .val (.int (p0 &&& (3 : Int32))), .val (.ref b1), .unset, .unset, .unset, .unset] []))
        refine GoV.st (fun _ kq_ => XS.aload X87.here hx rfl (hb hby at_157) rfl rfl kq_) ?_
        show GoV p e below s _ _ _ (T87.setTop (mkF m 159 #[.val (.int p0), .val (.int p1), .val (.long p2), .second, .val (.int p4), .val (.int p5), .val (.int (p0 &&& (3 : Int32))), .val (.ref b1), .unset, .unset, .unset, .unset] [(.ref b1)]))
        refine GoV.st (fun _ kq_ => XS.bipush X87.here hx rfl (hb hby at_159) kq_) ?_
        show GoV p e below s _ _ _ (T87.setTop (mkF m 161 #[.val (.int p0), .val (.int p1), .val (.long p2), .second, .val (.int p4), .val (.int p5), .val (.int (p0 &&& (3 : Int32))), .val (.ref b1), .unset, .unset, .unset, .unset] [(.int (8 : Int32)), (.ref b1)]))
        refine GoV.st (fun _ kq_ => XT.lloadN X87.here hx rfl (hb hby at_161) rfl kq_) ?_
        show GoV p e below s _ _ _ (T87.setTop (mkF m 162 #[.val (.int p0), .val (.int p1), .val (.long p2), .second, .val (.int p4), .val (.int p5), .val (.int (p0 &&& (3 : Int32))), .val (.ref b1), .unset, .unset, .unset, .unset] [(.long p2), (.int (8 : Int32)), (.ref b1)]))
        refine GoV.st (fun _ kq_ => X87.ldc2J hx hown (mvT hZ (own_w hw 1 rfl)) rfl (hb hby at_162) kq_) ?_
        show GoV p e below s _ _ _ (T87.setTop (mkF m 165 #[.val (.int p0), .val (.int p1), .val (.long p2), .second, .val (.int p4), .val (.int p5), .val (.int (p0 &&& (3 : Int32))), .val (.ref b1), .unset, .unset, .unset, .unset] [(.long (255 : Int64)), (.long p2), (.int (8 : Int32)), (.ref b1)]))
        refine GoV.st (fun _ kq_ => XT.land X87.here hx rfl (hb hby at_165) rfl kq_) ?_
        show GoV p e below s _ _ _ (T87.setTop (mkF m 166 #[.val (.int p0), .val (.int p1), .val (.long p2), .second, .val (.int p4), .val (.int p5), .val (.int (p0 &&& (3 : Int32))), .val (.ref b1), .unset, .unset, .unset, .unset] [(.long (p2 &&& (255 : Int64))), (.int (8 : Int32)), (.ref b1)]))
        refine GoV.st (fun _ kq_ => XT.l2i X87.here hx rfl (hb hby at_166) rfl kq_) ?_
        show GoV p e below s _ _ _ (T87.setTop (mkF m 167 #[.val (.int p0), .val (.int p1), .val (.long p2), .second, .val (.int p4), .val (.int p5), .val (.int (p0 &&& (3 : Int32))), .val (.ref b1), .unset, .unset, .unset, .unset] [(.int ((p2 &&& (255 : Int64)).toInt32)), (.int (8 : Int32)), (.ref b1)]))
        refine GoV.st (fun _ kq_ => XT.i2c X87.here hx rfl (hb hby at_167) rfl kq_) ?_
        show GoV p e below s _ _ _ (T87.setTop (mkF m 168 #[.val (.int p0), .val (.int p1), .val (.long p2), .second, .val (.int p4), .val (.int p5), .val (.int (p0 &&& (3 : Int32))), .val (.ref b1), .unset, .unset, .unset, .unset] [(.int (((p2 &&& (255 : Int64)).toInt32).toUInt32.toUInt16.toUInt32.toInt32)), (.int (8 : Int32)), (.ref b1)]))
        obtain ⟨T88, h88, X88, e88, W88, V88, st88⟩ := own_stC X87 hx hZ e87 V_b1 (j := (8 : Int32)) (by decide) (by decide) 8 rfl (Nat.le_of_ble_eq_true rfl) (g := (mkF m 168 #[.val (.int p0), .val (.int p1), .val (.long p2), .second, .val (.int p4), .val (.int p5), .val (.int (p0 &&& (3 : Int32))), .val (.ref b1), .unset, .unset, .unset, .unset] [(.int (((p2 &&& (255 : Int64)).toInt32).toUInt32.toUInt16.toUInt32.toInt32)), (.int (8 : Int32)), (.ref b1)])) rfl rfl (hb hby at_168)
        obtain ⟨lc88, X88, N88⟩ := own_gen X88 (Fr.snoc X88 N87 g_b1)
        have O88 := O87.wr W88 g_b1
        have hk88 := Nat.le_trans hk87 (Nat.le_of_eq W88.size.symm)
        have V_b1 : Arv Z h88 b1 k1 .char (9 : Int32) [(.int (109 : Int32)), (.int (117 : Int32)), (.int (108 : Int32)), (.int (116 : Int32)), (.int (105 : Int32)), (.int (112 : Int32)), (.int (108 : Int32)), (.int (101 : Int32)), (.int (nar .char (((p2 &&& (255 : Int64)).toInt32).toUInt32.toUInt16.toUInt32.toInt32)))] (.int (0 : Int32)) := V88
        refine GoV.st st88 ?_
        show GoV p e below s _ _ _ (T88.setTop (mkF m 169 #[.val (.int p0), .val (.int p1), .val (.long p2), .second, .val (.int p4), .val (.int p5), .val (.int (p0 &&& (3 : Int32))), .val (.ref b1), .unset, .unset, .unset, .unset] []))
        refine GoV.st (fun _ kq_ => XS.bipush X88.here hx rfl (hb hby at_169) kq_) ?_
        show GoV p e below s _ _ _ (T88.setTop (mkF m 171 #[.val (.int p0), .val (.int p1), .val (.long p2), .second, .val (.int p4), .val (.int p5), .val (.int (p0 &&& (3 : Int32))), .val (.ref b1), .unset, .unset, .unset, .unset] [(.int (8 : Int32))]))
        refine GoV.st (fun _ kq_ => XS.istore X88.here hx rfl (hb hby at_171) rfl (l' := #[.val (.int p0), .val (.int p1), .val (.long p2), .second, .val (.int p4), .val (.int p5), .val (.int (p0 &&& (3 : Int32))), .val (.ref b1), .val (.int (8 : Int32)), .unset, .unset, .unset]) rfl kq_) ?_
        show GoV p e below s _ _ _ (T88.setTop (mkF m 173 #[.val (.int p0), .val (.int p1), .val (.long p2), .second, .val (.int p4), .val (.int p5), .val (.int (p0 &&& (3 : Int32))), .val (.ref b1), .val (.int (8 : Int32)), .unset, .unset, .unset] []))
        refine GoV.st (fun _ kq_ => XS.goto X88.here hx rfl (pc0 := 173) (pc' := 311) rfl (hb hby at_173) (by decide) (by decide) kq_) ?_
        show GoV p e below s _ _ _ (T88.setTop (mkF m 311 #[.val (.int p0), .val (.int p1), .val (.long p2), .second, .val (.int p4), .val (.int p5), .val (.int (p0 &&& (3 : Int32))), .val (.ref b1), .val (.int (8 : Int32)), .unset, .unset, .unset] []))
        exact J311 (109 : Int32) (117 : Int32) (108 : Int32) (116 : Int32) (105 : Int32) (112 : Int32) (108 : Int32) (101 : Int32) (nar .char (((p2 &&& (255 : Int64)).toInt32).toUInt32.toUInt16.toUInt32.toInt32)) (8 : Int32) _ _ _ X88 e88 N88 O88 hk88 V_b1 (by decide) (by decide) (by decide) (by decide) (by decide) (by decide) (by decide) (by decide) (own_chJ _) (by decide)
      · refine GoV.st (fun _ kq_ => XS.icmpYes X1.here hx rfl (pc0 := 104) (pc' := 176) rfl (hb hby at_104) rfl (XT.ii_ne_t c104_79) (by decide) (by decide) kq_) ?_
        show GoV p e below s _ _ _ (T1.setTop (mkF m 176 #[.val (.int p0), .val (.int p1), .val (.long p2), .second, .val (.int p4), .val (.int p5), .val (.int (p0 &&& (3 : Int32))), .val (.ref b1), .unset, .unset, .unset, .unset] []))
        refine GoV.st (fun _ kq_ => XS.aload X1.here hx rfl (hb hby at_176) rfl rfl kq_) ?_
        show GoV p e below s _ _ _ (T1.setTop (mkF m 178 #[.val (.int p0), .val (.int p1), .val (.long p2), .second, .val (.int p4), .val (.int p5), .val (.int (p0 &&& (3 : Int32))), .val (.ref b1), .unset, .unset, .unset, .unset] [(.ref b1)]))
        refine GoV.st (fun _ kq_ => XS.iconst X1.here hx rfl (hb hby at_178) kq_) ?_
        show GoV p e below s _ _ _ (T1.setTop (mkF m 179 #[.val (.int p0), .val (.int p1), .val (.long p2), .second, .val (.int p4), .val (.int p5), .val (.int (p0 &&& (3 : Int32))), .val (.ref b1), .unset, .unset, .unset, .unset] [(.int (0 : Int32)), (.ref b1)]))
        refine GoV.st (fun _ kq_ => XT.lloadN X1.here hx rfl (hb hby at_179) rfl kq_) ?_
        show GoV p e below s _ _ _ (T1.setTop (mkF m 180 #[.val (.int p0), .val (.int p1), .val (.long p2), .second, .val (.int p4), .val (.int p5), .val (.int (p0 &&& (3 : Int32))), .val (.ref b1), .unset, .unset, .unset, .unset] [(.long p2), (.int (0 : Int32)), (.ref b1)]))
        refine GoV.st (fun _ kq_ => X1.ldc2J hx hown (mvT hZ (own_w hw 1 rfl)) rfl (hb hby at_180) kq_) ?_
        show GoV p e below s _ _ _ (T1.setTop (mkF m 183 #[.val (.int p0), .val (.int p1), .val (.long p2), .second, .val (.int p4), .val (.int p5), .val (.int (p0 &&& (3 : Int32))), .val (.ref b1), .unset, .unset, .unset, .unset] [(.long (255 : Int64)), (.long p2), (.int (0 : Int32)), (.ref b1)]))
        refine GoV.st (fun _ kq_ => XT.land X1.here hx rfl (hb hby at_183) rfl kq_) ?_
        show GoV p e below s _ _ _ (T1.setTop (mkF m 184 #[.val (.int p0), .val (.int p1), .val (.long p2), .second, .val (.int p4), .val (.int p5), .val (.int (p0 &&& (3 : Int32))), .val (.ref b1), .unset, .unset, .unset, .unset] [(.long (p2 &&& (255 : Int64))), (.int (0 : Int32)), (.ref b1)]))
        refine GoV.st (fun _ kq_ => XT.l2i X1.here hx rfl (hb hby at_184) rfl kq_) ?_
        show GoV p e below s _ _ _ (T1.setTop (mkF m 185 #[.val (.int p0), .val (.int p1), .val (.long p2), .second, .val (.int p4), .val (.int p5), .val (.int (p0 &&& (3 : Int32))), .val (.ref b1), .unset, .unset, .unset, .unset] [(.int ((p2 &&& (255 : Int64)).toInt32)), (.int (0 : Int32)), (.ref b1)]))
        refine GoV.st (fun _ kq_ => XT.i2c X1.here hx rfl (hb hby at_185) rfl kq_) ?_
        show GoV p e below s _ _ _ (T1.setTop (mkF m 186 #[.val (.int p0), .val (.int p1), .val (.long p2), .second, .val (.int p4), .val (.int p5), .val (.int (p0 &&& (3 : Int32))), .val (.ref b1), .unset, .unset, .unset, .unset] [(.int (((p2 &&& (255 : Int64)).toInt32).toUInt32.toUInt16.toUInt32.toInt32)), (.int (0 : Int32)), (.ref b1)]))
        obtain ⟨T89, h89, X89, e89, W89, V89, st89⟩ := own_stC X1 hx hZ e1 V_b1 (j := (0 : Int32)) (by decide) (by decide) 0 rfl (Nat.le_of_ble_eq_true rfl) (g := (mkF m 186 #[.val (.int p0), .val (.int p1), .val (.long p2), .second, .val (.int p4), .val (.int p5), .val (.int (p0 &&& (3 : Int32))), .val (.ref b1), .unset, .unset, .unset, .unset] [(.int (((p2 &&& (255 : Int64)).toInt32).toUInt32.toUInt16.toUInt32.toInt32)), (.int (0 : Int32)), (.ref b1)])) rfl rfl (hb hby at_186)
        obtain ⟨lc89, X89, N89⟩ := own_gen X89 (Fr.snoc X89 N0 g_b1)
        have O89 := O1.wr W89 g_b1
        have hk89 := Nat.le_trans hk1 (Nat.le_of_eq W89.size.symm)
        have V_b1 : Arv Z h89 b1 k1 .char (9 : Int32) [(.int (nar .char (((p2 &&& (255 : Int64)).toInt32).toUInt32.toUInt16.toUInt32.toInt32))), (.int (0 : Int32)), (.int (0 : Int32)), (.int (0 : Int32)), (.int (0 : Int32)), (.int (0 : Int32)), (.int (0 : Int32)), (.int (0 : Int32)), (.int (0 : Int32))] (.int (0 : Int32)) := V89
        refine GoV.st st89 ?_
        show GoV p e below s _ _ _ (T89.setTop (mkF m 187 #[.val (.int p0), .val (.int p1), .val (.long p2), .second, .val (.int p4), .val (.int p5), .val (.int (p0 &&& (3 : Int32))), .val (.ref b1), .unset, .unset, .unset, .unset] []))
        refine GoV.st (fun _ kq_ => XS.aload X89.here hx rfl (hb hby at_187) rfl rfl kq_) ?_
        show GoV p e below s _ _ _ (T89.setTop (mkF m 189 #[.val (.int p0), .val (.int p1), .val (.long p2), .second, .val (.int p4), .val (.int p5), .val (.int (p0 &&& (3 : Int32))), .val (.ref b1), .unset, .unset, .unset, .unset] [(.ref b1)]))
        refine GoV.st (fun _ kq_ => XS.iconst X89.here hx rfl (hb hby at_189) kq_) ?_
        show GoV p e below s _ _ _ (T89.setTop (mkF m 190 #[.val (.int p0), .val (.int p1), .val (.long p2), .second, .val (.int p4), .val (.int p5), .val (.int (p0 &&& (3 : Int32))), .val (.ref b1), .unset, .unset, .unset, .unset] [(.int (1 : Int32)), (.ref b1)]))
        refine GoV.st (fun _ kq_ => XT.lloadN X89.here hx rfl (hb hby at_190) rfl kq_) ?_
        show GoV p e below s _ _ _ (T89.setTop (mkF m 191 #[.val (.int p0), .val (.int p1), .val (.long p2), .second, .val (.int p4), .val (.int p5), .val (.int (p0 &&& (3 : Int32))), .val (.ref b1), .unset, .unset, .unset, .unset] [(.long p2), (.int (1 : Int32)), (.ref b1)]))
        refine GoV.st (fun _ kq_ => XS.bipush X89.here hx rfl (hb hby at_191) kq_) ?_
        show GoV p e below s _ _ _ (T89.setTop (mkF m 193 #[.val (.int p0), .val (.int p1), .val (.long p2), .second, .val (.int p4), .val (.int p5), .val (.int (p0 &&& (3 : Int32))), .val (.ref b1), .unset, .unset, .unset, .unset] [(.int (8 : Int32)), (.long p2), (.int (1 : Int32)), (.ref b1)]))
        refine GoV.st (fun _ kq_ => XT.lushr X89.here hx rfl (hb hby at_193) rfl kq_) ?_
        show GoV p e below s _ _ _ (T89.setTop (mkF m 194 #[.val (.int p0), .val (.int p1), .val (.long p2), .second, .val (.int p4), .val (.int p5), .val (.int (p0 &&& (3 : Int32))), .val (.ref b1), .unset, .unset, .unset, .unset] [(.long (XT.ushrL p2 (8 : Int32))), (.int (1 : Int32)), (.ref b1)]))
        refine GoV.st (fun _ kq_ => X89.ldc2J hx hown (mvT hZ (own_w hw 1 rfl)) rfl (hb hby at_194) kq_) ?_
        show GoV p e below s _ _ _ (T89.setTop (mkF m 197 #[.val (.int p0), .val (.int p1), .val (.long p2), .second, .val (.int p4), .val (.int p5), .val (.int (p0 &&& (3 : Int32))), .val (.ref b1), .unset, .unset, .unset, .unset] [(.long (255 : Int64)), (.long (XT.ushrL p2 (8 : Int32))), (.int (1 : Int32)), (.ref b1)]))
        refine GoV.st (fun _ kq_ => XT.land X89.here hx rfl (hb hby at_197) rfl kq_) ?_
        show GoV p e below s _ _ _ (T89.setTop (mkF m 198 #[.val (.int p0), .val (.int p1), .val (.long p2), .second, .val (.int p4), .val (.int p5), .val (.int (p0 &&& (3 : Int32))), .val (.ref b1), .unset, .unset, .unset, .unset] [(.long ((XT.ushrL p2 (8 : Int32)) &&& (255 : Int64))), (.int (1 : Int32)), (.ref b1)]))
        refine GoV.st (fun _ kq_ => XT.l2i X89.here hx rfl (hb hby at_198) rfl kq_) ?_
        show GoV p e below s _ _ _ (T89.setTop (mkF m 199 #[.val (.int p0), .val (.int p1), .val (.long p2), .second, .val (.int p4), .val (.int p5), .val (.int (p0 &&& (3 : Int32))), .val (.ref b1), .unset, .unset, .unset, .unset] [(.int (((XT.ushrL p2 (8 : Int32)) &&& (255 : Int64)).toInt32)), (.int (1 : Int32)), (.ref b1)]))
        refine GoV.st (fun _ kq_ => XT.i2c X89.here hx rfl (hb hby at_199) rfl kq_) ?_
        show GoV p e below s _ _ _ (T89.setTop (mkF m 200 #[.val (.int p0), .val (.int p1), .val (.long p2), .second, .val (.int p4), .val (.int p5), .val (.int (p0 &&& (3 : Int32))), .val (.ref b1), .unset, .unset, .unset, .unset] [(.int ((((XT.ushrL p2 (8 : Int32)) &&& (255 : Int64)).toInt32).toUInt32.toUInt16.toUInt32.toInt32)), (.int (1 : Int32)), (.ref b1)]))
        obtain ⟨T90, h90, X90, e90, W90, V90, st90⟩ := own_stC X89 hx hZ e89 V_b1 (j := (1 : Int32)) (by decide) (by decide) 1 rfl (Nat.le_of_ble_eq_true rfl) (g := (mkF m 200 #[.val (.int p0), .val (.int p1), .val (.long p2), .second, .val (.int p4), .val (.int p5), .val (.int (p0 &&& (3 : Int32))), .val (.ref b1), .unset, .unset, .unset, .unset] [(.int ((((XT.ushrL p2 (8 : Int32)) &&& (255 : Int64)).toInt32).toUInt32.toUInt16.toUInt32.toInt32)), (.int (1 : Int32)), (.ref b1)])) rfl rfl (hb hby at_200)
        obtain ⟨lc90, X90, N90⟩ := own_gen X90 (Fr.snoc X90 N89 g_b1)
        have O90 := O89.wr W90 g_b1
        have hk90 := Nat.le_trans hk89 (Nat.le_of_eq W90.size.symm)
        have V_b1 : Arv Z h90 b1 k1 .char (9 : Int32) [(.int (nar .char (((p2 &&& (255 : Int64)).toInt32).toUInt32.toUInt16.toUInt32.toInt32))), (.int (nar .char ((((XT.ushrL p2 (8 : Int32)) &&& (255 : Int64)).toInt32).toUInt32.toUInt16.toUInt32.toInt32))), (.int (0 : Int32)), (.int (0 : Int32)), (.int (0 : Int32)), (.int (0 : Int32)), (.int (0 : Int32)), (.int (0 : Int32)), (.int (0 : Int32))] (.int (0 : Int32)) := V90
        refine GoV.st st90 ?_
        show GoV p e below s _ _ _ (T90.setTop (mkF m 201 #[.val (.int p0), .val (.int p1), .val (.long p2), .second, .val (.int p4), .val (.int p5), .val (.int (p0 &&& (3 : Int32))), .val (.ref b1), .unset, .unset, .unset, .unset] []))
        refine GoV.st (fun _ kq_ => XS.aload X90.here hx rfl (hb hby at_201) rfl rfl kq_) ?_
        show GoV p e below s _ _ _ (T90.setTop (mkF m 203 #[.val (.int p0), .val (.int p1), .val (.long p2), .second, .val (.int p4), .val (.int p5), .val (.int (p0 &&& (3 : Int32))), .val (.ref b1), .unset, .unset, .unset, .unset] [(.ref b1)]))
        refine GoV.st (fun _ kq_ => XS.iconst X90.here hx rfl (hb hby at_203) kq_) ?_
        show GoV p e below s _ _ _ (T90.setTop (mkF m 204 #[.val (.int p0), .val (.int p1), .val (.long p2), .second, .val (.int p4), .val (.int p5), .val (.int (p0 &&& (3 : Int32))), .val (.ref b1), .unset, .unset, .unset, .unset] [(.int (2 : Int32)), (.ref b1)]))
        refine GoV.st (fun _ kq_ => XT.lloadN X90.here hx rfl (hb hby at_204) rfl kq_) ?_
        show GoV p e below s _ _ _ (T90.setTop (mkF m 205 #[.val (.int p0), .val (.int p1), .val (.long p2), .second, .val (.int p4), .val (.int p5), .val (.int (p0 &&& (3 : Int32))), .val (.ref b1), .unset, .unset, .unset, .unset] [(.long p2), (.int (2 : Int32)), (.ref b1)]))
        refine GoV.st (fun _ kq_ => XS.bipush X90.here hx rfl (hb hby at_205) kq_) ?_
        show GoV p e below s _ _ _ (T90.setTop (mkF m 207 #[.val (.int p0), .val (.int p1), .val (.long p2), .second, .val (.int p4), .val (.int p5), .val (.int (p0 &&& (3 : Int32))), .val (.ref b1), .unset, .unset, .unset, .unset] [(.int (16 : Int32)), (.long p2), (.int (2 : Int32)), (.ref b1)]))
        refine GoV.st (fun _ kq_ => XT.lushr X90.here hx rfl (hb hby at_207) rfl kq_) ?_
        show GoV p e below s _ _ _ (T90.setTop (mkF m 208 #[.val (.int p0), .val (.int p1), .val (.long p2), .second, .val (.int p4), .val (.int p5), .val (.int (p0 &&& (3 : Int32))), .val (.ref b1), .unset, .unset, .unset, .unset] [(.long (XT.ushrL p2 (16 : Int32))), (.int (2 : Int32)), (.ref b1)]))
        refine GoV.st (fun _ kq_ => X90.ldc2J hx hown (mvT hZ (own_w hw 1 rfl)) rfl (hb hby at_208) kq_) ?_
        show GoV p e below s _ _ _ (T90.setTop (mkF m 211 #[.val (.int p0), .val (.int p1), .val (.long p2), .second, .val (.int p4), .val (.int p5), .val (.int (p0 &&& (3 : Int32))), .val (.ref b1), .unset, .unset, .unset, .unset] [(.long (255 : Int64)), (.long (XT.ushrL p2 (16 : Int32))), (.int (2 : Int32)), (.ref b1)]))
        refine GoV.st (fun _ kq_ => XT.land X90.here hx rfl (hb hby at_211) rfl kq_) ?_
        show GoV p e below s _ _ _ (T90.setTop (mkF m 212 #[.val (.int p0), .val (.int p1), .val (.long p2), .second, .val (.int p4), .val (.int p5), .val (.int (p0 &&& (3 : Int32))), .val (.ref b1), .unset, .unset, .unset, .unset] [(.long ((XT.ushrL p2 (16 : Int32)) &&& (255 : Int64))), (.int (2 : Int32)), (.ref b1)]))
        refine GoV.st (fun _ kq_ => XT.l2i X90.here hx rfl (hb hby at_212) rfl kq_) ?_
        show GoV p e below s _ _ _ (T90.setTop (mkF m 213 #[.val (.int p0), .val (.int p1), .val (.long p2), .second, .val (.int p4), .val (.int p5), .val (.int (p0 &&& (3 : Int32))), .val (.ref b1), .unset, .unset, .unset, .unset] [(.int (((XT.ushrL p2 (16 : Int32)) &&& (255 : Int64)).toInt32)), (.int (2 : Int32)), (.ref b1)]))
        refine GoV.st (fun _ kq_ => XT.i2c X90.here hx rfl (hb hby at_213) rfl kq_) ?_
        show GoV p e below s _ _ _ (T90.setTop (mkF m 214 #[.val (.int p0), .val (.int p1), .val (.long p2), .second, .val (.int p4), .val (.int p5), .val (.int (p0 &&& (3 : Int32))), .val (.ref b1), .unset, .unset, .unset, .unset] [(.int ((((XT.ushrL p2 (16 : Int32)) &&& (255 : Int64)).toInt32).toUInt32.toUInt16.toUInt32.toInt32)), (.int (2 : Int32)), (.ref b1)]))
        obtain ⟨T91, h91, X91, e91, W91, V91, st91⟩ := own_stC X90 hx hZ e90 V_b1 (j := (2 : Int32)) (by decide) (by decide) 2 rfl (Nat.le_of_ble_eq_true rfl) (g := (mkF m 214 #[.val (.int p0), .val (.int p1), .val (.long p2), .second, .val (.int p4), .val (.int p5), .val (.int (p0 &&& (3 : Int32))), .val (.ref b1), .unset, .unset, .unset, .unset] [(.int ((((XT.ushrL p2 (16 : Int32)) &&& (255 : Int64)).toInt32).toUInt32.toUInt16.toUInt32.toInt32)), (.int (2 : Int32)), (.ref b1)])) rfl rfl (hb hby at_214)
        obtain ⟨lc91, X91, N91⟩ := own_gen X91 (Fr.snoc X91 N90 g_b1)
        have O91 := O90.wr W91 g_b1
        have hk91 := Nat.le_trans hk90 (Nat.le_of_eq W91.size.symm)
        have V_b1 : Arv Z h91 b1 k1 .char (9 : Int32) [(.int (nar .char (((p2 &&& (255 : Int64)).toInt32).toUInt32.toUInt16.toUInt32.toInt32))), (.int (nar .char ((((XT.ushrL p2 (8 : Int32)) &&& (255 : Int64)).toInt32).toUInt32.toUInt16.toUInt32.toInt32))), (.int (nar .char ((((XT.ushrL p2 (16 : Int32)) &&& (255 : Int64)).toInt32).toUInt32.toUInt16.toUInt32.toInt32))), (.int (0 : Int32)), (.int (0 : Int32)), (.int (0 : Int32)), (.int (0 : Int32)), (.int (0 : Int32)), (.int (0 : Int32))] (.int (0 : Int32)) := V91
        refine GoV.st st91 ?_
        show GoV p e below s _ _ _ (T91.setTop (mkF m 215 #[.val (.int p0), .val (.int p1), .val (.long p2), .second, .val (.int p4), .val (.int p5), .val (.int (p0 &&& (3 : Int32))), .val (.ref b1), .unset, .unset, .unset, .unset] []))
        refine GoV.st (fun _ kq_ => XS.aload X91.here hx rfl (hb hby at_215) rfl rfl kq_) ?_
        show GoV p e below s _ _ _ (T91.setTop (mkF m 217 #[.val (.int p0), .val (.int p1), .val (.long p2), .second, .val (.int p4), .val (.int p5), .val (.int (p0 &&& (3 : Int32))), .val (.ref b1), .unset, .unset, .unset, .unset] [(.ref b1)]))
        refine GoV.st (fun _ kq_ => XS.iconst X91.here hx rfl (hb hby at_217) kq_) ?_
        show GoV p e below s _ _ _ (T91.setTop (mkF m 218 #[.val (.int p0), .val (.int p1), .val (.long p2), .second, .val (.int p4), .val (.int p5), .val (.int (p0 &&& (3 : Int32))), .val (.ref b1), .unset, .unset, .unset, .unset] [(.int (3 : Int32)), (.ref b1)]))
        refine GoV.st (fun _ kq_ => XT.lloadN X91.here hx rfl (hb hby at_218) rfl kq_) ?_
        show GoV p e below s _ _ _ (T91.setTop (mkF m 219 #[.val (.int p0), .val (.int p1), .val (.long p2), .second, .val (.int p4), .val (.int p5), .val (.int (p0 &&& (3 : Int32))), .val (.ref b1), .unset, .unset, .unset, .unset] [(.long p2), (.int (3 : Int32)), (.ref b1)]))
        refine GoV.st (fun _ kq_ => XS.bipush X91.here hx rfl (hb hby at_219) kq_) ?_
        show GoV p e below s _ _ _ (T91.setTop (mkF m 221 #[.val (.int p0), .val (.int p1), .val (.long p2), .second, .val (.int p4), .val (.int p5), .val (.int (p0 &&& (3 : Int32))), .val (.ref b1), .unset, .unset, .unset, .unset] [(.int (24 : Int32)), (.long p2), (.int (3 : Int32)), (.ref b1)]))
        refine GoV.st (fun _ kq_ => XT.lushr X91.here hx rfl (hb hby at_221) rfl kq_) ?_
        show GoV p e below s _ _ _ (T91.setTop (mkF m 222 #[.val (.int p0), .val (.int p1), .val (.long p2), .second, .val (.int p4), .val (.int p5), .val (.int (p0 &&& (3 : Int32))), .val (.ref b1), .unset, .unset, .unset, .unset] [(.long (XT.ushrL p2 (24 : Int32))), (.int (3 : Int32)), (.ref b1)]))
        refine GoV.st (fun _ kq_ => X91.ldc2J hx hown (mvT hZ (own_w hw 1 rfl)) rfl (hb hby at_222) kq_) ?_
        show GoV p e below s _ _ _ (T91.setTop (mkF m 225 #[.val (.int p0), .val (.int p1), .val (.long p2), .second, .val (.int p4), .val (.int p5), .val (.int (p0 &&& (3 : Int32))), .val (.ref b1), .unset, .unset, .unset, .unset] [(.long (255 : Int64)), (.long (XT.ushrL p2 (24 : Int32))), (.int (3 : Int32)), (.ref b1)]))
        refine GoV.st (fun _ kq_ => XT.land X91.here hx rfl (hb hby at_225) rfl kq_) ?_
        show GoV p e below s _ _ _ (T91.setTop (mkF m 226 #[.val (.int p0), .val (.int p1), .val (.long p2), .second, .val (.int p4), .val (.int p5), .val (.int (p0 &&& (3 : Int32))), .val (.ref b1), .unset, .unset, .unset, .unset] [(.long ((XT.ushrL p2 (24 : Int32)) &&& (255 : Int64))), (.int (3 : Int32)), (.ref b1)]))
        refine GoV.st (fun _ kq_ => XT.l2i X91.here hx rfl (hb hby at_226) rfl kq_) ?_
        show GoV p e below s _ _ _ (T91.setTop (mkF m 227 #[.val (.int p0), .val (.int p1), .val (.long p2), .second, .val (.int p4), .val (.int p5), .val (.int (p0 &&& (3 : Int32))), .val (.ref b1), .unset, .unset, .unset, .unset] [(.int (((XT.ushrL p2 (24 : Int32)) &&& (255 : Int64)).toInt32)), (.int (3 : Int32)), (.ref b1)]))
        refine GoV.st (fun _ kq_ => XT.i2c X91.here hx rfl (hb hby at_227) rfl kq_) ?_
        show GoV p e below s _ _ _ (T91.setTop (mkF m 228 #[.val (.int p0), .val (.int p1), .val (.long p2), .second, .val (.int p4), .val (.int p5), .val (.int (p0 &&& (3 : Int32))), .val (.ref b1), .unset, .unset, .unset, .unset] [(.int ((((XT.ushrL p2 (24 : Int32)) &&& (255 : Int64)).toInt32).toUInt32.toUInt16.toUInt32.toInt32)), (.int (3 : Int32)), (.ref b1)]))
        obtain ⟨T92, h92, X92, e92, W92, V92, st92⟩ := own_stC X91 hx hZ e91 V_b1 (j := (3 : Int32)) (by decide) (by decide) 3 rfl (Nat.le_of_ble_eq_true rfl) (g := (mkF m 228 #[.val (.int p0), .val (.int p1), .val (.long p2), .second, .val (.int p4), .val (.int p5), .val (.int (p0 &&& (3 : Int32))), .val (.ref b1), .unset, .unset, .unset, .unset] [(.int ((((XT.ushrL p2 (24 : Int32)) &&& (255 : Int64)).toInt32).toUInt32.toUInt16.toUInt32.toInt32)), (.int (3 : Int32)), (.ref b1)])) rfl rfl (hb hby at_228)
        obtain ⟨lc92, X92, N92⟩ := own_gen X92 (Fr.snoc X92 N91 g_b1)
        have O92 := O91.wr W92 g_b1
        have hk92 := Nat.le_trans hk91 (Nat.le_of_eq W92.size.symm)
        have V_b1 : Arv Z h92 b1 k1 .char (9 : Int32) [(.int (nar .char (((p2 &&& (255 : Int64)).toInt32).toUInt32.toUInt16.toUInt32.toInt32))), (.int (nar .char ((((XT.ushrL p2 (8 : Int32)) &&& (255 : Int64)).toInt32).toUInt32.toUInt16.toUInt32.toInt32))), (.int (nar .char ((((XT.ushrL p2 (16 : Int32)) &&& (255 : Int64)).toInt32).toUInt32.toUInt16.toUInt32.toInt32))), (.int (nar .char ((((XT.ushrL p2 (24 : Int32)) &&& (255 : Int64)).toInt32).toUInt32.toUInt16.toUInt32.toInt32))), (.int (0 : Int32)), (.int (0 : Int32)), (.int (0 : Int32)), (.int (0 : Int32)), (.int (0 : Int32))] (.int (0 : Int32)) := V92
        refine GoV.st st92 ?_
        show GoV p e below s _ _ _ (T92.setTop (mkF m 229 #[.val (.int p0), .val (.int p1), .val (.long p2), .second, .val (.int p4), .val (.int p5), .val (.int (p0 &&& (3 : Int32))), .val (.ref b1), .unset, .unset, .unset, .unset] []))
        refine GoV.st (fun _ kq_ => XS.aload X92.here hx rfl (hb hby at_229) rfl rfl kq_) ?_
        show GoV p e below s _ _ _ (T92.setTop (mkF m 231 #[.val (.int p0), .val (.int p1), .val (.long p2), .second, .val (.int p4), .val (.int p5), .val (.int (p0 &&& (3 : Int32))), .val (.ref b1), .unset, .unset, .unset, .unset] [(.ref b1)]))
        refine GoV.st (fun _ kq_ => XS.iconst X92.here hx rfl (hb hby at_231) kq_) ?_
        show GoV p e below s _ _ _ (T92.setTop (mkF m 232 #[.val (.int p0), .val (.int p1), .val (.long p2), .second, .val (.int p4), .val (.int p5), .val (.int (p0 &&& (3 : Int32))), .val (.ref b1), .unset, .unset, .unset, .unset] [(.int (4 : Int32)), (.ref b1)]))
        refine GoV.st (fun _ kq_ => XT.lloadN X92.here hx rfl (hb hby at_232) rfl kq_) ?_
        show GoV p e below s _ _ _ (T92.setTop (mkF m 233 #[.val (.int p0), .val (.int p1), .val (.long p2), .second, .val (.int p4), .val (.int p5), .val (.int (p0 &&& (3 : Int32))), .val (.ref b1), .unset, .unset, .unset, .unset] [(.long p2), (.int (4 : Int32)), (.ref b1)]))
        refine GoV.st (fun _ kq_ => XS.bipush X92.here hx rfl (hb hby at_233) kq_) ?_
        show GoV p e below s _ _ _ (T92.setTop (mkF m 235 #[.val (.int p0), .val (.int p1), .val (.long p2), .second, .val (.int p4), .val (.int p5), .val (.int (p0 &&& (3 : Int32))), .val (.ref b1), .unset, .unset, .unset, .unset] [(.int (32 : Int32)), (.long p2), (.int (4 : Int32)), (.ref b1)]))
        refine GoV.st (fun _ kq_ => XT.lushr X92.here hx rfl (hb hby at_235) rfl kq_) ?_
        show GoV p e below s _ _ _ (T92.setTop (mkF m 236 #[.val (.int p0), .val (.int p1), .val (.long p2), .second, .val (.int p4), .val (.int p5), .val (.int (p0 &&& (3 : Int32))), .val (.ref b1), .unset, .unset, .unset, .unset] [(.long (XT.ushrL p2 (32 : Int32))), (.int (4 : Int32)), (.ref b1)]))
        refine GoV.st (fun _ kq_ => X92.ldc2J hx hown (mvT hZ (own_w hw 1 rfl)) rfl (hb hby at_236) kq_) ?_
        show GoV p e below s _ _ _ (T92.setTop (mkF m 239 #[.val (.int p0), .val (.int p1), .val (.long p2), .second, .val (.int p4), .val (.int p5), .val (.int (p0 &&& (3 : Int32))), .val (.ref b1), .unset, .unset, .unset, .unset] [(.long (255 : Int64)), (.long (XT.ushrL p2 (32 : Int32))), (.int (4 : Int32)), (.ref b1)]))
        refine GoV.st (fun _ kq_ => XT.land X92.here hx rfl (hb hby at_239) rfl kq_) ?_
        show GoV p e below s _ _ _ (T92.setTop (mkF m 240 #[.val (.int p0), .val (.int p1), .val (.long p2), .second, .val (.int p4), .val (.int p5), .val (.int (p0 &&& (3 : Int32))), .val (.ref b1), .unset, .unset, .unset, .unset] [(.long ((XT.ushrL p2 (32 : Int32)) &&& (255 : Int64))), (.int (4 : Int32)), (.ref b1)]))
        refine GoV.st (fun _ kq_ => XT.l2i X92.here hx rfl (hb hby at_240) rfl kq_) ?_
        show GoV p e below s _ _ _ (T92.setTop (mkF m 241 #[.val (.int p0), .val (.int p1), .val (.long p2), .second, .val (.int p4), .val (.int p5), .val (.int (p0 &&& (3 : Int32))), .val (.ref b1), .unset, .unset, .unset, .unset] [(.int (((XT.ushrL p2 (32 : Int32)) &&& (255 : Int64)).toInt32)), (.int (4 : Int32)), (.ref b1)]))
        refine GoV.st (fun _ kq_ => XT.i2c X92.here hx rfl (hb hby at_241) rfl kq_) ?_
        show GoV p e below s _ _ _ (T92.setTop (mkF m 242 #[.val (.int p0), .val (.int p1), .val (.long p2), .second, .val (.int p4), .val (.int p5), .val (.int (p0 &&& (3 : Int32))), .val (.ref b1), .unset, .unset, .unset, .unset] [(.int ((((XT.ushrL p2 (32 : Int32)) &&& (255 : Int64)).toInt32).toUInt32.toUInt16.toUInt32.toInt32)), (.int (4 : Int32)), (.ref b1)]))
        obtain ⟨T93, h93, X93, e93, W93, V93, st93⟩ := own_stC X92 hx hZ e92 V_b1 (j := (4 : Int32)) (by decide) (by decide) 4 rfl (Nat.le_of_ble_eq_true rfl) (g := (mkF m 242 #[.val (.int p0), .val (.int p1), .val (.long p2), .second, .val (.int p4), .val (.int p5), .val (.int (p0 &&& (3 : Int32))), .val (.ref b1), .unset, .unset, .unset, .unset] [(.int ((((XT.ushrL p2 (32 : Int32)) &&& (255 : Int64)).toInt32).toUInt32.toUInt16.toUInt32.toInt32)), (.int (4 : Int32)), (.ref b1)])) rfl rfl (hb hby at_242)
        obtain ⟨lc93, X93, N93⟩ := own_gen X93 (Fr.snoc X93 N92 g_b1)
        have O93 := O92.wr W93 g_b1
        have hk93 := Nat.le_trans hk92 (Nat.le_of_eq W93.size.symm)
        have V_b1 : Arv Z h93 b1 k1 .char (9 : Int32) [(.int (nar .char (((p2 &&& (255 : Int64)).toInt32).toUInt32.toUInt16.toUInt32.toInt32))), (.int (nar .char ((((XT.ushrL p2 (8 : Int32)) &&& (255 : Int64)).toInt32).toUInt32.toUInt16.toUInt32.toInt32))), (.int (nar .char ((((XT.ushrL p2 (16 : Int32)) &&& (255 : Int64)).toInt32).toUInt32.toUInt16.toUInt32.toInt32))), (.int (nar .char ((((XT.ushrL p2 (24 : Int32)) &&& (255 : Int64)).toInt32).toUInt32.toUInt16.toUInt32.toInt32))), (.int (nar .char ((((XT.ushrL p2 (32 : Int32)) &&& (255 : Int64)).toInt32).toUInt32.toUInt16.toUInt32.toInt32))), (.int (0 : Int32)), (.int (0 : Int32)), (.int (0 : Int32)), (.int (0 : Int32))] (.int (0 : Int32)) := V93
        refine GoV.st st93 ?_
        show GoV p e below s _ _ _ (T93.setTop (mkF m 243 #[.val (.int p0), .val (.int p1), .val (.long p2), .second, .val (.int p4), .val (.int p5), .val (.int (p0 &&& (3 : Int32))), .val (.ref b1), .unset, .unset, .unset, .unset] []))
        refine GoV.st (fun _ kq_ => XS.aload X93.here hx rfl (hb hby at_243) rfl rfl kq_) ?_
        show GoV p e below s _ _ _ (T93.setTop (mkF m 245 #[.val (.int p0), .val (.int p1), .val (.long p2), .second, .val (.int p4), .val (.int p5), .val (.int (p0 &&& (3 : Int32))), .val (.ref b1), .unset, .unset, .unset, .unset] [(.ref b1)]))
        refine GoV.st (fun _ kq_ => XS.iconst X93.here hx rfl (hb hby at_245) kq_) ?_
        show GoV p e below s _ _ _ (T93.setTop (mkF m 246 #[.val (.int p0), .val (.int p1), .val (.long p2), .second, .val (.int p4), .val (.int p5), .val (.int (p0 &&& (3 : Int32))), .val (.ref b1), .unset, .unset, .unset, .unset] [(.int (5 : Int32)), (.ref b1)]))
        refine GoV.st (fun _ kq_ => XT.lloadN X93.here hx rfl (hb hby at_246) rfl kq_) ?_
        show GoV p e below s _ _ _ (T93.setTop (mkF m 247 #[.val (.int p0), .val (.int p1), .val (.long p2), .second, .val (.int p4), .val (.int p5), .val (.int (p0 &&& (3 : Int32))), .val (.ref b1), .unset, .unset, .unset, .unset] [(.long p2), (.int (5 : Int32)), (.ref b1)]))
        refine GoV.st (fun _ kq_ => XS.bipush X93.here hx rfl (hb hby at_247) kq_) ?_
        show GoV p e below s _ _ _ (T93.setTop (mkF m 249 #[.val (.int p0), .val (.int p1), .val (.long p2), .second, .val (.int p4), .val (.int p5), .val (.int (p0 &&& (3 : Int32))), .val (.ref b1), .unset, .unset, .unset, .unset] [(.int (40 : Int32)), (.long p2), (.int (5 : Int32)), (.ref b1)]))
        refine GoV.st (fun _ kq_ => XT.lushr X93.here hx rfl (hb hby at_249) rfl kq_) ?_
        show GoV p e below s _ _ _ (T93.setTop (mkF m 250 #[.val (.int p0), .val (.int p1), .val (.long p2), .second, .val (.int p4), .val (.int p5), .val (.int (p0 &&& (3 : Int32))), .val (.ref b1), .unset, .unset, .unset, .unset] [(.long (XT.ushrL p2 (40 : Int32))), (.int (5 : Int32)), (.ref b1)]))
        refine GoV.st (fun _ kq_ => X93.ldc2J hx hown (mvT hZ (own_w hw 1 rfl)) rfl (hb hby at_250) kq_) ?_
        show GoV p e below s _ _ _ (T93.setTop (mkF m 253 #[.val (.int p0), .val (.int p1), .val (.long p2), .second, .val (.int p4), .val (.int p5), .val (.int (p0 &&& (3 : Int32))), .val (.ref b1), .unset, .unset, .unset, .unset] [(.long (255 : Int64)), (.long (XT.ushrL p2 (40 : Int32))), (.int (5 : Int32)), (.ref b1)]))
        refine GoV.st (fun _ kq_ => XT.land X93.here hx rfl (hb hby at_253) rfl kq_) ?_
        show GoV p e below s _ _ _ (T93.setTop (mkF m 254 #[.val (.int p0), .val (.int p1), .val (.long p2), .second, .val (.int p4), .val (.int p5), .val (.int (p0 &&& (3 : Int32))), .val (.ref b1), .unset, .unset, .unset, .unset] [(.long ((XT.ushrL p2 (40 : Int32)) &&& (255 : Int64))), (.int (5 : Int32)), (.ref b1)]))
        refine GoV.st (fun _ kq_ => XT.l2i X93.here hx rfl (hb hby at_254) rfl kq_) ?_
        show GoV p e below s _ _ _ (T93.setTop (mkF m 255 #[.val (.int p0), .val (.int p1), .val (.long p2), .second, .val (.int p4), .val (.int p5), .val (.int (p0 &&& (3 : Int32))), .val (.ref b1), .unset, .unset, .unset, .unset] [(.int (((XT.ushrL p2 (40 : Int32)) &&& (255 : Int64)).toInt32)), (.int (5 : Int32)), (.ref b1)]))
        refine GoV.st (fun _ kq_ => XT.i2c X93.here hx rfl (hb hby at_255) rfl kq_) ?_
        show GoV p e below s _ _ _ (T93.setTop (mkF m 256 #[.val (.int p0), .val (.int p1), .val (.long p2), .second, .val (.int p4), .val (.int p5), .val (.int (p0 &&& (3 : Int32))), .val (.ref b1), .unset, .unset, .unset, .unset] [(.int ((((XT.ushrL p2 (40 : Int32)) &&& (255 : Int64)).toInt32).toUInt32.toUInt16.toUInt32.toInt32)), (.int (5 : Int32)), (.ref b1)]))
        obtain ⟨T94, h94, X94, e94, W94, V94, st94⟩ := own_stC X93 hx hZ e93 V_b1 (j := (5 : Int32)) (by decide) (by decide) 5 rfl (Nat.le_of_ble_eq_true rfl) (g := (mkF m 256 #[.val (.int p0), .val (.int p1), .val (.long p2), .second, .val (.int p4), .val (.int p5), .val (.int (p0 &&& (3 : Int32))), .val (.ref b1), .unset, .unset, .unset, .unset] [(.int ((((XT.ushrL p2 (40 : Int32)) &&& (255 : Int64)).toInt32).toUInt32.toUInt16.toUInt32.toInt32)), (.int (5 : Int32)), (.ref b1)])) rfl rfl (hb hby at_256)
        obtain ⟨lc94, X94, N94⟩ := own_gen X94 (Fr.snoc X94 N93 g_b1)
        have O94 := O93.wr W94 g_b1
        have hk94 := Nat.le_trans hk93 (Nat.le_of_eq W94.size.symm)
        have V_b1 : Arv Z h94 b1 k1 .char (9 : Int32) [(.int (nar .char (((p2 &&& (255 : Int64)).toInt32).toUInt32.toUInt16.toUInt32.toInt32))), (.int (nar .char ((((XT.ushrL p2 (8 : Int32)) &&& (255 : Int64)).toInt32).toUInt32.toUInt16.toUInt32.toInt32))), (.int (nar .char ((((XT.ushrL p2 (16 : Int32)) &&& (255 : Int64)).toInt32).toUInt32.toUInt16.toUInt32.toInt32))), (.int (nar .char ((((XT.ushrL p2 (24 : Int32)) &&& (255 : Int64)).toInt32).toUInt32.toUInt16.toUInt32.toInt32))), (.int (nar .char ((((XT.ushrL p2 (32 : Int32)) &&& (255 : Int64)).toInt32).toUInt32.toUInt16.toUInt32.toInt32))), (.int (nar .char ((((XT.ushrL p2 (40 : Int32)) &&& (255 : Int64)).toInt32).toUInt32.toUInt16.toUInt32.toInt32))), (.int (0 : Int32)), (.int (0 : Int32)), (.int (0 : Int32))] (.int (0 : Int32)) := V94
        refine GoV.st st94 ?_
        show GoV p e below s _ _ _ (T94.setTop (mkF m 257 #[.val (.int p0), .val (.int p1), .val (.long p2), .second, .val (.int p4), .val (.int p5), .val (.int (p0 &&& (3 : Int32))), .val (.ref b1), .unset, .unset, .unset, .unset] []))
        refine GoV.st (fun _ kq_ => XS.aload X94.here hx rfl (hb hby at_257) rfl rfl kq_) ?_
        show GoV p e below s _ _ _ (T94.setTop (mkF m 259 #[.val (.int p0), .val (.int p1), .val (.long p2), .second, .val (.int p4), .val (.int p5), .val (.int (p0 &&& (3 : Int32))), .val (.ref b1), .unset, .unset, .unset, .unset] [(.ref b1)]))
        refine GoV.st (fun _ kq_ => XS.bipush X94.here hx rfl (hb hby at_259) kq_) ?_
        show GoV p e below s _ _ _ (T94.setTop (mkF m 261 #[.val (.int p0), .val (.int p1), .val (.long p2), .second, .val (.int p4), .val (.int p5), .val (.int (p0 &&& (3 : Int32))), .val (.ref b1), .unset, .unset, .unset, .unset] [(.int (6 : Int32)), (.ref b1)]))
        refine GoV.st (fun _ kq_ => XT.lloadN X94.here hx rfl (hb hby at_261) rfl kq_) ?_
        show GoV p e below s _ _ _ (T94.setTop (mkF m 262 #[.val (.int p0), .val (.int p1), .val (.long p2), .second, .val (.int p4), .val (.int p5), .val (.int (p0 &&& (3 : Int32))), .val (.ref b1), .unset, .unset, .unset, .unset] [(.long p2), (.int (6 : Int32)), (.ref b1)]))
        refine GoV.st (fun _ kq_ => XS.bipush X94.here hx rfl (hb hby at_262) kq_) ?_
        show GoV p e below s _ _ _ (T94.setTop (mkF m 264 #[.val (.int p0), .val (.int p1), .val (.long p2), .second, .val (.int p4), .val (.int p5), .val (.int (p0 &&& (3 : Int32))), .val (.ref b1), .unset, .unset, .unset, .unset] [(.int (48 : Int32)), (.long p2), (.int (6 : Int32)), (.ref b1)]))
        refine GoV.st (fun _ kq_ => XT.lushr X94.here hx rfl (hb hby at_264) rfl kq_) ?_
        show GoV p e below s _ _ _ (T94.setTop (mkF m 265 #[.val (.int p0), .val (.int p1), .val (.long p2), .second, .val (.int p4), .val (.int p5), .val (.int (p0 &&& (3 : Int32))), .val (.ref b1), .unset, .unset, .unset, .unset] [(.long (XT.ushrL p2 (48 : Int32))), (.int (6 : Int32)), (.ref b1)]))
        refine GoV.st (fun _ kq_ => X94.ldc2J hx hown (mvT hZ (own_w hw 1 rfl)) rfl (hb hby at_265) kq_) ?_
        show GoV p e below s _ _ _ (T94.setTop (mkF m 268 #[.val (.int p0), .val (.int p1), .val (.long p2), .second, .val (.int p4), .val (.int p5), .val (.int (p0 &&& (3 : Int32))), .val (.ref b1), .unset, .unset, .unset, .unset] [(.long (255 : Int64)), (.long (XT.ushrL p2 (48 : Int32))), (.int (6 : Int32)), (.ref b1)]))
        refine GoV.st (fun _ kq_ => XT.land X94.here hx rfl (hb hby at_268) rfl kq_) ?_
        show GoV p e below s _ _ _ (T94.setTop (mkF m 269 #[.val (.int p0), .val (.int p1), .val (.long p2), .second, .val (.int p4), .val (.int p5), .val (.int (p0 &&& (3 : Int32))), .val (.ref b1), .unset, .unset, .unset, .unset] [(.long ((XT.ushrL p2 (48 : Int32)) &&& (255 : Int64))), (.int (6 : Int32)), (.ref b1)]))
        refine GoV.st (fun _ kq_ => XT.l2i X94.here hx rfl (hb hby at_269) rfl kq_) ?_
        show GoV p e below s _ _ _ (T94.setTop (mkF m 270 #[.val (.int p0), .val (.int p1), .val (.long p2), .second, .val (.int p4), .val (.int p5), .val (.int (p0 &&& (3 : Int32))), .val (.ref b1), .unset, .unset, .unset, .unset] [(.int (((XT.ushrL p2 (48 : Int32)) &&& (255 : Int64)).toInt32)), (.int (6 : Int32)), (.ref b1)]))
        refine GoV.st (fun _ kq_ => XT.i2c X94.here hx rfl (hb hby at_270) rfl kq_) ?_
        show GoV p e below s _ _ _ (T94.setTop (mkF m 271 #[.val (.int p0), .val (.int p1), .val (.long p2), .second, .val (.int p4), .val (.int p5), .val (.int (p0 &&& (3 : Int32))), .val (.ref b1), .unset, .unset, .unset, .unset] [(.int ((((XT.ushrL p2 (48 : Int32)) &&& (255 : Int64)).toInt32).toUInt32.toUInt16.toUInt32.toInt32)), (.int (6 : Int32)), (.ref b1)]))
        obtain ⟨T95, h95, X95, e95, W95, V95, st95⟩ := own_stC X94 hx hZ e94 V_b1 (j := (6 : Int32)) (by decide) (by decide) 6 rfl (Nat.le_of_ble_eq_true rfl) (g := (mkF m 271 #[.val (.int p0), .val (.int p1), .val (.long p2), .second, .val (.int p4), .val (.int p5), .val (.int (p0 &&& (3 : Int32))), .val (.ref b1), .unset, .unset, .unset, .unset] [(.int ((((XT.ushrL p2 (48 : Int32)) &&& (255 : Int64)).toInt32).toUInt32.toUInt16.toUInt32.toInt32)), (.int (6 : Int32)), (.ref b1)])) rfl rfl (hb hby at_271)
        obtain ⟨lc95, X95, N95⟩ := own_gen X95 (Fr.snoc X95 N94 g_b1)
        have O95 := O94.wr W95 g_b1
        have hk95 := Nat.le_trans hk94 (Nat.le_of_eq W95.size.symm)
        have V_b1 : Arv Z h95 b1 k1 .char (9 : Int32) [(.int (nar .char (((p2 &&& (255 : Int64)).toInt32).toUInt32.toUInt16.toUInt32.toInt32))), (.int (nar .char ((((XT.ushrL p2 (8 : Int32)) &&& (255 : Int64)).toInt32).toUInt32.toUInt16.toUInt32.toInt32))), (.int (nar .char ((((XT.ushrL p2 (16 : Int32)) &&& (255 : Int64)).toInt32).toUInt32.toUInt16.toUInt32.toInt32))), (.int (nar .char ((((XT.ushrL p2 (24 : Int32)) &&& (255 : Int64)).toInt32).toUInt32.toUInt16.toUInt32.toInt32))), (.int (nar .char ((((XT.ushrL p2 (32 : Int32)) &&& (255 : Int64)).toInt32).toUInt32.toUInt16.toUInt32.toInt32))), (.int (nar .char ((((XT.ushrL p2 (40 : Int32)) &&& (255 : Int64)).toInt32).toUInt32.toUInt16.toUInt32.toInt32))), (.int (nar .char ((((XT.ushrL p2 (48 : Int32)) &&& (255 : Int64)).toInt32).toUInt32.toUInt16.toUInt32.toInt32))), (.int (0 : Int32)), (.int (0 : Int32))] (.int (0 : Int32)) := V95
        refine GoV.st st95 ?_
        show GoV p e below s _ _ _ (T95.setTop (mkF m 272 #[.val (.int p0), .val (.int p1), .val (.long p2), .second, .val (.int p4), .val (.int p5), .val (.int (p0 &&& (3 : Int32))), .val (.ref b1), .unset, .unset, .unset, .unset] []))
        refine GoV.st (fun _ kq_ => XS.aload X95.here hx rfl (hb hby at_272) rfl rfl kq_) ?_
        show GoV p e below s _ _ _ (T95.setTop (mkF m 274 #[.val (.int p0), .val (.int p1), .val (.long p2), .second, .val (.int p4), .val (.int p5), .val (.int (p0 &&& (3 : Int32))), .val (.ref b1), .unset, .unset, .unset, .unset] [(.ref b1)]))
        refine GoV.st (fun _ kq_ => XS.bipush X95.here hx rfl (hb hby at_274) kq_) ?_
        show GoV p e below s _ _ _ (T95.setTop (mkF m 276 #[.val (.int p0), .val (.int p1), .val (.long p2), .second, .val (.int p4), .val (.int p5), .val (.int (p0 &&& (3 : Int32))), .val (.ref b1), .unset, .unset, .unset, .unset] [(.int (7 : Int32)), (.ref b1)]))
        refine GoV.st (fun _ kq_ => XT.lloadN X95.here hx rfl (hb hby at_276) rfl kq_) ?_
        show GoV p e below s _ _ _ (T95.setTop (mkF m 277 #[.val (.int p0), .val (.int p1), .val (.long p2), .second, .val (.int p4), .val (.int p5), .val (.int (p0 &&& (3 : Int32))), .val (.ref b1), .unset, .unset, .unset, .unset] [(.long p2), (.int (7 : Int32)), (.ref b1)]))
        refine GoV.st (fun _ kq_ => XS.bipush X95.here hx rfl (hb hby at_277) kq_) ?_
        show GoV p e below s _ _ _ (T95.setTop (mkF m 279 #[.val (.int p0), .val (.int p1), .val (.long p2), .second, .val (.int p4), .val (.int p5), .val (.int (p0 &&& (3 : Int32))), .val (.ref b1), .unset, .unset, .unset, .unset] [(.int (56 : Int32)), (.long p2), (.int (7 : Int32)), (.ref b1)]))
        refine GoV.st (fun _ kq_ => XT.lushr X95.here hx rfl (hb hby at_279) rfl kq_) ?_
        show GoV p e below s _ _ _ (T95.setTop (mkF m 280 #[.val (.int p0), .val (.int p1), .val (.long p2), .second, .val (.int p4), .val (.int p5), .val (.int (p0 &&& (3 : Int32))), .val (.ref b1), .unset, .unset, .unset, .unset] [(.long (XT.ushrL p2 (56 : Int32))), (.int (7 : Int32)), (.ref b1)]))
        refine GoV.st (fun _ kq_ => X95.ldc2J hx hown (mvT hZ (own_w hw 1 rfl)) rfl (hb hby at_280) kq_) ?_
        show GoV p e below s _ _ _ (T95.setTop (mkF m 283 #[.val (.int p0), .val (.int p1), .val (.long p2), .second, .val (.int p4), .val (.int p5), .val (.int (p0 &&& (3 : Int32))), .val (.ref b1), .unset, .unset, .unset, .unset] [(.long (255 : Int64)), (.long (XT.ushrL p2 (56 : Int32))), (.int (7 : Int32)), (.ref b1)]))
        refine GoV.st (fun _ kq_ => XT.land X95.here hx rfl (hb hby at_283) rfl kq_) ?_
        show GoV p e below s _ _ _ (T95.setTop (mkF m 284 #[.val (.int p0), .val (.int p1), .val (.long p2), .second, .val (.int p4), .val (.int p5), .val (.int (p0 &&& (3 : Int32))), .val (.ref b1), .unset, .unset, .unset, .unset] [(.long ((XT.ushrL p2 (56 : Int32)) &&& (255 : Int64))), (.int (7 : Int32)), (.ref b1)]))
        refine GoV.st (fun _ kq_ => XT.l2i X95.here hx rfl (hb hby at_284) rfl kq_) ?_
        show GoV p e below s _ _ _ (T95.setTop (mkF m 285 #[.val (.int p0), .val (.int p1), .val (.long p2), .second, .val (.int p4), .val (.int p5), .val (.int (p0 &&& (3 : Int32))), .val (.ref b1), .unset, .unset, .unset, .unset] [(.int (((XT.ushrL p2 (56 : Int32)) &&& (255 : Int64)).toInt32)), (.int (7 : Int32)), (.ref b1)]))
        refine GoV.st (fun _ kq_ => XT.i2c X95.here hx rfl (hb hby at_285) rfl kq_) ?_
        show GoV p e below s _ _ _ (T95.setTop (mkF m 286 #[.val (.int p0), .val (.int p1), .val (.long p2), .second, .val (.int p4), .val (.int p5), .val (.int (p0 &&& (3 : Int32))), .val (.ref b1), .unset, .unset, .unset, .unset] [(.int ((((XT.ushrL p2 (56 : Int32)) &&& (255 : Int64)).toInt32).toUInt32.toUInt16.toUInt32.toInt32)), (.int (7 : Int32)), (.ref b1)]))
        obtain ⟨T96, h96, X96, e96, W96, V96, st96⟩ := own_stC X95 hx hZ e95 V_b1 (j := (7 : Int32)) (by decide) (by decide) 7 rfl (Nat.le_of_ble_eq_true rfl) (g := (mkF m 286 #[.val (.int p0), .val (.int p1), .val (.long p2), .second, .val (.int p4), .val (.int p5), .val (.int (p0 &&& (3 : Int32))), .val (.ref b1), .unset, .unset, .unset, .unset] [(.int ((((XT.ushrL p2 (56 : Int32)) &&& (255 : Int64)).toInt32).toUInt32.toUInt16.toUInt32.toInt32)), (.int (7 : Int32)), (.ref b1)])) rfl rfl (hb hby at_286)
        obtain ⟨lc96, X96, N96⟩ := own_gen X96 (Fr.snoc X96 N95 g_b1)
        have O96 := O95.wr W96 g_b1
        have hk96 := Nat.le_trans hk95 (Nat.le_of_eq W96.size.symm)
        have V_b1 : Arv Z h96 b1 k1 .char (9 : Int32) [(.int (nar .char (((p2 &&& (255 : Int64)).toInt32).toUInt32.toUInt16.toUInt32.toInt32))), (.int (nar .char ((((XT.ushrL p2 (8 : Int32)) &&& (255 : Int64)).toInt32).toUInt32.toUInt16.toUInt32.toInt32))), (.int (nar .char ((((XT.ushrL p2 (16 : Int32)) &&& (255 : Int64)).toInt32).toUInt32.toUInt16.toUInt32.toInt32))), (.int (nar .char ((((XT.ushrL p2 (24 : Int32)) &&& (255 : Int64)).toInt32).toUInt32.toUInt16.toUInt32.toInt32))), (.int (nar .char ((((XT.ushrL p2 (32 : Int32)) &&& (255 : Int64)).toInt32).toUInt32.toUInt16.toUInt32.toInt32))), (.int (nar .char ((((XT.ushrL p2 (40 : Int32)) &&& (255 : Int64)).toInt32).toUInt32.toUInt16.toUInt32.toInt32))), (.int (nar .char ((((XT.ushrL p2 (48 : Int32)) &&& (255 : Int64)).toInt32).toUInt32.toUInt16.toUInt32.toInt32))), (.int (nar .char ((((XT.ushrL p2 (56 : Int32)) &&& (255 : Int64)).toInt32).toUInt32.toUInt16.toUInt32.toInt32))), (.int (0 : Int32))] (.int (0 : Int32)) := V96
        refine GoV.st st96 ?_
        show GoV p e below s _ _ _ (T96.setTop (mkF m 287 #[.val (.int p0), .val (.int p1), .val (.long p2), .second, .val (.int p4), .val (.int p5), .val (.int (p0 &&& (3 : Int32))), .val (.ref b1), .unset, .unset, .unset, .unset] []))
        refine GoV.st (fun _ kq_ => XS.aload X96.here hx rfl (hb hby at_287) rfl rfl kq_) ?_
        show GoV p e below s _ _ _ (T96.setTop (mkF m 289 #[.val (.int p0), .val (.int p1), .val (.long p2), .second, .val (.int p4), .val (.int p5), .val (.int (p0 &&& (3 : Int32))), .val (.ref b1), .unset, .unset, .unset, .unset] [(.ref b1)]))
        refine GoV.st (fun _ kq_ => XS.bipush X96.here hx rfl (hb hby at_289) kq_) ?_
        show GoV p e below s _ _ _ (T96.setTop (mkF m 291 #[.val (.int p0), .val (.int p1), .val (.long p2), .second, .val (.int p4), .val (.int p5), .val (.int (p0 &&& (3 : Int32))), .val (.ref b1), .unset, .unset, .unset, .unset] [(.int (8 : Int32)), (.ref b1)]))
        refine GoV.st (fun _ kq_ => XS.iload X96.here hx rfl (hb hby at_291) rfl kq_) ?_
        show GoV p e below s _ _ _ (T96.setTop (mkF m 293 #[.val (.int p0), .val (.int p1), .val (.long p2), .second, .val (.int p4), .val (.int p5), .val (.int (p0 &&& (3 : Int32))), .val (.ref b1), .unset, .unset, .unset, .unset] [(.int p5), (.int (8 : Int32)), (.ref b1)]))
        refine GoV.st (fun _ kq_ => XS.bipush X96.here hx rfl (hb hby at_293) kq_) ?_
        show GoV p e below s _ _ _ (T96.setTop (mkF m 295 #[.val (.int p0), .val (.int p1), .val (.long p2), .second, .val (.int p4), .val (.int p5), .val (.int (p0 &&& (3 : Int32))), .val (.ref b1), .unset, .unset, .unset, .unset] [(.int (8 : Int32)), (.int p5), (.int (8 : Int32)), (.ref b1)]))
        refine GoV.st (fun _ kq_ => XT.iushr X96.here hx rfl (hb hby at_295) rfl kq_) ?_
        show GoV p e below s _ _ _ (T96.setTop (mkF m 296 #[.val (.int p0), .val (.int p1), .val (.long p2), .second, .val (.int p4), .val (.int p5), .val (.int (p0 &&& (3 : Int32))), .val (.ref b1), .unset, .unset, .unset, .unset] [(.int (XT.ushr p5 (8 : Int32))), (.int (8 : Int32)), (.ref b1)]))
        refine GoV.st (fun _ kq_ => XS.sipush X96.here hx rfl (hb hby at_296) kq_) ?_
        show GoV p e below s _ _ _ (T96.setTop (mkF m 299 #[.val (.int p0), .val (.int p1), .val (.long p2), .second, .val (.int p4), .val (.int p5), .val (.int (p0 &&& (3 : Int32))), .val (.ref b1), .unset, .unset, .unset, .unset] [(.int (255 : Int32)), (.int (XT.ushr p5 (8 : Int32))), (.int (8 : Int32)), (.ref b1)]))
        refine GoV.st (fun _ kq_ => XS.iand X96.here hx rfl (hb hby at_299) rfl kq_) ?_
        show GoV p e below s _ _ _ (T96.setTop (mkF m 300 #[.val (.int p0), .val (.int p1), .val (.long p2), .second, .val (.int p4), .val (.int p5), .val (.int (p0 &&& (3 : Int32))), .val (.ref b1), .unset, .unset, .unset, .unset] [(.int ((XT.ushr p5 (8 : Int32)) &&& (255 : Int32))), (.int (8 : Int32)), (.ref b1)]))
        refine GoV.st (fun _ kq_ => XT.i2c X96.here hx rfl (hb hby at_300) rfl kq_) ?_
        show GoV p e below s _ _ _ (T96.setTop (mkF m 301 #[.val (.int p0), .val (.int p1), .val (.long p2), .second, .val (.int p4), .val (.int p5), .val (.int (p0 &&& (3 : Int32))), .val (.ref b1), .unset, .unset, .unset, .unset] [(.int (((XT.ushr p5 (8 : Int32)) &&& (255 : Int32)).toUInt32.toUInt16.toUInt32.toInt32)), (.int (8 : Int32)), (.ref b1)]))
        obtain ⟨T97, h97, X97, e97, W97, V97, st97⟩ := own_stC X96 hx hZ e96 V_b1 (j := (8 : Int32)) (by decide) (by decide) 8 rfl (Nat.le_of_ble_eq_true rfl) (g := (mkF m 301 #[.val (.int p0), .val (.int p1), .val (.long p2), .second, .val (.int p4), .val (.int p5), .val (.int (p0 &&& (3 : Int32))), .val (.ref b1), .unset, .unset, .unset, .unset] [(.int (((XT.ushr p5 (8 : Int32)) &&& (255 : Int32)).toUInt32.toUInt16.toUInt32.toInt32)), (.int (8 : Int32)), (.ref b1)])) rfl rfl (hb hby at_301)
        obtain ⟨lc97, X97, N97⟩ := own_gen X97 (Fr.snoc X97 N96 g_b1)
        have O97 := O96.wr W97 g_b1
        have hk97 := Nat.le_trans hk96 (Nat.le_of_eq W97.size.symm)
        have V_b1 : Arv Z h97 b1 k1 .char (9 : Int32) [(.int (nar .char (((p2 &&& (255 : Int64)).toInt32).toUInt32.toUInt16.toUInt32.toInt32))), (.int (nar .char ((((XT.ushrL p2 (8 : Int32)) &&& (255 : Int64)).toInt32).toUInt32.toUInt16.toUInt32.toInt32))), (.int (nar .char ((((XT.ushrL p2 (16 : Int32)) &&& (255 : Int64)).toInt32).toUInt32.toUInt16.toUInt32.toInt32))), (.int (nar .char ((((XT.ushrL p2 (24 : Int32)) &&& (255 : Int64)).toInt32).toUInt32.toUInt16.toUInt32.toInt32))), (.int (nar .char ((((XT.ushrL p2 (32 : Int32)) &&& (255 : Int64)).toInt32).toUInt32.toUInt16.toUInt32.toInt32))), (.int (nar .char ((((XT.ushrL p2 (40 : Int32)) &&& (255 : Int64)).toInt32).toUInt32.toUInt16.toUInt32.toInt32))), (.int (nar .char ((((XT.ushrL p2 (48 : Int32)) &&& (255 : Int64)).toInt32).toUInt32.toUInt16.toUInt32.toInt32))), (.int (nar .char ((((XT.ushrL p2 (56 : Int32)) &&& (255 : Int64)).toInt32).toUInt32.toUInt16.toUInt32.toInt32))), (.int (nar .char (((XT.ushr p5 (8 : Int32)) &&& (255 : Int32)).toUInt32.toUInt16.toUInt32.toInt32)))] (.int (0 : Int32)) := V97
        refine GoV.st st97 ?_
        show GoV p e below s _ _ _ (T97.setTop (mkF m 302 #[.val (.int p0), .val (.int p1), .val (.long p2), .second, .val (.int p4), .val (.int p5), .val (.int (p0 &&& (3 : Int32))), .val (.ref b1), .unset, .unset, .unset, .unset] []))
        refine GoV.st (fun _ kq_ => XS.iloadN X97.here hx rfl (hb hby at_302) rfl kq_) ?_
        show GoV p e below s _ _ _ (T97.setTop (mkF m 303 #[.val (.int p0), .val (.int p1), .val (.long p2), .second, .val (.int p4), .val (.int p5), .val (.int (p0 &&& (3 : Int32))), .val (.ref b1), .unset, .unset, .unset, .unset] [(.int p1)]))
        refine GoV.st (fun _ kq_ => X97.ldcI hx hown (mvT hZ (own_w hw 107 rfl)) rfl (hb hby at_303) kq_) ?_
        show GoV p e below s _ _ _ (T97.setTop (mkF m 305 #[.val (.int p0), .val (.int p1), .val (.long p2), .second, .val (.int p4), .val (.int p5), .val (.int (p0 &&& (3 : Int32))), .val (.ref b1), .unset, .unset, .unset, .unset] [(.int (2147483647 : Int32)), (.int p1)]))
        refine GoV.st (fun _ kq_ => XS.iand X97.here hx rfl (hb hby at_305) rfl kq_) ?_
        show GoV p e below s _ _ _ (T97.setTop (mkF m 306 #[.val (.int p0), .val (.int p1), .val (.long p2), .second, .val (.int p4), .val (.int p5), .val (.int (p0 &&& (3 : Int32))), .val (.ref b1), .unset, .unset, .unset, .unset] [(.int (p1 &&& (2147483647 : Int32)))]))
        refine GoV.st (fun _ kq_ => XS.bipush X97.here hx rfl (hb hby at_306) kq_) ?_
        show GoV p e below s _ _ _ (T97.setTop (mkF m 308 #[.val (.int p0), .val (.int p1), .val (.long p2), .second, .val (.int p4), .val (.int p5), .val (.int (p0 &&& (3 : Int32))), .val (.ref b1), .unset, .unset, .unset, .unset] [(.int (10 : Int32)), (.int (p1 &&& (2147483647 : Int32)))]))
        refine GoV.st (fun _ kq_ => iremM X97 hx rfl (hb hby at_308) rfl (by decide) kq_) ?_
        show GoV p e below s _ _ _ (T97.setTop (mkF m 309 #[.val (.int p0), .val (.int p1), .val (.long p2), .second, .val (.int p4), .val (.int p5), .val (.int (p0 &&& (3 : Int32))), .val (.ref b1), .unset, .unset, .unset, .unset] [(.int ((p1 &&& (2147483647 : Int32)) % (10 : Int32)))]))
        refine GoV.st (fun _ kq_ => XS.istore X97.here hx rfl (hb hby at_309) rfl (l' := #[.val (.int p0), .val (.int p1), .val (.long p2), .second, .val (.int p4), .val (.int p5), .val (.int (p0 &&& (3 : Int32))), .val (.ref b1), .val (.int ((p1 &&& (2147483647 : Int32)) % (10 : Int32))), .unset, .unset, .unset]) rfl kq_) ?_
        show GoV p e below s _ _ _ (T97.setTop (mkF m 311 #[.val (.int p0), .val (.int p1), .val (.long p2), .second, .val (.int p4), .val (.int p5), .val (.int (p0 &&& (3 : Int32))), .val (.ref b1), .val (.int ((p1 &&& (2147483647 : Int32)) % (10 : Int32))), .unset, .unset, .unset] []))
        exact J311 (nar .char (((p2 &&& (255 : Int64)).toInt32).toUInt32.toUInt16.toUInt32.toInt32)) (nar .char ((((XT.ushrL p2 (8 : Int32)) &&& (255 : Int64)).toInt32).toUInt32.toUInt16.toUInt32.toInt32)) (nar .char ((((XT.ushrL p2 (16 : Int32)) &&& (255 : Int64)).toInt32).toUInt32.toUInt16.toUInt32.toInt32)) (nar .char ((((XT.ushrL p2 (24 : Int32)) &&& (255 : Int64)).toInt32).toUInt32.toUInt16.toUInt32.toInt32)) (nar .char ((((XT.ushrL p2 (32 : Int32)) &&& (255 : Int64)).toInt32).toUInt32.toUInt16.toUInt32.toInt32)) (nar .char ((((XT.ushrL p2 (40 : Int32)) &&& (255 : Int64)).toInt32).toUInt32.toUInt16.toUInt32.toInt32)) (nar .char ((((XT.ushrL p2 (48 : Int32)) &&& (255 : Int64)).toInt32).toUInt32.toUInt16.toUInt32.toInt32)) (nar .char ((((XT.ushrL p2 (56 : Int32)) &&& (255 : Int64)).toInt32).toUInt32.toUInt16.toUInt32.toInt32)) (nar .char (((XT.ushr p5 (8 : Int32)) &&& (255 : Int32)).toUInt32.toUInt16.toUInt32.toInt32)) ((p1 &&& (2147483647 : Int32)) % (10 : Int32)) _ _ _ X97 e97 N97 O97 hk97 V_b1 (own_chJ _) (own_chJ _) (own_chJ _) (own_chJ _) (own_chJ _) (own_chJ _) (own_chJ _) (own_chJ _) (own_ch _) (own_rem p1 10 (by decide))
  obtain ⟨s2, o2, st2, r2⟩ := G
  exact ⟨s2, o2, castTop (ef0 m p0 p1 p2 p4 p5) st2, r2⟩
set_option maxRecDepth 65536 in
set_option maxHeartbeats 40000000 in
theorem comes_1 {Post : Tables → Env → Array Value → State → Outcome → State → Prop} (hpost : ∀ tb e args s v u, (limb_1_1.after args s (.returned v) u = true ∧ limb_1_2.after args s (.returned v) u = true ∧ True) → ReturnedEndW s (.returned v) u (Jvm.fieldLocs frame_1_writes args s ++ Jvm.arrayLocs frame_1_arrays args s ++ Jvm.staticLocs frame_1_statics s) 32 3264 → Post tb e args s (.returned v) u) :
    ArmFor flags0 classFile x code maxLocals ret World_1 tables_1 room_1 Calls_1 rest_1 Pre_1 Post := by
  intro l hfl _ _ p e ha hc hk s m args below hf hA hF happ hP
  obtain ⟨hcalls, hrest, hpre⟩ := hP
  obtain ⟨-, -, -, hnamed, -, -, -, hat⟩ := (Spec.applies_iff hf).mp happ
  obtain ⟨hg, hn⟩ := and_e (Cond.before_iff.mp (show (Jvm.Cond.and given_1 narrow_1).before args s = true from hpre))
  obtain ⟨h1, r1⟩ := and_e hg
  obtain ⟨a0, r2⟩ := and_e r1
  obtain ⟨a1, r3⟩ := and_e r2
  obtain ⟨a2, r4⟩ := and_e r3
  obtain ⟨a3, r5⟩ := and_e r4
  obtain ⟨w0, w1, w2, w3, w4, rfl⟩ : ∃ w0 w1 w2 w3 w4 : Value, args = #[w0, w1, w2, w3, w4] := by
    have hs : args.size = 5 := by simpa [Cond.value, given_1] using h1
    obtain ⟨L⟩ := args
    match L, hs with
    | [w0, w1, w2, w3, w4], _ => exact ⟨w0, w1, w2, w3, w4, rfl⟩
  have hw := fun d (hd : d ∈ tables_1) => atoms_spec (ws := Jvm.Cond.code x code maxLocals ret :: tables_1) hat d (List.mem_cons_of_mem _ hd)
  obtain ⟨hsets, hown0⟩ := atoms_of _ (rest_1_c_eq ▸ (show rest_1_c.before _ s = true from hrest))
  have hfit : Fit s := fun {y c} hc i hi => by
    obtain ⟨ha, rfl⟩ := Array.getElem?_eq_some_iff.mp hc
    have q := List.all_eq_true.mp ((Array.all_eq_true_iff_forall_mem.mp hF) _ (Array.getElem_mem ha)) i (List.mem_range.mpr hi)
    simpa [Array.getElem?_eq_getElem hi] using q
  obtain ⟨i0, ei0⟩ := is_v a0
  obtain rfl : w0 = (.int i0) := Option.some.inj ei0
  obtain ⟨i1, ei1⟩ := is_v a1
  obtain rfl : w1 = (.int i1) := Option.some.inj ei1
  obtain ⟨i2, ei2⟩ := isL_v a2
  obtain rfl : w2 = (.long i2) := Option.some.inj ei2
  obtain ⟨i3, ei3⟩ := is_v a3
  obtain rfl : w3 = (.int i3) := Option.some.inj ei3
  obtain ⟨i4, ei4⟩ := is_v r5
  obtain rfl : w4 = (.int i4) := Option.some.inj ei4
  obtain ⟨q0, hn0⟩ := and_e hn
  obtain ⟨q1, hn1⟩ := and_e hn0
  obtain ⟨q2, hn2⟩ := and_e hn1
  obtain ⟨q3, hn3⟩ := and_e hn2
  obtain ⟨q4, hn4⟩ := and_e hn3
  obtain ⟨q5, hn5⟩ := and_e hn4
  obtain ⟨q6, hn6⟩ := and_e hn5
  obtain ⟨q7, hn7⟩ := and_e hn6
  obtain ⟨q8, hn8⟩ := and_e hn7
  obtain ⟨q9, hn9⟩ := and_e hn8
  obtain ⟨q10, hn10⟩ := and_e hn9
  obtain ⟨q11, hn11⟩ := and_e hn10
  obtain ⟨q12, hn12⟩ := and_e hn11
  obtain ⟨q13, hn13⟩ := and_e hn12
  obtain ⟨q14, hn14⟩ := and_e hn13
  obtain ⟨q15, hn15⟩ := and_e hn14
  obtain ⟨q16, hn16⟩ := and_e hn15
  obtain ⟨q17, hn17⟩ := and_e hn16
  obtain ⟨q18, hn18⟩ := and_e hn17
  obtain ⟨q19, hn19⟩ := and_e hn18
  obtain ⟨q20, hn20⟩ := and_e hn19
  obtain ⟨q21, hn21⟩ := and_e hn20
  obtain ⟨q22, hn22⟩ := and_e hn21
  obtain ⟨q23, hn23⟩ := and_e hn22
  obtain ⟨q24, hn24⟩ := and_e hn23
  obtain ⟨q25, hn25⟩ := and_e hn24
  obtain ⟨q26, hn26⟩ := and_e hn25
  obtain ⟨q27, hn27⟩ := and_e hn26
  have q28 := hn27
  obtain ⟨a_SINGLE, v_SINGLE⟩ := exa_v q0
  have S_SINGLE : Sta s s.heap "com/example/rootward/rootward/model/Policy" "SINGLE" "Lcom/example/rootward/rootward/model/Policy;" (.ref a_SINGLE) := Sta.start v_SINGLE (Or.inr ⟨own_w hw 49 rfl, own_w hw 50 rfl⟩)
  have E_SINGLE : Exa s s.heap a_SINGLE "com/example/rootward/rootward/model/Policy" := Exa.start v_SINGLE q0
  obtain ⟨a__VALUES, v__VALUES⟩ := exa_v q2
  have S__VALUES : Sta s s.heap "com/example/rootward/rootward/model/Policy" "$VALUES" "[Lcom/example/rootward/rootward/model/Policy;" (.ref a__VALUES) := Sta.start v__VALUES (Or.inr ⟨own_w hw 49 rfl, own_w hw 58 rfl⟩)
  have E__VALUES : Exa s s.heap a__VALUES "[Lcom/example/rootward/rootward/model/Policy;" := Exa.start v__VALUES q2
  obtain ⟨a_MULTIPLE, v_MULTIPLE⟩ := exa_v q5
  have S_MULTIPLE : Sta s s.heap "com/example/rootward/rootward/model/Policy" "MULTIPLE" "Lcom/example/rootward/rootward/model/Policy;" (.ref a_MULTIPLE) := Sta.start v_MULTIPLE (Or.inr ⟨own_w hw 49 rfl, own_w hw 66 rfl⟩)
  have E_MULTIPLE : Exa s s.heap a_MULTIPLE "com/example/rootward/rootward/model/Policy" := Exa.start v_MULTIPLE q5
  obtain ⟨t_SINGLE, et_SINGLE⟩ := exa_v q7
  have FS_SINGLE : Fld s s.heap a_SINGLE "com/example/rootward/rootward/model/Policy" "jsonName" "Ljava/lang/String;" (.ref t_SINGLE) := own_fldR v_SINGLE et_SINGLE
  have ES_SINGLE : Exa s s.heap t_SINGLE "java/lang/String" := Exa.start et_SINGLE q7
  have FC_SINGLE : Fld s s.heap t_SINGLE "java/lang/String" "coder" "B" (.int 0) := own_fld et_SINGLE q8
  obtain ⟨y_SINGLE, ey_SINGLE⟩ := arr_v q9
  have FV_SINGLE : Fld s s.heap t_SINGLE "java/lang/String" "value" "[B" (.ref y_SINGLE) := own_fldR et_SINGLE ey_SINGLE
  obtain ⟨c_SINGLE, A_SINGLE⟩ := Arr.start ey_SINGLE q9
  have ln_SINGLE := own_lenv ey_SINGLE A_SINGLE q10
  have VS_SINGLE : Arv s s.heap y_SINGLE c_SINGLE.cls .byte 6 [.int 115, .int 105, .int 110, .int 103, .int 108, .int 101] (.int 0) := Arv.start hfit A_SINGLE ln_SINGLE.1 ln_SINGLE.2 (by decide) rfl ⟨own_elemv ey_SINGLE A_SINGLE q15, own_elemv ey_SINGLE A_SINGLE q16, own_elemv ey_SINGLE A_SINGLE q17, own_elemv ey_SINGLE A_SINGLE q18, own_elemv ey_SINGLE A_SINGLE q19, own_elemv ey_SINGLE A_SINGLE q20, trivial⟩
  obtain ⟨t_MULTIPLE, et_MULTIPLE⟩ := exa_v q11
  have FS_MULTIPLE : Fld s s.heap a_MULTIPLE "com/example/rootward/rootward/model/Policy" "jsonName" "Ljava/lang/String;" (.ref t_MULTIPLE) := own_fldR v_MULTIPLE et_MULTIPLE
  have ES_MULTIPLE : Exa s s.heap t_MULTIPLE "java/lang/String" := Exa.start et_MULTIPLE q11
  have FC_MULTIPLE : Fld s s.heap t_MULTIPLE "java/lang/String" "coder" "B" (.int 0) := own_fld et_MULTIPLE q12
  obtain ⟨y_MULTIPLE, ey_MULTIPLE⟩ := arr_v q13
  have FV_MULTIPLE : Fld s s.heap t_MULTIPLE "java/lang/String" "value" "[B" (.ref y_MULTIPLE) := own_fldR et_MULTIPLE ey_MULTIPLE
  obtain ⟨c_MULTIPLE, A_MULTIPLE⟩ := Arr.start ey_MULTIPLE q13
  have ln_MULTIPLE := own_lenv ey_MULTIPLE A_MULTIPLE q14
  have VS_MULTIPLE : Arv s s.heap y_MULTIPLE c_MULTIPLE.cls .byte 8 [.int 109, .int 117, .int 108, .int 116, .int 105, .int 112, .int 108, .int 101] (.int 0) := Arv.start hfit A_MULTIPLE ln_MULTIPLE.1 ln_MULTIPLE.2 (by decide) rfl ⟨own_elemv ey_MULTIPLE A_MULTIPLE q21, own_elemv ey_MULTIPLE A_MULTIPLE q22, own_elemv ey_MULTIPLE A_MULTIPLE q23, own_elemv ey_MULTIPLE A_MULTIPLE q24, own_elemv ey_MULTIPLE A_MULTIPLE q25, own_elemv ey_MULTIPLE A_MULTIPLE q26, own_elemv ey_MULTIPLE A_MULTIPLE q27, own_elemv ey_MULTIPLE A_MULTIPLE q28, trivial⟩
  obtain ⟨c__V, A__V⟩ := Arr.start v__VALUES q1
  have ln__V := own_lenv v__VALUES A__V q3
  have VV : Arv s s.heap a__VALUES c__V.cls (.object "com/example/rootward/rootward/model/Policy") 2 [.ref a_SINGLE, .ref a_MULTIPLE] .null := Arv.start hfit A__V ln__V.1 ln__V.2 (by decide) rfl ⟨own_elemR v__VALUES A__V v_SINGLE q4, own_elemR v__VALUES A__V v_MULTIPLE q6, trivial⟩
  have hcw := hsets _ (List.mem_of_getElem? (i := 2) rfl)
  have n5 := not_v (Cond.before_iff.mp hcw)
  obtain ⟨zc, e10⟩ := is_v (Cond.before_iff.mp (hsets _ (List.mem_of_getElem? (i := 1) rfl)))
  have SC : Sta s s.heap "java/lang/String" "COMPACT_STRINGS" "Z" (.int zc) := Sta.start e10 (Or.inl (hsets _ (List.mem_of_getElem? (i := 0) rfl)))
  have hcs : ¬ (zc = (0 : Int32)) := gotF (Cond.eq_ints e10 (Term.int_eval (0))) n5
  have q31 := Cond.before_iff.mp (hsets _ (List.mem_of_getElem? (i := 11) rfl))
  obtain ⟨oe, e13⟩ := exa_v q31
  have SO : Sta s s.heap "java/util/Optional" "EMPTY" "Ljava/util/Optional;" (.ref oe) := Sta.start e13 (Or.inl (hsets _ (List.mem_of_getElem? (i := 10) rfl)))
  have EO : Exa s s.heap oe "java/util/Optional" := Exa.start e13 q31
  have FO : Fld s s.heap oe "java/util/Optional" "value" "Ljava/lang/Object;" .null := own_fldN e13 (Cond.before_iff.mp (hsets _ (List.mem_of_getElem? (i := 12) rfl)))
  obtain ⟨n, o, h1, h2, h3, _, L, rfl, ⟨rfl, N⟩, hq⟩ := rm0 l s _ hw tables_1 i0 i1 i2 i3 i4 a_SINGLE a_MULTIPLE a__VALUES t_SINGLE y_SINGLE t_MULTIPLE y_MULTIPLE oe c__V.cls c_SINGLE.cls c_MULTIPLE.cls zc s.heap s.heap.size (Old.start s) rfl E__VALUES VV E_SINGLE FS_SINGLE ES_SINGLE FC_SINGLE FV_SINGLE VS_SINGLE E_MULTIPLE FS_MULTIPLE ES_MULTIPLE FC_MULTIPLE FV_MULTIPLE VS_MULTIPLE S__VALUES SO SC hcs EO FO S_SINGLE S_MULTIPLE hcw hcalls.1 p e ha hc hk s m _ below hf ((Spec.applies_iff_loose hf).mp happ).1 ⟨rfl, rfl⟩ trivial
  refine ⟨n, _, h1, h2, h3, hpost _ _ _ _ _ _ ⟨Cond.after_iff.mpr rfl, Cond.after_iff.mpr (eq_i res_at (Term.int_eval (1)) rfl), trivial⟩ ⟨hq.1, hq.2.1, hq.2.2.1, (hq.2.2.2.sift fun y hy => Or.inr (N y hy)).mono (by decide) (by decide)⟩⟩
theorem main_1_1 : Claimed_1_1 := comes_1 fun _ _ _ _ _ _ h hF => ⟨h.1, hF⟩
theorem main_1_2 : Claimed_1_2 := comes_1 fun _ _ _ _ _ _ h hF => ⟨h.2.1, hF⟩
end Jvm.Pilot.@@N@@
namespace Jvm.Pilot.@@N@@
open Jvm Jvm.ClassFile Sem Op Lib Jvm.Free Jvm.Stand Jvm.Pilot.@@N@@.Jvm.D
/-! MADE BY PROGRAM (witnessworld.py) out of the Statement's table words and the real class files: 24 classes; the members and pool entries that the words name. The judged class is class 1, her method 2. -/
namespace start1
open Jvm.ClassFile
def u (s : String) : CpInfo := .utf8 (stringToUtf16 s)
/-- a pool by its gaps: so many unusable entries, then the entry; so many at the end -/
def gap : Nat → List CpInfo → List CpInfo
  | 0, r => r
  | n + 1, r => .unusable :: gap n r
def poolList (es : List (Nat × CpInfo)) (last : Nat) : List CpInfo := es.foldr (fun e r => gap e.1 (e.2 :: r)) (gap last [])
def pool (es : List (Nat × CpInfo)) (last : Nat) : Array CpInfo := ⟨poolList es last⟩
def fileOf (pool : Array CpInfo) (this : Nat) (attrs : Array Attribute := #[]) (ms : Array MethodInfo := #[]) (fl : Nat := 33) (sup : Nat := 0) (ifs : Array Nat := #[]) (fds : Array FieldInfo := #[]) : ClassFile where
  minorVersion := 0
  majorVersion := 65
  constantPool := pool
  accessFlags := fl
  thisClass := this
  superClass := sup
  interfaces := ifs
  fields := fds
  methods := ms
  attributes := attrs
def plain (name : String) (sup : Option ClassId) : Class where
  name := name
  kind := .ordinary
  loader := none
  accessFlags := 33
  super := sup
  interfaces := #[]
  cf := none
  fields := #[]
  methods := #[]
  instanceTypes := #[]
  staticTypes := #[]
  resolved := #[]
  callSites := []
  init := .initialized
  statics := none
  mirror := none

def pool0 : Array CpInfo := pool [(5, u "<init>"), (0, u "()V"), (1, .class_ 10), (1, u "java/lang/Object"), (85, u "clone"), (0, u "()Ljava/lang/Object;")] 26

def k0c0 : Code := { maxStack := 0, maxLocals := 1, code := object_method_1_code, exceptionTable := #[], attributes := #[] }
def k0m0 : Method := { name := "<init>", desc := "()V", sig := { parameters := [], returnType := none }, accessFlags := 1, code := some k0c0 }
def k0m1 : Method := { name := "clone", desc := "()Ljava/lang/Object;", sig := { parameters := [], returnType := some (.object "java/lang/Object") }, accessFlags := 260, code := none }
/-- java/lang/Object -/
def k0 : Class := { plain "java/lang/Object" none with
  accessFlags := 33
  interfaces := #[]
  cf := some (fileOf pool0 8 #[] #[{ accessFlags := 1, nameIndex := 5, descriptorIndex := 6, attributes := #[] }, { accessFlags := 260, nameIndex := 96, descriptorIndex := 97, attributes := #[] }] 33 0 #[] #[])
  fields := #[]
  methods := #[k0m0, k0m1]
  instanceTypes := #[]
  staticTypes := #[]
  resolved := Array.replicate 124 none
  statics := none }

def pool1 : Array CpInfo := pool [(2, .class_ 4), (1, u "java/lang/Object"), (0, u "<init>"), (0, u "()V"), (0, .class_ 8), (0, u "java/lang/String"), (0, .methodref 7 10), (0, .nameAndType 5 11), (0, u "([C)V"), (0, .long 255), (1, .integer 2147483647), (0, .methodref 16 17), (0, .class_ 18), (0, .nameAndType 19 20), (0, u "com/example/rootward/rootward/model/PolicyNamedPinLaw"), (0, u "take"), (0, u "([CI)Ljava/lang/String;"), (0, .string 22), (0, u "single"), (0, .methodref 7 24), (0, .nameAndType 25 26), (0, u "equals"), (0, u "(Ljava/lang/Object;)Z"), (0, .fieldref 28 29), (0, .class_ 30), (0, .nameAndType 31 32), (0, u "com/example/rootward/rootward/model/Policy"), (0, u "SINGLE"), (0, u "Lcom/example/rootward/rootward/model/Policy;"), (0, .string 34), (0, u "multiple"), (0, .fieldref 28 36), (0, .nameAndType 37 32), (0, u "MULTIPLE"), (0, .methodref 28 39), (0, .nameAndType 40 41), (0, u "named"), (0, u "(Ljava/lang/String;)Ljava/util/Optional;"), (0, .methodref 43 44), (0, .class_ 45), (0, .nameAndType 46 47), (0, u "java/util/Optional"), (0, u "isPresent"), (0, u "()Z"), (0, .methodref 43 49), (0, .nameAndType 50 51), (0, u "get"), (0, u "()Ljava/lang/Object;"), (0, .methodref 28 53), (0, .nameAndType 54 55), (0, u "jsonName"), (0, u "()Ljava/lang/String;"), (3, u "law"), (0, u "(IIJII)Z")] 4

def k1m0 : Method := { name := "<init>", desc := "()V", sig := { parameters := [], returnType := none }, accessFlags := 2, code := none }
def k1c1 : Code := { maxStack := 7, maxLocals := 2, code := method_2_code, exceptionTable := #[], attributes := #[] }
def k1m1 : Method := { name := "take", desc := "([CI)Ljava/lang/String;", sig := { parameters := [(.array .char), .int], returnType := some (.object "java/lang/String") }, accessFlags := 10, code := some k1c1 }
def k1c2 : Code := { maxStack := 6, maxLocals := 12, code := code, exceptionTable := #[], attributes := #[] }
def k1m2 : Method := { name := "law", desc := "(IIJII)Z", sig := { parameters := [.int, .int, .long, .int, .int], returnType := some .boolean }, accessFlags := 9, code := some k1c2 }
/-- com/example/rootward/rootward/model/PolicyNamedPinLaw -/
def k1 : Class := { plain "com/example/rootward/rootward/model/PolicyNamedPinLaw" (some 0) with
  accessFlags := 49
  interfaces := #[]
  cf := some (fileOf pool1 16 #[] #[{ accessFlags := 2, nameIndex := 5, descriptorIndex := 6, attributes := #[] }, { accessFlags := 10, nameIndex := 19, descriptorIndex := 20, attributes := #[] }, { accessFlags := 9, nameIndex := 59, descriptorIndex := 60, attributes := #[] }] 49 2 #[] #[])
  fields := #[]
  methods := #[k1m0, k1m1, k1m2]
  instanceTypes := #[]
  staticTypes := #[]
  resolved := Array.replicate 65 none
  statics := none }

def pool2 : Array CpInfo := pool [(1, .class_ 2), (0, u "java/io/Serializable"), (0, .class_ 4), (0, u "java/lang/Object")] 2

/-- java/io/Serializable -/
def k2 : Class := { plain "java/io/Serializable" (some 0) with
  accessFlags := 1537
  interfaces := #[]
  cf := some (fileOf pool2 1 #[] #[] 1537 3 #[] #[])
  fields := #[]
  methods := #[]
  instanceTypes := #[]
  staticTypes := #[]
  resolved := Array.replicate 7 none
  statics := none }

def pool3 : Array CpInfo := pool [(1, .class_ 2), (0, u "java/lang/Comparable"), (0, .class_ 4), (0, u "java/lang/Object")] 7

/-- java/lang/Comparable -/
def k3 : Class := { plain "java/lang/Comparable" (some 0) with
  accessFlags := 1537
  interfaces := #[]
  cf := some (fileOf pool3 1 #[] #[] 1537 3 #[] #[])
  fields := #[]
  methods := #[]
  instanceTypes := #[]
  staticTypes := #[]
  resolved := Array.replicate 12 none
  statics := none }

def pool4 : Array CpInfo := pool [(2, .class_ 4), (1, u "java/lang/CharSequence"), (42, .class_ 48), (0, u "java/lang/CharSequence$1CodePointIterator"), (10, .class_ 60), (0, u "java/lang/CharSequence$1CharIterator"), (5, .class_ 67), (0, u "java/lang/Object")] 63

/-- java/lang/CharSequence -/
def k4 : Class := { plain "java/lang/CharSequence" (some 0) with
  accessFlags := 1537
  interfaces := #[]
  cf := some (fileOf pool4 2 #[.nestMembers #[47, 59]] #[] 1537 66 #[] #[])
  fields := #[]
  methods := #[]
  instanceTypes := #[]
  staticTypes := #[]
  resolved := Array.replicate 131 none
  statics := none }

def pool5 : Array CpInfo := pool [(1, .class_ 2), (0, u "java/lang/constant/Constable"), (0, .class_ 4), (0, u "java/lang/Object")] 6

/-- java/lang/constant/Constable -/
def k5 : Class := { plain "java/lang/constant/Constable" (some 0) with
  accessFlags := 1537
  interfaces := #[]
  cf := some (fileOf pool5 1 #[] #[] 1537 3 #[] #[])
  fields := #[]
  methods := #[]
  instanceTypes := #[]
  staticTypes := #[]
  resolved := Array.replicate 11 none
  statics := none }

def pool6 : Array CpInfo := pool [(1, .class_ 2), (0, u "java/lang/constant/ConstantDesc"), (0, .class_ 4), (0, u "java/lang/Object")] 32

/-- java/lang/constant/ConstantDesc -/
def k6 : Class := { plain "java/lang/constant/ConstantDesc" (some 0) with
  accessFlags := 1537
  interfaces := #[]
  cf := some (fileOf pool6 1 #[] #[] 1537 3 #[] #[])
  fields := #[]
  methods := #[]
  instanceTypes := #[]
  staticTypes := #[]
  resolved := Array.replicate 37 none
  statics := none }

def pool7 : Array CpInfo := pool [(1, .methodref 2 3), (0, .class_ 4), (0, .nameAndType 5 6), (0, u "java/lang/Object"), (0, u "<init>"), (0, u "()V"), (0, .string 8), (0, u ""), (0, .fieldref 10 11), (0, .class_ 12), (0, .nameAndType 13 14), (0, u "java/lang/String"), (0, u "value"), (0, u "[B"), (0, .fieldref 10 16), (0, .nameAndType 17 18), (0, u "coder"), (0, u "B"), (2, u "hash"), (0, u "I"), (2, u "hashIsZero"), (0, u "Z"), (0, .methodref 10 28), (0, .nameAndType 5 29), (0, u "([CIILjava/lang/Void;)V"), (8, .fieldref 10 39), (0, .nameAndType 40 26), (0, u "COMPACT_STRINGS"), (1, .class_ 44), (1, u "java/lang/StringUTF16"), (0, u "compress"), (1, .methodref 42 48), (0, .nameAndType 49 50), (0, u "coderFromArrayLen"), (0, u "([BI)B"), (56, .class_ 109), (1, u "java/lang/StringLatin1"), (67, .methodref 42 178), (0, .nameAndType 45 179), (0, u "([CII)[B"), (361, .methodref 107 542), (0, .nameAndType 543 544), (0, u "equals"), (0, u "([B[B)Z"), (28, u "(Ljava/lang/Object;)Z"), (1, .class_ 576), (0, u "java/lang/CharSequence"), (22, u "CASE_INSENSITIVE_ORDER"), (0, u "Ljava/util/Comparator;"), (409, u "([C)V"), (90, u "serialPersistentFields"), (0, u "[Ljava/io/ObjectStreamField;"), (0, .class_ 1104), (0, u "java/lang/String$CaseInsensitiveComparator"), (1, .class_ 1107), (0, u "java/io/Serializable"), (0, .class_ 1109), (0, u "java/lang/Comparable"), (0, .class_ 1111), (0, u "java/lang/constant/Constable"), (0, .class_ 1113), (0, u "java/lang/constant/ConstantDesc"), (2, u "serialVersionUID"), (0, u "J"), (3, u "REPL"), (0, u "C"), (2, u "LATIN1"), (1, u "UTF16")] 323

def k7m0 : Method := { name := "<init>", desc := "()V", sig := { parameters := [], returnType := none }, accessFlags := 1, code := none }
def k7c1 : Code := { maxStack := 5, maxLocals := 2, code := jdk_42_method_3_code, exceptionTable := #[], attributes := #[] }
def k7m1 : Method := { name := "<init>", desc := "([C)V", sig := { parameters := [(.array .char)], returnType := none }, accessFlags := 1, code := some k7c1 }
def k7c2 : Code := { maxStack := 2, maxLocals := 3, code := jdk_42_method_66_code, exceptionTable := #[], attributes := #[] }
def k7m2 : Method := { name := "equals", desc := "(Ljava/lang/Object;)Z", sig := { parameters := [(.object "java/lang/Object")], returnType := some .boolean }, accessFlags := 1, code := some k7c2 }
def k7c3 : Code := { maxStack := 4, maxLocals := 6, code := jdk_42_method_149_code, exceptionTable := #[], attributes := #[] }
def k7m3 : Method := { name := "<init>", desc := "([CIILjava/lang/Void;)V", sig := { parameters := [(.array .char), .int, .int, (.object "java/lang/Void")], returnType := none }, accessFlags := 2, code := some k7c3 }
/-- java/lang/String -/
def k7 : Class := { plain "java/lang/String" (some 0) with
  accessFlags := 49
  interfaces := #[2, 3, 4, 5, 6]
  cf := some (fileOf pool7 10 #[.nestMembers #[1103]] #[{ accessFlags := 1, nameIndex := 5, descriptorIndex := 6, attributes := #[] }, { accessFlags := 1, nameIndex := 5, descriptorIndex := 1010, attributes := #[] }, { accessFlags := 1, nameIndex := 543, descriptorIndex := 573, attributes := #[] }, { accessFlags := 2, nameIndex := 5, descriptorIndex := 29, attributes := #[] }] 49 2 #[1106, 1108, 575, 1110, 1112] #[{ accessFlags := 18, nameIndex := 13, descriptorIndex := 14, attributes := #[] }, { accessFlags := 18, nameIndex := 17, descriptorIndex := 18, attributes := #[] }, { accessFlags := 2, nameIndex := 21, descriptorIndex := 22, attributes := #[] }, { accessFlags := 2, nameIndex := 25, descriptorIndex := 26, attributes := #[] }, { accessFlags := 26, nameIndex := 1116, descriptorIndex := 1117, attributes := #[] }, { accessFlags := 24, nameIndex := 40, descriptorIndex := 26, attributes := #[] }, { accessFlags := 26, nameIndex := 1101, descriptorIndex := 1102, attributes := #[] }, { accessFlags := 26, nameIndex := 1121, descriptorIndex := 1122, attributes := #[] }, { accessFlags := 25, nameIndex := 599, descriptorIndex := 600, attributes := #[] }, { accessFlags := 24, nameIndex := 1125, descriptorIndex := 18, attributes := #[] }, { accessFlags := 24, nameIndex := 1127, descriptorIndex := 18, attributes := #[] }])
  fields := #[{ name := "value", type := (.array .byte), accessFlags := 18, slot := 0, constantValue := 0 }, { name := "coder", type := .byte, accessFlags := 18, slot := 1, constantValue := 0 }, { name := "hash", type := .int, accessFlags := 2, slot := 2, constantValue := 0 }, { name := "hashIsZero", type := .boolean, accessFlags := 2, slot := 3, constantValue := 0 }, { name := "serialVersionUID", type := .long, accessFlags := 26, slot := 0, constantValue := 0 }, { name := "COMPACT_STRINGS", type := .boolean, accessFlags := 24, slot := 1, constantValue := 0 }, { name := "serialPersistentFields", type := (.array (.object "java/io/ObjectStreamField")), accessFlags := 26, slot := 2, constantValue := 0 }, { name := "REPL", type := .char, accessFlags := 26, slot := 3, constantValue := 0 }, { name := "CASE_INSENSITIVE_ORDER", type := (.object "java/util/Comparator"), accessFlags := 25, slot := 4, constantValue := 0 }, { name := "LATIN1", type := .byte, accessFlags := 24, slot := 5, constantValue := 0 }, { name := "UTF16", type := .byte, accessFlags := 24, slot := 6, constantValue := 0 }]
  methods := #[k7m0, k7m1, k7m2, k7m3]
  instanceTypes := #[(.array .byte), .byte, .int, .boolean]
  staticTypes := #[.long, .boolean, (.array (.object "java/io/ObjectStreamField")), .char, (.object "java/util/Comparator"), .byte, .byte]
  resolved := Array.replicate 1451 none
  statics := some 0 }

def pool8 : Array CpInfo := pool [(6, .class_ 8), (1, u "java/lang/Object"), (0, u "<init>"), (0, u "()V"), (1, .class_ 14), (1, u "java/lang/StringUTF16"), (31, u "$assertionsDisabled"), (0, u "Z"), (13, u "HI_BYTE_SHIFT"), (0, u "I"), (2, u "LO_BYTE_SHIFT"), (49, .methodref 12 116), (0, .nameAndType 117 118), (0, u "compress"), (0, u "([CI[BII)I"), (3, u "([CII)[B"), (138, u "coderFromArrayLen"), (0, u "([BI)B"), (106, .class_ 371), (1, u "java/lang/StringUTF16$LinesSpliterator"), (58, u "MAX_LENGTH"), (196, .class_ 628), (0, u "java/lang/StringUTF16$CodePointsSpliterator"), (0, .class_ 630), (0, u "java/lang/StringUTF16$CharsSpliterator")] 4

def k8m0 : Method := { name := "<init>", desc := "()V", sig := { parameters := [], returnType := none }, accessFlags := 0, code := none }
def k8c1 : Code := { maxStack := 2, maxLocals := 2, code := jdk_52_method_15_code, exceptionTable := #[], attributes := #[] }
def k8m1 : Method := { name := "coderFromArrayLen", desc := "([BI)B", sig := { parameters := [(.array .byte), .int], returnType := some .byte }, accessFlags := 8, code := some k8c1 }
def k8c2 : Code := { maxStack := 5, maxLocals := 6, code := jdk_52_method_16_code, exceptionTable := #[], attributes := #[] }
def k8m2 : Method := { name := "compress", desc := "([CII)[B", sig := { parameters := [(.array .char), .int, .int], returnType := some (.array .byte) }, accessFlags := 9, code := some k8c2 }
def k8c3 : Code := { maxStack := 3, maxLocals := 7, code := jdk_52_method_21_code, exceptionTable := #[], attributes := #[] }
def k8m3 : Method := { name := "compress", desc := "([CI[BII)I", sig := { parameters := [(.array .char), .int, (.array .byte), .int, .int], returnType := some .int }, accessFlags := 9, code := some k8c3 }
/-- java/lang/StringUTF16 -/
def k8 : Class := { plain "java/lang/StringUTF16" (some 0) with
  accessFlags := 48
  interfaces := #[]
  cf := some (fileOf pool8 12 #[.nestMembers #[627, 629, 369]] #[{ accessFlags := 0, nameIndex := 9, descriptorIndex := 10, attributes := #[] }, { accessFlags := 8, nameIndex := 261, descriptorIndex := 262, attributes := #[] }, { accessFlags := 9, nameIndex := 117, descriptorIndex := 122, attributes := #[] }, { accessFlags := 9, nameIndex := 117, descriptorIndex := 118, attributes := #[] }] 48 6 #[] #[{ accessFlags := 26, nameIndex := 61, descriptorIndex := 62, attributes := #[] }, { accessFlags := 26, nameIndex := 65, descriptorIndex := 62, attributes := #[] }, { accessFlags := 24, nameIndex := 430, descriptorIndex := 62, attributes := #[] }, { accessFlags := 4120, nameIndex := 46, descriptorIndex := 47, attributes := #[] }])
  fields := #[{ name := "HI_BYTE_SHIFT", type := .int, accessFlags := 26, slot := 0, constantValue := 0 }, { name := "LO_BYTE_SHIFT", type := .int, accessFlags := 26, slot := 1, constantValue := 0 }, { name := "MAX_LENGTH", type := .int, accessFlags := 24, slot := 2, constantValue := 0 }, { name := "$assertionsDisabled", type := .boolean, accessFlags := 4120, slot := 3, constantValue := 0 }]
  methods := #[k8m0, k8m1, k8m2, k8m3]
  instanceTypes := #[]
  staticTypes := #[.int, .int, .int, .boolean]
  resolved := Array.replicate 635 none
  statics := none }

def pool9 : Array CpInfo := pool [(4, .class_ 6), (1, u "java/lang/Object"), (0, u "<init>"), (0, u "()V"), (5, .class_ 16), (1, u "java/lang/StringLatin1"), (104, u "$assertionsDisabled"), (0, u "Z"), (98, .class_ 223), (1, u "java/lang/StringLatin1$LinesSpliterator"), (57, u "equals"), (0, u "([B[B)Z"), (107, .class_ 391), (0, u "java/lang/StringLatin1$CharsSpliterator")] 3

def k9m0 : Method := { name := "<init>", desc := "()V", sig := { parameters := [], returnType := none }, accessFlags := 0, code := none }
def k9c1 : Code := { maxStack := 3, maxLocals := 3, code := jdk_43_method_13_code, exceptionTable := #[], attributes := #[] }
def k9m1 : Method := { name := "equals", desc := "([B[B)Z", sig := { parameters := [(.array .byte), (.array .byte)], returnType := some .boolean }, accessFlags := 9, code := some k9c1 }
/-- java/lang/StringLatin1 -/
def k9 : Class := { plain "java/lang/StringLatin1" (some 0) with
  accessFlags := 48
  interfaces := #[]
  cf := some (fileOf pool9 14 #[.nestMembers #[390, 221]] #[{ accessFlags := 0, nameIndex := 7, descriptorIndex := 8, attributes := #[] }, { accessFlags := 9, nameIndex := 281, descriptorIndex := 282, attributes := #[] }] 48 4 #[] #[{ accessFlags := 4120, nameIndex := 121, descriptorIndex := 122, attributes := #[] }])
  fields := #[{ name := "$assertionsDisabled", type := .boolean, accessFlags := 4120, slot := 0, constantValue := 0 }]
  methods := #[k9m0, k9m1]
  instanceTypes := #[]
  staticTypes := #[.boolean]
  resolved := Array.replicate 395 none
  statics := none }

def pool10 : Array CpInfo := pool [(2, .class_ 4), (1, u "java/lang/Enum"), (0, u "name"), (0, u "Ljava/lang/String;"), (2, u "ordinal"), (0, u "I"), (1, .class_ 14), (1, u "java/lang/Object"), (4, u "hash"), (86, .class_ 108), (1, u "java/lang/Enum$EnumDesc"), (2, .class_ 112), (0, u "java/lang/constant/Constable"), (0, .class_ 114), (0, u "java/lang/Comparable"), (0, .class_ 116), (0, u "java/io/Serializable")] 87

/-- java/lang/Enum -/
def k10 : Class := { plain "java/lang/Enum" (some 0) with
  accessFlags := 1057
  interfaces := #[5, 3, 2]
  cf := some (fileOf pool10 2 #[.nestMembers #[106]] #[] 1057 12 #[111, 113, 115] #[{ accessFlags := 18, nameIndex := 5, descriptorIndex := 6, attributes := #[] }, { accessFlags := 18, nameIndex := 9, descriptorIndex := 10, attributes := #[] }, { accessFlags := 2, nameIndex := 19, descriptorIndex := 10, attributes := #[] }])
  fields := #[{ name := "name", type := (.object "java/lang/String"), accessFlags := 18, slot := 0, constantValue := 0 }, { name := "ordinal", type := .int, accessFlags := 18, slot := 1, constantValue := 0 }, { name := "hash", type := .int, accessFlags := 2, slot := 2, constantValue := 0 }]
  methods := #[]
  instanceTypes := #[(.object "java/lang/String"), .int, .int]
  staticTypes := #[]
  resolved := Array.replicate 204 none
  statics := none }

def pool11 : Array CpInfo := pool [(1, .class_ 2), (0, u "com/example/rootward/rootward/model/Policy"), (2, u "SINGLE"), (0, u "Lcom/example/rootward/rootward/model/Policy;"), (2, u "MULTIPLE"), (0, .fieldref 1 11), (0, .nameAndType 12 13), (0, u "$VALUES"), (0, u "[Lcom/example/rootward/rootward/model/Policy;"), (0, .methodref 15 16), (0, .class_ 13), (0, .nameAndType 17 18), (0, u "clone"), (0, u "()Ljava/lang/Object;"), (1, .class_ 22), (1, u "java/lang/Enum"), (6, .fieldref 1 30), (0, .nameAndType 31 32), (0, u "jsonName"), (0, u "Ljava/lang/String;"), (0, .methodref 1 34), (0, .nameAndType 35 36), (0, u "values"), (0, u "()[Lcom/example/rootward/rootward/model/Policy;"), (0, .methodref 38 39), (0, .class_ 40), (0, .nameAndType 41 42), (0, u "java/lang/String"), (0, u "equals"), (0, u "(Ljava/lang/Object;)Z"), (0, .methodref 44 45), (0, .class_ 46), (0, .nameAndType 47 48), (0, u "java/util/Optional"), (0, u "of"), (0, u "(Ljava/lang/Object;)Ljava/util/Optional;"), (0, .methodref 44 50), (0, .nameAndType 51 52), (0, u "empty"), (0, u "()Ljava/util/Optional;"), (18, u "()Ljava/lang/String;"), (0, u "named"), (0, u "(Ljava/lang/String;)Ljava/util/Optional;")] 7

def k11c0 : Code := { maxStack := 1, maxLocals := 0, code := prog_21_method_1_code, exceptionTable := #[], attributes := #[] }
def k11m0 : Method := { name := "values", desc := "()[Lcom/example/rootward/rootward/model/Policy;", sig := { parameters := [], returnType := some (.array (.object "com/example/rootward/rootward/model/Policy")) }, accessFlags := 9, code := some k11c0 }
def k11c1 : Code := { maxStack := 1, maxLocals := 1, code := prog_21_method_4_code, exceptionTable := #[], attributes := #[] }
def k11m1 : Method := { name := "jsonName", desc := "()Ljava/lang/String;", sig := { parameters := [], returnType := some (.object "java/lang/String") }, accessFlags := 1, code := some k11c1 }
def k11c2 : Code := { maxStack := 2, maxLocals := 5, code := prog_21_method_5_code, exceptionTable := #[], attributes := #[] }
def k11m2 : Method := { name := "named", desc := "(Ljava/lang/String;)Ljava/util/Optional;", sig := { parameters := [(.object "java/lang/String")], returnType := some (.object "java/util/Optional") }, accessFlags := 9, code := some k11c2 }
/-- com/example/rootward/rootward/model/Policy -/
def k11 : Class := { plain "com/example/rootward/rootward/model/Policy" (some 10) with
  accessFlags := 16433
  interfaces := #[]
  cf := some (fileOf pool11 1 #[] #[{ accessFlags := 9, nameIndex := 35, descriptorIndex := 36, attributes := #[] }, { accessFlags := 1, nameIndex := 31, descriptorIndex := 71, attributes := #[] }, { accessFlags := 9, nameIndex := 72, descriptorIndex := 73, attributes := #[] }] 16433 20 #[] #[{ accessFlags := 16409, nameIndex := 5, descriptorIndex := 6, attributes := #[] }, { accessFlags := 16409, nameIndex := 9, descriptorIndex := 6, attributes := #[] }, { accessFlags := 18, nameIndex := 31, descriptorIndex := 32, attributes := #[] }, { accessFlags := 4122, nameIndex := 12, descriptorIndex := 13, attributes := #[] }])
  fields := #[{ name := "SINGLE", type := (.object "com/example/rootward/rootward/model/Policy"), accessFlags := 16409, slot := 0, constantValue := 0 }, { name := "MULTIPLE", type := (.object "com/example/rootward/rootward/model/Policy"), accessFlags := 16409, slot := 1, constantValue := 0 }, { name := "jsonName", type := (.object "java/lang/String"), accessFlags := 18, slot := 3, constantValue := 0 }, { name := "$VALUES", type := (.array (.object "com/example/rootward/rootward/model/Policy")), accessFlags := 4122, slot := 2, constantValue := 0 }]
  methods := #[k11m0, k11m1, k11m2]
  instanceTypes := #[(.object "java/lang/String"), .int, .int, (.object "java/lang/String")]
  staticTypes := #[(.object "com/example/rootward/rootward/model/Policy"), (.object "com/example/rootward/rootward/model/Policy"), (.array (.object "com/example/rootward/rootward/model/Policy"))]
  resolved := Array.replicate 81 none
  statics := some 1 }

def pool12 : Array CpInfo := pool [(1, .class_ 2), (0, u "java/lang/Cloneable"), (0, .class_ 4), (0, u "java/lang/Object")] 2

/-- java/lang/Cloneable -/
def k12 : Class := { plain "java/lang/Cloneable" (some 0) with
  accessFlags := 1537
  interfaces := #[]
  cf := some (fileOf pool12 1 #[] #[] 1537 3 #[] #[])
  fields := #[]
  methods := #[]
  instanceTypes := #[]
  staticTypes := #[]
  resolved := Array.replicate 7 none
  statics := none }

def pool13 : Array CpInfo := pool [(1, .fieldref 2 3), (0, .class_ 4), (0, .nameAndType 5 6), (0, u "java/util/Optional"), (0, u "EMPTY"), (0, u "Ljava/util/Optional;"), (0, .methodref 8 9), (0, .class_ 10), (0, .nameAndType 11 12), (0, u "java/lang/Object"), (0, u "<init>"), (0, u "()V"), (0, .fieldref 2 14), (0, .nameAndType 15 16), (0, u "value"), (0, u "Ljava/lang/Object;"), (0, .methodref 18 19), (0, .class_ 20), (0, .nameAndType 21 22), (0, u "java/util/Objects"), (0, u "requireNonNull"), (0, u "(Ljava/lang/Object;)Ljava/lang/Object;"), (0, .methodref 2 24), (0, .nameAndType 11 25), (0, u "(Ljava/lang/Object;)V"), (20, u "()Z"), (8, u "empty"), (0, u "()Ljava/util/Optional;"), (8, u "(Ljava/lang/Object;)Ljava/util/Optional;"), (2, u "isPresent"), (4, u "get"), (0, u "()Ljava/lang/Object;"), (7, u "of")] 104

def k13c0 : Code := { maxStack := 1, maxLocals := 1, code := jdk_32_method_1_code, exceptionTable := #[], attributes := #[] }
def k13m0 : Method := { name := "empty", desc := "()Ljava/util/Optional;", sig := { parameters := [], returnType := some (.object "java/util/Optional") }, accessFlags := 9, code := some k13c0 }
def k13c1 : Code := { maxStack := 2, maxLocals := 2, code := jdk_32_method_2_code, exceptionTable := #[], attributes := #[] }
def k13m1 : Method := { name := "<init>", desc := "(Ljava/lang/Object;)V", sig := { parameters := [(.object "java/lang/Object")], returnType := none }, accessFlags := 2, code := some k13c1 }
def k13c2 : Code := { maxStack := 3, maxLocals := 1, code := jdk_32_method_3_code, exceptionTable := #[], attributes := #[] }
def k13m2 : Method := { name := "of", desc := "(Ljava/lang/Object;)Ljava/util/Optional;", sig := { parameters := [(.object "java/lang/Object")], returnType := some (.object "java/util/Optional") }, accessFlags := 9, code := some k13c2 }
def k13c3 : Code := { maxStack := 3, maxLocals := 1, code := jdk_32_method_5_code, exceptionTable := #[], attributes := #[] }
def k13m3 : Method := { name := "get", desc := "()Ljava/lang/Object;", sig := { parameters := [], returnType := some (.object "java/lang/Object") }, accessFlags := 1, code := some k13c3 }
def k13c4 : Code := { maxStack := 1, maxLocals := 1, code := jdk_32_method_6_code, exceptionTable := #[], attributes := #[] }
def k13m4 : Method := { name := "isPresent", desc := "()Z", sig := { parameters := [], returnType := some .boolean }, accessFlags := 1, code := some k13c4 }
/-- java/util/Optional -/
def k13 : Class := { plain "java/util/Optional" (some 0) with
  accessFlags := 49
  interfaces := #[]
  cf := some (fileOf pool13 2 #[] #[{ accessFlags := 9, nameIndex := 55, descriptorIndex := 56, attributes := #[] }, { accessFlags := 2, nameIndex := 11, descriptorIndex := 25, attributes := #[] }, { accessFlags := 9, nameIndex := 82, descriptorIndex := 65, attributes := #[] }, { accessFlags := 1, nameIndex := 73, descriptorIndex := 74, attributes := #[] }, { accessFlags := 1, nameIndex := 68, descriptorIndex := 46, attributes := #[] }] 49 8 #[] #[{ accessFlags := 26, nameIndex := 5, descriptorIndex := 6, attributes := #[] }, { accessFlags := 18, nameIndex := 15, descriptorIndex := 16, attributes := #[] }])
  fields := #[{ name := "EMPTY", type := (.object "java/util/Optional"), accessFlags := 26, slot := 0, constantValue := 0 }, { name := "value", type := (.object "java/lang/Object"), accessFlags := 18, slot := 0, constantValue := 0 }]
  methods := #[k13m0, k13m1, k13m2, k13m3, k13m4]
  instanceTypes := #[(.object "java/lang/Object")]
  staticTypes := #[(.object "java/util/Optional")]
  resolved := Array.replicate 187 none
  statics := some 2 }

def pool14 : Array CpInfo := pool [(2, .class_ 4), (1, u "java/lang/Object"), (0, u "<init>"), (0, u "()V"), (35, .class_ 44), (1, u "java/util/Objects"), (0, u "requireNonNull"), (0, u "(Ljava/lang/Object;)Ljava/lang/Object;")] 137

def k14m0 : Method := { name := "<init>", desc := "()V", sig := { parameters := [], returnType := none }, accessFlags := 2, code := none }
def k14c1 : Code := { maxStack := 2, maxLocals := 1, code := jdk_31_method_10_code, exceptionTable := #[], attributes := #[] }
def k14m1 : Method := { name := "requireNonNull", desc := "(Ljava/lang/Object;)Ljava/lang/Object;", sig := { parameters := [(.object "java/lang/Object")], returnType := some (.object "java/lang/Object") }, accessFlags := 9, code := some k14c1 }
/-- java/util/Objects -/
def k14 : Class := { plain "java/util/Objects" (some 0) with
  accessFlags := 49
  interfaces := #[]
  cf := some (fileOf pool14 42 #[] #[{ accessFlags := 2, nameIndex := 5, descriptorIndex := 6, attributes := #[] }, { accessFlags := 9, nameIndex := 45, descriptorIndex := 46, attributes := #[] }] 49 2 #[] #[])
  fields := #[]
  methods := #[k14m0, k14m1]
  instanceTypes := #[]
  staticTypes := #[]
  resolved := Array.replicate 184 none
  statics := none }

def pool15 : Array CpInfo := pool [(2, .class_ 4), (1, u "java/lang/Object"), (0, u "<init>"), (0, u "()V"), (17, .class_ 26), (1, u "jdk/internal/util/Preconditions"), (28, .class_ 56), (0, u "jdk/internal/util/Preconditions$4"), (57, .class_ 115), (0, u "jdk/internal/util/Preconditions$1"), (7, u "SIOOBE_FORMATTER"), (0, u "Ljava/util/function/BiFunction;"), (0, .class_ 126), (0, u "jdk/internal/util/Preconditions$2"), (3, u "AIOOBE_FORMATTER"), (0, .class_ 132), (0, u "jdk/internal/util/Preconditions$3"), (3, u "IOOBE_FORMATTER")] 57

def k15m0 : Method := { name := "<init>", desc := "()V", sig := { parameters := [], returnType := none }, accessFlags := 1, code := none }
/-- jdk/internal/util/Preconditions -/
def k15 : Class := { plain "jdk/internal/util/Preconditions" (some 0) with
  accessFlags := 33
  interfaces := #[]
  cf := some (fileOf pool15 24 #[.nestMembers #[55, 131, 125, 114]] #[{ accessFlags := 1, nameIndex := 5, descriptorIndex := 6, attributes := #[] }] 33 2 #[] #[{ accessFlags := 25, nameIndex := 123, descriptorIndex := 124, attributes := #[] }, { accessFlags := 25, nameIndex := 130, descriptorIndex := 124, attributes := #[] }, { accessFlags := 25, nameIndex := 136, descriptorIndex := 124, attributes := #[] }])
  fields := #[{ name := "SIOOBE_FORMATTER", type := (.object "java/util/function/BiFunction"), accessFlags := 25, slot := 0, constantValue := 0 }, { name := "AIOOBE_FORMATTER", type := (.object "java/util/function/BiFunction"), accessFlags := 25, slot := 1, constantValue := 0 }, { name := "IOOBE_FORMATTER", type := (.object "java/util/function/BiFunction"), accessFlags := 25, slot := 2, constantValue := 0 }]
  methods := #[k15m0]
  instanceTypes := #[]
  staticTypes := #[(.object "java/util/function/BiFunction"), (.object "java/util/function/BiFunction"), (.object "java/util/function/BiFunction")]
  resolved := Array.replicate 194 none
  statics := some 3 }

def pool16 : Array CpInfo := pool [(9, u "<init>"), (6, .class_ 18), (1, u "java/lang/Object"), (0, u "()V"), (1, .class_ 23), (1, u "jdk/internal/util/ArraysSupport"), (0, u "LOG2_ARRAY_LONG_INDEX_SCALE"), (0, u "I"), (2, u "U"), (0, u "Ljdk/internal/misc/Unsafe;"), (8, u "BIG_ENDIAN"), (0, u "Z"), (8, u "LOG2_BYTE_BIT_SIZE"), (4, u "LOG2_ARRAY_INT_INDEX_SCALE"), (54, u "JLA"), (0, u "Ljdk/internal/access/JavaLangAccess;"), (11, u "LOG2_ARRAY_BOOLEAN_INDEX_SCALE"), (9, u "LOG2_ARRAY_BYTE_INDEX_SCALE"), (5, u "LOG2_ARRAY_CHAR_INDEX_SCALE"), (5, u "LOG2_ARRAY_SHORT_INDEX_SCALE"), (18, u "LOG2_ARRAY_FLOAT_INDEX_SCALE"), (24, u "LOG2_ARRAY_DOUBLE_INDEX_SCALE"), (89, u "T_BOOLEAN"), (2, u "T_CHAR"), (1, u "T_FLOAT"), (1, u "T_DOUBLE"), (1, u "T_BYTE"), (1, u "T_SHORT"), (1, u "T_INT"), (1, u "T_LONG"), (1, u "SOFT_MAX_ARRAY_LENGTH")] 83

def k16m0 : Method := { name := "<init>", desc := "()V", sig := { parameters := [], returnType := none }, accessFlags := 2, code := none }
/-- jdk/internal/util/ArraysSupport -/
def k16 : Class := { plain "jdk/internal/util/ArraysSupport" (some 0) with
  accessFlags := 33
  interfaces := #[]
  cf := some (fileOf pool16 21 #[] #[{ accessFlags := 2, nameIndex := 9, descriptorIndex := 19, attributes := #[] }] 33 16 #[] #[{ accessFlags := 24, nameIndex := 28, descriptorIndex := 29, attributes := #[] }, { accessFlags := 26, nameIndex := 38, descriptorIndex := 39, attributes := #[] }, { accessFlags := 25, nameIndex := 121, descriptorIndex := 25, attributes := #[] }, { accessFlags := 25, nameIndex := 131, descriptorIndex := 25, attributes := #[] }, { accessFlags := 25, nameIndex := 137, descriptorIndex := 25, attributes := #[] }, { accessFlags := 25, nameIndex := 143, descriptorIndex := 25, attributes := #[] }, { accessFlags := 25, nameIndex := 53, descriptorIndex := 25, attributes := #[] }, { accessFlags := 25, nameIndex := 24, descriptorIndex := 25, attributes := #[] }, { accessFlags := 25, nameIndex := 162, descriptorIndex := 25, attributes := #[] }, { accessFlags := 25, nameIndex := 187, descriptorIndex := 25, attributes := #[] }, { accessFlags := 26, nameIndex := 48, descriptorIndex := 25, attributes := #[] }, { accessFlags := 25, nameIndex := 277, descriptorIndex := 25, attributes := #[] }, { accessFlags := 25, nameIndex := 280, descriptorIndex := 25, attributes := #[] }, { accessFlags := 25, nameIndex := 282, descriptorIndex := 25, attributes := #[] }, { accessFlags := 25, nameIndex := 284, descriptorIndex := 25, attributes := #[] }, { accessFlags := 25, nameIndex := 286, descriptorIndex := 25, attributes := #[] }, { accessFlags := 25, nameIndex := 288, descriptorIndex := 25, attributes := #[] }, { accessFlags := 25, nameIndex := 290, descriptorIndex := 25, attributes := #[] }, { accessFlags := 25, nameIndex := 292, descriptorIndex := 25, attributes := #[] }, { accessFlags := 26, nameIndex := 108, descriptorIndex := 109, attributes := #[] }, { accessFlags := 25, nameIndex := 294, descriptorIndex := 25, attributes := #[] }])
  fields := #[{ name := "U", type := (.object "jdk/internal/misc/Unsafe"), accessFlags := 24, slot := 0, constantValue := 0 }, { name := "BIG_ENDIAN", type := .boolean, accessFlags := 26, slot := 1, constantValue := 0 }, { name := "LOG2_ARRAY_BOOLEAN_INDEX_SCALE", type := .int, accessFlags := 25, slot := 2, constantValue := 0 }, { name := "LOG2_ARRAY_BYTE_INDEX_SCALE", type := .int, accessFlags := 25, slot := 3, constantValue := 0 }, { name := "LOG2_ARRAY_CHAR_INDEX_SCALE", type := .int, accessFlags := 25, slot := 4, constantValue := 0 }, { name := "LOG2_ARRAY_SHORT_INDEX_SCALE", type := .int, accessFlags := 25, slot := 5, constantValue := 0 }, { name := "LOG2_ARRAY_INT_INDEX_SCALE", type := .int, accessFlags := 25, slot := 6, constantValue := 0 }, { name := "LOG2_ARRAY_LONG_INDEX_SCALE", type := .int, accessFlags := 25, slot := 7, constantValue := 0 }, { name := "LOG2_ARRAY_FLOAT_INDEX_SCALE", type := .int, accessFlags := 25, slot := 8, constantValue := 0 }, { name := "LOG2_ARRAY_DOUBLE_INDEX_SCALE", type := .int, accessFlags := 25, slot := 9, constantValue := 0 }, { name := "LOG2_BYTE_BIT_SIZE", type := .int, accessFlags := 26, slot := 10, constantValue := 0 }, { name := "T_BOOLEAN", type := .int, accessFlags := 25, slot := 11, constantValue := 0 }, { name := "T_CHAR", type := .int, accessFlags := 25, slot := 12, constantValue := 0 }, { name := "T_FLOAT", type := .int, accessFlags := 25, slot := 13, constantValue := 0 }, { name := "T_DOUBLE", type := .int, accessFlags := 25, slot := 14, constantValue := 0 }, { name := "T_BYTE", type := .int, accessFlags := 25, slot := 15, constantValue := 0 }, { name := "T_SHORT", type := .int, accessFlags := 25, slot := 16, constantValue := 0 }, { name := "T_INT", type := .int, accessFlags := 25, slot := 17, constantValue := 0 }, { name := "T_LONG", type := .int, accessFlags := 25, slot := 18, constantValue := 0 }, { name := "JLA", type := (.object "jdk/internal/access/JavaLangAccess"), accessFlags := 26, slot := 19, constantValue := 0 }, { name := "SOFT_MAX_ARRAY_LENGTH", type := .int, accessFlags := 25, slot := 20, constantValue := 0 }]
  methods := #[k16m0]
  instanceTypes := #[]
  staticTypes := #[(.object "jdk/internal/misc/Unsafe"), .boolean, .int, .int, .int, .int, .int, .int, .int, .int, .int, .int, .int, .int, .int, .int, .int, .int, .int, (.object "jdk/internal/access/JavaLangAccess"), .int]
  resolved := Array.replicate 378 none
  statics := none }

/-- the primitive byte -/
def k17 : Class := { plain "byte" none with kind := .primitive 'B', accessFlags := 0x411 }
/-- [B -/
def k18 : Class := { plain "[B" (some 0) with kind := .array 17 .byte, interfaces := #[12, 2], accessFlags := 1041 }

/-- the primitive char -/
def k19 : Class := { plain "char" none with kind := .primitive 'C', accessFlags := 0x411 }
/-- [C -/
def k20 : Class := { plain "[C" (some 0) with kind := .array 19 .char, interfaces := #[12, 2], accessFlags := 1041 }

/-- the primitive int -/
def k21 : Class := { plain "int" none with kind := .primitive 'I', accessFlags := 0x411 }
/-- [I -/
def k22 : Class := { plain "[I" (some 0) with kind := .array 21 .int, interfaces := #[12, 2], accessFlags := 1041 }

/-- [Lcom/example/rootward/rootward/model/Policy; -/
def k23 : Class := { plain "[Lcom/example/rootward/rootward/model/Policy;" (some 0) with kind := .array 11 (.object "com/example/rootward/rootward/model/Policy"), interfaces := #[12, 2], accessFlags := 1041 }

def heap : Heap := #[{ cls := 7, slots := #[.long 0, .int 1, .null, .int 0, .null, .int 0, .int 0], vm := .statics 7 },
  { cls := 11, slots := #[.ref 4, .ref 5, .ref 10], vm := .statics 11 },
  { cls := 13, slots := #[.ref 11], vm := .statics 13 },
  { cls := 15, slots := #[.null, .null, .null], vm := .statics 15 },
  { cls := 11, slots := #[.null, .int 0, .int 0, .ref 6], vm := .none },
  { cls := 11, slots := #[.null, .int 1, .int 0, .ref 7], vm := .none },
  { cls := 7, slots := #[.ref 8, .int 0, .int 0, .int 0], vm := .none },
  { cls := 7, slots := #[.ref 9, .int 0, .int 0, .int 0], vm := .none },
  { cls := 18, slots := #[.int 115, .int 105, .int 110, .int 103, .int 108, .int 101], vm := .none },
  { cls := 18, slots := #[.int 109, .int 117, .int 108, .int 116, .int 105, .int 112, .int 108, .int 101], vm := .none },
  { cls := 23, slots := #[.ref 4, .ref 5], vm := .none },
  { cls := 13, slots := #[.null], vm := .none }]
def classes : Array Class := #[k0, k1, k2, k3, k4, k5, k6, k7, k8, k9, k10, k11, k12, k13, k14, k15, k16, k17, k18, k19, k20, k21, k22, k23]
def interned : List (Array UInt16 × Addr) := []
def slotsUsed : Nat := 47
def theMethod : MethodId := ⟨1, 2⟩
def args0 : Array Value := #[.int 0, .int 1, .long 5, .int 3, .int 65]
def aboutOver (below : List Frame) : State where
  vm := { classes := classes, interned := interned.toArray }
  heap := heap
  slotsUsed := slotsUsed
  threads := #[{ frames := .invoking theMethod args0 :: below }]
def below0 : List Frame := [.native { method := ⟨0, 0⟩, args := #[] }]
def about1 : State := aboutOver below0
def p0 : Program := .bare "" "" ""
def e0 : Env := launch0.env 0 0 0
theorem w_frames : about1.frames = Frame.invoking theMethod args0 :: below0 := rfl
set_option maxRecDepth 65536 in
theorem w_args : argsFit about1.vm theMethod args0 = true := by decide +kernel
set_option maxRecDepth 65536 in
theorem w_heap : heapFits about1 = true := by decide +kernel
set_option maxRecDepth 65536 in
theorem w_runnable : about1.curStatus? = some .runnable := by decide +kernel
set_option maxRecDepth 65536 in
theorem w_alone : about1.alone = true := by decide +kernel
set_option maxRecDepth 65536 in
theorem w_named : about1.methodNamed? x = some theMethod := by decide +kernel
set_option maxRecDepth 65536 in
theorem w_hears : about1.hears theMethod below0 = true := by decide +kernel
set_option maxRecDepth 65536 in
theorem w_ripe : about1.ripe theMethod args0 below0 = true := by decide +kernel
theorem w_running : about1.status = .running := rfl
set_option maxRecDepth 65536 in
theorem w_room : about1.hasRoom e0.platform room_1 = true :=
  launch0.hasRoom_least _ room_1 (by decide +kernel) (by decide +kernel) (by decide +kernel) (by decide +kernel) (by decide +kernel) (by decide +kernel)
theorem allAtoms_all (ts : List Jvm.Cond) (a : Array Jvm.Value) (st : Jvm.State) : (allAtoms ts).before a st = ts.all (fun c => c.before a st) := by
  induction ts with
  | nil => rfl
  | cons c t ih =>
    show (Jvm.Cond.and c (allAtoms t)).before a st = _
    rw [Jvm.Cond.before_and, ih, List.all_cons]
def words1 : List Jvm.Cond := Jvm.Cond.code x code maxLocals ret :: tables_1
/-- a 'code' word, met by the world's own term for the bytes: nothing is compared byte by byte -/
theorem code_word {y : MethodName} {bytes : ByteArray} {mx : Nat} {rt : Option FieldType} {a : Array Value} {s : State} {m : MethodId} {meth : Method} {c : Code} (h1 : s.methodNamed? y = some m) (h2 : s.vm.method? m = some meth) (h3 : meth.code = some c) (h4 : c.code = bytes)
    (h5 : (c.maxLocals == mx && c.exceptionTable.isEmpty && decide (c.maxStack ≤ mostOperands) && decide (meth.sig.returnType = rt) && !meth.locks && decide (parseMethodDescriptor y.desc = some meth.sig)) = true) : (Jvm.Cond.code y bytes mx rt).before a s = true := by
  simp only [Bool.and_eq_true, beq_iff_eq, Bool.not_eq_true', decide_eq_true_eq] at h5
  obtain ⟨⟨⟨⟨⟨g1, g2⟩, g3⟩, g4⟩, g5⟩, g6⟩ := h5
  simp [Cond.before, Cond.holds, Cond.value, h1, h2, h3, h4, g1, g2, g3, g4, g5, g6]
def isCode : Jvm.Cond → Bool
  | .code _ _ _ _ => true
  | _ => false
theorem all_split {L : List Jvm.Cond} {P : Jvm.Cond → Bool} (h1 : L.all (fun c => isCode c || P c) = true) (h2 : ∀ c ∈ L.filter isCode, P c = true) : L.all P = true := by
  refine List.all_eq_true.mpr fun c hc => ?_
  have h := List.all_eq_true.mp h1 c hc
  rcases Bool.eq_false_or_eq_true (isCode c) with hi | hi
  · exact h2 c (List.mem_filter.mpr ⟨hc, hi⟩)
  · simpa [hi] using h
set_option maxRecDepth 65536 in
theorem w_c0 : (Jvm.Cond.code x code maxLocals ret).before args0 about1 = true := code_word (m := ⟨1, 2⟩) (meth := k1m2) (c := k1c2) (by decide +kernel) rfl rfl rfl (by decide +kernel)
set_option maxRecDepth 65536 in
theorem w_c1 : (Jvm.Cond.code ({ cls := "com/example/rootward/rootward/model/PolicyNamedPinLaw", name := "take", desc := "([CI)Ljava/lang/String;" } : Jvm.MethodName) method_2_code (2 : Nat) (Option.some (Jvm.ClassFile.FieldType.object "java/lang/String"))).before args0 about1 = true := code_word (m := ⟨1, 1⟩) (meth := k1m1) (c := k1c1) (by decide +kernel) rfl rfl rfl (by decide +kernel)
set_option maxRecDepth 65536 in
theorem w_c2 : (Jvm.Cond.code ({ cls := "java/lang/String", name := "<init>", desc := "([C)V" } : Jvm.MethodName) jdk_42_method_3_code (2 : Nat) (Option.none : Option Jvm.ClassFile.FieldType)).before args0 about1 = true := code_word (m := ⟨7, 1⟩) (meth := k7m1) (c := k7c1) (by decide +kernel) rfl rfl rfl (by decide +kernel)
set_option maxRecDepth 65536 in
theorem w_c3 : (Jvm.Cond.code ({ cls := "java/lang/String", name := "<init>", desc := "([CIILjava/lang/Void;)V" } : Jvm.MethodName) jdk_42_method_149_code (6 : Nat) (Option.none : Option Jvm.ClassFile.FieldType)).before args0 about1 = true := code_word (m := ⟨7, 3⟩) (meth := k7m3) (c := k7c3) (by decide +kernel) rfl rfl rfl (by decide +kernel)
set_option maxRecDepth 65536 in
theorem w_c4 : (Jvm.Cond.code ({ cls := "java/lang/Object", name := "<init>", desc := "()V" } : Jvm.MethodName) object_method_1_code (1 : Nat) (Option.none : Option Jvm.ClassFile.FieldType)).before args0 about1 = true := code_word (m := ⟨0, 0⟩) (meth := k0m0) (c := k0c0) (by decide +kernel) rfl rfl rfl (by decide +kernel)
set_option maxRecDepth 65536 in
theorem w_c5 : (Jvm.Cond.code ({ cls := "java/lang/StringUTF16", name := "compress", desc := "([CII)[B" } : Jvm.MethodName) jdk_52_method_16_code (6 : Nat) (Option.some (Jvm.ClassFile.FieldType.array Jvm.ClassFile.FieldType.byte))).before args0 about1 = true := code_word (m := ⟨8, 2⟩) (meth := k8m2) (c := k8c2) (by decide +kernel) rfl rfl rfl (by decide +kernel)
set_option maxRecDepth 65536 in
theorem w_c6 : (Jvm.Cond.code ({ cls := "java/lang/StringUTF16", name := "compress", desc := "([CI[BII)I" } : Jvm.MethodName) jdk_52_method_21_code (7 : Nat) (Option.some Jvm.ClassFile.FieldType.int)).before args0 about1 = true := code_word (m := ⟨8, 3⟩) (meth := k8m3) (c := k8c3) (by decide +kernel) rfl rfl rfl (by decide +kernel)
set_option maxRecDepth 65536 in
theorem w_c7 : (Jvm.Cond.code ({ cls := "java/lang/StringUTF16", name := "coderFromArrayLen", desc := "([BI)B" } : Jvm.MethodName) jdk_52_method_15_code (2 : Nat) (Option.some Jvm.ClassFile.FieldType.byte)).before args0 about1 = true := code_word (m := ⟨8, 1⟩) (meth := k8m1) (c := k8c1) (by decide +kernel) rfl rfl rfl (by decide +kernel)
set_option maxRecDepth 65536 in
theorem w_c8 : (Jvm.Cond.code ({ cls := "java/lang/String", name := "equals", desc := "(Ljava/lang/Object;)Z" } : Jvm.MethodName) jdk_42_method_66_code (3 : Nat) (Option.some Jvm.ClassFile.FieldType.boolean)).before args0 about1 = true := code_word (m := ⟨7, 2⟩) (meth := k7m2) (c := k7c2) (by decide +kernel) rfl rfl rfl (by decide +kernel)
set_option maxRecDepth 65536 in
theorem w_c9 : (Jvm.Cond.code ({ cls := "java/lang/StringLatin1", name := "equals", desc := "([B[B)Z" } : Jvm.MethodName) jdk_43_method_13_code (3 : Nat) (Option.some Jvm.ClassFile.FieldType.boolean)).before args0 about1 = true := code_word (m := ⟨9, 1⟩) (meth := k9m1) (c := k9c1) (by decide +kernel) rfl rfl rfl (by decide +kernel)
set_option maxRecDepth 65536 in
theorem w_c10 : (Jvm.Cond.code ({ cls := "com/example/rootward/rootward/model/Policy", name := "named", desc := "(Ljava/lang/String;)Ljava/util/Optional;" } : Jvm.MethodName) prog_21_method_5_code (5 : Nat) (Option.some (Jvm.ClassFile.FieldType.object "java/util/Optional"))).before args0 about1 = true := code_word (m := ⟨11, 2⟩) (meth := k11m2) (c := k11c2) (by decide +kernel) rfl rfl rfl (by decide +kernel)
set_option maxRecDepth 65536 in
theorem w_c11 : (Jvm.Cond.code ({ cls := "com/example/rootward/rootward/model/Policy", name := "values", desc := "()[Lcom/example/rootward/rootward/model/Policy;" } : Jvm.MethodName) prog_21_method_1_code (0 : Nat) (Option.some (Jvm.ClassFile.FieldType.array (Jvm.ClassFile.FieldType.object "com/example/rootward/rootward/model/Policy")))).before args0 about1 = true := code_word (m := ⟨11, 0⟩) (meth := k11m0) (c := k11c0) (by decide +kernel) rfl rfl rfl (by decide +kernel)
set_option maxRecDepth 65536 in
theorem w_c12 : (Jvm.Cond.code ({ cls := "java/util/Optional", name := "of", desc := "(Ljava/lang/Object;)Ljava/util/Optional;" } : Jvm.MethodName) jdk_32_method_3_code (1 : Nat) (Option.some (Jvm.ClassFile.FieldType.object "java/util/Optional"))).before args0 about1 = true := code_word (m := ⟨13, 2⟩) (meth := k13m2) (c := k13c2) (by decide +kernel) rfl rfl rfl (by decide +kernel)
set_option maxRecDepth 65536 in
theorem w_c13 : (Jvm.Cond.code ({ cls := "java/util/Objects", name := "requireNonNull", desc := "(Ljava/lang/Object;)Ljava/lang/Object;" } : Jvm.MethodName) jdk_31_method_10_code (1 : Nat) (Option.some (Jvm.ClassFile.FieldType.object "java/lang/Object"))).before args0 about1 = true := code_word (m := ⟨14, 1⟩) (meth := k14m1) (c := k14c1) (by decide +kernel) rfl rfl rfl (by decide +kernel)
set_option maxRecDepth 65536 in
theorem w_c14 : (Jvm.Cond.code ({ cls := "java/util/Optional", name := "<init>", desc := "(Ljava/lang/Object;)V" } : Jvm.MethodName) jdk_32_method_2_code (2 : Nat) (Option.none : Option Jvm.ClassFile.FieldType)).before args0 about1 = true := code_word (m := ⟨13, 1⟩) (meth := k13m1) (c := k13c1) (by decide +kernel) rfl rfl rfl (by decide +kernel)
set_option maxRecDepth 65536 in
theorem w_c15 : (Jvm.Cond.code ({ cls := "java/util/Optional", name := "isPresent", desc := "()Z" } : Jvm.MethodName) jdk_32_method_6_code (1 : Nat) (Option.some Jvm.ClassFile.FieldType.boolean)).before args0 about1 = true := code_word (m := ⟨13, 4⟩) (meth := k13m4) (c := k13c4) (by decide +kernel) rfl rfl rfl (by decide +kernel)
set_option maxRecDepth 65536 in
theorem w_c16 : (Jvm.Cond.code ({ cls := "java/util/Optional", name := "get", desc := "()Ljava/lang/Object;" } : Jvm.MethodName) jdk_32_method_5_code (1 : Nat) (Option.some (Jvm.ClassFile.FieldType.object "java/lang/Object"))).before args0 about1 = true := code_word (m := ⟨13, 3⟩) (meth := k13m3) (c := k13c3) (by decide +kernel) rfl rfl rfl (by decide +kernel)
set_option maxRecDepth 65536 in
theorem w_c17 : (Jvm.Cond.code ({ cls := "com/example/rootward/rootward/model/Policy", name := "jsonName", desc := "()Ljava/lang/String;" } : Jvm.MethodName) prog_21_method_4_code (1 : Nat) (Option.some (Jvm.ClassFile.FieldType.object "java/lang/String"))).before args0 about1 = true := code_word (m := ⟨11, 1⟩) (meth := k11m1) (c := k11c1) (by decide +kernel) rfl rfl rfl (by decide +kernel)
set_option maxRecDepth 65536 in
theorem w_c18 : (Jvm.Cond.code ({ cls := "java/util/Optional", name := "empty", desc := "()Ljava/util/Optional;" } : Jvm.MethodName) jdk_32_method_1_code (1 : Nat) (Option.some (Jvm.ClassFile.FieldType.object "java/util/Optional"))).before args0 about1 = true := code_word (m := ⟨13, 0⟩) (meth := k13m0) (c := k13c0) (by decide +kernel) rfl rfl rfl (by decide +kernel)
def codes1 : List Jvm.Cond := [Jvm.Cond.code x code maxLocals ret, Jvm.Cond.code ({ cls := "com/example/rootward/rootward/model/PolicyNamedPinLaw", name := "take", desc := "([CI)Ljava/lang/String;" } : Jvm.MethodName) method_2_code (2 : Nat) (Option.some (Jvm.ClassFile.FieldType.object "java/lang/String")), Jvm.Cond.code ({ cls := "java/lang/String", name := "<init>", desc := "([C)V" } : Jvm.MethodName) jdk_42_method_3_code (2 : Nat) (Option.none : Option Jvm.ClassFile.FieldType), Jvm.Cond.code ({ cls := "java/lang/String", name := "<init>", desc := "([CIILjava/lang/Void;)V" } : Jvm.MethodName) jdk_42_method_149_code (6 : Nat) (Option.none : Option Jvm.ClassFile.FieldType), Jvm.Cond.code ({ cls := "java/lang/Object", name := "<init>", desc := "()V" } : Jvm.MethodName) object_method_1_code (1 : Nat) (Option.none : Option Jvm.ClassFile.FieldType), Jvm.Cond.code ({ cls := "java/lang/StringUTF16", name := "compress", desc := "([CII)[B" } : Jvm.MethodName) jdk_52_method_16_code (6 : Nat) (Option.some (Jvm.ClassFile.FieldType.array Jvm.ClassFile.FieldType.byte)), Jvm.Cond.code ({ cls := "java/lang/StringUTF16", name := "compress", desc := "([CI[BII)I" } : Jvm.MethodName) jdk_52_method_21_code (7 : Nat) (Option.some Jvm.ClassFile.FieldType.int), Jvm.Cond.code ({ cls := "java/lang/StringUTF16", name := "coderFromArrayLen", desc := "([BI)B" } : Jvm.MethodName) jdk_52_method_15_code (2 : Nat) (Option.some Jvm.ClassFile.FieldType.byte), Jvm.Cond.code ({ cls := "java/lang/String", name := "equals", desc := "(Ljava/lang/Object;)Z" } : Jvm.MethodName) jdk_42_method_66_code (3 : Nat) (Option.some Jvm.ClassFile.FieldType.boolean), Jvm.Cond.code ({ cls := "java/lang/StringLatin1", name := "equals", desc := "([B[B)Z" } : Jvm.MethodName) jdk_43_method_13_code (3 : Nat) (Option.some Jvm.ClassFile.FieldType.boolean), Jvm.Cond.code ({ cls := "com/example/rootward/rootward/model/Policy", name := "named", desc := "(Ljava/lang/String;)Ljava/util/Optional;" } : Jvm.MethodName) prog_21_method_5_code (5 : Nat) (Option.some (Jvm.ClassFile.FieldType.object "java/util/Optional")), Jvm.Cond.code ({ cls := "com/example/rootward/rootward/model/Policy", name := "values", desc := "()[Lcom/example/rootward/rootward/model/Policy;" } : Jvm.MethodName) prog_21_method_1_code (0 : Nat) (Option.some (Jvm.ClassFile.FieldType.array (Jvm.ClassFile.FieldType.object "com/example/rootward/rootward/model/Policy"))), Jvm.Cond.code ({ cls := "java/util/Optional", name := "of", desc := "(Ljava/lang/Object;)Ljava/util/Optional;" } : Jvm.MethodName) jdk_32_method_3_code (1 : Nat) (Option.some (Jvm.ClassFile.FieldType.object "java/util/Optional")), Jvm.Cond.code ({ cls := "java/util/Objects", name := "requireNonNull", desc := "(Ljava/lang/Object;)Ljava/lang/Object;" } : Jvm.MethodName) jdk_31_method_10_code (1 : Nat) (Option.some (Jvm.ClassFile.FieldType.object "java/lang/Object")), Jvm.Cond.code ({ cls := "java/util/Optional", name := "<init>", desc := "(Ljava/lang/Object;)V" } : Jvm.MethodName) jdk_32_method_2_code (2 : Nat) (Option.none : Option Jvm.ClassFile.FieldType), Jvm.Cond.code ({ cls := "java/util/Optional", name := "isPresent", desc := "()Z" } : Jvm.MethodName) jdk_32_method_6_code (1 : Nat) (Option.some Jvm.ClassFile.FieldType.boolean), Jvm.Cond.code ({ cls := "java/util/Optional", name := "get", desc := "()Ljava/lang/Object;" } : Jvm.MethodName) jdk_32_method_5_code (1 : Nat) (Option.some (Jvm.ClassFile.FieldType.object "java/lang/Object")), Jvm.Cond.code ({ cls := "com/example/rootward/rootward/model/Policy", name := "jsonName", desc := "()Ljava/lang/String;" } : Jvm.MethodName) prog_21_method_4_code (1 : Nat) (Option.some (Jvm.ClassFile.FieldType.object "java/lang/String")), Jvm.Cond.code ({ cls := "java/util/Optional", name := "empty", desc := "()Ljava/util/Optional;" } : Jvm.MethodName) jdk_32_method_1_code (1 : Nat) (Option.some (Jvm.ClassFile.FieldType.object "java/util/Optional"))]
set_option maxRecDepth 65536 in
theorem codes_eq : words1.filter isCode = codes1 := rfl
theorem w_codes : ∀ c ∈ words1.filter isCode, c.before args0 about1 = true := by
  rw [codes_eq]
  intro c hc
  simp only [codes1, List.mem_cons, List.not_mem_nil, or_false] at hc
  rcases hc with rfl | rfl | rfl | rfl | rfl | rfl | rfl | rfl | rfl | rfl | rfl | rfl | rfl | rfl | rfl | rfl | rfl | rfl | rfl
  · exact w_c0
  · exact w_c1
  · exact w_c2
  · exact w_c3
  · exact w_c4
  · exact w_c5
  · exact w_c6
  · exact w_c7
  · exact w_c8
  · exact w_c9
  · exact w_c10
  · exact w_c11
  · exact w_c12
  · exact w_c13
  · exact w_c14
  · exact w_c15
  · exact w_c16
  · exact w_c17
  · exact w_c18
set_option maxRecDepth 65536 in
theorem w_t1 : (words1.take 24).all (fun c => isCode c || c.before args0 about1) = true := by decide +kernel
set_option maxRecDepth 65536 in
theorem w_t2 : ((words1.drop 24).take 24).all (fun c => isCode c || c.before args0 about1) = true := by decide +kernel
set_option maxRecDepth 65536 in
theorem w_t3 : (((words1.drop 24).drop 24).take 24).all (fun c => isCode c || c.before args0 about1) = true := by decide +kernel
set_option maxRecDepth 65536 in
theorem w_t4 : ((((words1.drop 24).drop 24).drop 24).take 24).all (fun c => isCode c || c.before args0 about1) = true := by decide +kernel
set_option maxRecDepth 65536 in
theorem w_t5 : ((((words1.drop 24).drop 24).drop 24).drop 24).all (fun c => isCode c || c.before args0 about1) = true := by decide +kernel
theorem w_tables : (allAtoms (Jvm.Cond.code x code maxLocals ret :: tables_1)).before args0 about1 = true := by
  rw [allAtoms_all]
  show words1.all (fun c => c.before args0 about1) = true
  refine all_split ?_ w_codes
  rw [← List.take_append_drop 24 words1, List.all_append, w_t1, ← List.take_append_drop 24 (words1.drop 24), List.all_append, w_t2, ← List.take_append_drop 24 ((words1.drop 24).drop 24), List.all_append, w_t3, ← List.take_append_drop 24 (((words1.drop 24).drop 24).drop 24), List.all_append, w_t4, w_t5]
  rfl
set_option maxRecDepth 65536 in
theorem w_rest : rest_1_c.before args0 about1 = true := by decide +kernel
set_option maxRecDepth 65536 in
theorem w_case : (Jvm.Cond.and given_1 narrow_1).before args0 about1 = true := by decide +kernel
set_option maxRecDepth 65536 in
theorem w_consts : constsHeld consts_1 about1 := Jvm.Lit.constsHeldB_iff.mp (by decide +kernel)
theorem w_applies : (headSpec (Jvm.Cond.code x code maxLocals ret :: tables_1) room_1).applies x e0.platform about1 = true :=
  (Spec.applies_iff w_frames).mpr ⟨w_running, w_runnable, w_alone, w_named, w_hears, w_ripe, w_room, w_tables⟩
theorem atStart : AtStart classFile x code maxLocals ret World_1 tables_1 room_1 Calls_1 rest_1 Pre_1 launch0 p0 e0 about1 theMethod args0 below0 :=
  ⟨lists_1, trivial, launch0.admits_env _ _ _, launch0.least_env, fairChoices_fair.cas, fairChoices_fair.clock, w_frames, w_args, w_heap, w_applies, ⟨w_consts, trivial⟩, w_rest, w_case⟩
end start1
theorem witness_1 : WitnessClaimed_1 := ⟨start1.p0, start1.e0, start1.about1, start1.theMethod, start1.args0, start1.below0, start1.atStart⟩
end Jvm.Pilot.@@N@@
