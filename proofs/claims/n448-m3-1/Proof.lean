import JvmDerived
import JvmDerived.Pilot.@@N@@Statement
import JvmDerived.Pilot.@@N@@Code
set_option linter.unusedVariables false
set_option linter.unusedSimpArgs false
namespace Jvm.RoadKit
open Sem ClassFile Op Lib Jvm.Stand Jvm.Free Jvm.LawKit
section New
variable {p : Program} {l : Launch} {e : Env} {R : Room} {s : State} {m : MethodId} {args : Array Value} {below : List Frame} {meth : Method} {c : Code} {T : State} {locs : List Loc} {cells slots : Nat}
theorem retI (X : Stand p l e R s m args below meth c T locs cells slots) (hx : p.tables.exec = Jvm.exec) {pc : Nat} {Ls : Array Slot} {z : Int32} {rest : List Value} (hret : meth.sig.returnType = some .int) (hd : decode c.code pc = .ok (.ireturn, 1)) {fs : List Frame}
    (hl : ∀ (f : JFrame) (acts : List Action), f.method = m → f.locked = none → f.entered = [] → (doReturn e (T.setTop f) acts (some (.int z))).1 = T.setFrames fs) : Steps p.tables e below (T.setTop (mkF m pc Ls (.int z :: rest))) (T.setFrames fs) := by
  have hm' : T.vm.method? m = some meth := X.method'
  have hn : narrow .int (.int z) = .int z := rfl
  show Steps p.tables e below (T.setTop { method := m, pc := pc, locals := Ls, stack := _ :: rest, locked := none }) _
  jvm_step X.here [X.here.top, hx, hd, hm', hret, hn]
  first | (intro acts; rw [hl _ acts rfl rfl rfl]) | rw [hl _ _ rfl rfl rfl]
  exact Steps.refl _
end New
end Jvm.RoadKit
/- laws to paste: Road.backV (cut by pick.py; bodies as the Statement names them) -/
namespace Jvm.Pilot.@@N@@
namespace StrChars
open Jvm Sem ClassFile Op Lib Jvm.Stand Jvm.Free.XT Jvm.Free.ALB Jvm.Free.JM Jvm.Free
open Jvm.Lib.Cold (StaticIs)
/-- a char array whose places are chars -/
def Ch (a : Addr) (A : Cell) (U : State) : Prop := Arr .char a A U ∧ Typed .char A
theorem Ch.mv {a : Addr} {A : Cell} {U U' : State} (h : Ch a A U) (hal : U.vm.Alike U'.vm) (hh : U'.heap = U.heap) : Ch a A U' := ⟨h.1.mv hal hh, h.2⟩
theorem Ch.keep {a : Addr} {A : Cell} {U U' : State} (h : Ch a A U) (hal : U.vm.Alike U'.vm) (hk : U'.heap[a]? = some A) : Ch a A U' := ⟨h.1.keep hal hk, h.2⟩
/-- what place i of a char[]'s cell holds -/
def cv (A : Cell) (i : Nat) : Int32 := match A.slots[i]? with | some (.int x) => x | _ => 0
theorem Ch.get {a : Addr} {A : Cell} {U : State} (h : Ch a A U) {i : Nat} (hi : i < A.slots.size) : A.slots[i]? = some (.int (cv A i)) := by
  have e := Array.getElem?_eq_getElem hi
  have f := h.2 i _ e
  unfold cv; rw [e]
  generalize A.slots[i] = v at f
  cases v <;> simp [fits] at f ⊢
/-- the byte that i2b leaves of a char -/
def lo8 (x : Int32) : Int32 := x.toInt8.toInt32
theorem fits_lo8 (y : Int32) : fits .byte (.int (lo8 y)) = true := by
  have h1 := y.toInt8.le_toInt
  have h2 := y.toInt8.toInt_lt
  simp only [lo8, fits, Bool.and_eq_true, decide_eq_true_eq, Int32.le_iff_toInt_le, Int8.toInt_toInt32, show (-128 : Int32).toInt = -128 from by decide, show (127 : Int32).toInt = 127 from by decide]
  omega
/-- A' is A but that each place j of lo .. hi - 1 holds f j -/
def Laid (A A' : Cell) (lo hi : Nat) (f : Nat → Value) : Prop := A'.cls = A.cls ∧ A'.vm = A.vm ∧ A'.slots.size = A.slots.size ∧ ∀ i, A'.slots[i]? = if lo ≤ i ∧ i < hi then some (f i) else A.slots[i]?
theorem Laid.zero (A : Cell) (lo : Nat) (f : Nat → Value) : Laid A A lo (lo + 0) f := ⟨rfl, rfl, rfl, fun i => by rw [if_neg (by omega)]⟩
theorem Laid.step {A Ak : Cell} {lo k : Nat} {f : Nat → Value} {v : Value} (h : Laid A Ak lo k f) (hlo : lo ≤ k) (hk : k < Ak.slots.size) (hv : v = f k) : Laid A (Ak.setSlot k v) lo (k + 1) f := by
  refine ⟨h.1, h.2.1, by simpa [Cell.setSlot] using h.2.2.1, fun i => ?_⟩
  by_cases e : k = i
  · subst e; rw [Cell.slots_setSlot_self v hk, if_pos (by omega), hv]
  · rw [Cell.slots_setSlot_ne v e, h.2.2.2 i]
    by_cases q : lo ≤ i ∧ i < k
    · rw [if_pos q, if_pos (by omega)]
    · rw [if_neg q, if_neg (by omega)]
def U16 : String := "java/lang/StringUTF16"
namespace Cmp5
def yN : MethodName := ⟨"java/lang/StringUTF16", "compress", "([CI[BII)I"⟩
abbrev yB : ByteArray := jdk_52_method_21_code
theorem d0 : decode yB 0 = .ok (.iconst 0, 1) := by decide +kernel
theorem d1 : decode yB 1 = .ok (.istore 5, 2) := by decide +kernel
theorem d3 : decode yB 3 = .ok (.iload 5, 2) := by decide +kernel
theorem d5 : decode yB 5 = .ok (.iload 4, 2) := by decide +kernel
theorem d7 : decode yB 7 = .ok (.if_icmp (.ge) 37, 3) := by decide +kernel
theorem d10 : decode yB 10 = .ok (.aload_n 0, 1) := by decide +kernel
theorem d11 : decode yB 11 = .ok (.iload_n 1, 1) := by decide +kernel
theorem d12 : decode yB 12 = .ok (.caload, 1) := by decide +kernel
theorem d13 : decode yB 13 = .ok (.istore 6, 2) := by decide +kernel
theorem d15 : decode yB 15 = .ok (.iload 6, 2) := by decide +kernel
theorem d17 : decode yB 17 = .ok (.sipush 255, 3) := by decide +kernel
theorem d20 : decode yB 20 = .ok (.if_icmp (.le) 6, 3) := by decide +kernel
theorem d26 : decode yB 26 = .ok (.aload_n 2, 1) := by decide +kernel
theorem d27 : decode yB 27 = .ok (.iload_n 3, 1) := by decide +kernel
theorem d28 : decode yB 28 = .ok (.iload 6, 2) := by decide +kernel
theorem d30 : decode yB 30 = .ok (.i2b, 1) := by decide +kernel
theorem d31 : decode yB 31 = .ok (.bastore, 1) := by decide +kernel
theorem d32 : decode yB 32 = .ok (.iinc 1 1, 3) := by decide +kernel
theorem d35 : decode yB 35 = .ok (.iinc 3 1, 3) := by decide +kernel
theorem d38 : decode yB 38 = .ok (.iinc 5 1, 3) := by decide +kernel
theorem d41 : decode yB 41 = .ok (.goto (-38), 3) := by decide +kernel
theorem d44 : decode yB 44 = .ok (.iload 4, 2) := by decide +kernel
theorem d46 : decode yB 46 = .ok (.ireturn, 1) := by decide +kernel
def site : List Cond := []
def tab : Cond := tabOf yN yB 7 (some .int) site
def P (b : Addr) (A : Cell) (d : Addr) (B : Cell) (o q len : Nat) (args : Array Value) (s : State) : Prop := args = #[.ref b, .int (Int32.ofNat o), .ref d, .int (Int32.ofNat q), .int (Int32.ofNat len)] ∧ Ch b A s ∧ Arr .byte d B s ∧ b ≠ d ∧ o + len ≤ A.slots.size ∧ q + len ≤ B.slots.size ∧ ∀ i, i < len → ¬ 255 < cv A (o + i)
def E (b : Addr) (A : Cell) (d : Addr) (B : Cell) (o q len : Nat) (r : Option Value) (s u : State) : Prop := r = some (.int (Int32.ofNat len)) ∧ ∃ B', Put d B' s u ∧ Laid B B' q (q + len) (fun j => Value.int (lo8 (cv A (o + (j - q)))))
/-- no char of the range above 255: len; the places written hold each char's low byte -/
theorem law (l : Launch) (b : Addr) (A : Cell) (d : Addr) (B : Cell) (o q len : Nat) : Law l yN 5 5 0 0 yB 7 (some .int) site (P b A d B o q len) (E b A d B o q len) (copyLocs d q len) 0 0 := by
  refine Law.of_walk (plainFor_of_name (by decide +kernel)) (by decide +kernel) (by decide +kernel) (by decide) (fun _ _ h => by rw [h.1]; rfl) (fun _ U U' hal hh h => ⟨h.1, h.2.1.mv hal hh, h.2.2.1.mv hal hh, h.2.2.2⟩) (fun r U U' V V' h1 hal h2 h => ⟨h.1, h.2.elim fun B' q => ⟨B', q.1.mv h1 h2, q.2⟩⟩) ?_
  intro p e s m args below meth c s₁ X0 hexec hbytes hml hret hlk hnm hown hh0 W hP
  obtain ⟨rfl, hA, hB, hne, l1, l2, hp⟩ := hP
  have c1 : Steps p.tables e below (s₁.setTop (entryFrame m #[.ref b, .int (Int32.ofNat o), .ref d, .int (Int32.ofNat q), .int (Int32.ofNat len)] 7)) (s₁.setTop (mkF m 0 #[.val (.ref b), .val (.int (Int32.ofNat o)), .val (.ref d), .val (.int (Int32.ofNat q)), .val (.int (Int32.ofNat len)), .unset, .unset] [])) := entry rfl
  have hA0 := hA.1.mv X0.warmed.alike hh0
  have hB0 := hB.mv X0.warmed.alike hh0
  have a31 := hA.1.2.2.2
  have c2 : Steps p.tables e below (s₁.setTop (entryFrame m #[.ref b, .int (Int32.ofNat o), .ref d, .int (Int32.ofNat q), .int (Int32.ofNat len)] 7)) (s₁.setTop (mkF m 3 #[.val (.ref b), .val (.int (Int32.ofNat o)), .val (.ref d), .val (.int (Int32.ofNat q)), .val (.int (Int32.ofNat len)), .val (.int 0), .unset] [])) := c1.trans (by
    refine iconstV X0.here hexec rfl 0 (hb hbytes d0) (by decide) ?_
    refine XS.istore X0.here hexec rfl (hb hbytes d1) rfl rfl ?_
    exact Steps.refl _)
  have loop : ∀ (r i : Nat), i + r = len → ∀ (z : Slot), (z = .unset ∨ ∃ w, z = .val w ∧ w.category = 1) → ∀ (Tl : State) (Bk : Cell), Stand p l e { frames := 0, locals := 0, cells := 0, slots := 0 } s m #[.ref b, .int (Int32.ofNat o), .ref d, .int (Int32.ofNat q), .int (Int32.ofNat len)] below meth c Tl ([] ++ copyLocs d q i) 0 0 → Put d Bk s₁ Tl → Laid B Bk q (q + i) (fun j => Value.int (lo8 (cv A (o + (j - q))))) →
      Steps p.tables e below (s₁.setTop (entryFrame m #[.ref b, .int (Int32.ofNat o), .ref d, .int (Int32.ofNat q), .int (Int32.ofNat len)] 7)) (Tl.setTop (mkF m 3 #[.val (.ref b), .val (.int (Int32.ofNat (o + i))), .val (.ref d), .val (.int (Int32.ofNat (q + i))), .val (.int (Int32.ofNat len)), .val (.int (Int32.ofNat i)), z] [])) → ∃ (T' : State) (B' : Cell) (z' : Slot), Stand p l e { frames := 0, locals := 0, cells := 0, slots := 0 } s m #[.ref b, .int (Int32.ofNat o), .ref d, .int (Int32.ofNat q), .int (Int32.ofNat len)] below meth c T' ([] ++ copyLocs d q len) 0 0 ∧ Put d B' s₁ T' ∧ Laid B B' q (q + len) (fun j => Value.int (lo8 (cv A (o + (j - q))))) ∧
      Steps p.tables e below (s₁.setTop (entryFrame m #[.ref b, .int (Int32.ofNat o), .ref d, .int (Int32.ofNat q), .int (Int32.ofNat len)] 7)) (T'.setTop (mkF m 3 #[.val (.ref b), .val (.int (Int32.ofNat (o + len))), .val (.ref d), .val (.int (Int32.ofNat (q + len))), .val (.int (Int32.ofNat len)), .val (.int (Int32.ofNat len)), z'] [])) := by
    intro r
    induction r with
    | zero =>
      intro i hi z hz Tl Bk Xl pl fl cl
      have hil : i = len := by omega
      rw [hil] at Xl fl cl
      exact ⟨Tl, Bk, z, Xl, pl, fl, cl⟩
    | succ r ih =>
      intro i hi z hz Tl Bk Xl pl fl cl
      have all := X0.warmed.alike.symm.trans Xl.warmed.alike
      have hAl := hA0.keep all (pl.other hne hA0.1)
      have hBk := hB0.like all pl.1 fl.1 fl.2.1 fl.2.2.1
      have hlt : q + i < Bk.slots.size := by rw [fl.2.2.1]; omega
      have c3 : Steps p.tables e below (s₁.setTop (entryFrame m #[.ref b, .int (Int32.ofNat o), .ref d, .int (Int32.ofNat q), .int (Int32.ofNat len)] 7)) (Tl.setTop (mkF m 12 #[.val (.ref b), .val (.int (Int32.ofNat (o + i))), .val (.ref d), .val (.int (Int32.ofNat (q + i))), .val (.int (Int32.ofNat len)), .val (.int (Int32.ofNat i)), z] [.int (Int32.ofNat (o + i)), .ref b])) := cl.trans (by
        refine XS.iload Xl.here hexec rfl (hb hbytes d3) rfl ?_
        refine XS.iload Xl.here hexec rfl (hb hbytes d5) rfl ?_
        refine XS.icmpNo Xl.here hexec rfl (hb hbytes d7) rfl (ii_ge_f (lt32 (by omega) (by omega))) ?_
        refine XS.aloadN Xl.here hexec rfl (hb hbytes d10) rfl rfl ?_
        refine XS.iloadN Xl.here hexec rfl (hb hbytes d11) rfl ?_
        exact Steps.refl _)
      have c4 : Steps p.tables e below (s₁.setTop (entryFrame m #[.ref b, .int (Int32.ofNat o), .ref d, .int (Int32.ofNat q), .int (Int32.ofNat len)] 7)) (Tl.setTop (mkF m 13 #[.val (.ref b), .val (.int (Int32.ofNat (o + i))), .val (.ref d), .val (.int (Int32.ofNat (q + i))), .val (.int (Int32.ofNat len)), .val (.int (Int32.ofNat i)), z] [.int (cv A (o + i))])) := c3.trans (by
        refine Xl.aget hexec hAl rfl (hA.get (i := o + i) (by omega)) rfl rfl (hb hbytes d12) ?_
        exact Steps.refl _)
      have c5 : Steps p.tables e below (s₁.setTop (entryFrame m #[.ref b, .int (Int32.ofNat o), .ref d, .int (Int32.ofNat q), .int (Int32.ofNat len)] 7)) (Tl.setTop (mkF m 15 #[.val (.ref b), .val (.int (Int32.ofNat (o + i))), .val (.ref d), .val (.int (Int32.ofNat (q + i))), .val (.int (Int32.ofNat len)), .val (.int (Int32.ofNat i)), .val (.int (cv A (o + i)))] [])) := c4.trans (by
        refine XS.istoreS Xl.here hexec rfl (hb hbytes d13) rfl rfl hz ?_
        exact Steps.refl _)
      have c6 : Steps p.tables e below (s₁.setTop (entryFrame m #[.ref b, .int (Int32.ofNat o), .ref d, .int (Int32.ofNat q), .int (Int32.ofNat len)] 7)) (Tl.setTop (mkF m 31 #[.val (.ref b), .val (.int (Int32.ofNat (o + i))), .val (.ref d), .val (.int (Int32.ofNat (q + i))), .val (.int (Int32.ofNat len)), .val (.int (Int32.ofNat i)), .val (.int (cv A (o + i)))] [.int (lo8 (cv A (o + i))), .int (Int32.ofNat (q + i)), .ref d])) := c5.trans (by
        refine XS.iload Xl.here hexec rfl (hb hbytes d15) rfl ?_
        refine sipushV Xl.here hexec rfl 255 (hb hbytes d17) (by decide) ?_
        refine XS.icmpYes Xl.here hexec rfl (pc0 := 20) rfl (hb hbytes d20) rfl (ii_le_t (hp i (by omega))) (by decide) rfl ?_
        refine XS.aloadN Xl.here hexec rfl (hb hbytes d26) rfl rfl ?_
        refine XS.iloadN Xl.here hexec rfl (hb hbytes d27) rfl ?_
        refine XS.iload Xl.here hexec rfl (hb hbytes d28) rfl ?_
        refine i2b Xl.here hexec rfl (hb hbytes d30) rfl ?_
        exact Steps.refl _)
      obtain ⟨T7, X7, p7, st7⟩ := Xl.aput hexec hBk rfl hlt rfl (fits_lo8 (cv A (o + i))) (g := (mkF m 31 #[.val (.ref b), .val (.int (Int32.ofNat (o + i))), .val (.ref d), .val (.int (Int32.ofNat (q + i))), .val (.int (Int32.ofNat len)), .val (.int (Int32.ofNat i)), .val (.int (cv A (o + i)))] [.int (lo8 (cv A (o + i))), .int (Int32.ofNat (q + i)), .ref d])) rfl (rest := []) rfl (hb hbytes d31)
      have c8 : Steps p.tables e below (s₁.setTop (entryFrame m #[.ref b, .int (Int32.ofNat o), .ref d, .int (Int32.ofNat q), .int (Int32.ofNat len)] 7)) (T7.setTop (mkF m 32 #[.val (.ref b), .val (.int (Int32.ofNat (o + i))), .val (.ref d), .val (.int (Int32.ofNat (q + i))), .val (.int (Int32.ofNat len)), .val (.int (Int32.ofNat i)), .val (.int (cv A (o + i)))] [])) := c6.trans (st7 _ (Steps.refl _))
      have c9 : Steps p.tables e below (s₁.setTop (entryFrame m #[.ref b, .int (Int32.ofNat o), .ref d, .int (Int32.ofNat q), .int (Int32.ofNat len)] 7)) (T7.setTop (mkF m 3 #[.val (.ref b), .val (.int (Int32.ofNat (o + i) + 1)), .val (.ref d), .val (.int (Int32.ofNat (q + i) + 1)), .val (.int (Int32.ofNat len)), .val (.int (Int32.ofNat i + 1)), .val (.int (cv A (o + i)))] [])) := c8.trans (by
        refine iincV X7.here hexec rfl 1 (hb hbytes d32) (by decide) rfl rfl ?_
        refine iincV X7.here hexec rfl 1 (hb hbytes d35) (by decide) rfl rfl ?_
        refine iincV X7.here hexec rfl 1 (hb hbytes d38) (by decide) rfl rfl ?_
        refine XS.goto X7.here hexec rfl (pc0 := 41) rfl (hb hbytes d41) (by decide) rfl ?_
        exact Steps.refl _)
      have c10 : Steps p.tables e below (s₁.setTop (entryFrame m #[.ref b, .int (Int32.ofNat o), .ref d, .int (Int32.ofNat q), .int (Int32.ofNat len)] 7)) (T7.setTop (mkF m 3 #[.val (.ref b), .val (.int (Int32.ofNat (o + (i + 1)))), .val (.ref d), .val (.int (Int32.ofNat (q + (i + 1)))), .val (.int (Int32.ofNat len)), .val (.int (Int32.ofNat (i + 1))), .val (.int (cv A (o + i)))] [])) := by
        have := c9
        rw [succ32, succ32, succ32] at this
        exact this
      exact ih (i + 1) (by omega) _ (Or.inr ⟨_, rfl, rfl⟩) T7 _ (by rw [copyLocs_step, ← List.append_assoc]; exact X7) (pl.trans p7) (fl.step (by omega) hlt (by simp)) c10
  obtain ⟨T9, B9, z9, X9, p9, f9, g9⟩ := loop len 0 (by omega) .unset (Or.inl rfl) s₁ B (by simpa [copyLocs] using X0) ⟨hB0.1, fun _ _ => rfl, rfl⟩ (Laid.zero _ _ _) c2
  have c11 : Steps p.tables e below (s₁.setTop (entryFrame m #[.ref b, .int (Int32.ofNat o), .ref d, .int (Int32.ofNat q), .int (Int32.ofNat len)] 7)) (T9.setTop (mkF m 46 #[.val (.ref b), .val (.int (Int32.ofNat (o + len))), .val (.ref d), .val (.int (Int32.ofNat (q + len))), .val (.int (Int32.ofNat len)), .val (.int (Int32.ofNat len)), z9] [.int (Int32.ofNat len)])) := g9.trans (by
    refine XS.iload X9.here hexec rfl (hb hbytes d3) rfl ?_
    refine XS.iload X9.here hexec rfl (hb hbytes d5) rfl ?_
    refine XS.icmpYes X9.here hexec rfl (pc0 := 7) rfl (hb hbytes d7) rfl (ii_ge_t (nlt32 (by omega) (Nat.le_refl _))) (by decide) rfl ?_
    refine XS.iload X9.here hexec rfl (hb hbytes d44) rfl ?_
    exact Steps.refl _)
  exact ⟨T9, some (.int (Int32.ofNat len)), _, _, _, X9, by simp, rfl, rfl, (fun h => by cases h), ⟨rfl, B9, p9.from hh0, f9⟩, fun fs hl => c11.trans (X9.ireturnOut hexec hret rfl (Or.inl rfl) (hb hbytes d46) hl)⟩
end Cmp5
namespace Cmp3
def yN : MethodName := ⟨"java/lang/StringUTF16", "compress", "([CII)[B"⟩
abbrev yB : ByteArray := jdk_52_method_16_code
theorem d0 : decode yB 0 = .ok (.iload_n 2, 1) := by decide +kernel
theorem d1 : decode yB 1 = .ok (.newarray .byte, 2) := by decide +kernel
theorem d3 : decode yB 3 = .ok (.astore_n 3, 1) := by decide +kernel
theorem d4 : decode yB 4 = .ok (.aload_n 0, 1) := by decide +kernel
theorem d5 : decode yB 5 = .ok (.iload_n 1, 1) := by decide +kernel
theorem d6 : decode yB 6 = .ok (.aload_n 3, 1) := by decide +kernel
theorem d7 : decode yB 7 = .ok (.iconst 0, 1) := by decide +kernel
theorem d8 : decode yB 8 = .ok (.iload_n 2, 1) := by decide +kernel
theorem d9 : decode yB 9 = .ok (.invokestatic 115, 3) := by decide +kernel
theorem d12 : decode yB 12 = .ok (.istore 4, 2) := by decide +kernel
theorem d14 : decode yB 14 = .ok (.iload 4, 2) := by decide +kernel
theorem d16 : decode yB 16 = .ok (.iload_n 2, 1) := by decide +kernel
theorem d17 : decode yB 17 = .ok (.if_icmp (.eq) 40, 3) := by decide +kernel
theorem d57 : decode yB 57 = .ok (.aload_n 3, 1) := by decide +kernel
theorem d58 : decode yB 58 = .ok (.areturn, 1) := by decide +kernel
def site : List Cond := [.arrayClass .byte, Cmp5.tab] ++ staticW U16 115 Cmp5.yN
def tab : Cond := tabOf yN yB 6 (some (.array .byte)) site
def P (b : Addr) (A : Cell) (o len : Nat) (args : Array Value) (s : State) : Prop := args = #[.ref b, .int (Int32.ofNat o), .int (Int32.ofNat len)] ∧ Ch b A s ∧ o + len ≤ A.slots.size ∧ len ≤ 536870912 ∧ ∀ i, i < len → ¬ 255 < cv A (o + i)
def E (b : Addr) (A : Cell) (o len : Nat) (r : Option Value) (s u : State) : Prop := NewArr .byte "[B" len (fun j => .int (lo8 (cv A (o + j)))) r s u ∧ u.heap.size = s.heap.size + 1
/-- no char of the range above 255: a new byte[] of their low bytes -/
theorem law (l : Launch) (b : Addr) (A : Cell) (o len : Nat) : Law l yN 3 3 1 18 yB 6 (some (.array .byte)) site (P b A o len) (E b A o len) [] 1 len := by
  refine Law.of_walk (plainFor_of_name (by decide +kernel)) (by decide +kernel) (by decide +kernel) (by decide) (fun _ _ h => by rw [h.1]; rfl) (fun _ U U' hal hh h => ⟨h.1, h.2.1.mv hal hh, h.2.2⟩) (fun r U U' V V' h1 hal h2 h => ⟨NewArr.mv r U U' V V' h1 hal h2 h.1, by rw [h1, h2]; exact h.2⟩) ?_
  intro p e s m args below meth c s₁ X0 hexec hbytes hml hret hlk hnm hown hh0 W hP
  obtain ⟨rfl, hA, l1, l2, hp⟩ := hP
  have a31 := hA.1.2.2.2
  have c1 : Steps p.tables e below (s₁.setTop (entryFrame m #[.ref b, .int (Int32.ofNat o), .int (Int32.ofNat len)] 6)) (s₁.setTop (mkF m 0 #[.val (.ref b), .val (.int (Int32.ofNat o)), .val (.int (Int32.ofNat len)), .unset, .unset, .unset] [])) := entry rfl
  have c2 : Steps p.tables e below (s₁.setTop (entryFrame m #[.ref b, .int (Int32.ofNat o), .int (Int32.ofNat len)] 6)) (s₁.setTop (mkF m 1 #[.val (.ref b), .val (.int (Int32.ofNat o)), .val (.int (Int32.ofNat len)), .unset, .unset, .unset] [.int (Int32.ofNat len)])) := c1.trans (by
    refine XS.iloadN X0.here hexec rfl (hb hbytes d0) rfl ?_
    exact Steps.refl _)
  obtain ⟨T3, B3, X3, ba3, bs3, bv3, bh3, bf3, st3⟩ := X0.anew hexec (atype := .byte) (wk W (.arrayClass .byte)) rfl (by show len * 1 ≤ _; omega) (by omega) (g := (mkF m 1 #[.val (.ref b), .val (.int (Int32.ofNat o)), .val (.int (Int32.ofNat len)), .unset, .unset, .unset] [.int (Int32.ofNat len)])) rfl (hb hbytes d1) (rest := []) rfl (Nat.le_refl _) (by show 0 + len ≤ len; omega)
  rw [hh0] at ba3 st3
  have kp3 : XT.Kept s T3 := (XT.Kept.of_eq hh0).push bh3
  have hA3 := hA.keep X3.warmed.alike (kp3 _ _ hA.1.1)
  have hne : b ≠ s.heap.size := hA.1.ne
  have c4 : Steps p.tables e below (s₁.setTop (entryFrame m #[.ref b, .int (Int32.ofNat o), .int (Int32.ofNat len)] 6)) (T3.setTop (mkF m 3 #[.val (.ref b), .val (.int (Int32.ofNat o)), .val (.int (Int32.ofNat len)), .unset, .unset, .unset] [.ref s.heap.size])) := c2.trans (st3 _ (Steps.refl _))
  have c5 : Steps p.tables e below (s₁.setTop (entryFrame m #[.ref b, .int (Int32.ofNat o), .int (Int32.ofNat len)] 6)) (T3.setTop (mkF m 9 #[.val (.ref b), .val (.int (Int32.ofNat o)), .val (.int (Int32.ofNat len)), .val (.ref s.heap.size), .unset, .unset] [.int (Int32.ofNat len), .int 0, .ref s.heap.size, .int (Int32.ofNat o), .ref b])) := c4.trans (by
    refine XS.astoreN X3.here hexec rfl (hb hbytes d3) rfl rfl rfl ?_
    refine XS.aloadN X3.here hexec rfl (hb hbytes d4) rfl rfl ?_
    refine XS.iloadN X3.here hexec rfl (hb hbytes d5) rfl ?_
    refine XS.aloadN X3.here hexec rfl (hb hbytes d6) rfl rfl ?_
    refine iconstV X3.here hexec rfl 0 (hb hbytes d7) (by decide) ?_
    refine XS.iloadN X3.here hexec rfl (hb hbytes d8) rfl ?_
    exact Steps.refl _)
  obtain ⟨v6, T6, X6, E6, g6⟩ := X3.callS hexec (Cmp5.law l b A s.heap.size B3 o 0 len) hown (wks W (staticW U16 115 Cmp5.yN)) (wk W Cmp5.tab) (W := 0) (Nat.le_of_ble_eq_true rfl) (Nat.le_of_ble_eq_true rfl) (Nat.le_refl _) (by show 0 + len + 0 ≤ len; omega) (g := (mkF m 9 #[.val (.ref b), .val (.int (Int32.ofNat o)), .val (.int (Int32.ofNat len)), .val (.ref s.heap.size), .unset, .unset] [.int (Int32.ofNat len), .int (Int32.ofNat 0), .ref s.heap.size, .int (Int32.ofNat o), .ref b])) rfl (by rw [hml]; rfl) c5 (argsL := [.ref b, .int (Int32.ofNat o), .ref s.heap.size, .int (Int32.ofNat 0), .int (Int32.ofNat len)]) (rest := []) rfl rfl (by show 2 * 0 + 0 ≤ _; decide) (hb hbytes d9) (⟨rfl, hA3, ba3, hne, l1, by rw [bs3]; simp, hp⟩)
  obtain ⟨rfl, B6, p6, f6⟩ := E6
  have c7 : Steps p.tables e below (s₁.setTop (entryFrame m #[.ref b, .int (Int32.ofNat o), .int (Int32.ofNat len)] 6)) (T6.setTop (mkF m 12 #[.val (.ref b), .val (.int (Int32.ofNat o)), .val (.int (Int32.ofNat len)), .val (.ref s.heap.size), .unset, .unset] [.int (Int32.ofNat len)])) := g6
  have c8 : Steps p.tables e below (s₁.setTop (entryFrame m #[.ref b, .int (Int32.ofNat o), .int (Int32.ofNat len)] 6)) (T6.setTop (mkF m 58 #[.val (.ref b), .val (.int (Int32.ofNat o)), .val (.int (Int32.ofNat len)), .val (.ref s.heap.size), .val (.int (Int32.ofNat len)), .unset] [.ref s.heap.size])) := c7.trans (by
    refine XS.istore X6.here hexec rfl (hb hbytes d12) rfl rfl ?_
    refine XS.iload X6.here hexec rfl (hb hbytes d14) rfl ?_
    refine XS.iloadN X6.here hexec rfl (hb hbytes d16) rfl ?_
    refine XS.icmpYes X6.here hexec rfl (pc0 := 17) rfl (hb hbytes d17) rfl (ii_eq_t rfl) (by decide) rfl ?_
    refine XS.aloadN X6.here hexec rfl (hb hbytes d57) rfl rfl ?_
    exact Steps.refl _)
  have X8 := X6.wide (L' := []) (cells' := 1) (slots' := len) (fun x hx hlt => by
    simp only [List.nil_append, copyLocs, List.mem_map, List.mem_range] at hx
    obtain ⟨i, -, rfl⟩ := hx
    exact absurd hlt (Nat.lt_irrefl _)) (Nat.le_refl _) (by omega)
  exact ⟨T6, some (.ref s.heap.size), _, _, _, X8, rfl, rfl, rfl, (fun h => by cases h), ⟨⟨rfl, B6, ba3.like (X3.warmed.alike.symm.trans X6.warmed.alike) p6.1 f6.1 f6.2.1 f6.2.2.1, f6.2.1.trans bv3, by rw [X6.warmed.alike.findClass, f6.1]; exact bf3, by rw [f6.2.2.1, bs3]; simp, fun j hj => by rw [f6.2.2.2 j, if_pos (by omega)]; rfl, kp3.put p6 (Nat.le_refl _)⟩, by rw [p6.2.2, bh3, hh0]; simp⟩, fun fs hl => c8.trans (X8.areturnOut hexec rfl hret rfl (hb hbytes d58) hl)⟩
end Cmp3
namespace CodL
def yN : MethodName := ⟨"java/lang/StringUTF16", "coderFromArrayLen", "([BI)B"⟩
abbrev yB : ByteArray := jdk_52_method_15_code
theorem d0 : decode yB 0 = .ok (.iload_n 1, 1) := by decide +kernel
theorem d1 : decode yB 1 = .ok (.aload_n 0, 1) := by decide +kernel
theorem d2 : decode yB 2 = .ok (.arraylength, 1) := by decide +kernel
theorem d3 : decode yB 3 = .ok (.isub, 1) := by decide +kernel
theorem d4 : decode yB 4 = .ok (.bipush 31, 2) := by decide +kernel
theorem d6 : decode yB 6 = .ok (.iushr, 1) := by decide +kernel
theorem d7 : decode yB 7 = .ok (.i2b, 1) := by decide +kernel
theorem d8 : decode yB 8 = .ok (.ireturn, 1) := by decide +kernel
def site : List Cond := []
def tab : Cond := tabOf yN yB 2 (some .byte) site
def P (d : Addr) (B : Cell) (args : Array Value) (s : State) : Prop := args = #[.ref d, .int (Int32.ofNat B.slots.size)] ∧ Arr .byte d B s
def E (r : Option Value) (s u : State) : Prop := XT.PureE (some (.int 0)) r s u
/-- an array as long as the number of chars: LATIN1 -/
theorem law (l : Launch) (d : Addr) (B : Cell) : Law l yN 2 2 0 0 yB 2 (some .byte) site (P d B) E [] 0 0 := by
  refine Law.of_walk (plainFor_of_name (by decide +kernel)) (by decide +kernel) (by decide +kernel) (by decide) (fun _ _ h => by rw [h.1]; rfl) (fun _ U U' hal hh h => ⟨h.1, h.2.mv hal hh⟩) (fun r U U' V V' h1 hal h2 h => XT.PureE.mv r U U' V V' h1 hal h2 h) ?_
  intro p e s m args below meth c s₁ X0 hexec hbytes hml hret hlk hnm hown hh0 W hP
  obtain ⟨rfl, hB⟩ := hP
  have hB0 := hB.mv X0.warmed.alike hh0
  have c1 : Steps p.tables e below (s₁.setTop (entryFrame m #[.ref d, .int (Int32.ofNat B.slots.size)] 2)) (s₁.setTop (mkF m 0 #[.val (.ref d), .val (.int (Int32.ofNat B.slots.size))] [])) := entry rfl
  have c2 : Steps p.tables e below (s₁.setTop (entryFrame m #[.ref d, .int (Int32.ofNat B.slots.size)] 2)) (s₁.setTop (mkF m 2 #[.val (.ref d), .val (.int (Int32.ofNat B.slots.size))] [.ref d, .int (Int32.ofNat B.slots.size)])) := c1.trans (by
    refine XS.iloadN X0.here hexec rfl (hb hbytes d0) rfl ?_
    refine XS.aloadN X0.here hexec rfl (hb hbytes d1) rfl rfl ?_
    exact Steps.refl _)
  have c3 : Steps p.tables e below (s₁.setTop (entryFrame m #[.ref d, .int (Int32.ofNat B.slots.size)] 2)) (s₁.setTop (mkF m 8 #[.val (.ref d), .val (.int (Int32.ofNat B.slots.size))] [.int (lo8 (ushr (Int32.ofNat B.slots.size - Int32.ofNat B.slots.size) 31))])) := c2.trans (by
    refine X0.alen hexec hB0 rfl rfl (hb hbytes d2) ?_
    refine XS.isub X0.here hexec rfl (hb hbytes d3) rfl ?_
    refine bipushV X0.here hexec rfl 31 (hb hbytes d4) (by decide) ?_
    refine iushr X0.here hexec rfl (hb hbytes d6) rfl ?_
    refine i2b X0.here hexec rfl (hb hbytes d7) rfl ?_
    exact Steps.refl _)
  have e0 : lo8 (ushr (Int32.ofNat B.slots.size - Int32.ofNat B.slots.size) 31) = 0 := by rw [Int32.sub_self]; decide
  rw [e0] at c3
  exact ⟨s₁, some (.int 0), _, _, _, X0, rfl, rfl, rfl, (fun h => by cases h), ⟨rfl, hh0⟩, fun fs hl => c3.trans (X0.ireturnOut hexec hret rfl (Or.inr (Or.inr (Or.inl rfl))) (hb hbytes d8) hl)⟩
end CodL
/-- the String at a is Latin-1 over a new byte[] (the heap's one new cell): the low bytes of the len chars of A from o on; every cell but a is kept -/
def Got (a : Addr) (D : Cell) (fV fC : Field) (A : Cell) (o len : Nat) (r : Option Value) (s u : State) : Prop := r = none ∧ ∃ D' V : Cell, Blank "java/lang/String" a D' u ∧ Same D D' [fV.slot, fC.slot] ∧ D'.slots[fV.slot]? = some (.ref s.heap.size) ∧ D'.slots[fC.slot]? = some (.int 0) ∧ Arr .byte s.heap.size V u ∧ V.vm = .none ∧ u.vm.findClass "[B" = some V.cls ∧ V.slots.size = len ∧ (∀ j, j < len → V.slots[j]? = some (.int (lo8 (cv A (o + j))))) ∧ (∀ (y : Addr) (c : Cell), y ≠ a → s.heap[y]? = some c → u.heap[y]? = some c) ∧ u.heap.size = s.heap.size + 1
theorem Got.mv {a : Addr} {D A : Cell} {fV fC : Field} {o len : Nat} : ∀ r (U U' V V' : State), U'.heap = U.heap → V.vm.Alike V'.vm → V'.heap = V.heap → Got a D fV fC A o len r U V → Got a D fV fC A o len r U' V' :=
  fun r U U' V V' h1 hal h2 ⟨e0, D', X, a1, a2, a3, a4, a5, a6, a7, a8, a9, a10, a11⟩ => ⟨e0, D', X, a1.mv hal h2, a2, by rw [h1]; exact a3, a4, by rw [h1]; exact a5.mv hal h2, a6, by rw [hal.findClass]; exact a7, a8, a9, by rw [h1, h2]; exact a10, by rw [h1, h2]; exact a11⟩
namespace New4
def yN : MethodName := ⟨"java/lang/String", "<init>", "([CIILjava/lang/Void;)V"⟩
abbrev yB : ByteArray := jdk_42_method_149_code
theorem d0 : decode yB 0 = .ok (.aload_n 0, 1) := by decide +kernel
theorem d1 : decode yB 1 = .ok (.invokespecial 1, 3) := by decide +kernel
theorem d4 : decode yB 4 = .ok (.iload_n 3, 1) := by decide +kernel
theorem d5 : decode yB 5 = .ok (.ifCond (.ne) 22, 3) := by decide +kernel
theorem d27 : decode yB 27 = .ok (.getstatic 38, 3) := by decide +kernel
theorem d30 : decode yB 30 = .ok (.ifCond (.eq) 28, 3) := by decide +kernel
theorem d33 : decode yB 33 = .ok (.aload_n 1, 1) := by decide +kernel
theorem d34 : decode yB 34 = .ok (.iload_n 2, 1) := by decide +kernel
theorem d35 : decode yB 35 = .ok (.iload_n 3, 1) := by decide +kernel
theorem d36 : decode yB 36 = .ok (.invokestatic 177, 3) := by decide +kernel
theorem d39 : decode yB 39 = .ok (.astore 5, 2) := by decide +kernel
theorem d41 : decode yB 41 = .ok (.aload_n 0, 1) := by decide +kernel
theorem d42 : decode yB 42 = .ok (.aload 5, 2) := by decide +kernel
theorem d44 : decode yB 44 = .ok (.iload_n 3, 1) := by decide +kernel
theorem d45 : decode yB 45 = .ok (.invokestatic 47, 3) := by decide +kernel
theorem d48 : decode yB 48 = .ok (.putfield 15, 3) := by decide +kernel
theorem d51 : decode yB 51 = .ok (.aload_n 0, 1) := by decide +kernel
theorem d52 : decode yB 52 = .ok (.aload 5, 2) := by decide +kernel
theorem d54 : decode yB 54 = .ok (.putfield 9, 3) := by decide +kernel
theorem d57 : decode yB 57 = .ok (.return_, 1) := by decide +kernel
def site : List Cond := [.fieldLink "java/lang/String" 38 "java/lang/String" "COMPACT_STRINGS" "Z", Cmp3.tab, CodL.tab, .laysFinal "java/lang/String" "java/lang/String" "value" "[B", .fieldLink "java/lang/String" 9 "java/lang/String" "value" "[B", .laysFinal "java/lang/String" "java/lang/String" "coder" "B", .fieldLink "java/lang/String" 15 "java/lang/String" "coder" "B"] ++ objW "java/lang/String" 1 ++ staticW "java/lang/String" 177 Cmp3.yN ++ staticW "java/lang/String" 47 CodL.yN
def tab : Cond := tabOf yN yB 6 none site
def P (a : Addr) (D : Cell) (fV fC : Field) (b : Addr) (A : Cell) (z : Int32) (o len : Nat) (args : Array Value) (s : State) : Prop := args = #[.ref a, .ref b, .int (Int32.ofNat o), .int (Int32.ofNat len), .null] ∧ Blank "java/lang/String" a D s ∧ Found "java/lang/String" "value" "[B" fV s ∧ Found "java/lang/String" "coder" "B" fC s ∧ Ch b A s ∧ StaticIs s "java/lang/String" "COMPACT_STRINGS" "Z" (.int z) ∧ ¬ z = 0 ∧ 0 < len ∧ o + len ≤ A.slots.size ∧ len ≤ 536870912 ∧ ∀ i, i < len → ¬ 255 < cv A (o + i)
def E (a : Addr) (D : Cell) (fV fC : Field) (A : Cell) (o len : Nat) (r : Option Value) (s u : State) : Prop := Got a D fV fC A o len r s u
/-- len > 0, no char of the range above 255: a Latin-1 String of their low bytes -/
theorem law (l : Launch) (a : Addr) (D : Cell) (fV fC : Field) (b : Addr) (A : Cell) (z : Int32) (o len : Nat) : Law l yN 5 4 2 35 yB 6 none site (P a D fV fC b A z o len) (E a D fV fC A o len) [⟨a, fC.slot⟩, ⟨a, fV.slot⟩] 1 len := by
  refine Law.of_walk (plainFor_of_name (by decide +kernel)) (by decide +kernel) (by decide +kernel) (by decide) (fun _ _ h => by rw [h.1]; rfl) (fun _ U U' hal hh h => ⟨h.1, h.2.1.mv hal hh, h.2.2.1.al hal, h.2.2.2.1.al hal, h.2.2.2.2.1.mv hal hh, h.2.2.2.2.2.1.there hal hh, h.2.2.2.2.2.2⟩) (fun r U U' V V' h1 hal h2 h => Got.mv r U U' V V' h1 hal h2 h) ?_
  intro p e s m args below meth c s₁ X0 hexec hbytes hml hret hlk hnm hown hh0 W hP
  obtain ⟨rfl, hB, f1, f2, hA, s1, hz, l0, l1, l2, hp⟩ := hP
  have a31 := hA.1.2.2.2
  have c1 : Steps p.tables e below (s₁.setTop (entryFrame m #[.ref a, .ref b, .int (Int32.ofNat o), .int (Int32.ofNat len), .null] 6)) (s₁.setTop (mkF m 0 #[.val (.ref a), .val (.ref b), .val (.int (Int32.ofNat o)), .val (.int (Int32.ofNat len)), .val .null, .unset] [])) := entry rfl
  have c2 : Steps p.tables e below (s₁.setTop (entryFrame m #[.ref a, .ref b, .int (Int32.ofNat o), .int (Int32.ofNat len), .null] 6)) (s₁.setTop (mkF m 1 #[.val (.ref a), .val (.ref b), .val (.int (Int32.ofNat o)), .val (.int (Int32.ofNat len)), .val .null, .unset] [.ref a])) := c1.trans (by
    refine XS.aloadN X0.here hexec rfl (hb hbytes d0) rfl rfl ?_
    exact Steps.refl _)
  obtain ⟨T3, X3, q3, st3⟩ := X0.oinit hexec hown (wks W (objW "java/lang/String" 1)) (g := (mkF m 1 #[.val (.ref a), .val (.ref b), .val (.int (Int32.ofNat o)), .val (.int (Int32.ofNat len)), .val .null, .unset] [.ref a])) rfl (by rw [hml]; rfl) (rest := []) rfl (hb hbytes d1) (W := 0) (by show 2 * 0 + 0 ≤ _; decide) (Nat.le_of_ble_eq_true rfl) (Nat.le_of_ble_eq_true rfl)
  have hh3 := q3.trans hh0
  have c4 : Steps p.tables e below (s₁.setTop (entryFrame m #[.ref a, .ref b, .int (Int32.ofNat o), .int (Int32.ofNat len), .null] 6)) (T3.setTop (mkF m 27 #[.val (.ref a), .val (.ref b), .val (.int (Int32.ofNat o)), .val (.int (Int32.ofNat len)), .val .null, .unset] [])) := (c2.trans (st3 _ (Steps.refl _))).trans (by
    refine XS.iloadN X3.here hexec rfl (hb hbytes d4) rfl ?_
    refine XS.ifYes X3.here hexec rfl (pc0 := 5) rfl (hb hbytes d5) rfl (i0_ne_t (nz32 (by omega) l0)) (by decide) rfl ?_
    exact Steps.refl _)
  obtain ⟨T5, X5, q5, st5⟩ := X3.sget hexec hown (wk W (.fieldLink "java/lang/String" 38 "java/lang/String" "COMPACT_STRINGS" "Z")) s1 (fun _ _ h => by rw [hh3]; exact h) (g := (mkF m 27 #[.val (.ref a), .val (.ref b), .val (.int (Int32.ofNat o)), .val (.int (Int32.ofNat len)), .val .null, .unset] [])) rfl (hb hbytes d27)
  have hh5 := q5.trans hh3
  have c6 : Steps p.tables e below (s₁.setTop (entryFrame m #[.ref a, .ref b, .int (Int32.ofNat o), .int (Int32.ofNat len), .null] 6)) (T5.setTop (mkF m 30 #[.val (.ref a), .val (.ref b), .val (.int (Int32.ofNat o)), .val (.int (Int32.ofNat len)), .val .null, .unset] [.int z])) := c4.trans (st5 _ (Steps.refl _))
  have c7 : Steps p.tables e below (s₁.setTop (entryFrame m #[.ref a, .ref b, .int (Int32.ofNat o), .int (Int32.ofNat len), .null] 6)) (T5.setTop (mkF m 36 #[.val (.ref a), .val (.ref b), .val (.int (Int32.ofNat o)), .val (.int (Int32.ofNat len)), .val .null, .unset] [.int (Int32.ofNat len), .int (Int32.ofNat o), .ref b])) := c6.trans (by
    refine XS.ifNo X5.here hexec rfl (hb hbytes d30) rfl (i0_eq_f hz) ?_
    refine XS.aloadN X5.here hexec rfl (hb hbytes d33) rfl rfl ?_
    refine XS.iloadN X5.here hexec rfl (hb hbytes d34) rfl ?_
    refine XS.iloadN X5.here hexec rfl (hb hbytes d35) rfl ?_
    exact Steps.refl _)
  obtain ⟨v8, T8, X8, E8, g8⟩ := X5.callS hexec (Cmp3.law l b A o len) hown (wks W (staticW "java/lang/String" 177 Cmp3.yN)) (wk W Cmp3.tab) (W := 0) (Nat.le_of_ble_eq_true rfl) (Nat.le_of_ble_eq_true rfl) (Nat.le_refl _) (by show 0 + len ≤ len; omega) (g := (mkF m 36 #[.val (.ref a), .val (.ref b), .val (.int (Int32.ofNat o)), .val (.int (Int32.ofNat len)), .val .null, .unset] [.int (Int32.ofNat len), .int (Int32.ofNat o), .ref b])) rfl (by rw [hml]; rfl) c7 (argsL := [.ref b, .int (Int32.ofNat o), .int (Int32.ofNat len)]) (rest := []) rfl rfl (by show 2 * 0 + 0 ≤ _; decide) (hb hbytes d36) (⟨rfl, hA.mv X5.warmed.alike hh5, l1, l2, hp⟩)
  obtain ⟨e8, z8⟩ := E8
  obtain ⟨rfl, N, n1, n2, n3, n4, n5, n6⟩ := NewArr.mv _ T5 s _ _ hh5.symm (Vm.Alike.refl _) rfl e8
  rw [hh5] at z8
  have hB1 := hB.keep X8.warmed.alike (n6 _ _ hB.1)
  have hne : s.heap.size ≠ a := (Nat.ne_of_lt (Array.getElem?_eq_some_iff.mp hB.1).1).symm
  have c9 : Steps p.tables e below (s₁.setTop (entryFrame m #[.ref a, .ref b, .int (Int32.ofNat o), .int (Int32.ofNat len), .null] 6)) (T8.setTop (mkF m 39 #[.val (.ref a), .val (.ref b), .val (.int (Int32.ofNat o)), .val (.int (Int32.ofNat len)), .val .null, .unset] [.ref s.heap.size])) := g8
  have c10 : Steps p.tables e below (s₁.setTop (entryFrame m #[.ref a, .ref b, .int (Int32.ofNat o), .int (Int32.ofNat len), .null] 6)) (T8.setTop (mkF m 45 #[.val (.ref a), .val (.ref b), .val (.int (Int32.ofNat o)), .val (.int (Int32.ofNat len)), .val .null, .val (.ref s.heap.size)] [.int (Int32.ofNat N.slots.size), .ref s.heap.size, .ref a])) := by
    have hc : Steps p.tables e below (s₁.setTop (entryFrame m #[.ref a, .ref b, .int (Int32.ofNat o), .int (Int32.ofNat len), .null] 6)) (T8.setTop (mkF m 45 #[.val (.ref a), .val (.ref b), .val (.int (Int32.ofNat o)), .val (.int (Int32.ofNat len)), .val .null, .val (.ref s.heap.size)] [.int (Int32.ofNat len), .ref s.heap.size, .ref a])) := c9.trans (by
      refine XS.astore X8.here hexec rfl (hb hbytes d39) rfl rfl rfl ?_
      refine XS.aloadN X8.here hexec rfl (hb hbytes d41) rfl rfl ?_
      refine XS.aload X8.here hexec rfl (hb hbytes d42) rfl rfl ?_
      refine XS.iloadN X8.here hexec rfl (hb hbytes d44) rfl ?_
      exact Steps.refl _)
    rw [n4]; exact hc
  obtain ⟨v11, T11, X11, E11, g11⟩ := X8.callS hexec (CodL.law l s.heap.size N) hown (wks W (staticW "java/lang/String" 47 CodL.yN)) (wk W CodL.tab) (W := 1) (Nat.le_of_ble_eq_true rfl) (Nat.le_of_ble_eq_true rfl) (Nat.le_refl _) (by show 0 + len + 0 ≤ len; omega) (g := (mkF m 45 #[.val (.ref a), .val (.ref b), .val (.int (Int32.ofNat o)), .val (.int (Int32.ofNat len)), .val .null, .val (.ref s.heap.size)] [.int (Int32.ofNat N.slots.size), .ref s.heap.size, .ref a])) rfl (by rw [hml]; rfl) c10 (argsL := [.ref s.heap.size, .int (Int32.ofNat N.slots.size)]) (rest := [.ref a]) rfl rfl (by show 2 * 0 + (1 + 0) ≤ _; decide) (hb hbytes d45) (⟨rfl, n1⟩)
  obtain ⟨rfl, q11⟩ := E11
  have hB11 := hB1.mv (X8.warmed.alike.symm.trans X11.warmed.alike) q11
  have c12 : Steps p.tables e below (s₁.setTop (entryFrame m #[.ref a, .ref b, .int (Int32.ofNat o), .int (Int32.ofNat len), .null] 6)) (T11.setTop (mkF m 48 #[.val (.ref a), .val (.ref b), .val (.int (Int32.ofNat o)), .val (.int (Int32.ofNat len)), .val .null, .val (.ref s.heap.size)] [.int 0, .ref a])) := g11
  obtain ⟨T13, X13, p13, bl13, sl13, st13⟩ := X11.finit hexec hown (wk W (.fieldLink "java/lang/String" 15 "java/lang/String" "coder" "B")) (Or.inr ⟨_, (wk W (.laysFinal "java/lang/String" "java/lang/String" "coder" "B"))⟩) (Or.inl ⟨rfl, hnm⟩) f2 (Or.inl rfl) hB11 (t := .byte) (by decide +kernel) rfl (g := (mkF m 48 #[.val (.ref a), .val (.ref b), .val (.int (Int32.ofNat o)), .val (.int (Int32.ofNat len)), .val .null, .val (.ref s.heap.size)] [.int 0, .ref a])) rfl (rest := []) rfl (hb hbytes d48)
  have c14 : Steps p.tables e below (s₁.setTop (entryFrame m #[.ref a, .ref b, .int (Int32.ofNat o), .int (Int32.ofNat len), .null] 6)) (T13.setTop (mkF m 54 #[.val (.ref a), .val (.ref b), .val (.int (Int32.ofNat o)), .val (.int (Int32.ofNat len)), .val .null, .val (.ref s.heap.size)] [.ref s.heap.size, .ref a])) := (c12.trans (st13 _ (Steps.refl _))).trans (by
    refine XS.aloadN X13.here hexec rfl (hb hbytes d51) rfl rfl ?_
    refine XS.aload X13.here hexec rfl (hb hbytes d52) rfl rfl ?_
    exact Steps.refl _)
  obtain ⟨T15, X15, p15, bl15, sl15, st15⟩ := X13.finit hexec hown (wk W (.fieldLink "java/lang/String" 9 "java/lang/String" "value" "[B")) (Or.inr ⟨_, (wk W (.laysFinal "java/lang/String" "java/lang/String" "value" "[B"))⟩) (Or.inl ⟨rfl, hnm⟩) f1 (Or.inl rfl) bl13 (t := (.array .byte)) (by decide +kernel) rfl (g := (mkF m 54 #[.val (.ref a), .val (.ref b), .val (.int (Int32.ofNat o)), .val (.int (Int32.ofNat len)), .val .null, .val (.ref s.heap.size)] [.ref s.heap.size, .ref a])) rfl (rest := []) rfl (hb hbytes d54)
  have c16 : Steps p.tables e below (s₁.setTop (entryFrame m #[.ref a, .ref b, .int (Int32.ofNat o), .int (Int32.ofNat len), .null] 6)) (T15.setTop (mkF m 57 #[.val (.ref a), .val (.ref b), .val (.int (Int32.ofNat o)), .val (.int (Int32.ofNat len)), .val .null, .val (.ref s.heap.size)] [])) := c14.trans (st15 _ (Steps.refl _))
  have ap := apart (Or.inr ⟨_, (wk W (.laysFinal "java/lang/String" "java/lang/String" "value" "[B"))⟩) (Or.inr ⟨_, (wk W (.laysFinal "java/lang/String" "java/lang/String" "coder" "B"))⟩) f1 f2 (t₁ := .array .byte) (t₂ := .byte) (by decide +kernel) (by decide +kernel) (by decide)
  have al := X8.warmed.alike.symm.trans X15.warmed.alike
  have n7 : T11.heap[s.heap.size]? = some N := by rw [q11]; exact n1.1
  exact ⟨T15, none, _, _, _, X15, by simp, rfl, by omega, (fun _ => rfl), ⟨rfl, _, N, bl15, ((Same.refl D _).set _ (by simp)).set _ (by simp), sl15, (Cell.slots_setSlot_ne _ ap).trans sl13, n1.keep al (p15.other hne (p13.other hne n7)), n2, by rw [al.findClass]; exact n3, n4, n5, fun y c h1 h2 => p15.other h1 (p13.other h1 (by rw [q11]; exact n6 y c h2)), by rw [p15.2.2, p13.2.2, q11]; exact z8⟩, fun fs hl => c16.trans (X15.returnOut hexec hret (hb hbytes d57) hl)⟩
end New4
namespace New1
def yN : MethodName := ⟨"java/lang/String", "<init>", "([C)V"⟩
abbrev yB : ByteArray := jdk_42_method_3_code
theorem d0 : decode yB 0 = .ok (.aload_n 0, 1) := by decide +kernel
theorem d1 : decode yB 1 = .ok (.aload_n 1, 1) := by decide +kernel
theorem d2 : decode yB 2 = .ok (.iconst 0, 1) := by decide +kernel
theorem d3 : decode yB 3 = .ok (.aload_n 1, 1) := by decide +kernel
theorem d4 : decode yB 4 = .ok (.arraylength, 1) := by decide +kernel
theorem d5 : decode yB 5 = .ok (.aconst_null, 1) := by decide +kernel
theorem d6 : decode yB 6 = .ok (.invokespecial 27, 3) := by decide +kernel
theorem d9 : decode yB 9 = .ok (.return_, 1) := by decide +kernel
def site : List Cond := [New4.tab] ++ initW "java/lang/String" 27 New4.yN
def tab : Cond := tabOf yN yB 2 none site
def P (a : Addr) (D : Cell) (fV fC : Field) (b : Addr) (A : Cell) (z : Int32) (args : Array Value) (s : State) : Prop := args = #[.ref a, .ref b] ∧ Blank "java/lang/String" a D s ∧ Found "java/lang/String" "value" "[B" fV s ∧ Found "java/lang/String" "coder" "B" fC s ∧ Ch b A s ∧ StaticIs s "java/lang/String" "COMPACT_STRINGS" "Z" (.int z) ∧ ¬ z = 0 ∧ 0 < A.slots.size ∧ A.slots.size ≤ 536870912 ∧ ∀ i, i < A.slots.size → ¬ 255 < cv A i
def E (a : Addr) (D : Cell) (fV fC : Field) (A : Cell) (r : Option Value) (s u : State) : Prop := Got a D fV fC A 0 A.slots.size r s u
/-- new String(chars), not empty, no char above 255: a Latin-1 String of their low bytes -/
theorem law (l : Launch) (a : Addr) (D : Cell) (fV fC : Field) (b : Addr) (A : Cell) (z : Int32) : Law l yN 2 1 3 52 yB 2 none site (P a D fV fC b A z) (E a D fV fC A) [⟨a, fC.slot⟩, ⟨a, fV.slot⟩] 1 A.slots.size := by
  refine Law.of_walk (plainFor_of_name (by decide +kernel)) (by decide +kernel) (by decide +kernel) (by decide) (fun _ _ h => by rw [h.1]; rfl) (fun _ U U' hal hh h => ⟨h.1, h.2.1.mv hal hh, h.2.2.1.al hal, h.2.2.2.1.al hal, h.2.2.2.2.1.mv hal hh, h.2.2.2.2.2.1.there hal hh, h.2.2.2.2.2.2⟩) (fun r U U' V V' h1 hal h2 h => Got.mv r U U' V V' h1 hal h2 h) ?_
  intro p e s m args below meth c s₁ X0 hexec hbytes hml hret hlk hnm hown hh0 W hP
  obtain ⟨rfl, hB, f1, f2, hA, s1, hz, l0, l2, hp⟩ := hP
  have c1 : Steps p.tables e below (s₁.setTop (entryFrame m #[.ref a, .ref b] 2)) (s₁.setTop (mkF m 0 #[.val (.ref a), .val (.ref b)] [])) := entry rfl
  have c2 : Steps p.tables e below (s₁.setTop (entryFrame m #[.ref a, .ref b] 2)) (s₁.setTop (mkF m 6 #[.val (.ref a), .val (.ref b)] [.null, .int (Int32.ofNat A.slots.size), .int 0, .ref b, .ref a])) := c1.trans (by
    refine XS.aloadN X0.here hexec rfl (hb hbytes d0) rfl rfl ?_
    refine XS.aloadN X0.here hexec rfl (hb hbytes d1) rfl rfl ?_
    refine iconstV X0.here hexec rfl 0 (hb hbytes d2) (by decide) ?_
    refine XS.aloadN X0.here hexec rfl (hb hbytes d3) rfl rfl ?_
    refine X0.alen hexec (hA.1.mv X0.warmed.alike hh0) rfl rfl (hb hbytes d4) ?_
    refine XS.aconstNull X0.here hexec rfl (hb hbytes d5) ?_
    exact Steps.refl _)
  obtain ⟨v3, T3, X3, E3, g3⟩ := X0.callN hexec (New4.law l a D fV fC b A z 0 A.slots.size) rfl hown (wks W (initW "java/lang/String" 27 New4.yN)) (W New4.tab (by simp only [site, List.mem_cons, List.mem_append, true_or, or_true])) (W := 0) (Nat.le_of_ble_eq_true rfl) (Nat.le_of_ble_eq_true rfl) (Nat.le_refl _) (by show 0 + A.slots.size ≤ A.slots.size; omega) (g := (mkF m 6 #[.val (.ref a), .val (.ref b)] [.null, .int (Int32.ofNat A.slots.size), .int (Int32.ofNat 0), .ref b, .ref a])) rfl (by rw [hml]; rfl) c2 (argsL := [.ref b, .int (Int32.ofNat 0), .int (Int32.ofNat A.slots.size), .null]) (rest := []) rfl rfl (by show 2 * 0 + 0 ≤ _; decide) (hb hbytes d6) (⟨rfl, hB.mv X0.warmed.alike hh0, f1.al X0.warmed.alike, f2.al X0.warmed.alike, hA.mv X0.warmed.alike hh0, s1.there X0.warmed.alike hh0, hz, l0, by omega, l2, fun i hi => by rw [Nat.zero_add]; exact hp i hi⟩)
  have e0 := Got.mv _ s₁ s _ _ hh0.symm (Vm.Alike.refl _) rfl E3
  obtain rfl := e0.1
  have c4 : Steps p.tables e below (s₁.setTop (entryFrame m #[.ref a, .ref b] 2)) (T3.setTop (mkF m 9 #[.val (.ref a), .val (.ref b)] [])) := g3
  exact ⟨T3, none, _, _, _, X3, by simp, rfl, by omega, (fun _ => rfl), e0, fun fs hl => c4.trans (X3.returnOut hexec hret (hb hbytes d9) hl)⟩
theorem pays {l : Launch} {R : Room} {p : Program} {e : Env} {below : List Frame} {s : State} {sargs : Array Value} {len W : Nat} (a : Addr) (D : Cell) (fV fC : Field) (b : Addr) (A : Cell) (z : Int32) (htab : tab.before sargs s = true) (hfr : 4 ≤ R.frames) (hlo : W + 65 ≤ R.locals) :
    Back l R p e below s sargs yN len W (fun A₁ a₁ => A₁.cells + 1 ≤ R.cells ∧ A₁.slots + A.slots.size ≤ R.slots ∧ P a D fV fC b A z a₁ A₁.U) (fun A₁ _ v₁ B₁ => E a D fV fC A v₁ A₁.U B₁.U ∧ B₁.locs = A₁.locs ++ [⟨a, fC.slot⟩, ⟨a, fV.slot⟩] ∧ B₁.cells = A₁.cells + 1 ∧ B₁.slots = A₁.slots + A.slots.size) :=
  (law l a D fV fC b A z).pays htab hfr (by omega)
end New1
end StrChars
namespace StrChars.Road
open Jvm Sem ClassFile Op Lib Jvm.Stand Jvm.Free Jvm.Free.XT
open Jvm.Lib.Cold (StaticIs)
abbrev ST : String := "java/lang/String"
/-- every table word that New1's law asks, flat -/
abbrev words : List Jvm.Cond := [.code New1.yN New1.yB 2 none, .initialized ST, .methodLink ST 27 New4.yN, .instanceMethod New4.yN,
  .code New4.yN New4.yB 6 none, .fieldLink ST 38 ST "COMPACT_STRINGS" "Z", .laysFinal ST ST "value" "[B", .fieldLink ST 9 ST "value" "[B", .laysFinal ST ST "coder" "B", .fieldLink ST 15 ST "coder" "B",
  .methodLink ST 1 Lib.objectInit, .instanceMethod Lib.objectInit, .code Lib.objectInit ⟨#[0xb1]⟩ 1 none, .methodLink ST 177 Cmp3.yN, .static Cmp3.yN, .methodLink ST 47 CodL.yN, .static CodL.yN,
  .code Cmp3.yN Cmp3.yB 6 (some (.array .byte)), .initialized U16, .arrayClass .byte, .methodLink U16 115 Cmp5.yN, .static Cmp5.yN, .code Cmp5.yN Cmp5.yB 7 (some .int), .code CodL.yN CodL.yB 2 (some .byte)]
theorem tab_of {a : Array Value} {s : State} (h : ∀ w ∈ words, w.before a s = true) : New1.tab.before a s = true := by
  have h5 : Cmp5.tab.before a s = true := unparts (wk h (.code Cmp5.yN Cmp5.yB 7 (some .int))) (wks h (.initialized Cmp5.yN.cls :: Cmp5.site))
  have hc : CodL.tab.before a s = true := unparts (wk h (.code CodL.yN CodL.yB 2 (some .byte))) (wks h (.initialized CodL.yN.cls :: CodL.site))
  have q5 : ∀ w ∈ Cmp5.tab :: words, w.before a s = true := fun w hw => (List.mem_cons.mp hw).elim (fun e => e ▸ h5) (h w)
  have h3 : Cmp3.tab.before a s = true := unparts (wk q5 (.code Cmp3.yN Cmp3.yB 6 (some (.array .byte)))) (wks q5 (.initialized Cmp3.yN.cls :: Cmp3.site))
  have q3 : ∀ w ∈ Cmp3.tab :: CodL.tab :: words, w.before a s = true := fun w hw => (List.mem_cons.mp hw).elim (fun e => e ▸ h3) fun hw => (List.mem_cons.mp hw).elim (fun e => e ▸ hc) (h w)
  have h4 : New4.tab.before a s = true := unparts (wk q3 (.code New4.yN New4.yB 6 none)) (wks q3 (.initialized New4.yN.cls :: New4.site))
  have q4 : ∀ w ∈ New4.tab :: words, w.before a s = true := fun w hw => (List.mem_cons.mp hw).elim (fun e => e ▸ h4) (h w)
  exact unparts (wk q4 (.code New1.yN New1.yB 2 none)) (wks q4 (.initialized New1.yN.cls :: New1.site))
/-- the words ride from the start Z to the walk's own state -/
theorem moved {Z s : State} {a0 args : Array Value} (hZ : Z.Warmed39 s.vm) (hw : ∀ d ∈ words, d.before a0 Z = true) : ∀ d ∈ words, d.before args s = true := fun d hd => by
  have q := hw d hd
  have t : ∀ d ∈ words, d = .arrayClass .byte ∨ (d.onTables && d.keepsFace) = true := by decide +kernel
  rcases t d hd with rfl | t
  · exact RoadKit.mvA hZ q
  · exact RoadKit.mv hZ q t
/-- WHAT COMES BACK, over the tables of the start Z: h the heap at the call, h' behind it -/
def Q (Z : State) (x : Addr) (A : Cell) (h : Heap) (v : Option Value) (h' : Heap) (L : List Loc) : Prop := v = none ∧ (∀ y ∈ L, y.base = x) ∧ RoadKit.Keep h h' [x] ∧ h'.size = h.size + 1 ∧ RoadKit.Exa Z h' x ST ∧ RoadKit.Fld Z h' x ST "value" "[B" (.ref h.size) ∧ RoadKit.Fld Z h' x ST "coder" "B" (.int 0) ∧
  (∃ V : Cell, RoadKit.Arr Z h' h.size V .byte ∧ V.vm = .none ∧ Z.vm.findClass "[B" = some V.cls ∧ V.slots.size = A.slots.size ∧ ∀ j, j < A.slots.size → V.slots[j]? = some (.int (lo8 (cv A j)))) ∧
  ∀ (O n d : String) (w : Value), RoadKit.Fld Z h x O n d w → RoadKit.slotOf Z O n d ≠ RoadKit.slotOf Z ST "value" "[B" → RoadKit.slotOf Z O n d ≠ RoadKit.slotOf Z ST "coder" "B" → RoadKit.Fld Z h' x O n d w
/-- **new String(chars) AT A CALL, IN THE ROAD'S FORM**: for specialBack behind newO: x the fresh String, b the char[] with the cell A -/
theorem back {p : Program} {l : Launch} {e : Env} {R : Room} {s : State} {args : Array Value} {below : List Frame} {len W : Nat} {Z : State} {a0 : Array Value} {h : Heap} (hZ : Z.Warmed39 s.vm) (hw : ∀ d ∈ words, d.before a0 Z = true) {kI : Nat} (wi : (Jvm.Cond.instantiable ST kI).before a0 Z = true)
    {x b : Addr} {A : Cell} {z : Int32} {v0 c0 : Value} (E : RoadKit.Exa Z h x ST) (V : RoadKit.Fld Z h x ST "value" "[B" v0) (C : RoadKit.Fld Z h x ST "coder" "B" c0) (K : RoadKit.Arr Z h b A .char) (hty : Typed .char A) (S : RoadKit.Sta Z h ST "COMPACT_STRINGS" "Z" (.int z)) (hz : ¬ z = 0)
    (l0 : 0 < A.slots.size) (l2 : A.slots.size ≤ 536870912) (hp : ∀ i, i < A.slots.size → ¬ 255 < cv A i) (hfr : 4 ≤ R.frames) (hlo : W + 65 ≤ R.locals) :
    Back l R p e below s args New1.yN len W (fun P a => a = #[.ref x, .ref b] ∧ P.U.heap = h ∧ P.cells + 1 ≤ R.cells ∧ P.slots + A.slots.size ≤ R.slots)
      (fun P _ v B => ∃ L, Q Z x A h v B.U.heap L ∧ B.locs = P.locs ++ L ∧ B.cells = P.cells + 1 ∧ B.slots = P.slots + A.slots.size) := by
  intro m meth c P g ig mk a X hg hsize hdg hW hn hp'
  obtain ⟨rfl, rfl, r1, r2⟩ := hp'
  have al : Z.vm.Alike P.U.vm := hZ.alike.trans X.warmed.alike
  obtain ⟨D, cfV, kV, iV, fV, hD, gV, stV, knV, obV, asV, slV⟩ := id V
  obtain ⟨D', cfC, kC, iC, fC, hD', gC, stC, -, -, asC, slC⟩ := id C
  cases hD.symm.trans hD'
  obtain ⟨D2, kD, e1, e2, e3, e4, e5⟩ := id E
  cases hD.symm.trans e1
  obtain ⟨c2, k2, i1, i2, i3, -⟩ := Cond.instantiable_spec wi
  cases e2.symm.trans i1
  cases e3.symm.trans i2
  obtain ⟨kU, u1, u2⟩ := al.2.2 _ _ e3
  have hB : Blank ST x D P.U := ⟨hD, ⟨knV, fun q hq => by rw [hq] at obV; cases obV⟩, by rw [al.findClass]; exact e2, kU, u1, by rw [u2]; exact i3, by rw [u2]; exact e5 i3⟩
  have F1 : Found ST "value" "[B" fV P.U := ⟨SBG.found_only al ⟨cfV, kV, iV, gV⟩, stV⟩
  have F2 : Found ST "coder" "B" fC P.U := ⟨SBG.found_only al ⟨cfC, kC, iC, gC⟩, stC⟩
  have hA : Ch b A P.U := ⟨⟨K.1, State.isArrayOf_alike al K.2.1, K.2.2, by omega⟩, hty⟩
  have hS : StaticIs P.U ST "COMPACT_STRINGS" "Z" (.int z) := by
    obtain ⟨cfS, iS, kS, fS, st, cS, t1, t2, t3, t4, t5, t6, t7⟩ := S
    exact StaticIs.there (s := { Z with heap := P.U.heap }) ⟨cfS, iS, kS, fS, st, cS, t1, t2, t3, t4, t5, (fun q => by rw [q] at t6; cases t6), t7⟩ al rfl
  obtain ⟨v, B, X', ⟨⟨hv, E', V', q1, q2, q3, q4, q5, q6, q7, q8, q9, q10, q11⟩, hl, hc, hs⟩, st⟩ := New1.pays x D fV fC b A z (tab_of (moved hZ hw)) hfr hlo m meth c P g ig mk _ X hg hsize hdg hW hn ⟨r1, r2, rfl, hB, F1, F2, hA, hS, hz, l0, l2, hp⟩
  have al' : Z.vm.Alike B.U.vm := hZ.alike.trans X'.warmed.alike
  have hsz : E'.slots.size = D.slots.size := by
    obtain ⟨-, -, -, kB, w1, w2, w3⟩ := q1
    obtain ⟨kB', y1, y2⟩ := al'.2.2 _ _ e3
    rw [q2.2.1] at w1
    cases w1.symm.trans y1
    rw [w3, e5 i3, y2]
  refine ⟨v, B, X', ⟨_, ⟨hv, ?_, ⟨by omega, fun y cy hy hn' => q10 y cy (by simpa using hn') hy, fun y cy hy => ?_⟩, q11, ⟨E', _, q1.1, by rw [q2.2.1]; exact e2, by rw [q2.2.1]; exact e3, by rw [q2.1]; exact obV, fun _ => by rw [hsz]; exact e5 i3⟩,
    ⟨E', cfV, kV, iV, fV, q1.1, gV, stV, by rw [q2.1]; exact knV, by rw [q2.1]; exact obV, by rw [q2.2.1]; exact asV, q3⟩, ⟨E', cfC, kC, iC, fC, q1.1, gC, stC, by rw [q2.1]; exact knV, by rw [q2.1]; exact obV, by rw [q2.2.1]; exact asC, q4⟩,
    ⟨V', ⟨q5.1, State.isArrayOf_alike al'.symm q5.2.1, q5.2.2.1⟩, q6, by rw [← al'.findClass]; exact q7, q8, fun j hj => by have := q9 j hj; rwa [Nat.zero_add] at this⟩, fun O n d w F n1 n2 => ?_⟩, hl, hc, hs⟩, st⟩
  · intro y hy
    simp only [List.mem_cons, List.not_mem_nil, or_false] at hy
    rcases hy with rfl | rfl <;> rfl
  · by_cases q : y = x
    · subst q
      cases hD.symm.trans hy
      exact ⟨E', q1.1, q2.2.1, q2.1, hsz⟩
    · exact ⟨cy, q10 y cy q hy, rfl, rfl, rfl⟩
  · obtain ⟨D3, cf, k, i, f, g1, g2, g3, g4, g5, g6, g7⟩ := F
    cases hD.symm.trans g1
    simp only [RoadKit.slotOf, g2, gV, gC, Option.map_some, Option.getD_some] at n1 n2
    exact ⟨E', cf, k, i, f, q1.1, g2, g3, by rw [q2.1]; exact g4, by rw [q2.1]; exact g5, by rw [q2.2.1]; exact g6, by rw [q2.2.2 f.slot (by simp [n1, n2])]; exact g7⟩
end StrChars.Road
namespace StrChars.Road
open Jvm Sem ClassFile Op Lib Jvm.Stand Jvm.Free Jvm.Free.XT
/-- WHAT COMES BACK, the byte[] as a list of values -/
def QA (Z : State) (x : Addr) (zn : Int32) (cs : List Int32) (h : Heap) (v : Option Value) (h' : Heap) (L : List Loc) : Prop := v = none ∧ (∀ y ∈ L, y.base = x) ∧ RoadKit.Keep h h' [x] ∧ h'.size = h.size + 1 ∧ RoadKit.Exa Z h' x ST ∧ RoadKit.Fld Z h' x ST "value" "[B" (.ref h.size) ∧ RoadKit.Fld Z h' x ST "coder" "B" (.int 0) ∧
  (∃ kb, Z.vm.findClass "[B" = some kb ∧ RoadKit.Arv Z h' h.size kb .byte zn (cs.map fun c => .int (lo8 c)) (.int 0)) ∧
  ∀ (O n d : String) (w : Value), RoadKit.Fld Z h x O n d w → RoadKit.slotOf Z O n d ≠ RoadKit.slotOf Z ST "value" "[B" → RoadKit.slotOf Z O n d ≠ RoadKit.slotOf Z ST "coder" "B" → RoadKit.Fld Z h' x O n d w
/-- **new String(chars) AT A CALL, THE ARRAYS AS LISTS**: the char[] at b holds cs, not empty, no char above 255 -/
theorem backArv {p : Program} {l : Launch} {e : Env} {R : Room} {s : State} {args : Array Value} {below : List Frame} {len W : Nat} {Z : State} {a0 : Array Value} {h : Heap} (hZ : Z.Warmed39 s.vm) (hw : ∀ d ∈ words, d.before a0 Z = true) {kI : Nat} (wi : (Jvm.Cond.instantiable ST kI).before a0 Z = true)
    {x b : Addr} {k : ClassId} {zn z : Int32} {cs : List Int32} {dv v0 c0 : Value} (E : RoadKit.Exa Z h x ST) (V : RoadKit.Fld Z h x ST "value" "[B" v0) (C : RoadKit.Fld Z h x ST "coder" "B" c0) (K : RoadKit.Arv Z h b k .char zn (cs.map Value.int) dv) (S : RoadKit.Sta Z h ST "COMPACT_STRINGS" "Z" (.int z)) (hz : ¬ z = 0)
    (hlen : zn.toNatClampNeg = cs.length) (h0 : 0 < cs.length) (hbig : cs.length ≤ 536870912) (hall : ∀ c ∈ cs, ¬ 255 < c) (hfr : 4 ≤ R.frames) (hlo : W + 65 ≤ R.locals) :
    Back l R p e below s args New1.yN len W (fun P a => a = #[.ref x, .ref b] ∧ P.U.heap = h ∧ P.cells + 1 ≤ R.cells ∧ P.slots + cs.length ≤ R.slots)
      (fun P _ v B => ∃ L, QA Z x zn cs h v B.U.heap L ∧ B.locs = P.locs ++ L ∧ B.cells = P.cells + 1 ∧ B.slots = P.slots + cs.length) := by
  obtain ⟨A, K1, K2, K3, K4, K5, K6⟩ := K
  have e : A.slots.size = cs.length := K3.trans hlen
  have hat : ∀ (i : Nat) (hi : i < cs.length), A.slots[i]? = some (.int cs[i]) := fun i hi => by rw [K5 i (by omega)]; simp [List.getD_eq_getElem?_getD, hi]
  have hcv : ∀ (i : Nat) (hi : i < cs.length), cv A i = cs[i] := fun i hi => by unfold cv; rw [hat i hi]
  have hty : Typed .char A := fun i v hv => by
    have hi : i < A.slots.size := (Array.getElem?_eq_some_iff.mp hv).1
    have q := K5 i hi
    rw [hv] at q
    rw [Option.some.inj q]
    exact K6 i hi
  refine Back.mono (back hZ hw wi E V C K1 hty S hz (by omega) (by omega) (fun i hi => by rw [hcv i (by omega)]; exact hall _ (List.getElem_mem _)) hfr hlo) (fun P a hp => ⟨hp.1, hp.2.1, hp.2.2.1, by rw [e]; exact hp.2.2.2⟩) (fun P a v B hp hq => ?_)
  obtain ⟨L, ⟨q1, q2, q3, q4, q5, q6, q7, ⟨V', v1, v2, v3, v4, v5⟩, q9⟩, hl, hc, hs⟩ := hq
  refine ⟨L, ⟨q1, q2, q3, q4, q5, q6, q7, ⟨V'.cls, v3, V', v1, rfl, by rw [v4, e, hlen], K4, fun i hi => ?_, fun i hi => ?_⟩, q9⟩, hl, hc, by rw [hs, e]⟩
  · have hi' : i < cs.length := by omega
    rw [v5 i (by omega), hcv i hi']; simp [List.getD_eq_getElem?_getD, hi']
  · have hi' : i < cs.length := by omega
    simp only [List.getD_eq_getElem?_getD, List.getElem?_map, List.getElem?_eq_getElem hi', Option.map_some, Option.getD_some]
    exact fits_lo8 _
end StrChars.Road
namespace StrChars.Road
open Jvm Sem ClassFile Op Lib Jvm.Stand Jvm.Free Jvm.Free.XT
/-- WHAT COMES BACK, in the writer's own shape -/
def QV (Z : State) (x : Addr) (N : Int32) (bs : List Int32) (h : Heap) (n0 : Nat) (v : Option Value) (h' : Heap) (L : List Loc) : Prop := v = none ∧ RoadKit.Fr n0 L ∧ RoadKit.Keep h h' [x] ∧ RoadKit.Exa Z h' x ST ∧ RoadKit.Fld Z h' x ST "coder" "B" (.int 0) ∧
  ∃ (t : Addr) (kb : ClassId), n0 ≤ t ∧ h.size ≤ t ∧ ¬ t = x ∧ RoadKit.Fld Z h' x ST "value" "[B" (.ref t) ∧ RoadKit.Arv Z h' t kb .byte N (bs.map Value.int) (.int 0)
/-- **new String(chars) AT A CALL, FOR THE WRITER**: a char[] of n known ints, each 0 to 255 -/
theorem backV {p : Program} {l : Launch} {e : Env} {R : Room} {s : State} {args : Array Value} {below : List Frame} {len W : Nat} {Z : State} {a0 : Array Value} {h : Heap} (hZ : Z.Warmed39 s.vm) (hw : ∀ d ∈ words, d.before a0 Z = true) {kI : Nat} (wi : (Jvm.Cond.instantiable ST kI).before a0 Z = true)
    {x b : Addr} {kC : ClassId} {cs bs : List Int32} {d v0 c0 : Value} {z N : Int32} {n n0 : Nat} (hx0 : n0 ≤ x) (hh0 : n0 ≤ h.size) (E : RoadKit.Exa Z h x ST) (V : RoadKit.Fld Z h x ST "value" "[B" v0) (C : RoadKit.Fld Z h x ST "coder" "B" c0) (K : RoadKit.Arv Z h b kC .char N (cs.map Value.int) d) (S : RoadKit.Sta Z h ST "COMPACT_STRINGS" "Z" (.int z)) (hz : ¬ z = 0)
    (hn : cs.length = n) (hN : N = Int32.ofNat n) (l0 : 0 < n) (l2 : n ≤ 4000) (hp : ∀ c ∈ cs, ¬ c < 0 ∧ ¬ (255 : Int32) < c) (hb : bs = cs.map (fun c => c.toInt8.toInt32)) (hfr : 4 ≤ R.frames) (hlo : W + 65 ≤ R.locals) :
    Back l R p e below s args (⟨"java/lang/String", "<init>", "([C)V"⟩ : MethodName) len W (fun P a => a = #[.ref x, .ref b] ∧ P.U.heap = h ∧ P.cells + 1 ≤ R.cells ∧ P.slots + n ≤ R.slots)
      (fun P _ v B => ∃ L, QV Z x N bs h n0 v B.U.heap L ∧ B.locs = P.locs ++ L ∧ B.cells = P.cells + 1 ∧ B.slots = P.slots + n) := by
  subst hn hN hb
  refine Back.mono (backArv hZ hw wi E V C K S hz (n32 (by omega)) l0 (by omega) (fun c hc => (hp c hc).2) hfr hlo) (fun P a hp => hp) (fun P a v B hp hq => ?_)
  obtain ⟨L, ⟨q1, q2, q3, q4, q5, q6, q7, ⟨kb, v1, v2⟩, q9⟩, hl, hc, hs⟩ := hq
  exact ⟨L, ⟨q1, fun y hy => by rw [q2 y hy]; exact hx0, q3, q5, q7, h.size, kb, hh0, Nat.le_refl _, Nat.ne_of_gt E.lt, q6, by rw [List.map_map]; exact v2⟩, hl, hc, hs⟩
end StrChars.Road
end Jvm.Pilot.@@N@@
namespace Jvm.Pilot.@@N@@
open Jvm Jvm.ClassFile Sem Op Lib Jvm.Free Jvm.Stand Jvm.LawKit Jvm.RoadKit Bundle Jvm.Pilot.@@N@@.Jvm.D
/-! own small kit: a walk forward, state by state -/
section OwnKit
variable {p : Program} {l : Launch} {e : Env} {R : Room} {s : State} {m : MethodId} {args : Array Value} {below : List Frame} {meth : Method} {c : Code} {T : State} {locs : List Loc} {cells slots : Nat} {rc rs : Nat} {Q : Option Value → Heap → List Loc → Prop} {Z : State} {h h' : Heap} {a b : Addr} {S S' : State}
/-- from S the run comes to its return, and Q holds there -/
def Go (p : Program) (e : Env) (below : List Frame) (s : State) (rc rs : Nat) (Q : Option Value → Heap → List Loc → Prop) (S : State) : Prop :=
  ∃ s₂ o, Steps p.tables e below S s₂ ∧ s₂.status = .running ∧ Ended s₂ below o ∧ ∃ v L, o = .returned v ∧ Q v s₂.heap L ∧ FrameEnd s o s₂ L rc rs
theorem Go.st (k : ∀ t, Steps p.tables e below S' t → Steps p.tables e below S t) (g : Go p e below s rc rs Q S') : Go p e below s rc rs Q S := by
  obtain ⟨x, y, z, r⟩ := g
  exact ⟨x, y, k x z, r⟩
theorem Go.tr (k : Steps p.tables e below S S') (g : Go p e below s rc rs Q S') : Go p e below s rc rs Q S := by
  obtain ⟨x, y, z, r⟩ := g
  exact ⟨x, y, k.trans z, r⟩
theorem Go.ret (X : Stand p l e R s m args below meth c T locs cells slots) (hlk : meth.locks = false) (v : Option Value) (hv : meth.sig.returnType = none → v = none) {g : JFrame} (hQ : Q v T.heap locs) (hc : cells ≤ rc) (hs : slots ≤ rs)
    (k : ∀ fs, (∀ (f : JFrame) (acts : List Action), f.method = m → f.locked = none → f.entered = [] → (doReturn e (T.setTop f) acts v).1 = T.setFrames fs) → Steps p.tables e below (T.setTop g) (T.setFrames fs)) : Go p e below s rc rs Q (T.setTop g) := by
  obtain ⟨fs, hr, hrun, hended, hW, hsame⟩ := X.leave (v := v) hv hlk
  exact ⟨_, _, k fs hr, hrun, hended, _, _, rfl, hQ, ⟨_, rfl⟩, hW, hsame.mono hc hs⟩
theorem own_w {a0 : Array Value} (hw : ∀ d ∈ tables_1, d.before a0 Z = true) (k : Nat) {d : Jvm.Cond} (q : tables_1[k]? = some d) : d.before a0 Z = true := hw _ (List.mem_of_getElem? q)
theorem own_idx {n j : Int32} {cl : Cell} (S : cl.slots.size = n.toNatClampNeg) (q1 : ¬ j < 0) (q2 : j < n) : ¬ (j < 0 ∨ cl.slots.size ≤ j.toNatClampNeg) := inb_of S ⟨q1, q2⟩
theorem own_iaload (X : Stand p l e R s m args below meth c T locs cells slots) (hx : p.tables.exec = Jvm.exec) (hZ : Z.Warmed39 s.vm) (eT : T.heap = h) {k : ClassId} {n : Int32} {vs : List Value} {d : Value} (V : Arv Z h a k .int n vs d) {j : Int32} (q1 : ¬ j < 0) (q2 : j < n) {v : Value} (hv : vs.getD j.toNatClampNeg d = v) {g : JFrame} (hg : g.method = m) {rest : List Value} (hs : g.stack = .int j :: .ref a :: rest) (hd : decode c.code g.pc = .ok (.iaload, 1)) (t : State) (kk : Steps p.tables e below (T.setTop { g with pc := g.pc + 1, stack := v :: rest }) t) : Steps p.tables e below (T.setTop g) t := by
  obtain ⟨cl, A, -, S, -, H, -⟩ := V
  have hin := own_idx S q1 q2
  exact X.iaload hx (j := j) (v := v) (by rw [eT]; exact A.1) (State.isArrayOf_alike hZ.alike A.2.1) A.2.2 hin (H.at hin hv) (g := g) hg hs hd _ kk
theorem own_laload (X : Stand p l e R s m args below meth c T locs cells slots) (hx : p.tables.exec = Jvm.exec) (hZ : Z.Warmed39 s.vm) (eT : T.heap = h) {k : ClassId} {n : Int32} {vs : List Value} {d : Value} (V : Arv Z h a k .long n vs d) {j : Int32} (q1 : ¬ j < 0) (q2 : j < n) {v : Value} (hv : vs.getD j.toNatClampNeg d = v) {g : JFrame} (hg : g.method = m) {rest : List Value} (hs : g.stack = .int j :: .ref a :: rest) (hd : decode c.code g.pc = .ok (.laload, 1)) (t : State) (kk : Steps p.tables e below (T.setTop { g with pc := g.pc + 1, stack := v :: rest }) t) : Steps p.tables e below (T.setTop g) t := by
  obtain ⟨cl, A, -, S, -, H, -⟩ := V
  have hin := own_idx S q1 q2
  exact X.laload hx (j := j) (v := v) (by rw [eT]; exact A.1) (State.isArrayOf_alike hZ.alike A.2.1) A.2.2 hin (H.at hin hv) (g := g) hg hs hd _ kk
theorem own_caload (X : Stand p l e R s m args below meth c T locs cells slots) (hx : p.tables.exec = Jvm.exec) (hZ : Z.Warmed39 s.vm) (eT : T.heap = h) {k : ClassId} {n : Int32} {vs : List Value} {d : Value} (V : Arv Z h a k .char n vs d) {j : Int32} (q1 : ¬ j < 0) (q2 : j < n) {v : Value} (hv : vs.getD j.toNatClampNeg d = v) {g : JFrame} (hg : g.method = m) {rest : List Value} (hs : g.stack = .int j :: .ref a :: rest) (hd : decode c.code g.pc = .ok (.caload, 1)) (t : State) (kk : Steps p.tables e below (T.setTop { g with pc := g.pc + 1, stack := v :: rest }) t) : Steps p.tables e below (T.setTop g) t := by
  obtain ⟨cl, A, -, S, -, H, -⟩ := V
  have hin := own_idx S q1 q2
  exact X.caload hx (j := j) (v := v) (by rw [eT]; exact A.1) (State.isArrayOf_alike hZ.alike A.2.1) A.2.2 hin (H.at hin hv) (g := g) hg hs hd _ kk
theorem own_baloadB (X : Stand p l e R s m args below meth c T locs cells slots) (hx : p.tables.exec = Jvm.exec) (hZ : Z.Warmed39 s.vm) (eT : T.heap = h) {k : ClassId} {n : Int32} {vs : List Value} {d : Value} (V : Arv Z h a k .byte n vs d) {j : Int32} (q1 : ¬ j < 0) (q2 : j < n) {v : Value} (hv : vs.getD j.toNatClampNeg d = v) {g : JFrame} (hg : g.method = m) {rest : List Value} (hs : g.stack = .int j :: .ref a :: rest) (hd : decode c.code g.pc = .ok (.baload, 1)) (t : State) (kk : Steps p.tables e below (T.setTop { g with pc := g.pc + 1, stack := v :: rest }) t) : Steps p.tables e below (T.setTop g) t := by
  obtain ⟨cl, A, -, S, -, H, -⟩ := V
  have hin := own_idx S q1 q2
  exact X.baloadBytes hx (j := j) (v := v) (by rw [eT]; exact A.1) (State.isArrayOf_alike hZ.alike A.2.1) A.2.2 hin (H.at hin hv) (g := g) hg hs hd _ kk
theorem own_baloadZ (X : Stand p l e R s m args below meth c T locs cells slots) (hx : p.tables.exec = Jvm.exec) (hZ : Z.Warmed39 s.vm) (eT : T.heap = h) {k : ClassId} {n : Int32} {vs : List Value} {d : Value} (V : Arv Z h a k .boolean n vs d) {j : Int32} (q1 : ¬ j < 0) (q2 : j < n) {v : Value} (hv : vs.getD j.toNatClampNeg d = v) {g : JFrame} (hg : g.method = m) {rest : List Value} (hs : g.stack = .int j :: .ref a :: rest) (hd : decode c.code g.pc = .ok (.baload, 1)) (t : State) (kk : Steps p.tables e below (T.setTop { g with pc := g.pc + 1, stack := v :: rest }) t) : Steps p.tables e below (T.setTop g) t := by
  obtain ⟨cl, A, -, S, -, H, -⟩ := V
  have hin := own_idx S q1 q2
  exact X.baloadBooleans hx (j := j) (v := v) (by rw [eT]; exact A.1) (State.isArrayOf_alike hZ.alike A.2.1) A.2.2 hin (H.at hin hv) (g := g) hg hs hd _ kk
theorem own_aaload (X : Stand p l e R s m args below meth c T locs cells slots) (hx : p.tables.exec = Jvm.exec) (hZ : Z.Warmed39 s.vm) (eT : T.heap = h) {k : ClassId} {n : Int32} {vs : List Value} {d : Value} {ty : FieldType} (V : Arv Z h a k ty n vs d) (hty : ty.isReference = true) {j : Int32} (q1 : ¬ j < 0) (q2 : j < n) {v : Value} (hv : vs.getD j.toNatClampNeg d = v) {g : JFrame} (hg : g.method = m) {rest : List Value} (hs : g.stack = .int j :: .ref a :: rest) (hd : decode c.code g.pc = .ok (.aaload, 1)) (t : State) (kk : Steps p.tables e below (T.setTop { g with pc := g.pc + 1, stack := v :: rest }) t) : Steps p.tables e below (T.setTop g) t := by
  obtain ⟨cl, A, -, S, -, H, -⟩ := V
  have hin := own_idx S q1 q2
  exact X.aaload hx (j := j) (v := v) (by rw [eT]; exact A.1) (State.isArrayOf_alike hZ.alike A.2.1) hty A.2.2 hin (H.at hin hv) (g := g) hg hs hd _ kk
theorem own_len (X : Stand p l e R s m args below meth c T locs cells slots) (hx : p.tables.exec = Jvm.exec) (hZ : Z.Warmed39 s.vm) (eT : T.heap = h) {k : ClassId} {n : Int32} {vs : List Value} {d : Value} {ty : FieldType} (V : Arv Z h a k ty n vs d) {g : JFrame} (hg : g.method = m) {rest : List Value} (hs : g.stack = .ref a :: rest) (hd : decode c.code g.pc = .ok (.arraylength, 1)) (t : State) (kk : Steps p.tables e below (T.setTop { g with pc := g.pc + 1, stack := .int n :: rest }) t) : Steps p.tables e below (T.setTop g) t := by
  obtain ⟨cl, A, -, S, N, -, -⟩ := V
  refine X.arraylength hx (by rw [eT]; exact A.1) (State.isArrayOf_alike hZ.alike A.2.1) (g := g) hg hs hd _ ?_
  rw [len_of S N]
  exact kk
theorem own_stI (X : Stand p l e R s m args below meth c T locs cells slots) (hx : p.tables.exec = Jvm.exec) (hZ : Z.Warmed39 s.vm) (eT : T.heap = h) {k : ClassId} {n : Int32} {vs : List Value} {d : Value} (V : Arv Z h a k .int n vs d) {j x : Int32} (q1 : ¬ j < 0) (q2 : j < n) (i : Nat) (hi : j.toNatClampNeg = i) (hl : i < vs.length) {g : JFrame} (hg : g.method = m) {rest : List Value} (hs : g.stack = .int x :: .int j :: .ref a :: rest) (hd : decode c.code g.pc = .ok (.iastore, 1)) :
    ∃ T' h', Stand p l e R s m args below meth c T' (locs ++ [⟨a, j.toNatClampNeg⟩]) cells slots ∧ T'.heap = h' ∧ Wr h h' a j.toNatClampNeg (.int x) ∧ Arv Z h' a k .int n (vs.set i (.int x)) d ∧ ∀ t, Steps p.tables e below (T'.setTop { g with pc := g.pc + 1, stack := rest }) t → Steps p.tables e below (T.setTop g) t := by
  obtain ⟨cl, A, q, S, N, H, G⟩ := V
  obtain ⟨T', h', X', e', W', st⟩ := stI X hx hZ eT A (own_idx S q1 q2) (g := g) hg hs hd
  exact ⟨T', h', X', e', W', Arv.set A q S N H G rfl W' i hi hl, st⟩
theorem own_stJ (X : Stand p l e R s m args below meth c T locs cells slots) (hx : p.tables.exec = Jvm.exec) (hZ : Z.Warmed39 s.vm) (eT : T.heap = h) {k : ClassId} {n : Int32} {vs : List Value} {d : Value} (V : Arv Z h a k .long n vs d) {j : Int32} {x : Int64} (q1 : ¬ j < 0) (q2 : j < n) (i : Nat) (hi : j.toNatClampNeg = i) (hl : i < vs.length) {g : JFrame} (hg : g.method = m) {rest : List Value} (hs : g.stack = .long x :: .int j :: .ref a :: rest) (hd : decode c.code g.pc = .ok (.lastore, 1)) :
    ∃ T' h', Stand p l e R s m args below meth c T' (locs ++ [⟨a, j.toNatClampNeg⟩]) cells slots ∧ T'.heap = h' ∧ Wr h h' a j.toNatClampNeg (.long x) ∧ Arv Z h' a k .long n (vs.set i (.long x)) d ∧ ∀ t, Steps p.tables e below (T'.setTop { g with pc := g.pc + 1, stack := rest }) t → Steps p.tables e below (T.setTop g) t := by
  obtain ⟨cl, A, q, S, N, H, G⟩ := V
  obtain ⟨T', h', X', e', W', st⟩ := stJ X hx hZ eT A (own_idx S q1 q2) (g := g) hg hs hd
  exact ⟨T', h', X', e', W', Arv.set A q S N H G rfl W' i hi hl, st⟩
theorem own_stC (X : Stand p l e R s m args below meth c T locs cells slots) (hx : p.tables.exec = Jvm.exec) (hZ : Z.Warmed39 s.vm) (eT : T.heap = h) {k : ClassId} {n : Int32} {vs : List Value} {d : Value} (V : Arv Z h a k .char n vs d) {j x : Int32} (q1 : ¬ j < 0) (q2 : j < n) (i : Nat) (hi : j.toNatClampNeg = i) (hl : i < vs.length) {g : JFrame} (hg : g.method = m) {rest : List Value} (hs : g.stack = .int x :: .int j :: .ref a :: rest) (hd : decode c.code g.pc = .ok (.castore, 1)) :
    ∃ T' h', Stand p l e R s m args below meth c T' (locs ++ [⟨a, j.toNatClampNeg⟩]) cells slots ∧ T'.heap = h' ∧ Wr h h' a j.toNatClampNeg (.int (nar .char x)) ∧ Arv Z h' a k .char n (vs.set i (.int (nar .char x))) d ∧ ∀ t, Steps p.tables e below (T'.setTop { g with pc := g.pc + 1, stack := rest }) t → Steps p.tables e below (T.setTop g) t := by
  obtain ⟨cl, A, q, S, N, H, G⟩ := V
  obtain ⟨T', h', X', e', W', st⟩ := stC X hx hZ eT A (own_idx S q1 q2) (g := g) hg hs hd
  exact ⟨T', h', X', e', W', Arv.set A q S N H G (fits_nar_char _) W' i hi hl, st⟩
theorem own_stB (X : Stand p l e R s m args below meth c T locs cells slots) (hx : p.tables.exec = Jvm.exec) (hZ : Z.Warmed39 s.vm) (eT : T.heap = h) {k : ClassId} {n : Int32} {vs : List Value} {d : Value} (V : Arv Z h a k .byte n vs d) {j x : Int32} (q1 : ¬ j < 0) (q2 : j < n) (i : Nat) (hi : j.toNatClampNeg = i) (hl : i < vs.length) {g : JFrame} (hg : g.method = m) {rest : List Value} (hs : g.stack = .int x :: .int j :: .ref a :: rest) (hd : decode c.code g.pc = .ok (.bastore, 1)) :
    ∃ T' h', Stand p l e R s m args below meth c T' (locs ++ [⟨a, j.toNatClampNeg⟩]) cells slots ∧ T'.heap = h' ∧ Wr h h' a j.toNatClampNeg (.int (nar .byte x)) ∧ Arv Z h' a k .byte n (vs.set i (.int (nar .byte x))) d ∧ ∀ t, Steps p.tables e below (T'.setTop { g with pc := g.pc + 1, stack := rest }) t → Steps p.tables e below (T.setTop g) t := by
  obtain ⟨cl, A, q, S, N, H, G⟩ := V
  obtain ⟨T', h', X', e', W', st⟩ := stB X hx hZ eT A (own_idx S q1 q2) (g := g) hg hs hd
  exact ⟨T', h', X', e', W', Arv.set A q S N H G (fits_nar_byte _) W' i hi hl, st⟩
theorem own_stZ (X : Stand p l e R s m args below meth c T locs cells slots) (hx : p.tables.exec = Jvm.exec) (hZ : Z.Warmed39 s.vm) (eT : T.heap = h) {k : ClassId} {n : Int32} {vs : List Value} {d : Value} (V : Arv Z h a k .boolean n vs d) {j x : Int32} (q1 : ¬ j < 0) (q2 : j < n) (i : Nat) (hi : j.toNatClampNeg = i) (hl : i < vs.length) {g : JFrame} (hg : g.method = m) {rest : List Value} (hs : g.stack = .int x :: .int j :: .ref a :: rest) (hd : decode c.code g.pc = .ok (.bastore, 1)) :
    ∃ T' h', Stand p l e R s m args below meth c T' (locs ++ [⟨a, j.toNatClampNeg⟩]) cells slots ∧ T'.heap = h' ∧ Wr h h' a j.toNatClampNeg (.int (nar .boolean x)) ∧ Arv Z h' a k .boolean n (vs.set i (.int (nar .boolean x))) d ∧ ∀ t, Steps p.tables e below (T'.setTop { g with pc := g.pc + 1, stack := rest }) t → Steps p.tables e below (T.setTop g) t := by
  obtain ⟨cl, A, q, S, N, H, G⟩ := V
  obtain ⟨T', h', X', e', W', st⟩ := stZ X hx hZ eT A (own_idx S q1 q2) (g := g) hg hs hd
  exact ⟨T', h', X', e', W', Arv.set A q S N H G (fits_nar_bool _) W' i hi hl, st⟩
theorem own_old {n0 : Nat} (O : Old Z n0 h) : n0 ≤ h.size := O.1 ▸ O.2.1
theorem own_res {z z' y : Int32} (hq : y = z') (hz : z = z') : some (Value.int z) = some (Value.int y) := by rw [hq, hz]
theorem own_resJ {z z' y : Int64} (hq : y = z') (hz : z = z') : some (Value.long z) = some (Value.long y) := by rw [hq, hz]
theorem own_narR {v : Value} {t : FieldType} (q : v.isRef = true) (r : t.isReference = true := by rfl) : narrow t v = v := by
  rcases ref_cases q with rfl | ⟨_, rfl⟩ <;> cases t <;> first | rfl | (simp [FieldType.isReference] at r)
theorem own_fitR {v : Value} {t : FieldType} (q : v.isRef = true) (r : t.isReference = true := by rfl) : fits t v = true := by
  rcases ref_cases q with rfl | ⟨_, rfl⟩ <;> cases t <;> first | rfl | (simp [FieldType.isReference] at r)
theorem own_fld {ar : Array Value} {t : Term} {x : Addr} {C n d : String} {k : Int32} (ht : t.eval ar s none [] s = some (.ref x)) (q : (Jvm.Cond.eq (.field t C n d) (.int k)).value ar s none s [] = some true) : Fld s s.heap x C n d (.int k) := by
  obtain ⟨u, w, e1, e2, -, k2⟩ := cmp_v (Or.inl q)
  have e3 : (Term.int k).eval ar s none [] s = some (.int k) := Term.int_eval k
  rw [e3] at e2
  obtain rfl := Option.some.inj e2
  obtain ⟨z, rfl⟩ := k2
  have e4 : z = k := gotT (Cond.eq_ints e1 e3) q
  subst e4
  rw [fld_at ht] at e1
  exact Fld.start e1
theorem own_neI {u w : Int32} (q : u ≠ w) : Value.int u ≠ Value.int w := fun z => q (Value.int.inj z)
theorem own_stR (X : Stand p l e R s m args below meth c T locs cells slots) (hx : p.tables.exec = Jvm.exec) (hZ : Z.Warmed39 s.vm) (eT : T.heap = h) {k : ClassId} {n : Int32} {vs : List Value} {d : Value} {ty : FieldType} {C : String} (V : Arv Z h a k ty n vs d) (hty : ty.isReference = true) (O : Ovr Z k C) {y : Addr} (I : Ins Z h y C true) {j : Int32} (q1 : ¬ j < 0) (q2 : j < n) (i : Nat) (hi : j.toNatClampNeg = i) (hl : i < vs.length) {g : JFrame} (hg : g.method = m) {rest : List Value} (hs : g.stack = .ref y :: .int j :: .ref a :: rest) (hd : decode c.code g.pc = .ok (.aastore, 1)) :
    ∃ T' h', Stand p l e R s m args below meth c T' (locs ++ [⟨a, j.toNatClampNeg⟩]) cells slots ∧ T'.heap = h' ∧ Wr h h' a j.toNatClampNeg (.ref y) ∧ Arv Z h' a k ty n (vs.set i (.ref y)) d ∧ ∀ t, Steps p.tables e below (T'.setTop { g with pc := g.pc + 1, stack := rest }) t → Steps p.tables e below (T.setTop g) t := by
  obtain ⟨cl, A, q, S, N, H, G⟩ := V
  obtain ⟨T', h', X', e', W', st⟩ := stR X hx hZ eT A (own_idx S q1 q2) hty (Sto.ofV A q O I) (g := g) hg hs hd
  exact ⟨T', h', X', e', W', Arv.set A q S N H G (own_fitR rfl hty) W' i hi hl, st⟩
theorem own_dupx2 (X : Stand p l e R s m args below meth c T locs cells slots) (hx : p.tables.exec = Jvm.exec) {g : JFrame} (hg : g.method = m) {x y z : Value} {rest : List Value} (hd : decode c.code g.pc = .ok (.dup_x2, 1)) (hs : g.stack = x :: y :: z :: rest) (hc : x.category = 1) (hc' : y.category = 1) (hc'' : z.category = 1) (t : State) (kk : Steps p.tables e below (T.setTop { g with pc := g.pc + 1, stack := x :: y :: z :: x :: rest }) t) : Steps p.tables e below (T.setTop g) t := by
  subst hg
  jvm_step X.here [X.here.top, hx, hd, dup_x2.wp_sem, hs, hc, hc', hc'']
  exact kk
theorem own_gen {n0 : Nat} (X : Stand p l e R s m args below meth c T locs cells slots) (N : Fr n0 locs) : ∃ L, Stand p l e R s m args below meth c T L cells slots ∧ Fr n0 L := ⟨_, X, N⟩
end OwnKit
/-! the same with the wide end (String constants may have been interned) -/
section OwnW
variable {p : Program} {l : Launch} {e : Env} {R : Room} {s : State} {m : MethodId} {args : Array Value} {below : List Frame} {meth : Method} {c : Code} {T : State} {locs : List Loc} {cells slots : Nat} {rc rs : Nat} {Q : Option Value → Heap → List Loc → Prop} {S S' : State}
def GoW (p : Program) (e : Env) (below : List Frame) (s : State) (rc rs : Nat) (Q : Option Value → Heap → List Loc → Prop) (S : State) : Prop :=
  ∃ s₂ o, Steps p.tables e below S s₂ ∧ s₂.status = .running ∧ Ended s₂ below o ∧ ∃ v L, o = .returned v ∧ Q v s₂.heap L ∧ ReturnedEndW s o s₂ L rc rs
theorem GoW.st (k : ∀ t, Steps p.tables e below S' t → Steps p.tables e below S t) (g : GoW p e below s rc rs Q S') : GoW p e below s rc rs Q S := by
  obtain ⟨x, y, z, r⟩ := g
  exact ⟨x, y, k x z, r⟩
theorem GoW.tr (k : Steps p.tables e below S S') (g : GoW p e below s rc rs Q S') : GoW p e below s rc rs Q S := by
  obtain ⟨x, y, z, r⟩ := g
  exact ⟨x, y, k.trans z, r⟩
theorem GoW.ret {vm1 : Vm} {n1 : Nat} (X : Stand p l e R (s.setVm vm1) m args below meth c T locs cells slots) (hlk : meth.locks = false) (hS : s.Since vm1 n1) (hn : n1 ≤ T.heap.size) (v : Option Value) (hv : meth.sig.returnType = none → v = none) {g : JFrame} (hQ : Q v T.heap locs) (hc : cells ≤ rc) (hs : slots ≤ rs)
    (k : ∀ fs, (∀ (f : JFrame) (acts : List Action), f.method = m → f.locked = none → f.entered = [] → (doReturn e (T.setTop f) acts v).1 = T.setFrames fs) → Steps p.tables e below (T.setTop g) (T.setFrames fs)) : GoW p e below s rc rs Q (T.setTop g) := by
  obtain ⟨fs, hr, hrun, hended, hE⟩ := X.leaveW hS hn (v := v) hv hlk
  exact ⟨_, _, k fs hr, hrun, hended, _, _, rfl, hQ, hE.1, hE.2.1, hE.2.2.1, hE.2.2.2.mono hc hs⟩
end OwnW
theorem own_lt (x y : Int32) : (x < y) = (x.toInt < y.toInt) := propext Int32.lt_iff_toInt_lt
theorem own_eq (x y : Int32) : (x = y) = (x.toInt = y.toInt) := propext Int32.toInt_inj.symm
def OwnSt (Z : State) (c : Nat → Addr) : Prop := (Sta Z Z.heap "com/example/duplexwire/duplexwire/protocol/ErrorCode" "UNSUPPORTED_VERSION" "Lcom/example/duplexwire/duplexwire/protocol/ErrorCode;" (.ref (c 0)) ∧ Exa Z Z.heap (c 0) "com/example/duplexwire/duplexwire/protocol/ErrorCode") ∧ (Sta Z Z.heap "com/example/duplexwire/duplexwire/protocol/ErrorCode" "FIRST_FRAME_NOT_CONNECT" "Lcom/example/duplexwire/duplexwire/protocol/ErrorCode;" (.ref (c 1)) ∧ Exa Z Z.heap (c 1) "com/example/duplexwire/duplexwire/protocol/ErrorCode") ∧ (Sta Z Z.heap "com/example/duplexwire/duplexwire/protocol/ErrorCode" "CREDENTIALS_REFUSED" "Lcom/example/duplexwire/duplexwire/protocol/ErrorCode;" (.ref (c 2)) ∧ Exa Z Z.heap (c 2) "com/example/duplexwire/duplexwire/protocol/ErrorCode") ∧ (Sta Z Z.heap "com/example/duplexwire/duplexwire/protocol/ErrorCode" "CLIENT_NAME_IN_USE" "Lcom/example/duplexwire/duplexwire/protocol/ErrorCode;" (.ref (c 3)) ∧ Exa Z Z.heap (c 3) "com/example/duplexwire/duplexwire/protocol/ErrorCode") ∧ (Sta Z Z.heap "com/example/duplexwire/duplexwire/protocol/ErrorCode" "INVALID_FRAME" "Lcom/example/duplexwire/duplexwire/protocol/ErrorCode;" (.ref (c 4)) ∧ Exa Z Z.heap (c 4) "com/example/duplexwire/duplexwire/protocol/ErrorCode") ∧ (Sta Z Z.heap "com/example/duplexwire/duplexwire/protocol/ErrorCode" "UNKNOWN_OP" "Lcom/example/duplexwire/duplexwire/protocol/ErrorCode;" (.ref (c 5)) ∧ Exa Z Z.heap (c 5) "com/example/duplexwire/duplexwire/protocol/ErrorCode") ∧ (Sta Z Z.heap "com/example/duplexwire/duplexwire/protocol/ErrorCode" "INVALID_TOPIC" "Lcom/example/duplexwire/duplexwire/protocol/ErrorCode;" (.ref (c 6)) ∧ Exa Z Z.heap (c 6) "com/example/duplexwire/duplexwire/protocol/ErrorCode") ∧ (Sta Z Z.heap "com/example/duplexwire/duplexwire/protocol/ErrorCode" "FRAME_TOO_BIG" "Lcom/example/duplexwire/duplexwire/protocol/ErrorCode;" (.ref (c 7)) ∧ Exa Z Z.heap (c 7) "com/example/duplexwire/duplexwire/protocol/ErrorCode") ∧ (Sta Z Z.heap "com/example/duplexwire/duplexwire/protocol/ErrorCode" "SLOW_CONSUMER" "Lcom/example/duplexwire/duplexwire/protocol/ErrorCode;" (.ref (c 8)) ∧ Exa Z Z.heap (c 8) "com/example/duplexwire/duplexwire/protocol/ErrorCode") ∧ (Sta Z Z.heap "com/example/duplexwire/duplexwire/protocol/ErrorCode" "UNKNOWN_SUBSCRIPTION" "Lcom/example/duplexwire/duplexwire/protocol/ErrorCode;" (.ref (c 9)) ∧ Exa Z Z.heap (c 9) "com/example/duplexwire/duplexwire/protocol/ErrorCode") ∧ (Sta Z Z.heap "com/example/duplexwire/duplexwire/protocol/ErrorCode" "EVENT_NOT_STORED" "Lcom/example/duplexwire/duplexwire/protocol/ErrorCode;" (.ref (c 10)) ∧ Exa Z Z.heap (c 10) "com/example/duplexwire/duplexwire/protocol/ErrorCode") ∧ (Sta Z Z.heap "com/example/duplexwire/duplexwire/protocol/ErrorCode" "INTERNAL_ERROR" "Lcom/example/duplexwire/duplexwire/protocol/ErrorCode;" (.ref (c 11)) ∧ Exa Z Z.heap (c 11) "com/example/duplexwire/duplexwire/protocol/ErrorCode")
theorem dc_0 : decode method_2_code 0 = .ok (.iload_n 0, 1) := by decide +kernel
theorem dc_1 : decode method_2_code 1 = .ok (.ldc 7, 2) := by decide +kernel
theorem dc_3 : decode method_2_code 3 = .ok (.iand, 1) := by decide +kernel
theorem dc_4 : decode method_2_code 4 = .ok (.bipush 12, 2) := by decide +kernel
theorem dc_6 : decode method_2_code 6 = .ok (.irem, 1) := by decide +kernel
theorem dc_7 : decode method_2_code 7 = .ok (.istore_n 1, 1) := by decide +kernel
theorem dc_8 : decode method_2_code 8 = .ok (.iload_n 1, 1) := by decide +kernel
theorem dc_9 : decode method_2_code 9 = .ok (.ifCond .ne 7, 3) := by decide +kernel
theorem dc_12 : decode method_2_code 12 = .ok (.getstatic 8, 3) := by decide +kernel
theorem dc_15 : decode method_2_code 15 = .ok (.areturn, 1) := by decide +kernel
theorem dc_16 : decode method_2_code 16 = .ok (.iload_n 1, 1) := by decide +kernel
theorem dc_17 : decode method_2_code 17 = .ok (.iconst 1, 1) := by decide +kernel
theorem dc_18 : decode method_2_code 18 = .ok (.if_icmp .ne 7, 3) := by decide +kernel
theorem dc_21 : decode method_2_code 21 = .ok (.getstatic 14, 3) := by decide +kernel
theorem dc_24 : decode method_2_code 24 = .ok (.areturn, 1) := by decide +kernel
theorem dc_25 : decode method_2_code 25 = .ok (.iload_n 1, 1) := by decide +kernel
theorem dc_26 : decode method_2_code 26 = .ok (.iconst 2, 1) := by decide +kernel
theorem dc_27 : decode method_2_code 27 = .ok (.if_icmp .ne 7, 3) := by decide +kernel
theorem dc_30 : decode method_2_code 30 = .ok (.getstatic 17, 3) := by decide +kernel
theorem dc_33 : decode method_2_code 33 = .ok (.areturn, 1) := by decide +kernel
theorem dc_34 : decode method_2_code 34 = .ok (.iload_n 1, 1) := by decide +kernel
theorem dc_35 : decode method_2_code 35 = .ok (.iconst 3, 1) := by decide +kernel
theorem dc_36 : decode method_2_code 36 = .ok (.if_icmp .ne 7, 3) := by decide +kernel
theorem dc_39 : decode method_2_code 39 = .ok (.getstatic 20, 3) := by decide +kernel
theorem dc_42 : decode method_2_code 42 = .ok (.areturn, 1) := by decide +kernel
theorem dc_43 : decode method_2_code 43 = .ok (.iload_n 1, 1) := by decide +kernel
theorem dc_44 : decode method_2_code 44 = .ok (.iconst 4, 1) := by decide +kernel
theorem dc_45 : decode method_2_code 45 = .ok (.if_icmp .ne 7, 3) := by decide +kernel
theorem dc_48 : decode method_2_code 48 = .ok (.getstatic 23, 3) := by decide +kernel
theorem dc_51 : decode method_2_code 51 = .ok (.areturn, 1) := by decide +kernel
theorem dc_52 : decode method_2_code 52 = .ok (.iload_n 1, 1) := by decide +kernel
theorem dc_53 : decode method_2_code 53 = .ok (.iconst 5, 1) := by decide +kernel
theorem dc_54 : decode method_2_code 54 = .ok (.if_icmp .ne 7, 3) := by decide +kernel
theorem dc_57 : decode method_2_code 57 = .ok (.getstatic 26, 3) := by decide +kernel
theorem dc_60 : decode method_2_code 60 = .ok (.areturn, 1) := by decide +kernel
theorem dc_61 : decode method_2_code 61 = .ok (.iload_n 1, 1) := by decide +kernel
theorem dc_62 : decode method_2_code 62 = .ok (.bipush 6, 2) := by decide +kernel
theorem dc_64 : decode method_2_code 64 = .ok (.if_icmp .ne 7, 3) := by decide +kernel
theorem dc_67 : decode method_2_code 67 = .ok (.getstatic 29, 3) := by decide +kernel
theorem dc_70 : decode method_2_code 70 = .ok (.areturn, 1) := by decide +kernel
theorem dc_71 : decode method_2_code 71 = .ok (.iload_n 1, 1) := by decide +kernel
theorem dc_72 : decode method_2_code 72 = .ok (.bipush 7, 2) := by decide +kernel
theorem dc_74 : decode method_2_code 74 = .ok (.if_icmp .ne 7, 3) := by decide +kernel
theorem dc_77 : decode method_2_code 77 = .ok (.getstatic 32, 3) := by decide +kernel
theorem dc_80 : decode method_2_code 80 = .ok (.areturn, 1) := by decide +kernel
theorem dc_81 : decode method_2_code 81 = .ok (.iload_n 1, 1) := by decide +kernel
theorem dc_82 : decode method_2_code 82 = .ok (.bipush 8, 2) := by decide +kernel
theorem dc_84 : decode method_2_code 84 = .ok (.if_icmp .ne 7, 3) := by decide +kernel
theorem dc_87 : decode method_2_code 87 = .ok (.getstatic 35, 3) := by decide +kernel
theorem dc_90 : decode method_2_code 90 = .ok (.areturn, 1) := by decide +kernel
theorem dc_91 : decode method_2_code 91 = .ok (.iload_n 1, 1) := by decide +kernel
theorem dc_92 : decode method_2_code 92 = .ok (.bipush 9, 2) := by decide +kernel
theorem dc_94 : decode method_2_code 94 = .ok (.if_icmp .ne 7, 3) := by decide +kernel
theorem dc_97 : decode method_2_code 97 = .ok (.getstatic 38, 3) := by decide +kernel
theorem dc_100 : decode method_2_code 100 = .ok (.areturn, 1) := by decide +kernel
theorem dc_101 : decode method_2_code 101 = .ok (.iload_n 1, 1) := by decide +kernel
theorem dc_102 : decode method_2_code 102 = .ok (.bipush 10, 2) := by decide +kernel
theorem dc_104 : decode method_2_code 104 = .ok (.if_icmp .ne 7, 3) := by decide +kernel
theorem dc_107 : decode method_2_code 107 = .ok (.getstatic 41, 3) := by decide +kernel
theorem dc_110 : decode method_2_code 110 = .ok (.areturn, 1) := by decide +kernel
theorem dc_111 : decode method_2_code 111 = .ok (.getstatic 44, 3) := by decide +kernel
theorem dc_114 : decode method_2_code 114 = .ok (.areturn, 1) := by decide +kernel
theorem pnc : plainName "com/example/duplexwire/duplexwire/protocol/FrameExceptionIdPinLaw" = true := by first | (simp [plainName, overriddenIn]; done) | decide +kernel
theorem efc (m : MethodId) (x0 : Int32) : entryFrame m #[(.int x0)] 2 = mkF m 0 #[.val (.int x0), .unset] [] := by first | (simp [entryFrame, mkF, argsToLocals, Value.category, maxLocals]; done) | rfl
def Qc (Z : State) (p0 : Int32) (c : Nat → Addr) (h0 : Heap) (n0 : Nat) (v : Option Value) (h : Heap) (L : List Loc) : Prop := ∃ er : Addr, v = some (.ref er) ∧ Exa Z Z.heap er "com/example/duplexwire/duplexwire/protocol/ErrorCode" ∧ Fr n0 L ∧ h = h0
set_option maxRecDepth 65536 in
set_option maxHeartbeats 40000000 in
theorem rmc (l : Launch) (Z : State) (a0 : Array Value) (hw : ∀ d ∈ tables_1, d.before a0 Z = true) (ws : List Jvm.Cond) (p0 : Int32) (c : Nat → Addr) (h0 : Heap) (n0 : Nat) (O0 : Old Z n0 h0) (HS : OwnSt Z c) :
    MetFree l (⟨"com/example/duplexwire/duplexwire/protocol/FrameExceptionIdPinLaw", "code", "(I)Lcom/example/duplexwire/duplexwire/protocol/ErrorCode;"⟩ : MethodName) (head1 (Jvm.Cond.code (⟨"com/example/duplexwire/duplexwire/protocol/FrameExceptionIdPinLaw", "code", "(I)Lcom/example/duplexwire/duplexwire/protocol/ErrorCode;"⟩ : MethodName) method_2_code 2 (some (.object "com/example/duplexwire/duplexwire/protocol/ErrorCode")) :: ws) ({ frames := 0, cells := 0, slots := 0, locals := 0 } : Room)) (fun A_ U_ => A_ = #[(.int p0)] ∧ Z.Warmed39 U_.vm ∧ U_.heap = h0) (fun _ _ _ _ _ => True) (fun _ U o U' => ∃ v L, o = .returned v ∧ Qc Z p0 c h0 n0 v U'.heap L ∧ FrameEnd U o U' L ({ frames := 0, cells := 0, slots := 0, locals := 0 } : Room).cells ({ frames := 0, cells := 0, slots := 0, locals := 0 } : Room).slots) := by
  refine MetFree.of_bodySF (plainFor_of_name pnc) hisR ?_
  intro p e s m args below meth cd s₁ Bd hml0 hP hK
  obtain ⟨rfl, hZ, hh⟩ := hP
  have hx := Bd.exec
  have hby := Bd.bytes
  have hlk : meth.locks = false := BodyLoose.notSynchronized Bd
  have hml : cd.maxLocals = 2 := hml0
  have hown : s.vm.findClass "com/example/duplexwire/duplexwire/protocol/FrameExceptionIdPinLaw" = some m.cls := findClass_of_methodNamed Bd.named
  have hnm := (name_of_methodNamed Bd.named Bd.method).1
  have X0 : Stand p l e ({ frames := 0, cells := 0, slots := 0, locals := 0 } : Room) s m #[(.int p0)] below meth cd s₁ [] 0 0 := Stand.of_body Bd
  have e0 : s₁.heap = h0 := by rw [← hh, Bd.state]; rfl
  have N0 := Fr.nil n0
  have G : Go p e below s 0 0 (Qc Z p0 c h0 n0) (s₁.setTop (mkF m 0 #[.val (.int p0), .unset] [])) := by
    show Go p e below s _ _ _ (s₁.setTop (mkF m 0 #[.val (.int p0), .unset] []))
    refine Go.st (fun _ kq_ => XS.iloadN X0.here hx rfl (hb hby dc_0) rfl kq_) ?_
    show Go p e below s _ _ _ (s₁.setTop (mkF m 1 #[.val (.int p0), .unset] [(.int p0)]))
    refine Go.st (fun _ kq_ => X0.ldcI hx hown (mvT hZ (own_w hw 4 rfl)) rfl (hb hby dc_1) kq_) ?_
    show Go p e below s _ _ _ (s₁.setTop (mkF m 3 #[.val (.int p0), .unset] [(.int (2147483647 : Int32)), (.int p0)]))
    refine Go.st (fun _ kq_ => XS.iand X0.here hx rfl (hb hby dc_3) rfl kq_) ?_
    show Go p e below s _ _ _ (s₁.setTop (mkF m 4 #[.val (.int p0), .unset] [(.int (p0 &&& (2147483647 : Int32)))]))
    refine Go.st (fun _ kq_ => XS.bipush X0.here hx rfl (hb hby dc_4) kq_) ?_
    show Go p e below s _ _ _ (s₁.setTop (mkF m 6 #[.val (.int p0), .unset] [(.int (12 : Int32)), (.int (p0 &&& (2147483647 : Int32)))]))
    refine Go.st (fun _ kq_ => iremM X0 hx rfl (hb hby dc_6) rfl (by decide) kq_) ?_
    show Go p e below s _ _ _ (s₁.setTop (mkF m 7 #[.val (.int p0), .unset] [(.int ((p0 &&& (2147483647 : Int32)) % (12 : Int32)))]))
    refine Go.st (fun _ kq_ => XS.istoreN X0.here hx rfl (hb hby dc_7) rfl (l' := #[.val (.int p0), .val (.int ((p0 &&& (2147483647 : Int32)) % (12 : Int32)))]) rfl kq_) ?_
    show Go p e below s _ _ _ (s₁.setTop (mkF m 8 #[.val (.int p0), .val (.int ((p0 &&& (2147483647 : Int32)) % (12 : Int32)))] []))
    refine Go.st (fun _ kq_ => XS.iloadN X0.here hx rfl (hb hby dc_8) rfl kq_) ?_
    show Go p e below s _ _ _ (s₁.setTop (mkF m 9 #[.val (.int p0), .val (.int ((p0 &&& (2147483647 : Int32)) % (12 : Int32)))] [(.int ((p0 &&& (2147483647 : Int32)) % (12 : Int32)))]))
    by_cases c9_1 : ((p0 &&& (2147483647 : Int32)) % (12 : Int32)) = (0 : Int32)
    · refine Go.st (fun _ kq_ => XS.ifNo X0.here hx rfl (hb hby dc_9) rfl (XT.i0_ne_f c9_1) kq_) ?_
      show Go p e below s _ _ _ (s₁.setTop (mkF m 12 #[.val (.int p0), .val (.int ((p0 &&& (2147483647 : Int32)) % (12 : Int32)))] []))
      obtain ⟨T2, X2, e2, st2⟩ := getS X0 hx hZ hown (host := "") (own_w hw 133 rfl) Via.refl e0 (HS.1.1.ext O0.2) (g := (mkF m 12 #[.val (.int p0), .val (.int ((p0 &&& (2147483647 : Int32)) % (12 : Int32)))] [])) rfl (hb hby dc_12)
      refine Go.st st2 ?_
      show Go p e below s _ _ _ (T2.setTop (mkF m 15 #[.val (.int p0), .val (.int ((p0 &&& (2147483647 : Int32)) % (12 : Int32)))] [(.ref (c 0))]))
      exact Go.ret X2 hlk (some (.ref (c 0))) (fun h => by rw [Bd.returns] at h; cases h) (by rw [e2]; exact ⟨_, rfl, HS.1.2, N0, rfl⟩) (by decide) (by decide) (fun fs hr => retOut X2 hx Bd.returns rfl (Or.inr (Or.inr (Or.inr (Or.inr ⟨rfl, rfl, rfl⟩)))) (hb hby dc_15) hr)
    · refine Go.st (fun _ kq_ => XS.ifYes X0.here hx rfl (pc0 := 9) (pc' := 16) rfl (hb hby dc_9) rfl (XT.i0_ne_t c9_1) (by decide) (by decide) kq_) ?_
      show Go p e below s _ _ _ (s₁.setTop (mkF m 16 #[.val (.int p0), .val (.int ((p0 &&& (2147483647 : Int32)) % (12 : Int32)))] []))
      refine Go.st (fun _ kq_ => XS.iloadN X0.here hx rfl (hb hby dc_16) rfl kq_) ?_
      show Go p e below s _ _ _ (s₁.setTop (mkF m 17 #[.val (.int p0), .val (.int ((p0 &&& (2147483647 : Int32)) % (12 : Int32)))] [(.int ((p0 &&& (2147483647 : Int32)) % (12 : Int32)))]))
      refine Go.st (fun _ kq_ => XS.iconst X0.here hx rfl (hb hby dc_17) kq_) ?_
      show Go p e below s _ _ _ (s₁.setTop (mkF m 18 #[.val (.int p0), .val (.int ((p0 &&& (2147483647 : Int32)) % (12 : Int32)))] [(.int (1 : Int32)), (.int ((p0 &&& (2147483647 : Int32)) % (12 : Int32)))]))
      by_cases c18_3 : ((p0 &&& (2147483647 : Int32)) % (12 : Int32)) = (1 : Int32)
      · refine Go.st (fun _ kq_ => XS.icmpNo X0.here hx rfl (hb hby dc_18) rfl (XT.ii_ne_f c18_3) kq_) ?_
        show Go p e below s _ _ _ (s₁.setTop (mkF m 21 #[.val (.int p0), .val (.int ((p0 &&& (2147483647 : Int32)) % (12 : Int32)))] []))
        obtain ⟨T4, X4, e4, st4⟩ := getS X0 hx hZ hown (host := "") (own_w hw 5 rfl) Via.refl e0 (HS.2.1.1.ext O0.2) (g := (mkF m 21 #[.val (.int p0), .val (.int ((p0 &&& (2147483647 : Int32)) % (12 : Int32)))] [])) rfl (hb hby dc_21)
        refine Go.st st4 ?_
        show Go p e below s _ _ _ (T4.setTop (mkF m 24 #[.val (.int p0), .val (.int ((p0 &&& (2147483647 : Int32)) % (12 : Int32)))] [(.ref (c 1))]))
        exact Go.ret X4 hlk (some (.ref (c 1))) (fun h => by rw [Bd.returns] at h; cases h) (by rw [e4]; exact ⟨_, rfl, HS.2.1.2, N0, rfl⟩) (by decide) (by decide) (fun fs hr => retOut X4 hx Bd.returns rfl (Or.inr (Or.inr (Or.inr (Or.inr ⟨rfl, rfl, rfl⟩)))) (hb hby dc_24) hr)
      · refine Go.st (fun _ kq_ => XS.icmpYes X0.here hx rfl (pc0 := 18) (pc' := 25) rfl (hb hby dc_18) rfl (XT.ii_ne_t c18_3) (by decide) (by decide) kq_) ?_
        show Go p e below s _ _ _ (s₁.setTop (mkF m 25 #[.val (.int p0), .val (.int ((p0 &&& (2147483647 : Int32)) % (12 : Int32)))] []))
        refine Go.st (fun _ kq_ => XS.iloadN X0.here hx rfl (hb hby dc_25) rfl kq_) ?_
        show Go p e below s _ _ _ (s₁.setTop (mkF m 26 #[.val (.int p0), .val (.int ((p0 &&& (2147483647 : Int32)) % (12 : Int32)))] [(.int ((p0 &&& (2147483647 : Int32)) % (12 : Int32)))]))
        refine Go.st (fun _ kq_ => XS.iconst X0.here hx rfl (hb hby dc_26) kq_) ?_
        show Go p e below s _ _ _ (s₁.setTop (mkF m 27 #[.val (.int p0), .val (.int ((p0 &&& (2147483647 : Int32)) % (12 : Int32)))] [(.int (2 : Int32)), (.int ((p0 &&& (2147483647 : Int32)) % (12 : Int32)))]))
        by_cases c27_5 : ((p0 &&& (2147483647 : Int32)) % (12 : Int32)) = (2 : Int32)
        · refine Go.st (fun _ kq_ => XS.icmpNo X0.here hx rfl (hb hby dc_27) rfl (XT.ii_ne_f c27_5) kq_) ?_
          show Go p e below s _ _ _ (s₁.setTop (mkF m 30 #[.val (.int p0), .val (.int ((p0 &&& (2147483647 : Int32)) % (12 : Int32)))] []))
          obtain ⟨T6, X6, e6, st6⟩ := getS X0 hx hZ hown (host := "") (own_w hw 131 rfl) Via.refl e0 (HS.2.2.1.1.ext O0.2) (g := (mkF m 30 #[.val (.int p0), .val (.int ((p0 &&& (2147483647 : Int32)) % (12 : Int32)))] [])) rfl (hb hby dc_30)
          refine Go.st st6 ?_
          show Go p e below s _ _ _ (T6.setTop (mkF m 33 #[.val (.int p0), .val (.int ((p0 &&& (2147483647 : Int32)) % (12 : Int32)))] [(.ref (c 2))]))
          exact Go.ret X6 hlk (some (.ref (c 2))) (fun h => by rw [Bd.returns] at h; cases h) (by rw [e6]; exact ⟨_, rfl, HS.2.2.1.2, N0, rfl⟩) (by decide) (by decide) (fun fs hr => retOut X6 hx Bd.returns rfl (Or.inr (Or.inr (Or.inr (Or.inr ⟨rfl, rfl, rfl⟩)))) (hb hby dc_33) hr)
        · refine Go.st (fun _ kq_ => XS.icmpYes X0.here hx rfl (pc0 := 27) (pc' := 34) rfl (hb hby dc_27) rfl (XT.ii_ne_t c27_5) (by decide) (by decide) kq_) ?_
          show Go p e below s _ _ _ (s₁.setTop (mkF m 34 #[.val (.int p0), .val (.int ((p0 &&& (2147483647 : Int32)) % (12 : Int32)))] []))
          refine Go.st (fun _ kq_ => XS.iloadN X0.here hx rfl (hb hby dc_34) rfl kq_) ?_
          show Go p e below s _ _ _ (s₁.setTop (mkF m 35 #[.val (.int p0), .val (.int ((p0 &&& (2147483647 : Int32)) % (12 : Int32)))] [(.int ((p0 &&& (2147483647 : Int32)) % (12 : Int32)))]))
          refine Go.st (fun _ kq_ => XS.iconst X0.here hx rfl (hb hby dc_35) kq_) ?_
          show Go p e below s _ _ _ (s₁.setTop (mkF m 36 #[.val (.int p0), .val (.int ((p0 &&& (2147483647 : Int32)) % (12 : Int32)))] [(.int (3 : Int32)), (.int ((p0 &&& (2147483647 : Int32)) % (12 : Int32)))]))
          by_cases c36_7 : ((p0 &&& (2147483647 : Int32)) % (12 : Int32)) = (3 : Int32)
          · refine Go.st (fun _ kq_ => XS.icmpNo X0.here hx rfl (hb hby dc_36) rfl (XT.ii_ne_f c36_7) kq_) ?_
            show Go p e below s _ _ _ (s₁.setTop (mkF m 39 #[.val (.int p0), .val (.int ((p0 &&& (2147483647 : Int32)) % (12 : Int32)))] []))
            obtain ⟨T8, X8, e8, st8⟩ := getS X0 hx hZ hown (host := "") (own_w hw 129 rfl) Via.refl e0 (HS.2.2.2.1.1.ext O0.2) (g := (mkF m 39 #[.val (.int p0), .val (.int ((p0 &&& (2147483647 : Int32)) % (12 : Int32)))] [])) rfl (hb hby dc_39)
            refine Go.st st8 ?_
            show Go p e below s _ _ _ (T8.setTop (mkF m 42 #[.val (.int p0), .val (.int ((p0 &&& (2147483647 : Int32)) % (12 : Int32)))] [(.ref (c 3))]))
            exact Go.ret X8 hlk (some (.ref (c 3))) (fun h => by rw [Bd.returns] at h; cases h) (by rw [e8]; exact ⟨_, rfl, HS.2.2.2.1.2, N0, rfl⟩) (by decide) (by decide) (fun fs hr => retOut X8 hx Bd.returns rfl (Or.inr (Or.inr (Or.inr (Or.inr ⟨rfl, rfl, rfl⟩)))) (hb hby dc_42) hr)
          · refine Go.st (fun _ kq_ => XS.icmpYes X0.here hx rfl (pc0 := 36) (pc' := 43) rfl (hb hby dc_36) rfl (XT.ii_ne_t c36_7) (by decide) (by decide) kq_) ?_
            show Go p e below s _ _ _ (s₁.setTop (mkF m 43 #[.val (.int p0), .val (.int ((p0 &&& (2147483647 : Int32)) % (12 : Int32)))] []))
            refine Go.st (fun _ kq_ => XS.iloadN X0.here hx rfl (hb hby dc_43) rfl kq_) ?_
            show Go p e below s _ _ _ (s₁.setTop (mkF m 44 #[.val (.int p0), .val (.int ((p0 &&& (2147483647 : Int32)) % (12 : Int32)))] [(.int ((p0 &&& (2147483647 : Int32)) % (12 : Int32)))]))
            refine Go.st (fun _ kq_ => XS.iconst X0.here hx rfl (hb hby dc_44) kq_) ?_
            show Go p e below s _ _ _ (s₁.setTop (mkF m 45 #[.val (.int p0), .val (.int ((p0 &&& (2147483647 : Int32)) % (12 : Int32)))] [(.int (4 : Int32)), (.int ((p0 &&& (2147483647 : Int32)) % (12 : Int32)))]))
            by_cases c45_9 : ((p0 &&& (2147483647 : Int32)) % (12 : Int32)) = (4 : Int32)
            · refine Go.st (fun _ kq_ => XS.icmpNo X0.here hx rfl (hb hby dc_45) rfl (XT.ii_ne_f c45_9) kq_) ?_
              show Go p e below s _ _ _ (s₁.setTop (mkF m 48 #[.val (.int p0), .val (.int ((p0 &&& (2147483647 : Int32)) % (12 : Int32)))] []))
              obtain ⟨T10, X10, e10, st10⟩ := getS X0 hx hZ hown (host := "") (own_w hw 137 rfl) Via.refl e0 (HS.2.2.2.2.1.1.ext O0.2) (g := (mkF m 48 #[.val (.int p0), .val (.int ((p0 &&& (2147483647 : Int32)) % (12 : Int32)))] [])) rfl (hb hby dc_48)
              refine Go.st st10 ?_
              show Go p e below s _ _ _ (T10.setTop (mkF m 51 #[.val (.int p0), .val (.int ((p0 &&& (2147483647 : Int32)) % (12 : Int32)))] [(.ref (c 4))]))
              exact Go.ret X10 hlk (some (.ref (c 4))) (fun h => by rw [Bd.returns] at h; cases h) (by rw [e10]; exact ⟨_, rfl, HS.2.2.2.2.1.2, N0, rfl⟩) (by decide) (by decide) (fun fs hr => retOut X10 hx Bd.returns rfl (Or.inr (Or.inr (Or.inr (Or.inr ⟨rfl, rfl, rfl⟩)))) (hb hby dc_51) hr)
            · refine Go.st (fun _ kq_ => XS.icmpYes X0.here hx rfl (pc0 := 45) (pc' := 52) rfl (hb hby dc_45) rfl (XT.ii_ne_t c45_9) (by decide) (by decide) kq_) ?_
              show Go p e below s _ _ _ (s₁.setTop (mkF m 52 #[.val (.int p0), .val (.int ((p0 &&& (2147483647 : Int32)) % (12 : Int32)))] []))
              refine Go.st (fun _ kq_ => XS.iloadN X0.here hx rfl (hb hby dc_52) rfl kq_) ?_
              show Go p e below s _ _ _ (s₁.setTop (mkF m 53 #[.val (.int p0), .val (.int ((p0 &&& (2147483647 : Int32)) % (12 : Int32)))] [(.int ((p0 &&& (2147483647 : Int32)) % (12 : Int32)))]))
              refine Go.st (fun _ kq_ => XS.iconst X0.here hx rfl (hb hby dc_53) kq_) ?_
              show Go p e below s _ _ _ (s₁.setTop (mkF m 54 #[.val (.int p0), .val (.int ((p0 &&& (2147483647 : Int32)) % (12 : Int32)))] [(.int (5 : Int32)), (.int ((p0 &&& (2147483647 : Int32)) % (12 : Int32)))]))
              by_cases c54_11 : ((p0 &&& (2147483647 : Int32)) % (12 : Int32)) = (5 : Int32)
              · refine Go.st (fun _ kq_ => XS.icmpNo X0.here hx rfl (hb hby dc_54) rfl (XT.ii_ne_f c54_11) kq_) ?_
                show Go p e below s _ _ _ (s₁.setTop (mkF m 57 #[.val (.int p0), .val (.int ((p0 &&& (2147483647 : Int32)) % (12 : Int32)))] []))
                obtain ⟨T12, X12, e12, st12⟩ := getS X0 hx hZ hown (host := "") (own_w hw 139 rfl) Via.refl e0 (HS.2.2.2.2.2.1.1.ext O0.2) (g := (mkF m 57 #[.val (.int p0), .val (.int ((p0 &&& (2147483647 : Int32)) % (12 : Int32)))] [])) rfl (hb hby dc_57)
                refine Go.st st12 ?_
                show Go p e below s _ _ _ (T12.setTop (mkF m 60 #[.val (.int p0), .val (.int ((p0 &&& (2147483647 : Int32)) % (12 : Int32)))] [(.ref (c 5))]))
                exact Go.ret X12 hlk (some (.ref (c 5))) (fun h => by rw [Bd.returns] at h; cases h) (by rw [e12]; exact ⟨_, rfl, HS.2.2.2.2.2.1.2, N0, rfl⟩) (by decide) (by decide) (fun fs hr => retOut X12 hx Bd.returns rfl (Or.inr (Or.inr (Or.inr (Or.inr ⟨rfl, rfl, rfl⟩)))) (hb hby dc_60) hr)
              · refine Go.st (fun _ kq_ => XS.icmpYes X0.here hx rfl (pc0 := 54) (pc' := 61) rfl (hb hby dc_54) rfl (XT.ii_ne_t c54_11) (by decide) (by decide) kq_) ?_
                show Go p e below s _ _ _ (s₁.setTop (mkF m 61 #[.val (.int p0), .val (.int ((p0 &&& (2147483647 : Int32)) % (12 : Int32)))] []))
                refine Go.st (fun _ kq_ => XS.iloadN X0.here hx rfl (hb hby dc_61) rfl kq_) ?_
                show Go p e below s _ _ _ (s₁.setTop (mkF m 62 #[.val (.int p0), .val (.int ((p0 &&& (2147483647 : Int32)) % (12 : Int32)))] [(.int ((p0 &&& (2147483647 : Int32)) % (12 : Int32)))]))
                refine Go.st (fun _ kq_ => XS.bipush X0.here hx rfl (hb hby dc_62) kq_) ?_
                show Go p e below s _ _ _ (s₁.setTop (mkF m 64 #[.val (.int p0), .val (.int ((p0 &&& (2147483647 : Int32)) % (12 : Int32)))] [(.int (6 : Int32)), (.int ((p0 &&& (2147483647 : Int32)) % (12 : Int32)))]))
                by_cases c64_13 : ((p0 &&& (2147483647 : Int32)) % (12 : Int32)) = (6 : Int32)
                · refine Go.st (fun _ kq_ => XS.icmpNo X0.here hx rfl (hb hby dc_64) rfl (XT.ii_ne_f c64_13) kq_) ?_
                  show Go p e below s _ _ _ (s₁.setTop (mkF m 67 #[.val (.int p0), .val (.int ((p0 &&& (2147483647 : Int32)) % (12 : Int32)))] []))
                  obtain ⟨T14, X14, e14, st14⟩ := getS X0 hx hZ hown (host := "") (own_w hw 143 rfl) Via.refl e0 (HS.2.2.2.2.2.2.1.1.ext O0.2) (g := (mkF m 67 #[.val (.int p0), .val (.int ((p0 &&& (2147483647 : Int32)) % (12 : Int32)))] [])) rfl (hb hby dc_67)
                  refine Go.st st14 ?_
                  show Go p e below s _ _ _ (T14.setTop (mkF m 70 #[.val (.int p0), .val (.int ((p0 &&& (2147483647 : Int32)) % (12 : Int32)))] [(.ref (c 6))]))
                  exact Go.ret X14 hlk (some (.ref (c 6))) (fun h => by rw [Bd.returns] at h; cases h) (by rw [e14]; exact ⟨_, rfl, HS.2.2.2.2.2.2.1.2, N0, rfl⟩) (by decide) (by decide) (fun fs hr => retOut X14 hx Bd.returns rfl (Or.inr (Or.inr (Or.inr (Or.inr ⟨rfl, rfl, rfl⟩)))) (hb hby dc_70) hr)
                · refine Go.st (fun _ kq_ => XS.icmpYes X0.here hx rfl (pc0 := 64) (pc' := 71) rfl (hb hby dc_64) rfl (XT.ii_ne_t c64_13) (by decide) (by decide) kq_) ?_
                  show Go p e below s _ _ _ (s₁.setTop (mkF m 71 #[.val (.int p0), .val (.int ((p0 &&& (2147483647 : Int32)) % (12 : Int32)))] []))
                  refine Go.st (fun _ kq_ => XS.iloadN X0.here hx rfl (hb hby dc_71) rfl kq_) ?_
                  show Go p e below s _ _ _ (s₁.setTop (mkF m 72 #[.val (.int p0), .val (.int ((p0 &&& (2147483647 : Int32)) % (12 : Int32)))] [(.int ((p0 &&& (2147483647 : Int32)) % (12 : Int32)))]))
                  refine Go.st (fun _ kq_ => XS.bipush X0.here hx rfl (hb hby dc_72) kq_) ?_
                  show Go p e below s _ _ _ (s₁.setTop (mkF m 74 #[.val (.int p0), .val (.int ((p0 &&& (2147483647 : Int32)) % (12 : Int32)))] [(.int (7 : Int32)), (.int ((p0 &&& (2147483647 : Int32)) % (12 : Int32)))]))
                  by_cases c74_15 : ((p0 &&& (2147483647 : Int32)) % (12 : Int32)) = (7 : Int32)
                  · refine Go.st (fun _ kq_ => XS.icmpNo X0.here hx rfl (hb hby dc_74) rfl (XT.ii_ne_f c74_15) kq_) ?_
                    show Go p e below s _ _ _ (s₁.setTop (mkF m 77 #[.val (.int p0), .val (.int ((p0 &&& (2147483647 : Int32)) % (12 : Int32)))] []))
                    obtain ⟨T16, X16, e16, st16⟩ := getS X0 hx hZ hown (host := "") (own_w hw 103 rfl) Via.refl e0 (HS.2.2.2.2.2.2.2.1.1.ext O0.2) (g := (mkF m 77 #[.val (.int p0), .val (.int ((p0 &&& (2147483647 : Int32)) % (12 : Int32)))] [])) rfl (hb hby dc_77)
                    refine Go.st st16 ?_
                    show Go p e below s _ _ _ (T16.setTop (mkF m 80 #[.val (.int p0), .val (.int ((p0 &&& (2147483647 : Int32)) % (12 : Int32)))] [(.ref (c 7))]))
                    exact Go.ret X16 hlk (some (.ref (c 7))) (fun h => by rw [Bd.returns] at h; cases h) (by rw [e16]; exact ⟨_, rfl, HS.2.2.2.2.2.2.2.1.2, N0, rfl⟩) (by decide) (by decide) (fun fs hr => retOut X16 hx Bd.returns rfl (Or.inr (Or.inr (Or.inr (Or.inr ⟨rfl, rfl, rfl⟩)))) (hb hby dc_80) hr)
                  · refine Go.st (fun _ kq_ => XS.icmpYes X0.here hx rfl (pc0 := 74) (pc' := 81) rfl (hb hby dc_74) rfl (XT.ii_ne_t c74_15) (by decide) (by decide) kq_) ?_
                    show Go p e below s _ _ _ (s₁.setTop (mkF m 81 #[.val (.int p0), .val (.int ((p0 &&& (2147483647 : Int32)) % (12 : Int32)))] []))
                    refine Go.st (fun _ kq_ => XS.iloadN X0.here hx rfl (hb hby dc_81) rfl kq_) ?_
                    show Go p e below s _ _ _ (s₁.setTop (mkF m 82 #[.val (.int p0), .val (.int ((p0 &&& (2147483647 : Int32)) % (12 : Int32)))] [(.int ((p0 &&& (2147483647 : Int32)) % (12 : Int32)))]))
                    refine Go.st (fun _ kq_ => XS.bipush X0.here hx rfl (hb hby dc_82) kq_) ?_
                    show Go p e below s _ _ _ (s₁.setTop (mkF m 84 #[.val (.int p0), .val (.int ((p0 &&& (2147483647 : Int32)) % (12 : Int32)))] [(.int (8 : Int32)), (.int ((p0 &&& (2147483647 : Int32)) % (12 : Int32)))]))
                    by_cases c84_17 : ((p0 &&& (2147483647 : Int32)) % (12 : Int32)) = (8 : Int32)
                    · refine Go.st (fun _ kq_ => XS.icmpNo X0.here hx rfl (hb hby dc_84) rfl (XT.ii_ne_f c84_17) kq_) ?_
                      show Go p e below s _ _ _ (s₁.setTop (mkF m 87 #[.val (.int p0), .val (.int ((p0 &&& (2147483647 : Int32)) % (12 : Int32)))] []))
                      obtain ⟨T18, X18, e18, st18⟩ := getS X0 hx hZ hown (host := "") (own_w hw 125 rfl) Via.refl e0 (HS.2.2.2.2.2.2.2.2.1.1.ext O0.2) (g := (mkF m 87 #[.val (.int p0), .val (.int ((p0 &&& (2147483647 : Int32)) % (12 : Int32)))] [])) rfl (hb hby dc_87)
                      refine Go.st st18 ?_
                      show Go p e below s _ _ _ (T18.setTop (mkF m 90 #[.val (.int p0), .val (.int ((p0 &&& (2147483647 : Int32)) % (12 : Int32)))] [(.ref (c 8))]))
                      exact Go.ret X18 hlk (some (.ref (c 8))) (fun h => by rw [Bd.returns] at h; cases h) (by rw [e18]; exact ⟨_, rfl, HS.2.2.2.2.2.2.2.2.1.2, N0, rfl⟩) (by decide) (by decide) (fun fs hr => retOut X18 hx Bd.returns rfl (Or.inr (Or.inr (Or.inr (Or.inr ⟨rfl, rfl, rfl⟩)))) (hb hby dc_90) hr)
                    · refine Go.st (fun _ kq_ => XS.icmpYes X0.here hx rfl (pc0 := 84) (pc' := 91) rfl (hb hby dc_84) rfl (XT.ii_ne_t c84_17) (by decide) (by decide) kq_) ?_
                      show Go p e below s _ _ _ (s₁.setTop (mkF m 91 #[.val (.int p0), .val (.int ((p0 &&& (2147483647 : Int32)) % (12 : Int32)))] []))
                      refine Go.st (fun _ kq_ => XS.iloadN X0.here hx rfl (hb hby dc_91) rfl kq_) ?_
                      show Go p e below s _ _ _ (s₁.setTop (mkF m 92 #[.val (.int p0), .val (.int ((p0 &&& (2147483647 : Int32)) % (12 : Int32)))] [(.int ((p0 &&& (2147483647 : Int32)) % (12 : Int32)))]))
                      refine Go.st (fun _ kq_ => XS.bipush X0.here hx rfl (hb hby dc_92) kq_) ?_
                      show Go p e below s _ _ _ (s₁.setTop (mkF m 94 #[.val (.int p0), .val (.int ((p0 &&& (2147483647 : Int32)) % (12 : Int32)))] [(.int (9 : Int32)), (.int ((p0 &&& (2147483647 : Int32)) % (12 : Int32)))]))
                      by_cases c94_19 : ((p0 &&& (2147483647 : Int32)) % (12 : Int32)) = (9 : Int32)
                      · refine Go.st (fun _ kq_ => XS.icmpNo X0.here hx rfl (hb hby dc_94) rfl (XT.ii_ne_f c94_19) kq_) ?_
                        show Go p e below s _ _ _ (s₁.setTop (mkF m 97 #[.val (.int p0), .val (.int ((p0 &&& (2147483647 : Int32)) % (12 : Int32)))] []))
                        obtain ⟨T20, X20, e20, st20⟩ := getS X0 hx hZ hown (host := "") (own_w hw 141 rfl) Via.refl e0 (HS.2.2.2.2.2.2.2.2.2.1.1.ext O0.2) (g := (mkF m 97 #[.val (.int p0), .val (.int ((p0 &&& (2147483647 : Int32)) % (12 : Int32)))] [])) rfl (hb hby dc_97)
                        refine Go.st st20 ?_
                        show Go p e below s _ _ _ (T20.setTop (mkF m 100 #[.val (.int p0), .val (.int ((p0 &&& (2147483647 : Int32)) % (12 : Int32)))] [(.ref (c 9))]))
                        exact Go.ret X20 hlk (some (.ref (c 9))) (fun h => by rw [Bd.returns] at h; cases h) (by rw [e20]; exact ⟨_, rfl, HS.2.2.2.2.2.2.2.2.2.1.2, N0, rfl⟩) (by decide) (by decide) (fun fs hr => retOut X20 hx Bd.returns rfl (Or.inr (Or.inr (Or.inr (Or.inr ⟨rfl, rfl, rfl⟩)))) (hb hby dc_100) hr)
                      · refine Go.st (fun _ kq_ => XS.icmpYes X0.here hx rfl (pc0 := 94) (pc' := 101) rfl (hb hby dc_94) rfl (XT.ii_ne_t c94_19) (by decide) (by decide) kq_) ?_
                        show Go p e below s _ _ _ (s₁.setTop (mkF m 101 #[.val (.int p0), .val (.int ((p0 &&& (2147483647 : Int32)) % (12 : Int32)))] []))
                        refine Go.st (fun _ kq_ => XS.iloadN X0.here hx rfl (hb hby dc_101) rfl kq_) ?_
                        show Go p e below s _ _ _ (s₁.setTop (mkF m 102 #[.val (.int p0), .val (.int ((p0 &&& (2147483647 : Int32)) % (12 : Int32)))] [(.int ((p0 &&& (2147483647 : Int32)) % (12 : Int32)))]))
                        refine Go.st (fun _ kq_ => XS.bipush X0.here hx rfl (hb hby dc_102) kq_) ?_
                        show Go p e below s _ _ _ (s₁.setTop (mkF m 104 #[.val (.int p0), .val (.int ((p0 &&& (2147483647 : Int32)) % (12 : Int32)))] [(.int (10 : Int32)), (.int ((p0 &&& (2147483647 : Int32)) % (12 : Int32)))]))
                        by_cases c104_21 : ((p0 &&& (2147483647 : Int32)) % (12 : Int32)) = (10 : Int32)
                        · refine Go.st (fun _ kq_ => XS.icmpNo X0.here hx rfl (hb hby dc_104) rfl (XT.ii_ne_f c104_21) kq_) ?_
                          show Go p e below s _ _ _ (s₁.setTop (mkF m 107 #[.val (.int p0), .val (.int ((p0 &&& (2147483647 : Int32)) % (12 : Int32)))] []))
                          obtain ⟨T22, X22, e22, st22⟩ := getS X0 hx hZ hown (host := "") (own_w hw 135 rfl) Via.refl e0 (HS.2.2.2.2.2.2.2.2.2.2.1.1.ext O0.2) (g := (mkF m 107 #[.val (.int p0), .val (.int ((p0 &&& (2147483647 : Int32)) % (12 : Int32)))] [])) rfl (hb hby dc_107)
                          refine Go.st st22 ?_
                          show Go p e below s _ _ _ (T22.setTop (mkF m 110 #[.val (.int p0), .val (.int ((p0 &&& (2147483647 : Int32)) % (12 : Int32)))] [(.ref (c 10))]))
                          exact Go.ret X22 hlk (some (.ref (c 10))) (fun h => by rw [Bd.returns] at h; cases h) (by rw [e22]; exact ⟨_, rfl, HS.2.2.2.2.2.2.2.2.2.2.1.2, N0, rfl⟩) (by decide) (by decide) (fun fs hr => retOut X22 hx Bd.returns rfl (Or.inr (Or.inr (Or.inr (Or.inr ⟨rfl, rfl, rfl⟩)))) (hb hby dc_110) hr)
                        · refine Go.st (fun _ kq_ => XS.icmpYes X0.here hx rfl (pc0 := 104) (pc' := 111) rfl (hb hby dc_104) rfl (XT.ii_ne_t c104_21) (by decide) (by decide) kq_) ?_
                          show Go p e below s _ _ _ (s₁.setTop (mkF m 111 #[.val (.int p0), .val (.int ((p0 &&& (2147483647 : Int32)) % (12 : Int32)))] []))
                          obtain ⟨T23, X23, e23, st23⟩ := getS X0 hx hZ hown (host := "") (own_w hw 127 rfl) Via.refl e0 (HS.2.2.2.2.2.2.2.2.2.2.2.1.ext O0.2) (g := (mkF m 111 #[.val (.int p0), .val (.int ((p0 &&& (2147483647 : Int32)) % (12 : Int32)))] [])) rfl (hb hby dc_111)
                          refine Go.st st23 ?_
                          show Go p e below s _ _ _ (T23.setTop (mkF m 114 #[.val (.int p0), .val (.int ((p0 &&& (2147483647 : Int32)) % (12 : Int32)))] [(.ref (c 11))]))
                          exact Go.ret X23 hlk (some (.ref (c 11))) (fun h => by rw [Bd.returns] at h; cases h) (by rw [e23]; exact ⟨_, rfl, HS.2.2.2.2.2.2.2.2.2.2.2.2, N0, rfl⟩) (by decide) (by decide) (fun fs hr => retOut X23 hx Bd.returns rfl (Or.inr (Or.inr (Or.inr (Or.inr ⟨rfl, rfl, rfl⟩)))) (hb hby dc_114) hr)
  obtain ⟨s2, o2, st2, r2⟩ := G
  exact ⟨s2, o2, castTop (efc m p0) st2, r2⟩
theorem dt_0 : decode jdk_78_method_5_code 0 = .ok (.aload_n 0, 1) := by decide +kernel
theorem dt_1 : decode jdk_78_method_5_code 1 = .ok (.invokespecial 1, 3) := by decide +kernel
theorem dt_4 : decode jdk_78_method_5_code 4 = .ok (.aload_n 0, 1) := by decide +kernel
theorem dt_5 : decode jdk_78_method_5_code 5 = .ok (.aload_n 0, 1) := by decide +kernel
theorem dt_6 : decode jdk_78_method_5_code 6 = .ok (.putfield 7, 3) := by decide +kernel
theorem dt_9 : decode jdk_78_method_5_code 9 = .ok (.aload_n 0, 1) := by decide +kernel
theorem dt_10 : decode jdk_78_method_5_code 10 = .ok (.getstatic 13, 3) := by decide +kernel
theorem dt_13 : decode jdk_78_method_5_code 13 = .ok (.putfield 17, 3) := by decide +kernel
theorem dt_16 : decode jdk_78_method_5_code 16 = .ok (.aload_n 0, 1) := by decide +kernel
theorem dt_17 : decode jdk_78_method_5_code 17 = .ok (.getstatic 20, 3) := by decide +kernel
theorem dt_20 : decode jdk_78_method_5_code 20 = .ok (.putfield 24, 3) := by decide +kernel
theorem dt_23 : decode jdk_78_method_5_code 23 = .ok (.iload 4, 2) := by decide +kernel
theorem dt_25 : decode jdk_78_method_5_code 25 = .ok (.ifCond .eq 11, 3) := by decide +kernel
theorem dt_36 : decode jdk_78_method_5_code 36 = .ok (.aload_n 0, 1) := by decide +kernel
theorem dt_37 : decode jdk_78_method_5_code 37 = .ok (.aconst_null, 1) := by decide +kernel
theorem dt_38 : decode jdk_78_method_5_code 38 = .ok (.putfield 17, 3) := by decide +kernel
theorem dt_41 : decode jdk_78_method_5_code 41 = .ok (.aload_n 0, 1) := by decide +kernel
theorem dt_42 : decode jdk_78_method_5_code 42 = .ok (.aload_n 1, 1) := by decide +kernel
theorem dt_43 : decode jdk_78_method_5_code 43 = .ok (.putfield 31, 3) := by decide +kernel
theorem dt_46 : decode jdk_78_method_5_code 46 = .ok (.aload_n 0, 1) := by decide +kernel
theorem dt_47 : decode jdk_78_method_5_code 47 = .ok (.aload_n 2, 1) := by decide +kernel
theorem dt_48 : decode jdk_78_method_5_code 48 = .ok (.putfield 7, 3) := by decide +kernel
theorem dt_51 : decode jdk_78_method_5_code 51 = .ok (.iload_n 3, 1) := by decide +kernel
theorem dt_52 : decode jdk_78_method_5_code 52 = .ok (.ifCond .ne 8, 3) := by decide +kernel
theorem dt_55 : decode jdk_78_method_5_code 55 = .ok (.aload_n 0, 1) := by decide +kernel
theorem dt_56 : decode jdk_78_method_5_code 56 = .ok (.aconst_null, 1) := by decide +kernel
theorem dt_57 : decode jdk_78_method_5_code 57 = .ok (.putfield 24, 3) := by decide +kernel
theorem dt_60 : decode jdk_78_method_5_code 60 = .ok (.return_, 1) := by decide +kernel
theorem pnt : plainName "java/lang/Throwable" = true := by first | (simp [plainName, overriddenIn]; done) | decide +kernel
theorem eft (m : MethodId) (x0 : Addr) (x1 : Addr) (x2 : Int32) (x3 : Int32) : entryFrame m #[(.ref x0), (.ref x1), .null, (.int x2), (.int x3)] 5 = mkF m 0 #[.val (.ref x0), .val (.ref x1), .val .null, .val (.int x2), .val (.int x3)] [] := by first | (simp [entryFrame, mkF, argsToLocals, Value.category, maxLocals]; done) | rfl
def Qt (Z : State) (a : Addr) (ms : Addr) (vu : Value) (vl : Value) (h0 : Heap) (n0 : Nat) (v : Option Value) (h : Heap) (L : List Loc) : Prop := v = none ∧ Fr n0 L ∧ Keep h0 h [a] ∧ Exa Z h a "com/example/duplexwire/duplexwire/protocol/FrameException" ∧ Fld Z h a "java/lang/Throwable" "cause" "Ljava/lang/Throwable;" .null ∧ Fld Z h a "java/lang/Throwable" "stackTrace" "[Ljava/lang/StackTraceElement;" .null ∧ Fld Z h a "java/lang/Throwable" "suppressedExceptions" "Ljava/util/List;" .null ∧ Fld Z h a "java/lang/Throwable" "detailMessage" "Ljava/lang/String;" (.ref ms) ∧ Fld Z h a "com/example/duplexwire/duplexwire/protocol/FrameException" "error" "Lcom/example/duplexwire/duplexwire/protocol/ErrorCode;" .null ∧ Fld Z h a "com/example/duplexwire/duplexwire/protocol/FrameException" "id" "J" (.long (0 : Int64)) ∧ Fld Z h a "com/example/duplexwire/duplexwire/protocol/FrameException" "hasId" "Z" (.int (0 : Int32))
set_option maxRecDepth 65536 in
set_option maxHeartbeats 40000000 in
theorem rmt (l : Launch) (Z : State) (a0 : Array Value) (hw : ∀ d ∈ tables_1, d.before a0 Z = true) (ws : List Jvm.Cond) (a : Addr) (ms : Addr) (vu : Value) (vl : Value) (h0 : Heap) (n0 : Nat) (O0 : Old Z n0 h0) (E_a : Exa Z h0 a "com/example/duplexwire/duplexwire/protocol/FrameException") (F_a_cause : Fld Z h0 a "java/lang/Throwable" "cause" "Ljava/lang/Throwable;" .null) (F_a_stackTrace : Fld Z h0 a "java/lang/Throwable" "stackTrace" "[Ljava/lang/StackTraceElement;" .null) (F_a_suppressedExceptions : Fld Z h0 a "java/lang/Throwable" "suppressedExceptions" "Ljava/util/List;" .null) (F_a_detailMessage : Fld Z h0 a "java/lang/Throwable" "detailMessage" "Ljava/lang/String;" .null) (F_a_error : Fld Z h0 a "com/example/duplexwire/duplexwire/protocol/FrameException" "error" "Lcom/example/duplexwire/duplexwire/protocol/ErrorCode;" .null) (F_a_id : Fld Z h0 a "com/example/duplexwire/duplexwire/protocol/FrameException" "id" "J" (.long (0 : Int64))) (F_a_hasId : Fld Z h0 a "com/example/duplexwire/duplexwire/protocol/FrameException" "hasId" "Z" (.int (0 : Int32))) (ga : n0 ≤ a) (SU : Sta Z Z.heap "java/lang/Throwable" "UNASSIGNED_STACK" "[Ljava/lang/StackTraceElement;" vu) (ru : vu.isRef = true) (SS : Sta Z Z.heap "java/lang/Throwable" "SUPPRESSED_SENTINEL" "Ljava/util/List;" vl) (rl : vl.isRef = true) :
    MetFree l (⟨"java/lang/Throwable", "<init>", "(Ljava/lang/String;Ljava/lang/Throwable;ZZ)V"⟩ : MethodName) (head1 (Jvm.Cond.code (⟨"java/lang/Throwable", "<init>", "(Ljava/lang/String;Ljava/lang/Throwable;ZZ)V"⟩ : MethodName) jdk_78_method_5_code 5 none :: ws) ({ frames := 1, cells := 0, slots := 0, locals := 12 } : Room)) (fun A_ U_ => A_ = #[(.ref a), (.ref ms), .null, (.int (0 : Int32)), (.int (0 : Int32))] ∧ Z.Warmed39 U_.vm ∧ U_.heap = h0) (fun _ _ _ _ _ => True) (fun _ U o U' => ∃ v L, o = .returned v ∧ Qt Z a ms vu vl h0 n0 v U'.heap L ∧ FrameEnd U o U' L ({ frames := 1, cells := 0, slots := 0, locals := 12 } : Room).cells ({ frames := 1, cells := 0, slots := 0, locals := 12 } : Room).slots) := by
  refine MetFree.of_bodySF (plainFor_of_name pnt) hisR ?_
  intro p e s m args below meth cd s₁ Bd hml0 hP hK
  obtain ⟨rfl, hZ, hh⟩ := hP
  have hx := Bd.exec
  have hby := Bd.bytes
  have hlk : meth.locks = false := BodyLoose.notSynchronized Bd
  have hml : cd.maxLocals = 5 := hml0
  have hown : s.vm.findClass "java/lang/Throwable" = some m.cls := findClass_of_methodNamed Bd.named
  have hnm := (name_of_methodNamed Bd.named Bd.method).1
  have X0 : Stand p l e ({ frames := 1, cells := 0, slots := 0, locals := 12 } : Room) s m #[(.ref a), (.ref ms), .null, (.int (0 : Int32)), (.int (0 : Int32))] below meth cd s₁ [] 0 0 := Stand.of_body Bd
  have e0 : s₁.heap = h0 := by rw [← hh, Bd.state]; rfl
  have N0 := Fr.nil n0
  have K0 : Keep h0 h0 [a] := Keep.refl _ _
  have G : Go p e below s 0 0 (Qt Z a ms vu vl h0 n0) (s₁.setTop (mkF m 0 #[.val (.ref a), .val (.ref ms), .val .null, .val (.int (0 : Int32)), .val (.int (0 : Int32))] [])) := by
    show Go p e below s _ _ _ (s₁.setTop (mkF m 0 #[.val (.ref a), .val (.ref ms), .val .null, .val (.int (0 : Int32)), .val (.int (0 : Int32))] []))
    refine Go.st (fun _ kq_ => XS.aloadN X0.here hx rfl (hb hby dt_0) rfl rfl kq_) ?_
    show Go p e below s _ _ _ (s₁.setTop (mkF m 1 #[.val (.ref a), .val (.ref ms), .val .null, .val (.int (0 : Int32)), .val (.int (0 : Int32))] [(.ref a)]))
    obtain ⟨T1, X1, e1, st1⟩ := initO X0 hx hZ hown (own_w hw 66 rfl) (own_w hw 20 rfl) (own_w hw 21 rfl) e0 (g := (mkF m 1 #[.val (.ref a), .val (.ref ms), .val .null, .val (.int (0 : Int32)), .val (.int (0 : Int32))] [(.ref a)])) rfl (by rw [hml]; rfl) rfl (hb hby dt_1) (by decide) (W := 0) (by show 2 * 0 + _ ≤ _; exact Nat.le_of_eq rfl) (by decide)
    refine Go.st st1 ?_
    show Go p e below s _ _ _ (T1.setTop (mkF m 4 #[.val (.ref a), .val (.ref ms), .val .null, .val (.int (0 : Int32)), .val (.int (0 : Int32))] []))
    refine Go.st (fun _ kq_ => XS.aloadN X1.here hx rfl (hb hby dt_4) rfl rfl kq_) ?_
    show Go p e below s _ _ _ (T1.setTop (mkF m 5 #[.val (.ref a), .val (.ref ms), .val .null, .val (.int (0 : Int32)), .val (.int (0 : Int32))] [(.ref a)]))
    refine Go.st (fun _ kq_ => XS.aloadN X1.here hx rfl (hb hby dt_5) rfl rfl kq_) ?_
    show Go p e below s _ _ _ (T1.setTop (mkF m 6 #[.val (.ref a), .val (.ref ms), .val .null, .val (.int (0 : Int32)), .val (.int (0 : Int32))] [(.ref a), (.ref a)]))
    obtain ⟨T2, h2, X2, e2, W2, st2⟩ := putF X1 hx hZ hown (host := "") (Or.inl (own_w hw 67 rfl)) Via.refl e1 F_a_cause E_a (Or.inl (own_w hw 68 rfl)) (own_w hw 39 rfl) (ty := (.object "java/lang/Throwable")) (by decide) rfl rfl (g := (mkF m 6 #[.val (.ref a), .val (.ref ms), .val .null, .val (.int (0 : Int32)), .val (.int (0 : Int32))] [(.ref a), (.ref a)])) rfl rfl (hb hby dt_6)
    obtain ⟨lc2, X2, N2⟩ := own_gen X2 (Fr.snoc X2 N0 ga)
    have O2 := O0.wr W2 ga
    have K2 := K0.wr W2 (Or.inl (List.mem_of_getElem? (i := 0) rfl))
    have E_a := E_a.wr W2
    have F_a_stackTrace := F_a_stackTrace.other W2 (Or.inr (slot_ne (Or.inl (own_w hw 71 rfl)) (Or.inl (own_w hw 68 rfl)) (by decide) (by decide : parseFieldDescriptor "[Ljava/lang/StackTraceElement;" = some (.array (.object "java/lang/StackTraceElement"))) (by decide : parseFieldDescriptor "Ljava/lang/Throwable;" = some (.object "java/lang/Throwable"))))
    have F_a_suppressedExceptions := F_a_suppressedExceptions.other W2 (Or.inr (slot_ne (Or.inl (own_w hw 74 rfl)) (Or.inl (own_w hw 68 rfl)) (by decide) (by decide : parseFieldDescriptor "Ljava/util/List;" = some (.object "java/util/List")) (by decide : parseFieldDescriptor "Ljava/lang/Throwable;" = some (.object "java/lang/Throwable"))))
    have F_a_detailMessage := F_a_detailMessage.other W2 (Or.inr (slot_ne (Or.inl (own_w hw 76 rfl)) (Or.inl (own_w hw 68 rfl)) (by decide) (by decide : parseFieldDescriptor "Ljava/lang/String;" = some (.object "java/lang/String")) (by decide : parseFieldDescriptor "Ljava/lang/Throwable;" = some (.object "java/lang/Throwable"))))
    have F_a_error := F_a_error.other W2 (Or.inr (slot_ne (Or.inr (own_w hw 81 rfl)) (Or.inl (own_w hw 68 rfl)) (by decide) (by decide : parseFieldDescriptor "Lcom/example/duplexwire/duplexwire/protocol/ErrorCode;" = some (.object "com/example/duplexwire/duplexwire/protocol/ErrorCode")) (by decide : parseFieldDescriptor "Ljava/lang/Throwable;" = some (.object "java/lang/Throwable"))))
    have F_a_id := F_a_id.other W2 (Or.inr (slot_ne (Or.inr (own_w hw 83 rfl)) (Or.inl (own_w hw 68 rfl)) (by decide) (by decide : parseFieldDescriptor "J" = some .long) (by decide : parseFieldDescriptor "Ljava/lang/Throwable;" = some (.object "java/lang/Throwable"))))
    have F_a_hasId := F_a_hasId.other W2 (Or.inr (slot_ne (Or.inr (own_w hw 85 rfl)) (Or.inl (own_w hw 68 rfl)) (by decide) (by decide : parseFieldDescriptor "Z" = some .boolean) (by decide : parseFieldDescriptor "Ljava/lang/Throwable;" = some (.object "java/lang/Throwable"))))
    have F_a_cause := F_a_cause.same W2
    refine Go.st st2 ?_
    show Go p e below s _ _ _ (T2.setTop (mkF m 9 #[.val (.ref a), .val (.ref ms), .val .null, .val (.int (0 : Int32)), .val (.int (0 : Int32))] []))
    refine Go.st (fun _ kq_ => XS.aloadN X2.here hx rfl (hb hby dt_9) rfl rfl kq_) ?_
    show Go p e below s _ _ _ (T2.setTop (mkF m 10 #[.val (.ref a), .val (.ref ms), .val .null, .val (.int (0 : Int32)), .val (.int (0 : Int32))] [(.ref a)]))
    obtain ⟨T3, X3, e3, st3⟩ := getS X2 hx hZ hown (host := "") (own_w hw 69 rfl) Via.refl e2 (SU.ext O2.2) (g := (mkF m 10 #[.val (.ref a), .val (.ref ms), .val .null, .val (.int (0 : Int32)), .val (.int (0 : Int32))] [(.ref a)])) rfl (hb hby dt_10)
    refine Go.st st3 ?_
    show Go p e below s _ _ _ (T3.setTop (mkF m 13 #[.val (.ref a), .val (.ref ms), .val .null, .val (.int (0 : Int32)), .val (.int (0 : Int32))] [vu, (.ref a)]))
    obtain ⟨T4, h4, X4, e4, W4, st4⟩ := putF X3 hx hZ hown (host := "") (Or.inl (own_w hw 70 rfl)) Via.refl e3 F_a_stackTrace E_a (Or.inl (own_w hw 71 rfl)) (own_w hw 39 rfl) (ty := (.array (.object "java/lang/StackTraceElement"))) (by decide) (own_narR ru) (own_fitR ru) (g := (mkF m 13 #[.val (.ref a), .val (.ref ms), .val .null, .val (.int (0 : Int32)), .val (.int (0 : Int32))] [vu, (.ref a)])) rfl rfl (hb hby dt_13)
    obtain ⟨lc4, X4, N4⟩ := own_gen X4 (Fr.snoc X4 N2 ga)
    have O4 := O2.wr W4 ga
    have K4 := K2.wr W4 (Or.inl (List.mem_of_getElem? (i := 0) rfl))
    have E_a := E_a.wr W4
    have F_a_cause := F_a_cause.other W4 (Or.inr (slot_ne (Or.inl (own_w hw 68 rfl)) (Or.inl (own_w hw 71 rfl)) (by decide) (by decide : parseFieldDescriptor "Ljava/lang/Throwable;" = some (.object "java/lang/Throwable")) (by decide : parseFieldDescriptor "[Ljava/lang/StackTraceElement;" = some (.array (.object "java/lang/StackTraceElement")))))
    have F_a_suppressedExceptions := F_a_suppressedExceptions.other W4 (Or.inr (slot_ne (Or.inl (own_w hw 74 rfl)) (Or.inl (own_w hw 71 rfl)) (by decide) (by decide : parseFieldDescriptor "Ljava/util/List;" = some (.object "java/util/List")) (by decide : parseFieldDescriptor "[Ljava/lang/StackTraceElement;" = some (.array (.object "java/lang/StackTraceElement")))))
    have F_a_detailMessage := F_a_detailMessage.other W4 (Or.inr (slot_ne (Or.inl (own_w hw 76 rfl)) (Or.inl (own_w hw 71 rfl)) (by decide) (by decide : parseFieldDescriptor "Ljava/lang/String;" = some (.object "java/lang/String")) (by decide : parseFieldDescriptor "[Ljava/lang/StackTraceElement;" = some (.array (.object "java/lang/StackTraceElement")))))
    have F_a_error := F_a_error.other W4 (Or.inr (slot_ne (Or.inr (own_w hw 81 rfl)) (Or.inl (own_w hw 71 rfl)) (by decide) (by decide : parseFieldDescriptor "Lcom/example/duplexwire/duplexwire/protocol/ErrorCode;" = some (.object "com/example/duplexwire/duplexwire/protocol/ErrorCode")) (by decide : parseFieldDescriptor "[Ljava/lang/StackTraceElement;" = some (.array (.object "java/lang/StackTraceElement")))))
    have F_a_id := F_a_id.other W4 (Or.inr (slot_ne (Or.inr (own_w hw 83 rfl)) (Or.inl (own_w hw 71 rfl)) (by decide) (by decide : parseFieldDescriptor "J" = some .long) (by decide : parseFieldDescriptor "[Ljava/lang/StackTraceElement;" = some (.array (.object "java/lang/StackTraceElement")))))
    have F_a_hasId := F_a_hasId.other W4 (Or.inr (slot_ne (Or.inr (own_w hw 85 rfl)) (Or.inl (own_w hw 71 rfl)) (by decide) (by decide : parseFieldDescriptor "Z" = some .boolean) (by decide : parseFieldDescriptor "[Ljava/lang/StackTraceElement;" = some (.array (.object "java/lang/StackTraceElement")))))
    have F_a_stackTrace := F_a_stackTrace.same W4
    refine Go.st st4 ?_
    show Go p e below s _ _ _ (T4.setTop (mkF m 16 #[.val (.ref a), .val (.ref ms), .val .null, .val (.int (0 : Int32)), .val (.int (0 : Int32))] []))
    refine Go.st (fun _ kq_ => XS.aloadN X4.here hx rfl (hb hby dt_16) rfl rfl kq_) ?_
    show Go p e below s _ _ _ (T4.setTop (mkF m 17 #[.val (.ref a), .val (.ref ms), .val .null, .val (.int (0 : Int32)), .val (.int (0 : Int32))] [(.ref a)]))
    obtain ⟨T5, X5, e5, st5⟩ := getS X4 hx hZ hown (host := "") (own_w hw 72 rfl) Via.refl e4 (SS.ext O4.2) (g := (mkF m 17 #[.val (.ref a), .val (.ref ms), .val .null, .val (.int (0 : Int32)), .val (.int (0 : Int32))] [(.ref a)])) rfl (hb hby dt_17)
    refine Go.st st5 ?_
    show Go p e below s _ _ _ (T5.setTop (mkF m 20 #[.val (.ref a), .val (.ref ms), .val .null, .val (.int (0 : Int32)), .val (.int (0 : Int32))] [vl, (.ref a)]))
    obtain ⟨T6, h6, X6, e6, W6, st6⟩ := putF X5 hx hZ hown (host := "") (Or.inl (own_w hw 73 rfl)) Via.refl e5 F_a_suppressedExceptions E_a (Or.inl (own_w hw 74 rfl)) (own_w hw 39 rfl) (ty := (.object "java/util/List")) (by decide) (own_narR rl) (own_fitR rl) (g := (mkF m 20 #[.val (.ref a), .val (.ref ms), .val .null, .val (.int (0 : Int32)), .val (.int (0 : Int32))] [vl, (.ref a)])) rfl rfl (hb hby dt_20)
    obtain ⟨lc6, X6, N6⟩ := own_gen X6 (Fr.snoc X6 N4 ga)
    have O6 := O4.wr W6 ga
    have K6 := K4.wr W6 (Or.inl (List.mem_of_getElem? (i := 0) rfl))
    have E_a := E_a.wr W6
    have F_a_cause := F_a_cause.other W6 (Or.inr (slot_ne (Or.inl (own_w hw 68 rfl)) (Or.inl (own_w hw 74 rfl)) (by decide) (by decide : parseFieldDescriptor "Ljava/lang/Throwable;" = some (.object "java/lang/Throwable")) (by decide : parseFieldDescriptor "Ljava/util/List;" = some (.object "java/util/List"))))
    have F_a_stackTrace := F_a_stackTrace.other W6 (Or.inr (slot_ne (Or.inl (own_w hw 71 rfl)) (Or.inl (own_w hw 74 rfl)) (by decide) (by decide : parseFieldDescriptor "[Ljava/lang/StackTraceElement;" = some (.array (.object "java/lang/StackTraceElement"))) (by decide : parseFieldDescriptor "Ljava/util/List;" = some (.object "java/util/List"))))
    have F_a_detailMessage := F_a_detailMessage.other W6 (Or.inr (slot_ne (Or.inl (own_w hw 76 rfl)) (Or.inl (own_w hw 74 rfl)) (by decide) (by decide : parseFieldDescriptor "Ljava/lang/String;" = some (.object "java/lang/String")) (by decide : parseFieldDescriptor "Ljava/util/List;" = some (.object "java/util/List"))))
    have F_a_error := F_a_error.other W6 (Or.inr (slot_ne (Or.inr (own_w hw 81 rfl)) (Or.inl (own_w hw 74 rfl)) (by decide) (by decide : parseFieldDescriptor "Lcom/example/duplexwire/duplexwire/protocol/ErrorCode;" = some (.object "com/example/duplexwire/duplexwire/protocol/ErrorCode")) (by decide : parseFieldDescriptor "Ljava/util/List;" = some (.object "java/util/List"))))
    have F_a_id := F_a_id.other W6 (Or.inr (slot_ne (Or.inr (own_w hw 83 rfl)) (Or.inl (own_w hw 74 rfl)) (by decide) (by decide : parseFieldDescriptor "J" = some .long) (by decide : parseFieldDescriptor "Ljava/util/List;" = some (.object "java/util/List"))))
    have F_a_hasId := F_a_hasId.other W6 (Or.inr (slot_ne (Or.inr (own_w hw 85 rfl)) (Or.inl (own_w hw 74 rfl)) (by decide) (by decide : parseFieldDescriptor "Z" = some .boolean) (by decide : parseFieldDescriptor "Ljava/util/List;" = some (.object "java/util/List"))))
    have F_a_suppressedExceptions := F_a_suppressedExceptions.same W6
    refine Go.st st6 ?_
    show Go p e below s _ _ _ (T6.setTop (mkF m 23 #[.val (.ref a), .val (.ref ms), .val .null, .val (.int (0 : Int32)), .val (.int (0 : Int32))] []))
    refine Go.st (fun _ kq_ => XS.iload X6.here hx rfl (hb hby dt_23) rfl kq_) ?_
    show Go p e below s _ _ _ (T6.setTop (mkF m 25 #[.val (.ref a), .val (.ref ms), .val .null, .val (.int (0 : Int32)), .val (.int (0 : Int32))] [(.int (0 : Int32))]))
    refine Go.st (fun _ kq_ => XS.ifYes X6.here hx rfl (pc0 := 25) (pc' := 36) rfl (hb hby dt_25) rfl (by decide) (by decide) (by decide) kq_) ?_
    show Go p e below s _ _ _ (T6.setTop (mkF m 36 #[.val (.ref a), .val (.ref ms), .val .null, .val (.int (0 : Int32)), .val (.int (0 : Int32))] []))
    refine Go.st (fun _ kq_ => XS.aloadN X6.here hx rfl (hb hby dt_36) rfl rfl kq_) ?_
    show Go p e below s _ _ _ (T6.setTop (mkF m 37 #[.val (.ref a), .val (.ref ms), .val .null, .val (.int (0 : Int32)), .val (.int (0 : Int32))] [(.ref a)]))
    refine Go.st (fun _ kq_ => XS.aconstNull X6.here hx rfl (hb hby dt_37) kq_) ?_
    show Go p e below s _ _ _ (T6.setTop (mkF m 38 #[.val (.ref a), .val (.ref ms), .val .null, .val (.int (0 : Int32)), .val (.int (0 : Int32))] [.null, (.ref a)]))
    obtain ⟨T7, h7, X7, e7, W7, st7⟩ := putF X6 hx hZ hown (host := "") (Or.inl (own_w hw 70 rfl)) Via.refl e6 F_a_stackTrace E_a (Or.inl (own_w hw 71 rfl)) (own_w hw 39 rfl) (ty := (.array (.object "java/lang/StackTraceElement"))) (by decide) rfl rfl (g := (mkF m 38 #[.val (.ref a), .val (.ref ms), .val .null, .val (.int (0 : Int32)), .val (.int (0 : Int32))] [.null, (.ref a)])) rfl rfl (hb hby dt_38)
    obtain ⟨lc7, X7, N7⟩ := own_gen X7 (Fr.snoc X7 N6 ga)
    have O7 := O6.wr W7 ga
    have K7 := K6.wr W7 (Or.inl (List.mem_of_getElem? (i := 0) rfl))
    have E_a := E_a.wr W7
    have F_a_cause := F_a_cause.other W7 (Or.inr (slot_ne (Or.inl (own_w hw 68 rfl)) (Or.inl (own_w hw 71 rfl)) (by decide) (by decide : parseFieldDescriptor "Ljava/lang/Throwable;" = some (.object "java/lang/Throwable")) (by decide : parseFieldDescriptor "[Ljava/lang/StackTraceElement;" = some (.array (.object "java/lang/StackTraceElement")))))
    have F_a_suppressedExceptions := F_a_suppressedExceptions.other W7 (Or.inr (slot_ne (Or.inl (own_w hw 74 rfl)) (Or.inl (own_w hw 71 rfl)) (by decide) (by decide : parseFieldDescriptor "Ljava/util/List;" = some (.object "java/util/List")) (by decide : parseFieldDescriptor "[Ljava/lang/StackTraceElement;" = some (.array (.object "java/lang/StackTraceElement")))))
    have F_a_detailMessage := F_a_detailMessage.other W7 (Or.inr (slot_ne (Or.inl (own_w hw 76 rfl)) (Or.inl (own_w hw 71 rfl)) (by decide) (by decide : parseFieldDescriptor "Ljava/lang/String;" = some (.object "java/lang/String")) (by decide : parseFieldDescriptor "[Ljava/lang/StackTraceElement;" = some (.array (.object "java/lang/StackTraceElement")))))
    have F_a_error := F_a_error.other W7 (Or.inr (slot_ne (Or.inr (own_w hw 81 rfl)) (Or.inl (own_w hw 71 rfl)) (by decide) (by decide : parseFieldDescriptor "Lcom/example/duplexwire/duplexwire/protocol/ErrorCode;" = some (.object "com/example/duplexwire/duplexwire/protocol/ErrorCode")) (by decide : parseFieldDescriptor "[Ljava/lang/StackTraceElement;" = some (.array (.object "java/lang/StackTraceElement")))))
    have F_a_id := F_a_id.other W7 (Or.inr (slot_ne (Or.inr (own_w hw 83 rfl)) (Or.inl (own_w hw 71 rfl)) (by decide) (by decide : parseFieldDescriptor "J" = some .long) (by decide : parseFieldDescriptor "[Ljava/lang/StackTraceElement;" = some (.array (.object "java/lang/StackTraceElement")))))
    have F_a_hasId := F_a_hasId.other W7 (Or.inr (slot_ne (Or.inr (own_w hw 85 rfl)) (Or.inl (own_w hw 71 rfl)) (by decide) (by decide : parseFieldDescriptor "Z" = some .boolean) (by decide : parseFieldDescriptor "[Ljava/lang/StackTraceElement;" = some (.array (.object "java/lang/StackTraceElement")))))
    have F_a_stackTrace := F_a_stackTrace.same W7
    refine Go.st st7 ?_
    show Go p e below s _ _ _ (T7.setTop (mkF m 41 #[.val (.ref a), .val (.ref ms), .val .null, .val (.int (0 : Int32)), .val (.int (0 : Int32))] []))
    refine Go.st (fun _ kq_ => XS.aloadN X7.here hx rfl (hb hby dt_41) rfl rfl kq_) ?_
    show Go p e below s _ _ _ (T7.setTop (mkF m 42 #[.val (.ref a), .val (.ref ms), .val .null, .val (.int (0 : Int32)), .val (.int (0 : Int32))] [(.ref a)]))
    refine Go.st (fun _ kq_ => XS.aloadN X7.here hx rfl (hb hby dt_42) rfl rfl kq_) ?_
    show Go p e below s _ _ _ (T7.setTop (mkF m 43 #[.val (.ref a), .val (.ref ms), .val .null, .val (.int (0 : Int32)), .val (.int (0 : Int32))] [(.ref ms), (.ref a)]))
    obtain ⟨T8, h8, X8, e8, W8, st8⟩ := putF X7 hx hZ hown (host := "") (Or.inl (own_w hw 75 rfl)) Via.refl e7 F_a_detailMessage E_a (Or.inl (own_w hw 76 rfl)) (own_w hw 39 rfl) (ty := (.object "java/lang/String")) (by decide) rfl rfl (g := (mkF m 43 #[.val (.ref a), .val (.ref ms), .val .null, .val (.int (0 : Int32)), .val (.int (0 : Int32))] [(.ref ms), (.ref a)])) rfl rfl (hb hby dt_43)
    obtain ⟨lc8, X8, N8⟩ := own_gen X8 (Fr.snoc X8 N7 ga)
    have O8 := O7.wr W8 ga
    have K8 := K7.wr W8 (Or.inl (List.mem_of_getElem? (i := 0) rfl))
    have E_a := E_a.wr W8
    have F_a_cause := F_a_cause.other W8 (Or.inr (slot_ne (Or.inl (own_w hw 68 rfl)) (Or.inl (own_w hw 76 rfl)) (by decide) (by decide : parseFieldDescriptor "Ljava/lang/Throwable;" = some (.object "java/lang/Throwable")) (by decide : parseFieldDescriptor "Ljava/lang/String;" = some (.object "java/lang/String"))))
    have F_a_stackTrace := F_a_stackTrace.other W8 (Or.inr (slot_ne (Or.inl (own_w hw 71 rfl)) (Or.inl (own_w hw 76 rfl)) (by decide) (by decide : parseFieldDescriptor "[Ljava/lang/StackTraceElement;" = some (.array (.object "java/lang/StackTraceElement"))) (by decide : parseFieldDescriptor "Ljava/lang/String;" = some (.object "java/lang/String"))))
    have F_a_suppressedExceptions := F_a_suppressedExceptions.other W8 (Or.inr (slot_ne (Or.inl (own_w hw 74 rfl)) (Or.inl (own_w hw 76 rfl)) (by decide) (by decide : parseFieldDescriptor "Ljava/util/List;" = some (.object "java/util/List")) (by decide : parseFieldDescriptor "Ljava/lang/String;" = some (.object "java/lang/String"))))
    have F_a_error := F_a_error.other W8 (Or.inr (slot_ne (Or.inr (own_w hw 81 rfl)) (Or.inl (own_w hw 76 rfl)) (by decide) (by decide : parseFieldDescriptor "Lcom/example/duplexwire/duplexwire/protocol/ErrorCode;" = some (.object "com/example/duplexwire/duplexwire/protocol/ErrorCode")) (by decide : parseFieldDescriptor "Ljava/lang/String;" = some (.object "java/lang/String"))))
    have F_a_id := F_a_id.other W8 (Or.inr (slot_ne (Or.inr (own_w hw 83 rfl)) (Or.inl (own_w hw 76 rfl)) (by decide) (by decide : parseFieldDescriptor "J" = some .long) (by decide : parseFieldDescriptor "Ljava/lang/String;" = some (.object "java/lang/String"))))
    have F_a_hasId := F_a_hasId.other W8 (Or.inr (slot_ne (Or.inr (own_w hw 85 rfl)) (Or.inl (own_w hw 76 rfl)) (by decide) (by decide : parseFieldDescriptor "Z" = some .boolean) (by decide : parseFieldDescriptor "Ljava/lang/String;" = some (.object "java/lang/String"))))
    have F_a_detailMessage := F_a_detailMessage.same W8
    refine Go.st st8 ?_
    show Go p e below s _ _ _ (T8.setTop (mkF m 46 #[.val (.ref a), .val (.ref ms), .val .null, .val (.int (0 : Int32)), .val (.int (0 : Int32))] []))
    refine Go.st (fun _ kq_ => XS.aloadN X8.here hx rfl (hb hby dt_46) rfl rfl kq_) ?_
    show Go p e below s _ _ _ (T8.setTop (mkF m 47 #[.val (.ref a), .val (.ref ms), .val .null, .val (.int (0 : Int32)), .val (.int (0 : Int32))] [(.ref a)]))
    refine Go.st (fun _ kq_ => XS.aloadN X8.here hx rfl (hb hby dt_47) rfl rfl kq_) ?_
    show Go p e below s _ _ _ (T8.setTop (mkF m 48 #[.val (.ref a), .val (.ref ms), .val .null, .val (.int (0 : Int32)), .val (.int (0 : Int32))] [.null, (.ref a)]))
    obtain ⟨T9, h9, X9, e9, W9, st9⟩ := putF X8 hx hZ hown (host := "") (Or.inl (own_w hw 67 rfl)) Via.refl e8 F_a_cause E_a (Or.inl (own_w hw 68 rfl)) (own_w hw 39 rfl) (ty := (.object "java/lang/Throwable")) (by decide) rfl rfl (g := (mkF m 48 #[.val (.ref a), .val (.ref ms), .val .null, .val (.int (0 : Int32)), .val (.int (0 : Int32))] [.null, (.ref a)])) rfl rfl (hb hby dt_48)
    obtain ⟨lc9, X9, N9⟩ := own_gen X9 (Fr.snoc X9 N8 ga)
    have O9 := O8.wr W9 ga
    have K9 := K8.wr W9 (Or.inl (List.mem_of_getElem? (i := 0) rfl))
    have E_a := E_a.wr W9
    have F_a_stackTrace := F_a_stackTrace.other W9 (Or.inr (slot_ne (Or.inl (own_w hw 71 rfl)) (Or.inl (own_w hw 68 rfl)) (by decide) (by decide : parseFieldDescriptor "[Ljava/lang/StackTraceElement;" = some (.array (.object "java/lang/StackTraceElement"))) (by decide : parseFieldDescriptor "Ljava/lang/Throwable;" = some (.object "java/lang/Throwable"))))
    have F_a_suppressedExceptions := F_a_suppressedExceptions.other W9 (Or.inr (slot_ne (Or.inl (own_w hw 74 rfl)) (Or.inl (own_w hw 68 rfl)) (by decide) (by decide : parseFieldDescriptor "Ljava/util/List;" = some (.object "java/util/List")) (by decide : parseFieldDescriptor "Ljava/lang/Throwable;" = some (.object "java/lang/Throwable"))))
    have F_a_detailMessage := F_a_detailMessage.other W9 (Or.inr (slot_ne (Or.inl (own_w hw 76 rfl)) (Or.inl (own_w hw 68 rfl)) (by decide) (by decide : parseFieldDescriptor "Ljava/lang/String;" = some (.object "java/lang/String")) (by decide : parseFieldDescriptor "Ljava/lang/Throwable;" = some (.object "java/lang/Throwable"))))
    have F_a_error := F_a_error.other W9 (Or.inr (slot_ne (Or.inr (own_w hw 81 rfl)) (Or.inl (own_w hw 68 rfl)) (by decide) (by decide : parseFieldDescriptor "Lcom/example/duplexwire/duplexwire/protocol/ErrorCode;" = some (.object "com/example/duplexwire/duplexwire/protocol/ErrorCode")) (by decide : parseFieldDescriptor "Ljava/lang/Throwable;" = some (.object "java/lang/Throwable"))))
    have F_a_id := F_a_id.other W9 (Or.inr (slot_ne (Or.inr (own_w hw 83 rfl)) (Or.inl (own_w hw 68 rfl)) (by decide) (by decide : parseFieldDescriptor "J" = some .long) (by decide : parseFieldDescriptor "Ljava/lang/Throwable;" = some (.object "java/lang/Throwable"))))
    have F_a_hasId := F_a_hasId.other W9 (Or.inr (slot_ne (Or.inr (own_w hw 85 rfl)) (Or.inl (own_w hw 68 rfl)) (by decide) (by decide : parseFieldDescriptor "Z" = some .boolean) (by decide : parseFieldDescriptor "Ljava/lang/Throwable;" = some (.object "java/lang/Throwable"))))
    have F_a_cause := F_a_cause.same W9
    refine Go.st st9 ?_
    show Go p e below s _ _ _ (T9.setTop (mkF m 51 #[.val (.ref a), .val (.ref ms), .val .null, .val (.int (0 : Int32)), .val (.int (0 : Int32))] []))
    refine Go.st (fun _ kq_ => XS.iloadN X9.here hx rfl (hb hby dt_51) rfl kq_) ?_
    show Go p e below s _ _ _ (T9.setTop (mkF m 52 #[.val (.ref a), .val (.ref ms), .val .null, .val (.int (0 : Int32)), .val (.int (0 : Int32))] [(.int (0 : Int32))]))
    refine Go.st (fun _ kq_ => XS.ifNo X9.here hx rfl (hb hby dt_52) rfl (by decide) kq_) ?_
    show Go p e below s _ _ _ (T9.setTop (mkF m 55 #[.val (.ref a), .val (.ref ms), .val .null, .val (.int (0 : Int32)), .val (.int (0 : Int32))] []))
    refine Go.st (fun _ kq_ => XS.aloadN X9.here hx rfl (hb hby dt_55) rfl rfl kq_) ?_
    show Go p e below s _ _ _ (T9.setTop (mkF m 56 #[.val (.ref a), .val (.ref ms), .val .null, .val (.int (0 : Int32)), .val (.int (0 : Int32))] [(.ref a)]))
    refine Go.st (fun _ kq_ => XS.aconstNull X9.here hx rfl (hb hby dt_56) kq_) ?_
    show Go p e below s _ _ _ (T9.setTop (mkF m 57 #[.val (.ref a), .val (.ref ms), .val .null, .val (.int (0 : Int32)), .val (.int (0 : Int32))] [.null, (.ref a)]))
    obtain ⟨T10, h10, X10, e10, W10, st10⟩ := putF X9 hx hZ hown (host := "") (Or.inl (own_w hw 73 rfl)) Via.refl e9 F_a_suppressedExceptions E_a (Or.inl (own_w hw 74 rfl)) (own_w hw 39 rfl) (ty := (.object "java/util/List")) (by decide) rfl rfl (g := (mkF m 57 #[.val (.ref a), .val (.ref ms), .val .null, .val (.int (0 : Int32)), .val (.int (0 : Int32))] [.null, (.ref a)])) rfl rfl (hb hby dt_57)
    obtain ⟨lc10, X10, N10⟩ := own_gen X10 (Fr.snoc X10 N9 ga)
    have O10 := O9.wr W10 ga
    have K10 := K9.wr W10 (Or.inl (List.mem_of_getElem? (i := 0) rfl))
    have E_a := E_a.wr W10
    have F_a_cause := F_a_cause.other W10 (Or.inr (slot_ne (Or.inl (own_w hw 68 rfl)) (Or.inl (own_w hw 74 rfl)) (by decide) (by decide : parseFieldDescriptor "Ljava/lang/Throwable;" = some (.object "java/lang/Throwable")) (by decide : parseFieldDescriptor "Ljava/util/List;" = some (.object "java/util/List"))))
    have F_a_stackTrace := F_a_stackTrace.other W10 (Or.inr (slot_ne (Or.inl (own_w hw 71 rfl)) (Or.inl (own_w hw 74 rfl)) (by decide) (by decide : parseFieldDescriptor "[Ljava/lang/StackTraceElement;" = some (.array (.object "java/lang/StackTraceElement"))) (by decide : parseFieldDescriptor "Ljava/util/List;" = some (.object "java/util/List"))))
    have F_a_detailMessage := F_a_detailMessage.other W10 (Or.inr (slot_ne (Or.inl (own_w hw 76 rfl)) (Or.inl (own_w hw 74 rfl)) (by decide) (by decide : parseFieldDescriptor "Ljava/lang/String;" = some (.object "java/lang/String")) (by decide : parseFieldDescriptor "Ljava/util/List;" = some (.object "java/util/List"))))
    have F_a_error := F_a_error.other W10 (Or.inr (slot_ne (Or.inr (own_w hw 81 rfl)) (Or.inl (own_w hw 74 rfl)) (by decide) (by decide : parseFieldDescriptor "Lcom/example/duplexwire/duplexwire/protocol/ErrorCode;" = some (.object "com/example/duplexwire/duplexwire/protocol/ErrorCode")) (by decide : parseFieldDescriptor "Ljava/util/List;" = some (.object "java/util/List"))))
    have F_a_id := F_a_id.other W10 (Or.inr (slot_ne (Or.inr (own_w hw 83 rfl)) (Or.inl (own_w hw 74 rfl)) (by decide) (by decide : parseFieldDescriptor "J" = some .long) (by decide : parseFieldDescriptor "Ljava/util/List;" = some (.object "java/util/List"))))
    have F_a_hasId := F_a_hasId.other W10 (Or.inr (slot_ne (Or.inr (own_w hw 85 rfl)) (Or.inl (own_w hw 74 rfl)) (by decide) (by decide : parseFieldDescriptor "Z" = some .boolean) (by decide : parseFieldDescriptor "Ljava/util/List;" = some (.object "java/util/List"))))
    have F_a_suppressedExceptions := F_a_suppressedExceptions.same W10
    refine Go.st st10 ?_
    show Go p e below s _ _ _ (T10.setTop (mkF m 60 #[.val (.ref a), .val (.ref ms), .val .null, .val (.int (0 : Int32)), .val (.int (0 : Int32))] []))
    exact Go.ret X10 hlk (none) (fun _ => rfl) (by rw [e10]; exact ⟨rfl, N10, K10, E_a, F_a_cause, F_a_stackTrace, F_a_suppressedExceptions, F_a_detailMessage, F_a_error, F_a_id, F_a_hasId⟩) (by decide) (by decide) (fun fs hr => X10.returnOut hx Bd.returns (hb hby dt_60) hr)
  obtain ⟨s2, o2, st2, r2⟩ := G
  exact ⟨s2, o2, castTop (eft m a ms (0 : Int32) (0 : Int32)) st2, r2⟩
theorem de_0 : decode jdk_59_method_5_code 0 = .ok (.aload_n 0, 1) := by decide +kernel
theorem de_1 : decode jdk_59_method_5_code 1 = .ok (.aload_n 1, 1) := by decide +kernel
theorem de_2 : decode jdk_59_method_5_code 2 = .ok (.aload_n 2, 1) := by decide +kernel
theorem de_3 : decode jdk_59_method_5_code 3 = .ok (.iload_n 3, 1) := by decide +kernel
theorem de_4 : decode jdk_59_method_5_code 4 = .ok (.iload 4, 2) := by decide +kernel
theorem de_6 : decode jdk_59_method_5_code 6 = .ok (.invokespecial 16, 3) := by decide +kernel
theorem de_9 : decode jdk_59_method_5_code 9 = .ok (.return_, 1) := by decide +kernel
theorem pde_0 : parseMethodDescriptor "(Ljava/lang/String;Ljava/lang/Throwable;ZZ)V" = some ⟨[(.object "java/lang/String"), (.object "java/lang/Throwable"), .boolean, .boolean], none⟩ := by decide +kernel
theorem pne : plainName "java/lang/Exception" = true := by first | (simp [plainName, overriddenIn]; done) | decide +kernel
theorem efe (m : MethodId) (x0 : Addr) (x1 : Addr) (x2 : Int32) (x3 : Int32) : entryFrame m #[(.ref x0), (.ref x1), .null, (.int x2), (.int x3)] 5 = mkF m 0 #[.val (.ref x0), .val (.ref x1), .val .null, .val (.int x2), .val (.int x3)] [] := by first | (simp [entryFrame, mkF, argsToLocals, Value.category, maxLocals]; done) | rfl
def Qe (Z : State) (a : Addr) (ms : Addr) (vu : Value) (vl : Value) (h0 : Heap) (n0 : Nat) (v : Option Value) (h : Heap) (L : List Loc) : Prop := v = none ∧ Fr n0 L ∧ Keep h0 h [a] ∧ Exa Z h a "com/example/duplexwire/duplexwire/protocol/FrameException" ∧ Fld Z h a "java/lang/Throwable" "cause" "Ljava/lang/Throwable;" .null ∧ Fld Z h a "java/lang/Throwable" "stackTrace" "[Ljava/lang/StackTraceElement;" .null ∧ Fld Z h a "java/lang/Throwable" "suppressedExceptions" "Ljava/util/List;" .null ∧ Fld Z h a "java/lang/Throwable" "detailMessage" "Ljava/lang/String;" (.ref ms) ∧ Fld Z h a "com/example/duplexwire/duplexwire/protocol/FrameException" "error" "Lcom/example/duplexwire/duplexwire/protocol/ErrorCode;" .null ∧ Fld Z h a "com/example/duplexwire/duplexwire/protocol/FrameException" "id" "J" (.long (0 : Int64)) ∧ Fld Z h a "com/example/duplexwire/duplexwire/protocol/FrameException" "hasId" "Z" (.int (0 : Int32))
set_option maxRecDepth 65536 in
set_option maxHeartbeats 40000000 in
theorem rme (l : Launch) (Z : State) (a0 : Array Value) (hw : ∀ d ∈ tables_1, d.before a0 Z = true) (ws : List Jvm.Cond) (a : Addr) (ms : Addr) (vu : Value) (vl : Value) (h0 : Heap) (n0 : Nat) (O0 : Old Z n0 h0) (E_a : Exa Z h0 a "com/example/duplexwire/duplexwire/protocol/FrameException") (F_a_cause : Fld Z h0 a "java/lang/Throwable" "cause" "Ljava/lang/Throwable;" .null) (F_a_stackTrace : Fld Z h0 a "java/lang/Throwable" "stackTrace" "[Ljava/lang/StackTraceElement;" .null) (F_a_suppressedExceptions : Fld Z h0 a "java/lang/Throwable" "suppressedExceptions" "Ljava/util/List;" .null) (F_a_detailMessage : Fld Z h0 a "java/lang/Throwable" "detailMessage" "Ljava/lang/String;" .null) (F_a_error : Fld Z h0 a "com/example/duplexwire/duplexwire/protocol/FrameException" "error" "Lcom/example/duplexwire/duplexwire/protocol/ErrorCode;" .null) (F_a_id : Fld Z h0 a "com/example/duplexwire/duplexwire/protocol/FrameException" "id" "J" (.long (0 : Int64))) (F_a_hasId : Fld Z h0 a "com/example/duplexwire/duplexwire/protocol/FrameException" "hasId" "Z" (.int (0 : Int32))) (ga : n0 ≤ a) (SU : Sta Z Z.heap "java/lang/Throwable" "UNASSIGNED_STACK" "[Ljava/lang/StackTraceElement;" vu) (ru : vu.isRef = true) (SS : Sta Z Z.heap "java/lang/Throwable" "SUPPRESSED_SENTINEL" "Ljava/util/List;" vl) (rl : vl.isRef = true) :
    MetFree l (⟨"java/lang/Exception", "<init>", "(Ljava/lang/String;Ljava/lang/Throwable;ZZ)V"⟩ : MethodName) (head1 (Jvm.Cond.code (⟨"java/lang/Exception", "<init>", "(Ljava/lang/String;Ljava/lang/Throwable;ZZ)V"⟩ : MethodName) jdk_59_method_5_code 5 none :: ws) ({ frames := 2, cells := 0, slots := 0, locals := 28 } : Room)) (fun A_ U_ => A_ = #[(.ref a), (.ref ms), .null, (.int (0 : Int32)), (.int (0 : Int32))] ∧ Z.Warmed39 U_.vm ∧ U_.heap = h0) (fun _ _ _ _ _ => True) (fun _ U o U' => ∃ v L, o = .returned v ∧ Qe Z a ms vu vl h0 n0 v U'.heap L ∧ FrameEnd U o U' L ({ frames := 2, cells := 0, slots := 0, locals := 28 } : Room).cells ({ frames := 2, cells := 0, slots := 0, locals := 28 } : Room).slots) := by
  refine MetFree.of_bodySF (plainFor_of_name pne) hisR ?_
  intro p e s m args below meth cd s₁ Bd hml0 hP hK
  obtain ⟨rfl, hZ, hh⟩ := hP
  have hx := Bd.exec
  have hby := Bd.bytes
  have hlk : meth.locks = false := BodyLoose.notSynchronized Bd
  have hml : cd.maxLocals = 5 := hml0
  have hown : s.vm.findClass "java/lang/Exception" = some m.cls := findClass_of_methodNamed Bd.named
  have hnm := (name_of_methodNamed Bd.named Bd.method).1
  have X0 : Stand p l e ({ frames := 2, cells := 0, slots := 0, locals := 28 } : Room) s m #[(.ref a), (.ref ms), .null, (.int (0 : Int32)), (.int (0 : Int32))] below meth cd s₁ [] 0 0 := Stand.of_body Bd
  have e0 : s₁.heap = h0 := by rw [← hh, Bd.state]; rfl
  have N0 := Fr.nil n0
  have K0 : Keep h0 h0 [a] := Keep.refl _ _
  have G : Go p e below s 0 0 (Qe Z a ms vu vl h0 n0) (s₁.setTop (mkF m 0 #[.val (.ref a), .val (.ref ms), .val .null, .val (.int (0 : Int32)), .val (.int (0 : Int32))] [])) := by
    show Go p e below s _ _ _ (s₁.setTop (mkF m 0 #[.val (.ref a), .val (.ref ms), .val .null, .val (.int (0 : Int32)), .val (.int (0 : Int32))] []))
    refine Go.st (fun _ kq_ => XS.aloadN X0.here hx rfl (hb hby de_0) rfl rfl kq_) ?_
    show Go p e below s _ _ _ (s₁.setTop (mkF m 1 #[.val (.ref a), .val (.ref ms), .val .null, .val (.int (0 : Int32)), .val (.int (0 : Int32))] [(.ref a)]))
    refine Go.st (fun _ kq_ => XS.aloadN X0.here hx rfl (hb hby de_1) rfl rfl kq_) ?_
    show Go p e below s _ _ _ (s₁.setTop (mkF m 2 #[.val (.ref a), .val (.ref ms), .val .null, .val (.int (0 : Int32)), .val (.int (0 : Int32))] [(.ref ms), (.ref a)]))
    refine Go.st (fun _ kq_ => XS.aloadN X0.here hx rfl (hb hby de_2) rfl rfl kq_) ?_
    show Go p e below s _ _ _ (s₁.setTop (mkF m 3 #[.val (.ref a), .val (.ref ms), .val .null, .val (.int (0 : Int32)), .val (.int (0 : Int32))] [.null, (.ref ms), (.ref a)]))
    refine Go.st (fun _ kq_ => XS.iloadN X0.here hx rfl (hb hby de_3) rfl kq_) ?_
    show Go p e below s _ _ _ (s₁.setTop (mkF m 4 #[.val (.ref a), .val (.ref ms), .val .null, .val (.int (0 : Int32)), .val (.int (0 : Int32))] [(.int (0 : Int32)), .null, (.ref ms), (.ref a)]))
    refine Go.st (fun _ kq_ => XS.iload X0.here hx rfl (hb hby de_4) rfl kq_) ?_
    show Go p e below s _ _ _ (s₁.setTop (mkF m 6 #[.val (.ref a), .val (.ref ms), .val .null, .val (.int (0 : Int32)), .val (.int (0 : Int32))] [(.int (0 : Int32)), (.int (0 : Int32)), .null, (.ref ms), (.ref a)]))
    obtain ⟨_, _, ⟨T1, L1, k1, n1⟩, -, X1, ⟨Lc1, hQ1, l1, y1, z1⟩, st1⟩ := X0.specialBack hx (y := (⟨"java/lang/Throwable", "<init>", "(Ljava/lang/String;Ljava/lang/Throwable;ZZ)V"⟩ : MethodName)) rfl hown (mvT hZ (own_w hw 60 rfl)) (mvT hZ (own_w hw 61 rfl)) (mvT hZ (own_w hw 65 rfl)) (by decide) (backOf (W := 0) (rmt l Z a0 hw [] a ms vu vl h0 n0 O0 E_a F_a_cause F_a_stackTrace F_a_suppressedExceptions F_a_detailMessage F_a_error F_a_id F_a_hasId ga SU ru SS rl) hZ (own_w hw 65 rfl) (own_w hw 64 rfl) (by decide) (by decide)) (g := (mkF m 6 #[.val (.ref a), .val (.ref ms), .val .null, .val (.int (0 : Int32)), .val (.int (0 : Int32))] [(.int (0 : Int32)), (.int (0 : Int32)), .null, (.ref ms), (.ref a)])) rfl (by rw [hml]; rfl) (Steps.refl _) (a := a) (argsL := [(.ref ms), .null, (.int (0 : Int32)), (.int (0 : Int32))]) (rest := []) (lenOf pde_0 rfl) rfl (by show 2 * 0 + _ ≤ _; exact Nat.le_of_eq rfl) (hb hby de_6) (fun _ _ => ⟨rfl, e0, (by decide : 0 + 0 ≤ _), (by decide : 0 + 0 ≤ _)⟩)
    dsimp only [Pt.U, Pt.locs, Pt.cells, Pt.slots] at X1 l1 y1 z1 st1 hQ1
    subst y1 z1
    obtain ⟨rfl, Nc1, Kc1, NE_a, NF_a_cause, NF_a_stackTrace, NF_a_suppressedExceptions, NF_a_detailMessage, NF_a_error, NF_a_id, NF_a_hasId⟩ := hQ1
    have N1 : Fr n0 L1 := by rw [l1]; exact Fr.app N0 Nc1
    have O1 := O0.keep Kc1 (allS ga all0)
    have K1 := K0.trans Kc1 (allS (Or.inl (List.mem_of_getElem? (i := 0) rfl)) all0)
    have E_a := NE_a
    have F_a_cause := NF_a_cause
    have F_a_stackTrace := NF_a_stackTrace
    have F_a_suppressedExceptions := NF_a_suppressedExceptions
    have F_a_detailMessage := NF_a_detailMessage
    have F_a_error := NF_a_error
    have F_a_id := NF_a_id
    have F_a_hasId := NF_a_hasId
    refine Go.tr st1 ?_
    show Go p e below s _ _ _ (T1.setTop (mkF m 9 #[.val (.ref a), .val (.ref ms), .val .null, .val (.int (0 : Int32)), .val (.int (0 : Int32))] []))
    exact Go.ret X1 hlk (none) (fun _ => rfl) (by exact ⟨rfl, N1, K1, E_a, F_a_cause, F_a_stackTrace, F_a_suppressedExceptions, F_a_detailMessage, F_a_error, F_a_id, F_a_hasId⟩) (by decide) (by decide) (fun fs hr => X1.returnOut hx Bd.returns (hb hby de_9) hr)
  obtain ⟨s2, o2, st2, r2⟩ := G
  exact ⟨s2, o2, castTop (efe m a ms (0 : Int32) (0 : Int32)) st2, r2⟩
theorem dr_0 : decode jdk_31_method_11_code 0 = .ok (.aload_n 0, 1) := by decide +kernel
theorem dr_1 : decode jdk_31_method_11_code 1 = .ok (.ifnonnull 12, 3) := by decide +kernel
theorem dr_13 : decode jdk_31_method_11_code 13 = .ok (.aload_n 0, 1) := by decide +kernel
theorem dr_14 : decode jdk_31_method_11_code 14 = .ok (.areturn, 1) := by decide +kernel
theorem pnr : plainName "java/util/Objects" = true := by first | (simp [plainName, overriddenIn]; done) | decide +kernel
theorem efr (m : MethodId) (x0 : Addr) (x1 : Addr) : entryFrame m #[(.ref x0), (.ref x1)] 2 = mkF m 0 #[.val (.ref x0), .val (.ref x1)] [] := by first | (simp [entryFrame, mkF, argsToLocals, Value.category, maxLocals]; done) | rfl
def Qr (Z : State) (x : Addr) (u : Addr) (h0 : Heap) (n0 : Nat) (v : Option Value) (h : Heap) (L : List Loc) : Prop := v = some (.ref x) ∧ Fr n0 L ∧ h = h0
set_option maxRecDepth 65536 in
set_option maxHeartbeats 40000000 in
theorem rmr (l : Launch) (Z : State) (a0 : Array Value) (hw : ∀ d ∈ tables_1, d.before a0 Z = true) (ws : List Jvm.Cond) (x : Addr) (u : Addr) (h0 : Heap) (n0 : Nat) (O0 : Old Z n0 h0)  :
    MetFree l (⟨"java/util/Objects", "requireNonNull", "(Ljava/lang/Object;Ljava/lang/String;)Ljava/lang/Object;"⟩ : MethodName) (head1 (Jvm.Cond.code (⟨"java/util/Objects", "requireNonNull", "(Ljava/lang/Object;Ljava/lang/String;)Ljava/lang/Object;"⟩ : MethodName) jdk_31_method_11_code 2 (some (.object "java/lang/Object")) :: ws) ({ frames := 0, cells := 0, slots := 0, locals := 0 } : Room)) (fun A_ U_ => A_ = #[(.ref x), (.ref u)] ∧ Z.Warmed39 U_.vm ∧ U_.heap = h0) (fun _ _ _ _ _ => True) (fun _ U o U' => ∃ v L, o = .returned v ∧ Qr Z x u h0 n0 v U'.heap L ∧ FrameEnd U o U' L ({ frames := 0, cells := 0, slots := 0, locals := 0 } : Room).cells ({ frames := 0, cells := 0, slots := 0, locals := 0 } : Room).slots) := by
  refine MetFree.of_bodySF (plainFor_of_name pnr) hisR ?_
  intro p e s m args below meth cd s₁ Bd hml0 hP hK
  obtain ⟨rfl, hZ, hh⟩ := hP
  have hx := Bd.exec
  have hby := Bd.bytes
  have hlk : meth.locks = false := BodyLoose.notSynchronized Bd
  have hml : cd.maxLocals = 2 := hml0
  have hown : s.vm.findClass "java/util/Objects" = some m.cls := findClass_of_methodNamed Bd.named
  have hnm := (name_of_methodNamed Bd.named Bd.method).1
  have X0 : Stand p l e ({ frames := 0, cells := 0, slots := 0, locals := 0 } : Room) s m #[(.ref x), (.ref u)] below meth cd s₁ [] 0 0 := Stand.of_body Bd
  have e0 : s₁.heap = h0 := by rw [← hh, Bd.state]; rfl
  have N0 := Fr.nil n0
  have G : Go p e below s 0 0 (Qr Z x u h0 n0) (s₁.setTop (mkF m 0 #[.val (.ref x), .val (.ref u)] [])) := by
    show Go p e below s _ _ _ (s₁.setTop (mkF m 0 #[.val (.ref x), .val (.ref u)] []))
    refine Go.st (fun _ kq_ => XS.aloadN X0.here hx rfl (hb hby dr_0) rfl rfl kq_) ?_
    show Go p e below s _ _ _ (s₁.setTop (mkF m 1 #[.val (.ref x), .val (.ref u)] [(.ref x)]))
    refine Go.st (fun _ kq_ => XT.ifnonnullYes X0.here hx rfl (pc0 := 1) (pc' := 13) rfl (hb hby dr_1) rfl (by decide) (by decide) kq_) ?_
    show Go p e below s _ _ _ (s₁.setTop (mkF m 13 #[.val (.ref x), .val (.ref u)] []))
    refine Go.st (fun _ kq_ => XS.aloadN X0.here hx rfl (hb hby dr_13) rfl rfl kq_) ?_
    show Go p e below s _ _ _ (s₁.setTop (mkF m 14 #[.val (.ref x), .val (.ref u)] [(.ref x)]))
    exact Go.ret X0 hlk (some (.ref x)) (fun h => by rw [Bd.returns] at h; cases h) (by rw [e0]; exact ⟨rfl, N0, rfl⟩) (by decide) (by decide) (fun fs hr => retOut X0 hx Bd.returns rfl (Or.inr (Or.inr (Or.inr (Or.inr ⟨rfl, rfl, rfl⟩)))) (hb hby dr_14) hr)
  obtain ⟨s2, o2, st2, r2⟩ := G
  exact ⟨s2, o2, castTop (efr m x u) st2, r2⟩
theorem df0_0 : decode prog_3_method_3_code 0 = .ok (.aload_n 0, 1) := by decide +kernel
theorem df0_1 : decode prog_3_method_3_code 1 = .ok (.aload 5, 2) := by decide +kernel
theorem df0_3 : decode prog_3_method_3_code 3 = .ok (.ldc 7, 2) := by decide +kernel
theorem df0_5 : decode prog_3_method_3_code 5 = .ok (.invokestatic 9, 3) := by decide +kernel
theorem df0_8 : decode prog_3_method_3_code 8 = .ok (.checkcast 15, 3) := by decide +kernel
theorem df0_11 : decode prog_3_method_3_code 11 = .ok (.aconst_null, 1) := by decide +kernel
theorem df0_12 : decode prog_3_method_3_code 12 = .ok (.iconst 0, 1) := by decide +kernel
theorem df0_13 : decode prog_3_method_3_code 13 = .ok (.iconst 0, 1) := by decide +kernel
theorem df0_14 : decode prog_3_method_3_code 14 = .ok (.invokespecial 17, 3) := by decide +kernel
theorem df0_17 : decode prog_3_method_3_code 17 = .ok (.aload_n 0, 1) := by decide +kernel
theorem df0_18 : decode prog_3_method_3_code 18 = .ok (.aload_n 1, 1) := by decide +kernel
theorem df0_19 : decode prog_3_method_3_code 19 = .ok (.ldc 22, 2) := by decide +kernel
theorem df0_21 : decode prog_3_method_3_code 21 = .ok (.invokestatic 9, 3) := by decide +kernel
theorem df0_24 : decode prog_3_method_3_code 24 = .ok (.checkcast 24, 3) := by decide +kernel
theorem df0_27 : decode prog_3_method_3_code 27 = .ok (.putfield 26, 3) := by decide +kernel
theorem df0_30 : decode prog_3_method_3_code 30 = .ok (.aload_n 0, 1) := by decide +kernel
theorem df0_31 : decode prog_3_method_3_code 31 = .ok (.lload_n 2, 1) := by decide +kernel
theorem df0_32 : decode prog_3_method_3_code 32 = .ok (.putfield 29, 3) := by decide +kernel
theorem df0_35 : decode prog_3_method_3_code 35 = .ok (.aload_n 0, 1) := by decide +kernel
theorem df0_36 : decode prog_3_method_3_code 36 = .ok (.iload 4, 2) := by decide +kernel
theorem df0_38 : decode prog_3_method_3_code 38 = .ok (.putfield 33, 3) := by decide +kernel
theorem df0_41 : decode prog_3_method_3_code 41 = .ok (.return_, 1) := by decide +kernel
theorem pdf0_0 : parseMethodDescriptor "(Ljava/lang/Object;Ljava/lang/String;)Ljava/lang/Object;" = some ⟨[(.object "java/lang/Object"), (.object "java/lang/String")], some (.object "java/lang/Object")⟩ := by decide +kernel
theorem pdf0_1 : parseMethodDescriptor "(Ljava/lang/String;Ljava/lang/Throwable;ZZ)V" = some ⟨[(.object "java/lang/String"), (.object "java/lang/Throwable"), .boolean, .boolean], none⟩ := by decide +kernel
theorem pnf0 : plainName "com/example/duplexwire/duplexwire/protocol/FrameException" = true := by first | (simp [plainName, overriddenIn]; done) | decide +kernel
theorem eff0 (m : MethodId) (x0 : Addr) (x1 : Addr) (x2 : Int64) (x3 : Int32) (x4 : Addr) : entryFrame m #[(.ref x0), (.ref x1), (.long x2), (.int x3), (.ref x4)] 6 = mkF m 0 #[.val (.ref x0), .val (.ref x1), .val (.long x2), .second, .val (.int x3), .val (.ref x4)] [] := by first | (simp [entryFrame, mkF, argsToLocals, Value.category, maxLocals]; done) | rfl
def Qf0 (Z : State) (a : Addr) (er : Addr) (ms : Addr) (vu : Value) (vl : Value) (h0 : Heap) (n0 : Nat) (v : Option Value) (h : Heap) (L : List Loc) : Prop := v = none ∧ Fr n0 L ∧ Keep h0 h [a] ∧ Exa Z h a "com/example/duplexwire/duplexwire/protocol/FrameException" ∧ Fld Z h a "java/lang/Throwable" "cause" "Ljava/lang/Throwable;" .null ∧ Fld Z h a "java/lang/Throwable" "stackTrace" "[Ljava/lang/StackTraceElement;" .null ∧ Fld Z h a "java/lang/Throwable" "suppressedExceptions" "Ljava/util/List;" .null ∧ Fld Z h a "java/lang/Throwable" "detailMessage" "Ljava/lang/String;" (.ref ms) ∧ Fld Z h a "com/example/duplexwire/duplexwire/protocol/FrameException" "error" "Lcom/example/duplexwire/duplexwire/protocol/ErrorCode;" (.ref er) ∧ Fld Z h a "com/example/duplexwire/duplexwire/protocol/FrameException" "id" "J" (.long (0 : Int64)) ∧ Fld Z h a "com/example/duplexwire/duplexwire/protocol/FrameException" "hasId" "Z" (.int (0 : Int32))
set_option maxRecDepth 65536 in
set_option maxHeartbeats 40000000 in
theorem rmf0 (l : Launch) (Z : State) (a0 : Array Value) (hw : ∀ d ∈ tables_1, d.before a0 Z = true) (ws : List Jvm.Cond) (a : Addr) (er : Addr) (ms : Addr) (vu : Value) (vl : Value) (h0 : Heap) (n0 : Nat) (O0 : Old Z n0 h0) (E_a : Exa Z h0 a "com/example/duplexwire/duplexwire/protocol/FrameException") (F_a_cause : Fld Z h0 a "java/lang/Throwable" "cause" "Ljava/lang/Throwable;" .null) (F_a_stackTrace : Fld Z h0 a "java/lang/Throwable" "stackTrace" "[Ljava/lang/StackTraceElement;" .null) (F_a_suppressedExceptions : Fld Z h0 a "java/lang/Throwable" "suppressedExceptions" "Ljava/util/List;" .null) (F_a_detailMessage : Fld Z h0 a "java/lang/Throwable" "detailMessage" "Ljava/lang/String;" .null) (F_a_error : Fld Z h0 a "com/example/duplexwire/duplexwire/protocol/FrameException" "error" "Lcom/example/duplexwire/duplexwire/protocol/ErrorCode;" .null) (F_a_id : Fld Z h0 a "com/example/duplexwire/duplexwire/protocol/FrameException" "id" "J" (.long (0 : Int64))) (F_a_hasId : Fld Z h0 a "com/example/duplexwire/duplexwire/protocol/FrameException" "hasId" "Z" (.int (0 : Int32))) (ga : n0 ≤ a) (EE : Exa Z h0 er "com/example/duplexwire/duplexwire/protocol/ErrorCode") (EM : Exa Z h0 ms "java/lang/String") (nae : a ≠ er) (nam : a ≠ ms) (SU : Sta Z Z.heap "java/lang/Throwable" "UNASSIGNED_STACK" "[Ljava/lang/StackTraceElement;" vu) (ru : vu.isRef = true) (SS : Sta Z Z.heap "java/lang/Throwable" "SUPPRESSED_SENTINEL" "Ljava/util/List;" vl) (rl : vl.isRef = true) :
    MetFree l (⟨"com/example/duplexwire/duplexwire/protocol/FrameException", "<init>", "(Lcom/example/duplexwire/duplexwire/protocol/ErrorCode;JZLjava/lang/String;)V"⟩ : MethodName) (head1 (Jvm.Cond.code (⟨"com/example/duplexwire/duplexwire/protocol/FrameException", "<init>", "(Lcom/example/duplexwire/duplexwire/protocol/ErrorCode;JZLjava/lang/String;)V"⟩ : MethodName) prog_3_method_3_code 6 none :: ws) ({ frames := 3, cells := 4, slots := 56, locals := 44 } : Room)) (fun A_ U_ => A_ = #[(.ref a), (.ref er), (.long (0 : Int64)), (.int (0 : Int32)), (.ref ms)] ∧ Z.Warmed39 U_.vm ∧ U_.heap = h0) (fun _ _ _ _ _ => True) (fun _ U o U' => ∃ v L, o = .returned v ∧ Qf0 Z a er ms vu vl h0 n0 v U'.heap L ∧ ReturnedEndW U o U' L ({ frames := 3, cells := 4, slots := 56, locals := 44 } : Room).cells ({ frames := 3, cells := 4, slots := 56, locals := 44 } : Room).slots) := by
  refine MetFree.of_bodySF (plainFor_of_name pnf0) hisR ?_
  intro p e s m args below meth cd s₁ Bd hml0 hP hK
  obtain ⟨rfl, hZ, hh⟩ := hP
  have hS0 : s.Since s.vm h0.size := State.WarmedH.since (State.WarmedH.refl s) _
  have hk0 : h0.size ≤ h0.size := Nat.le_refl _
  have hx := Bd.exec
  have hby := Bd.bytes
  have hlk : meth.locks = false := BodyLoose.notSynchronized Bd
  have hml : cd.maxLocals = 6 := hml0
  have hown : s.vm.findClass "com/example/duplexwire/duplexwire/protocol/FrameException" = some m.cls := findClass_of_methodNamed Bd.named
  have hnm := (name_of_methodNamed Bd.named Bd.method).1
  have X0 : Stand p l e ({ frames := 3, cells := 4, slots := 56, locals := 44 } : Room) s m #[(.ref a), (.ref er), (.long (0 : Int64)), (.int (0 : Int32)), (.ref ms)] below meth cd s₁ [] 0 0 := Stand.of_body Bd
  have e0 : s₁.heap = h0 := by rw [← hh, Bd.state]; rfl
  have N0 := Fr.nil n0
  have K0 : Keep h0 h0 [a] := Keep.refl _ _
  have wS : ∀ a ∈ Bundle.stringAtoms, a.before a0 Z = true := fun d hd => hw d ((by decide +kernel : ∀ d ∈ Bundle.stringAtoms, d ∈ tables_1) d hd)
  have G : GoW p e below s 4 56 (Qf0 Z a er ms vu vl h0 n0) (s₁.setTop (mkF m 0 #[.val (.ref a), .val (.ref er), .val (.long (0 : Int64)), .second, .val (.int (0 : Int32)), .val (.ref ms)] [])) := by
    show GoW p e below s _ _ _ (s₁.setTop (mkF m 0 #[.val (.ref a), .val (.ref er), .val (.long (0 : Int64)), .second, .val (.int (0 : Int32)), .val (.ref ms)] []))
    refine GoW.st (fun _ kq_ => XS.aloadN X0.here hx rfl (hb hby df0_0) rfl rfl kq_) ?_
    show GoW p e below s _ _ _ (s₁.setTop (mkF m 1 #[.val (.ref a), .val (.ref er), .val (.long (0 : Int64)), .second, .val (.int (0 : Int32)), .val (.ref ms)] [(.ref a)]))
    refine GoW.st (fun _ kq_ => XS.aload X0.here hx rfl (hb hby df0_1) rfl rfl kq_) ?_
    show GoW p e below s _ _ _ (s₁.setTop (mkF m 3 #[.val (.ref a), .val (.ref er), .val (.long (0 : Int64)), .second, .val (.int (0 : Int32)), .val (.ref ms)] [(.ref ms), (.ref a)]))
    obtain ⟨u1, T1, h1, kk1, X1, e1, E1, hS1, hk1, hZ1, hown1, st1⟩ := ldcS (vm0 := s.vm) X0 hx hZ hown (own_w hw 47 rfl) wS e0 hS0 hk0 (g := (mkF m 3 #[.val (.ref a), .val (.ref er), .val (.long (0 : Int64)), .second, .val (.int (0 : Int32)), .val (.ref ms)] [(.ref ms), (.ref a)])) rfl (hb hby df0_3) (n := 28) (by decide) (by decide) (by decide) (by decide)
    have E_a := E_a.ext E1
    have F_a_cause := F_a_cause.ext E1
    have F_a_stackTrace := F_a_stackTrace.ext E1
    have F_a_suppressedExceptions := F_a_suppressedExceptions.ext E1
    have F_a_detailMessage := F_a_detailMessage.ext E1
    have F_a_error := F_a_error.ext E1
    have F_a_id := F_a_id.ext E1
    have F_a_hasId := F_a_hasId.ext E1
    have EE := EE.ext E1
    have EM := EM.ext E1
    have O1 := O0.ext E1
    have K1 := K0.ext E1
    refine GoW.st st1 ?_
    show GoW p e below s _ _ _ (T1.setTop (mkF m 5 #[.val (.ref a), .val (.ref er), .val (.long (0 : Int64)), .second, .val (.int (0 : Int32)), .val (.ref ms)] [(.ref u1), (.ref ms), (.ref a)]))
    obtain ⟨_, _, ⟨T2, L2, k2, n2⟩, -, X2, ⟨Lc2, hQ2, l2, y2, z2⟩, st2⟩ := Jvm.LawKit.callS X1 hx (y := (⟨"java/util/Objects", "requireNonNull", "(Ljava/lang/Object;Ljava/lang/String;)Ljava/lang/Object;"⟩ : MethodName)) hown1 (mvT hZ1 (own_w hw 50 rfl)) (mvT hZ1 (own_w hw 51 rfl)) (mvT hZ1 (own_w hw 52 rfl)) (mvT hZ1 (own_w hw 53 rfl)) (by decide) (backOf (W := 1) (rmr l Z a0 hw [] ms u1 h1 n0 O1 ) hZ1 (own_w hw 53 rfl) (own_w hw 52 rfl) (by decide) (by decide)) (g := (mkF m 5 #[.val (.ref a), .val (.ref er), .val (.long (0 : Int64)), .second, .val (.int (0 : Int32)), .val (.ref ms)] [(.ref u1), (.ref ms), (.ref a)])) rfl (by rw [hml]; rfl) (argsL := [(.ref ms), (.ref u1)]) (rest := [(.ref a)]) (lenOf pdf0_0 rfl) rfl (by show 2 * 0 + _ ≤ _; exact Nat.le_of_eq rfl) (hb hby df0_5) (fun _ _ => ⟨rfl, e1, (by decide : 2 + 0 ≤ _), (by decide : 32 + 0 ≤ _)⟩)
    dsimp only [Pt.U, Pt.locs, Pt.cells, Pt.slots] at X2 l2 y2 z2 st2 hQ2
    subst y2 z2
    obtain ⟨rfl, Nc2, e2⟩ := hQ2
    have N2 : Fr n0 L2 := by rw [l2]; exact Fr.app N0 Nc2
    refine GoW.st st2 ?_
    show GoW p e below s _ _ _ (T2.setTop (mkF m 8 #[.val (.ref a), .val (.ref er), .val (.long (0 : Int64)), .second, .val (.int (0 : Int32)), .val (.ref ms)] [(.ref ms), (.ref a)]))
    obtain ⟨T3, X3, e3, st3⟩ := castY X2 hx hZ1 hown1 (own_w hw 54 rfl) e2 (Ins.self EM) (g := (mkF m 8 #[.val (.ref a), .val (.ref er), .val (.long (0 : Int64)), .second, .val (.int (0 : Int32)), .val (.ref ms)] [(.ref ms), (.ref a)])) rfl rfl (hb hby df0_8)
    refine GoW.st st3 ?_
    show GoW p e below s _ _ _ (T3.setTop (mkF m 11 #[.val (.ref a), .val (.ref er), .val (.long (0 : Int64)), .second, .val (.int (0 : Int32)), .val (.ref ms)] [(.ref ms), (.ref a)]))
    refine GoW.st (fun _ kq_ => XS.aconstNull X3.here hx rfl (hb hby df0_11) kq_) ?_
    show GoW p e below s _ _ _ (T3.setTop (mkF m 12 #[.val (.ref a), .val (.ref er), .val (.long (0 : Int64)), .second, .val (.int (0 : Int32)), .val (.ref ms)] [.null, (.ref ms), (.ref a)]))
    refine GoW.st (fun _ kq_ => XS.iconst X3.here hx rfl (hb hby df0_12) kq_) ?_
    show GoW p e below s _ _ _ (T3.setTop (mkF m 13 #[.val (.ref a), .val (.ref er), .val (.long (0 : Int64)), .second, .val (.int (0 : Int32)), .val (.ref ms)] [(.int (0 : Int32)), .null, (.ref ms), (.ref a)]))
    refine GoW.st (fun _ kq_ => XS.iconst X3.here hx rfl (hb hby df0_13) kq_) ?_
    show GoW p e below s _ _ _ (T3.setTop (mkF m 14 #[.val (.ref a), .val (.ref er), .val (.long (0 : Int64)), .second, .val (.int (0 : Int32)), .val (.ref ms)] [(.int (0 : Int32)), (.int (0 : Int32)), .null, (.ref ms), (.ref a)]))
    obtain ⟨_, _, ⟨T4, L4, k4, n4⟩, -, X4, ⟨Lc4, hQ4, l4, y4, z4⟩, st4⟩ := X3.specialBack hx (y := (⟨"java/lang/Exception", "<init>", "(Ljava/lang/String;Ljava/lang/Throwable;ZZ)V"⟩ : MethodName)) rfl hown1 (mvT hZ1 (own_w hw 55 rfl)) (mvT hZ1 (own_w hw 56 rfl)) (mvT hZ1 (own_w hw 59 rfl)) (by decide) (backOf (W := 0) (rme l Z a0 hw [] a ms vu vl h1 n0 O1 E_a F_a_cause F_a_stackTrace F_a_suppressedExceptions F_a_detailMessage F_a_error F_a_id F_a_hasId ga SU ru SS rl) hZ1 (own_w hw 59 rfl) (own_w hw 58 rfl) (by decide) (by decide)) (g := (mkF m 14 #[.val (.ref a), .val (.ref er), .val (.long (0 : Int64)), .second, .val (.int (0 : Int32)), .val (.ref ms)] [(.int (0 : Int32)), (.int (0 : Int32)), .null, (.ref ms), (.ref a)])) rfl (by rw [hml]; rfl) (Steps.refl _) (a := a) (argsL := [(.ref ms), .null, (.int (0 : Int32)), (.int (0 : Int32))]) (rest := []) (lenOf pdf0_1 rfl) rfl (by show 2 * 0 + _ ≤ _; exact Nat.le_of_eq rfl) (hb hby df0_14) (fun _ _ => ⟨rfl, e3, (by decide : 2 + 0 ≤ _), (by decide : 32 + 0 ≤ _)⟩)
    dsimp only [Pt.U, Pt.locs, Pt.cells, Pt.slots] at X4 l4 y4 z4 st4 hQ4
    subst y4 z4
    obtain ⟨rfl, Nc4, Kc4, NE_a, NF_a_cause, NF_a_stackTrace, NF_a_suppressedExceptions, NF_a_detailMessage, NF_a_error, NF_a_id, NF_a_hasId⟩ := hQ4
    have N4 : Fr n0 L4 := by rw [l4]; exact Fr.app N2 Nc4
    have EE := EE.keep Kc4
    have EM := EM.keep Kc4
    have hk4 := Nat.le_trans hk1 Kc4.1
    have O4 := O1.keep Kc4 (allS ga all0)
    have K4 := K1.trans Kc4 (allS (Or.inl (List.mem_of_getElem? (i := 0) rfl)) all0)
    have E_a := NE_a
    have F_a_cause := NF_a_cause
    have F_a_stackTrace := NF_a_stackTrace
    have F_a_suppressedExceptions := NF_a_suppressedExceptions
    have F_a_detailMessage := NF_a_detailMessage
    have F_a_error := NF_a_error
    have F_a_id := NF_a_id
    have F_a_hasId := NF_a_hasId
    refine GoW.tr st4 ?_
    show GoW p e below s _ _ _ (T4.setTop (mkF m 17 #[.val (.ref a), .val (.ref er), .val (.long (0 : Int64)), .second, .val (.int (0 : Int32)), .val (.ref ms)] []))
    refine GoW.st (fun _ kq_ => XS.aloadN X4.here hx rfl (hb hby df0_17) rfl rfl kq_) ?_
    show GoW p e below s _ _ _ (T4.setTop (mkF m 18 #[.val (.ref a), .val (.ref er), .val (.long (0 : Int64)), .second, .val (.int (0 : Int32)), .val (.ref ms)] [(.ref a)]))
    refine GoW.st (fun _ kq_ => XS.aloadN X4.here hx rfl (hb hby df0_18) rfl rfl kq_) ?_
    show GoW p e below s _ _ _ (T4.setTop (mkF m 19 #[.val (.ref a), .val (.ref er), .val (.long (0 : Int64)), .second, .val (.int (0 : Int32)), .val (.ref ms)] [(.ref er), (.ref a)]))
    obtain ⟨u5, T5, h5, kk5, X5, e5, E5, hS5, hk5, hZ5, hown5, st5⟩ := ldcS (vm0 := T1.vm) X4 hx hZ1 hown1 (own_w hw 77 rfl) wS rfl hS1 hk4 (g := (mkF m 19 #[.val (.ref a), .val (.ref er), .val (.long (0 : Int64)), .second, .val (.int (0 : Int32)), .val (.ref ms)] [(.ref er), (.ref a)])) rfl (hb hby df0_19) (n := 20) (by decide) (by decide) (by decide) (by decide)
    have EE := EE.ext E5
    have EM := EM.ext E5
    have E_a := E_a.ext E5
    have F_a_cause := F_a_cause.ext E5
    have F_a_stackTrace := F_a_stackTrace.ext E5
    have F_a_suppressedExceptions := F_a_suppressedExceptions.ext E5
    have F_a_detailMessage := F_a_detailMessage.ext E5
    have F_a_error := F_a_error.ext E5
    have F_a_id := F_a_id.ext E5
    have F_a_hasId := F_a_hasId.ext E5
    have O5 := O4.ext E5
    have K5 := K4.ext E5
    refine GoW.st st5 ?_
    show GoW p e below s _ _ _ (T5.setTop (mkF m 21 #[.val (.ref a), .val (.ref er), .val (.long (0 : Int64)), .second, .val (.int (0 : Int32)), .val (.ref ms)] [(.ref u5), (.ref er), (.ref a)]))
    obtain ⟨_, _, ⟨T6, L6, k6, n6⟩, -, X6, ⟨Lc6, hQ6, l6, y6, z6⟩, st6⟩ := Jvm.LawKit.callS X5 hx (y := (⟨"java/util/Objects", "requireNonNull", "(Ljava/lang/Object;Ljava/lang/String;)Ljava/lang/Object;"⟩ : MethodName)) hown5 (mvT hZ5 (own_w hw 50 rfl)) (mvT hZ5 (own_w hw 51 rfl)) (mvT hZ5 (own_w hw 52 rfl)) (mvT hZ5 (own_w hw 53 rfl)) (by decide) (backOf (W := 1) (rmr l Z a0 hw [] er u5 h5 n0 O5 ) hZ5 (own_w hw 53 rfl) (own_w hw 52 rfl) (by decide) (by decide)) (g := (mkF m 21 #[.val (.ref a), .val (.ref er), .val (.long (0 : Int64)), .second, .val (.int (0 : Int32)), .val (.ref ms)] [(.ref u5), (.ref er), (.ref a)])) rfl (by rw [hml]; rfl) (argsL := [(.ref er), (.ref u5)]) (rest := [(.ref a)]) (lenOf pdf0_0 rfl) rfl (by show 2 * 0 + _ ≤ _; exact Nat.le_of_eq rfl) (hb hby df0_21) (fun _ _ => ⟨rfl, e5, (by decide : 4 + 0 ≤ _), (by decide : 56 + 0 ≤ _)⟩)
    dsimp only [Pt.U, Pt.locs, Pt.cells, Pt.slots] at X6 l6 y6 z6 st6 hQ6
    subst y6 z6
    obtain ⟨rfl, Nc6, e6⟩ := hQ6
    have N6 : Fr n0 L6 := by rw [l6]; exact Fr.app N4 Nc6
    refine GoW.st st6 ?_
    show GoW p e below s _ _ _ (T6.setTop (mkF m 24 #[.val (.ref a), .val (.ref er), .val (.long (0 : Int64)), .second, .val (.int (0 : Int32)), .val (.ref ms)] [(.ref er), (.ref a)]))
    obtain ⟨T7, X7, e7, st7⟩ := castY X6 hx hZ5 hown5 (own_w hw 78 rfl) e6 (Ins.self EE) (g := (mkF m 24 #[.val (.ref a), .val (.ref er), .val (.long (0 : Int64)), .second, .val (.int (0 : Int32)), .val (.ref ms)] [(.ref er), (.ref a)])) rfl rfl (hb hby df0_24)
    refine GoW.st st7 ?_
    show GoW p e below s _ _ _ (T7.setTop (mkF m 27 #[.val (.ref a), .val (.ref er), .val (.long (0 : Int64)), .second, .val (.int (0 : Int32)), .val (.ref ms)] [(.ref er), (.ref a)]))
    obtain ⟨T8, h8, X8, e8, W8, st8⟩ := putF X7 hx hZ5 hown5 (host := "") (Or.inl (own_w hw 80 rfl)) Via.refl e7 F_a_error E_a (Or.inr ⟨(own_w hw 81 rfl), rfl, hnm⟩) (own_w hw 39 rfl) (ty := (.object "com/example/duplexwire/duplexwire/protocol/ErrorCode")) (by decide) rfl rfl (g := (mkF m 27 #[.val (.ref a), .val (.ref er), .val (.long (0 : Int64)), .second, .val (.int (0 : Int32)), .val (.ref ms)] [(.ref er), (.ref a)])) rfl rfl (hb hby df0_27)
    obtain ⟨lc8, X8, N8⟩ := own_gen X8 (Fr.snoc X8 N6 ga)
    have O8 := O5.wr W8 ga
    have K8 := K5.wr W8 (Or.inl (List.mem_of_getElem? (i := 0) rfl))
    have EE := EE.wr W8
    have EM := EM.wr W8
    have E_a := E_a.wr W8
    have F_a_cause := F_a_cause.other W8 (Or.inr (slot_ne (Or.inl (own_w hw 68 rfl)) (Or.inr (own_w hw 81 rfl)) (by decide) (by decide : parseFieldDescriptor "Ljava/lang/Throwable;" = some (.object "java/lang/Throwable")) (by decide : parseFieldDescriptor "Lcom/example/duplexwire/duplexwire/protocol/ErrorCode;" = some (.object "com/example/duplexwire/duplexwire/protocol/ErrorCode"))))
    have F_a_stackTrace := F_a_stackTrace.other W8 (Or.inr (slot_ne (Or.inl (own_w hw 71 rfl)) (Or.inr (own_w hw 81 rfl)) (by decide) (by decide : parseFieldDescriptor "[Ljava/lang/StackTraceElement;" = some (.array (.object "java/lang/StackTraceElement"))) (by decide : parseFieldDescriptor "Lcom/example/duplexwire/duplexwire/protocol/ErrorCode;" = some (.object "com/example/duplexwire/duplexwire/protocol/ErrorCode"))))
    have F_a_suppressedExceptions := F_a_suppressedExceptions.other W8 (Or.inr (slot_ne (Or.inl (own_w hw 74 rfl)) (Or.inr (own_w hw 81 rfl)) (by decide) (by decide : parseFieldDescriptor "Ljava/util/List;" = some (.object "java/util/List")) (by decide : parseFieldDescriptor "Lcom/example/duplexwire/duplexwire/protocol/ErrorCode;" = some (.object "com/example/duplexwire/duplexwire/protocol/ErrorCode"))))
    have F_a_detailMessage := F_a_detailMessage.other W8 (Or.inr (slot_ne (Or.inl (own_w hw 76 rfl)) (Or.inr (own_w hw 81 rfl)) (by decide) (by decide : parseFieldDescriptor "Ljava/lang/String;" = some (.object "java/lang/String")) (by decide : parseFieldDescriptor "Lcom/example/duplexwire/duplexwire/protocol/ErrorCode;" = some (.object "com/example/duplexwire/duplexwire/protocol/ErrorCode"))))
    have F_a_id := F_a_id.other W8 (Or.inr (slot_ne (Or.inr (own_w hw 83 rfl)) (Or.inr (own_w hw 81 rfl)) (by decide) (by decide : parseFieldDescriptor "J" = some .long) (by decide : parseFieldDescriptor "Lcom/example/duplexwire/duplexwire/protocol/ErrorCode;" = some (.object "com/example/duplexwire/duplexwire/protocol/ErrorCode"))))
    have F_a_hasId := F_a_hasId.other W8 (Or.inr (slot_ne (Or.inr (own_w hw 85 rfl)) (Or.inr (own_w hw 81 rfl)) (by decide) (by decide : parseFieldDescriptor "Z" = some .boolean) (by decide : parseFieldDescriptor "Lcom/example/duplexwire/duplexwire/protocol/ErrorCode;" = some (.object "com/example/duplexwire/duplexwire/protocol/ErrorCode"))))
    have hk8 := Nat.le_trans hk5 (Nat.le_of_eq W8.size.symm)
    have F_a_error := F_a_error.same W8
    refine GoW.st st8 ?_
    show GoW p e below s _ _ _ (T8.setTop (mkF m 30 #[.val (.ref a), .val (.ref er), .val (.long (0 : Int64)), .second, .val (.int (0 : Int32)), .val (.ref ms)] []))
    refine GoW.st (fun _ kq_ => XS.aloadN X8.here hx rfl (hb hby df0_30) rfl rfl kq_) ?_
    show GoW p e below s _ _ _ (T8.setTop (mkF m 31 #[.val (.ref a), .val (.ref er), .val (.long (0 : Int64)), .second, .val (.int (0 : Int32)), .val (.ref ms)] [(.ref a)]))
    refine GoW.st (fun _ kq_ => XT.lloadN X8.here hx rfl (hb hby df0_31) rfl kq_) ?_
    show GoW p e below s _ _ _ (T8.setTop (mkF m 32 #[.val (.ref a), .val (.ref er), .val (.long (0 : Int64)), .second, .val (.int (0 : Int32)), .val (.ref ms)] [(.long (0 : Int64)), (.ref a)]))
    obtain ⟨T9, h9, X9, e9, W9, st9⟩ := putF X8 hx hZ5 hown5 (host := "") (Or.inl (own_w hw 82 rfl)) Via.refl e8 F_a_id E_a (Or.inr ⟨(own_w hw 83 rfl), rfl, hnm⟩) (own_w hw 39 rfl) (ty := .long) (by decide) rfl rfl (g := (mkF m 32 #[.val (.ref a), .val (.ref er), .val (.long (0 : Int64)), .second, .val (.int (0 : Int32)), .val (.ref ms)] [(.long (0 : Int64)), (.ref a)])) rfl rfl (hb hby df0_32)
    obtain ⟨lc9, X9, N9⟩ := own_gen X9 (Fr.snoc X9 N8 ga)
    have O9 := O8.wr W9 ga
    have K9 := K8.wr W9 (Or.inl (List.mem_of_getElem? (i := 0) rfl))
    have EE := EE.wr W9
    have EM := EM.wr W9
    have E_a := E_a.wr W9
    have F_a_cause := F_a_cause.other W9 (Or.inr (slot_ne (Or.inl (own_w hw 68 rfl)) (Or.inr (own_w hw 83 rfl)) (by decide) (by decide : parseFieldDescriptor "Ljava/lang/Throwable;" = some (.object "java/lang/Throwable")) (by decide : parseFieldDescriptor "J" = some .long)))
    have F_a_stackTrace := F_a_stackTrace.other W9 (Or.inr (slot_ne (Or.inl (own_w hw 71 rfl)) (Or.inr (own_w hw 83 rfl)) (by decide) (by decide : parseFieldDescriptor "[Ljava/lang/StackTraceElement;" = some (.array (.object "java/lang/StackTraceElement"))) (by decide : parseFieldDescriptor "J" = some .long)))
    have F_a_suppressedExceptions := F_a_suppressedExceptions.other W9 (Or.inr (slot_ne (Or.inl (own_w hw 74 rfl)) (Or.inr (own_w hw 83 rfl)) (by decide) (by decide : parseFieldDescriptor "Ljava/util/List;" = some (.object "java/util/List")) (by decide : parseFieldDescriptor "J" = some .long)))
    have F_a_detailMessage := F_a_detailMessage.other W9 (Or.inr (slot_ne (Or.inl (own_w hw 76 rfl)) (Or.inr (own_w hw 83 rfl)) (by decide) (by decide : parseFieldDescriptor "Ljava/lang/String;" = some (.object "java/lang/String")) (by decide : parseFieldDescriptor "J" = some .long)))
    have F_a_error := F_a_error.other W9 (Or.inr (slot_ne (Or.inr (own_w hw 81 rfl)) (Or.inr (own_w hw 83 rfl)) (by decide) (by decide : parseFieldDescriptor "Lcom/example/duplexwire/duplexwire/protocol/ErrorCode;" = some (.object "com/example/duplexwire/duplexwire/protocol/ErrorCode")) (by decide : parseFieldDescriptor "J" = some .long)))
    have F_a_hasId := F_a_hasId.other W9 (Or.inr (slot_ne (Or.inr (own_w hw 85 rfl)) (Or.inr (own_w hw 83 rfl)) (by decide) (by decide : parseFieldDescriptor "Z" = some .boolean) (by decide : parseFieldDescriptor "J" = some .long)))
    have hk9 := Nat.le_trans hk8 (Nat.le_of_eq W9.size.symm)
    have F_a_id := F_a_id.same W9
    refine GoW.st st9 ?_
    show GoW p e below s _ _ _ (T9.setTop (mkF m 35 #[.val (.ref a), .val (.ref er), .val (.long (0 : Int64)), .second, .val (.int (0 : Int32)), .val (.ref ms)] []))
    refine GoW.st (fun _ kq_ => XS.aloadN X9.here hx rfl (hb hby df0_35) rfl rfl kq_) ?_
    show GoW p e below s _ _ _ (T9.setTop (mkF m 36 #[.val (.ref a), .val (.ref er), .val (.long (0 : Int64)), .second, .val (.int (0 : Int32)), .val (.ref ms)] [(.ref a)]))
    refine GoW.st (fun _ kq_ => XS.iload X9.here hx rfl (hb hby df0_36) rfl kq_) ?_
    show GoW p e below s _ _ _ (T9.setTop (mkF m 38 #[.val (.ref a), .val (.ref er), .val (.long (0 : Int64)), .second, .val (.int (0 : Int32)), .val (.ref ms)] [(.int (0 : Int32)), (.ref a)]))
    obtain ⟨T10, h10, X10, e10, W10, st10⟩ := putF X9 hx hZ5 hown5 (host := "") (Or.inl (own_w hw 84 rfl)) Via.refl e9 F_a_hasId E_a (Or.inr ⟨(own_w hw 85 rfl), rfl, hnm⟩) (own_w hw 39 rfl) (ty := .boolean) (by decide) rfl rfl (g := (mkF m 38 #[.val (.ref a), .val (.ref er), .val (.long (0 : Int64)), .second, .val (.int (0 : Int32)), .val (.ref ms)] [(.int (0 : Int32)), (.ref a)])) rfl rfl (hb hby df0_38)
    obtain ⟨lc10, X10, N10⟩ := own_gen X10 (Fr.snoc X10 N9 ga)
    have O10 := O9.wr W10 ga
    have K10 := K9.wr W10 (Or.inl (List.mem_of_getElem? (i := 0) rfl))
    have EE := EE.wr W10
    have EM := EM.wr W10
    have E_a := E_a.wr W10
    have F_a_cause := F_a_cause.other W10 (Or.inr (slot_ne (Or.inl (own_w hw 68 rfl)) (Or.inr (own_w hw 85 rfl)) (by decide) (by decide : parseFieldDescriptor "Ljava/lang/Throwable;" = some (.object "java/lang/Throwable")) (by decide : parseFieldDescriptor "Z" = some .boolean)))
    have F_a_stackTrace := F_a_stackTrace.other W10 (Or.inr (slot_ne (Or.inl (own_w hw 71 rfl)) (Or.inr (own_w hw 85 rfl)) (by decide) (by decide : parseFieldDescriptor "[Ljava/lang/StackTraceElement;" = some (.array (.object "java/lang/StackTraceElement"))) (by decide : parseFieldDescriptor "Z" = some .boolean)))
    have F_a_suppressedExceptions := F_a_suppressedExceptions.other W10 (Or.inr (slot_ne (Or.inl (own_w hw 74 rfl)) (Or.inr (own_w hw 85 rfl)) (by decide) (by decide : parseFieldDescriptor "Ljava/util/List;" = some (.object "java/util/List")) (by decide : parseFieldDescriptor "Z" = some .boolean)))
    have F_a_detailMessage := F_a_detailMessage.other W10 (Or.inr (slot_ne (Or.inl (own_w hw 76 rfl)) (Or.inr (own_w hw 85 rfl)) (by decide) (by decide : parseFieldDescriptor "Ljava/lang/String;" = some (.object "java/lang/String")) (by decide : parseFieldDescriptor "Z" = some .boolean)))
    have F_a_error := F_a_error.other W10 (Or.inr (slot_ne (Or.inr (own_w hw 81 rfl)) (Or.inr (own_w hw 85 rfl)) (by decide) (by decide : parseFieldDescriptor "Lcom/example/duplexwire/duplexwire/protocol/ErrorCode;" = some (.object "com/example/duplexwire/duplexwire/protocol/ErrorCode")) (by decide : parseFieldDescriptor "Z" = some .boolean)))
    have F_a_id := F_a_id.other W10 (Or.inr (slot_ne (Or.inr (own_w hw 83 rfl)) (Or.inr (own_w hw 85 rfl)) (by decide) (by decide : parseFieldDescriptor "J" = some .long) (by decide : parseFieldDescriptor "Z" = some .boolean)))
    have hk10 := Nat.le_trans hk9 (Nat.le_of_eq W10.size.symm)
    have F_a_hasId := F_a_hasId.same W10
    refine GoW.st st10 ?_
    show GoW p e below s _ _ _ (T10.setTop (mkF m 41 #[.val (.ref a), .val (.ref er), .val (.long (0 : Int64)), .second, .val (.int (0 : Int32)), .val (.ref ms)] []))
    exact GoW.ret (vm1 := T5.vm) X10 hlk hS5 (by rw [e10]; exact hk10) (none) (fun _ => rfl) (by rw [e10]; exact ⟨rfl, N10, K10, E_a, F_a_cause, F_a_stackTrace, F_a_suppressedExceptions, F_a_detailMessage, F_a_error, F_a_id, F_a_hasId⟩) (by decide) (by decide) (fun fs hr => X10.returnOut hx Bd.returns (hb hby df0_41) hr)
  obtain ⟨s2, o2, st2, r2⟩ := G
  exact ⟨s2, o2, castTop (eff0 m a er (0 : Int64) (0 : Int32) ms) st2, r2⟩
theorem ds0_0 : decode prog_3_method_1_code 0 = .ok (.aload_n 0, 1) := by decide +kernel
theorem ds0_1 : decode prog_3_method_1_code 1 = .ok (.aload_n 1, 1) := by decide +kernel
theorem ds0_2 : decode prog_3_method_1_code 2 = .ok (.lconst 0, 1) := by decide +kernel
theorem ds0_3 : decode prog_3_method_1_code 3 = .ok (.iconst 0, 1) := by decide +kernel
theorem ds0_4 : decode prog_3_method_1_code 4 = .ok (.aload_n 2, 1) := by decide +kernel
theorem ds0_5 : decode prog_3_method_1_code 5 = .ok (.invokespecial 1, 3) := by decide +kernel
theorem ds0_8 : decode prog_3_method_1_code 8 = .ok (.return_, 1) := by decide +kernel
theorem pds0_0 : parseMethodDescriptor "(Lcom/example/duplexwire/duplexwire/protocol/ErrorCode;JZLjava/lang/String;)V" = some ⟨[(.object "com/example/duplexwire/duplexwire/protocol/ErrorCode"), .long, .boolean, (.object "java/lang/String")], none⟩ := by decide +kernel
theorem pns0 : plainName "com/example/duplexwire/duplexwire/protocol/FrameException" = true := by first | (simp [plainName, overriddenIn]; done) | decide +kernel
theorem efs0 (m : MethodId) (x0 : Addr) (x1 : Addr) (x2 : Addr) : entryFrame m #[(.ref x0), (.ref x1), (.ref x2)] 3 = mkF m 0 #[.val (.ref x0), .val (.ref x1), .val (.ref x2)] [] := by first | (simp [entryFrame, mkF, argsToLocals, Value.category, maxLocals]; done) | rfl
def Qs0 (Z : State) (a : Addr) (er : Addr) (ms : Addr) (vu : Value) (vl : Value) (h0 : Heap) (n0 : Nat) (v : Option Value) (h : Heap) (L : List Loc) : Prop := v = none ∧ Fr n0 L ∧ Keep h0 h [a] ∧ Exa Z h a "com/example/duplexwire/duplexwire/protocol/FrameException" ∧ Fld Z h a "java/lang/Throwable" "cause" "Ljava/lang/Throwable;" .null ∧ Fld Z h a "java/lang/Throwable" "stackTrace" "[Ljava/lang/StackTraceElement;" .null ∧ Fld Z h a "java/lang/Throwable" "suppressedExceptions" "Ljava/util/List;" .null ∧ Fld Z h a "java/lang/Throwable" "detailMessage" "Ljava/lang/String;" (.ref ms) ∧ Fld Z h a "com/example/duplexwire/duplexwire/protocol/FrameException" "error" "Lcom/example/duplexwire/duplexwire/protocol/ErrorCode;" (.ref er) ∧ Fld Z h a "com/example/duplexwire/duplexwire/protocol/FrameException" "id" "J" (.long (0 : Int64)) ∧ Fld Z h a "com/example/duplexwire/duplexwire/protocol/FrameException" "hasId" "Z" (.int (0 : Int32))
set_option maxRecDepth 65536 in
set_option maxHeartbeats 40000000 in
theorem rms0 (l : Launch) (Z : State) (a0 : Array Value) (hw : ∀ d ∈ tables_1, d.before a0 Z = true) (ws : List Jvm.Cond) (a : Addr) (er : Addr) (ms : Addr) (vu : Value) (vl : Value) (h0 : Heap) (n0 : Nat) (O0 : Old Z n0 h0) (E_a : Exa Z h0 a "com/example/duplexwire/duplexwire/protocol/FrameException") (F_a_cause : Fld Z h0 a "java/lang/Throwable" "cause" "Ljava/lang/Throwable;" .null) (F_a_stackTrace : Fld Z h0 a "java/lang/Throwable" "stackTrace" "[Ljava/lang/StackTraceElement;" .null) (F_a_suppressedExceptions : Fld Z h0 a "java/lang/Throwable" "suppressedExceptions" "Ljava/util/List;" .null) (F_a_detailMessage : Fld Z h0 a "java/lang/Throwable" "detailMessage" "Ljava/lang/String;" .null) (F_a_error : Fld Z h0 a "com/example/duplexwire/duplexwire/protocol/FrameException" "error" "Lcom/example/duplexwire/duplexwire/protocol/ErrorCode;" .null) (F_a_id : Fld Z h0 a "com/example/duplexwire/duplexwire/protocol/FrameException" "id" "J" (.long (0 : Int64))) (F_a_hasId : Fld Z h0 a "com/example/duplexwire/duplexwire/protocol/FrameException" "hasId" "Z" (.int (0 : Int32))) (ga : n0 ≤ a) (EE : Exa Z h0 er "com/example/duplexwire/duplexwire/protocol/ErrorCode") (EM : Exa Z h0 ms "java/lang/String") (nae : a ≠ er) (nam : a ≠ ms) (SU : Sta Z Z.heap "java/lang/Throwable" "UNASSIGNED_STACK" "[Ljava/lang/StackTraceElement;" vu) (ru : vu.isRef = true) (SS : Sta Z Z.heap "java/lang/Throwable" "SUPPRESSED_SENTINEL" "Ljava/util/List;" vl) (rl : vl.isRef = true) :
    MetFree l (⟨"com/example/duplexwire/duplexwire/protocol/FrameException", "<init>", "(Lcom/example/duplexwire/duplexwire/protocol/ErrorCode;Ljava/lang/String;)V"⟩ : MethodName) (head1 (Jvm.Cond.code (⟨"com/example/duplexwire/duplexwire/protocol/FrameException", "<init>", "(Lcom/example/duplexwire/duplexwire/protocol/ErrorCode;Ljava/lang/String;)V"⟩ : MethodName) prog_3_method_1_code 3 none :: ws) ({ frames := 4, cells := 4, slots := 56, locals := 61 } : Room)) (fun A_ U_ => A_ = #[(.ref a), (.ref er), (.ref ms)] ∧ Z.Warmed39 U_.vm ∧ U_.heap = h0) (fun _ _ _ _ _ => True) (fun _ U o U' => ∃ v L, o = .returned v ∧ Qs0 Z a er ms vu vl h0 n0 v U'.heap L ∧ ReturnedEndW U o U' L ({ frames := 4, cells := 4, slots := 56, locals := 61 } : Room).cells ({ frames := 4, cells := 4, slots := 56, locals := 61 } : Room).slots) := by
  refine MetFree.of_bodySF (plainFor_of_name pns0) hisR ?_
  intro p e s m args below meth cd s₁ Bd hml0 hP hK
  obtain ⟨rfl, hZ, hh⟩ := hP
  have hS0 : s.Since s.vm h0.size := State.WarmedH.since (State.WarmedH.refl s) _
  have hk0 : h0.size ≤ h0.size := Nat.le_refl _
  have hx := Bd.exec
  have hby := Bd.bytes
  have hlk : meth.locks = false := BodyLoose.notSynchronized Bd
  have hml : cd.maxLocals = 3 := hml0
  have hown : s.vm.findClass "com/example/duplexwire/duplexwire/protocol/FrameException" = some m.cls := findClass_of_methodNamed Bd.named
  have hnm := (name_of_methodNamed Bd.named Bd.method).1
  have X0 : Stand p l e ({ frames := 4, cells := 4, slots := 56, locals := 61 } : Room) s m #[(.ref a), (.ref er), (.ref ms)] below meth cd s₁ [] 0 0 := Stand.of_body Bd
  have e0 : s₁.heap = h0 := by rw [← hh, Bd.state]; rfl
  have N0 := Fr.nil n0
  have K0 : Keep h0 h0 [a] := Keep.refl _ _
  have G : GoW p e below s 4 56 (Qs0 Z a er ms vu vl h0 n0) (s₁.setTop (mkF m 0 #[.val (.ref a), .val (.ref er), .val (.ref ms)] [])) := by
    show GoW p e below s _ _ _ (s₁.setTop (mkF m 0 #[.val (.ref a), .val (.ref er), .val (.ref ms)] []))
    refine GoW.st (fun _ kq_ => XS.aloadN X0.here hx rfl (hb hby ds0_0) rfl rfl kq_) ?_
    show GoW p e below s _ _ _ (s₁.setTop (mkF m 1 #[.val (.ref a), .val (.ref er), .val (.ref ms)] [(.ref a)]))
    refine GoW.st (fun _ kq_ => XS.aloadN X0.here hx rfl (hb hby ds0_1) rfl rfl kq_) ?_
    show GoW p e below s _ _ _ (s₁.setTop (mkF m 2 #[.val (.ref a), .val (.ref er), .val (.ref ms)] [(.ref er), (.ref a)]))
    refine GoW.st (fun _ kq_ => XT.lconst X0.here hx rfl (hb hby ds0_2) kq_) ?_
    show GoW p e below s _ _ _ (s₁.setTop (mkF m 3 #[.val (.ref a), .val (.ref er), .val (.ref ms)] [(.long (0 : Int64)), (.ref er), (.ref a)]))
    refine GoW.st (fun _ kq_ => XS.iconst X0.here hx rfl (hb hby ds0_3) kq_) ?_
    show GoW p e below s _ _ _ (s₁.setTop (mkF m 4 #[.val (.ref a), .val (.ref er), .val (.ref ms)] [(.int (0 : Int32)), (.long (0 : Int64)), (.ref er), (.ref a)]))
    refine GoW.st (fun _ kq_ => XS.aloadN X0.here hx rfl (hb hby ds0_4) rfl rfl kq_) ?_
    show GoW p e below s _ _ _ (s₁.setTop (mkF m 5 #[.val (.ref a), .val (.ref er), .val (.ref ms)] [(.ref ms), (.int (0 : Int32)), (.long (0 : Int64)), (.ref er), (.ref a)]))
    obtain ⟨_, _, ⟨T1, L1, k1, n1⟩, -, X1, hSn1, gr1, ⟨Lc1, hQ1, l1, y1, z1⟩, st1⟩ := X0.specialBackS hx (y := (⟨"com/example/duplexwire/duplexwire/protocol/FrameException", "<init>", "(Lcom/example/duplexwire/duplexwire/protocol/ErrorCode;JZLjava/lang/String;)V"⟩ : MethodName)) rfl hown (mvT hZ (own_w hw 44 rfl)) (mvT hZ (own_w hw 45 rfl)) (mvT hZ (own_w hw 46 rfl)) (by decide) (backOfS (W := 0) (rmf0 l Z a0 hw [] a er ms vu vl h0 n0 O0 E_a F_a_cause F_a_stackTrace F_a_suppressedExceptions F_a_detailMessage F_a_error F_a_id F_a_hasId ga EE EM nae nam SU ru SS rl) hZ (own_w hw 46 rfl) (own_w hw 40 rfl) (by decide) (by decide)) (g := (mkF m 5 #[.val (.ref a), .val (.ref er), .val (.ref ms)] [(.ref ms), (.int (0 : Int32)), (.long (0 : Int64)), (.ref er), (.ref a)])) rfl (by rw [hml]; rfl) (Steps.refl _) (a := a) (argsL := [(.ref er), (.long (0 : Int64)), (.int (0 : Int32)), (.ref ms)]) (rest := []) (lenOf pds0_0 rfl) rfl (by show 2 * 0 + _ ≤ _; exact Nat.le_of_eq rfl) (hb hby ds0_5) (fun _ _ => ⟨rfl, e0, (by decide : 0 + 4 ≤ _), (by decide : 0 + 56 ≤ _)⟩)
    dsimp only [Pt.U, Pt.locs, Pt.cells, Pt.slots] at X1 l1 y1 z1 st1 hQ1
    subst y1 z1
    dsimp only [Pt.U, Pt.locs, Pt.cells, Pt.slots] at hSn1 gr1
    obtain ⟨X1, hS1, hZ1, hown1⟩ := rebS (vm0 := s.vm) hS0 (by rw [e0]; exact hk0) X1 hSn1 gr1 hZ hown
    have hk1 : T1.heap.size ≤ T1.heap.size := Nat.le_refl _
    obtain ⟨rfl, Nc1, Kc1, NE_a, NF_a_cause, NF_a_stackTrace, NF_a_suppressedExceptions, NF_a_detailMessage, NF_a_error, NF_a_id, NF_a_hasId⟩ := hQ1
    have N1 : Fr n0 L1 := by rw [l1]; exact Fr.app N0 Nc1
    have EE := EE.keep Kc1
    have EM := EM.keep Kc1
    have O1 := O0.keep Kc1 (allS ga all0)
    have K1 := K0.trans Kc1 (allS (Or.inl (List.mem_of_getElem? (i := 0) rfl)) all0)
    have E_a := NE_a
    have F_a_cause := NF_a_cause
    have F_a_stackTrace := NF_a_stackTrace
    have F_a_suppressedExceptions := NF_a_suppressedExceptions
    have F_a_detailMessage := NF_a_detailMessage
    have F_a_error := NF_a_error
    have F_a_id := NF_a_id
    have F_a_hasId := NF_a_hasId
    refine GoW.tr st1 ?_
    show GoW p e below s _ _ _ (T1.setTop (mkF m 8 #[.val (.ref a), .val (.ref er), .val (.ref ms)] []))
    exact GoW.ret (vm1 := T1.vm) X1 hlk hS1 (by exact hk1) (none) (fun _ => rfl) (by exact ⟨rfl, N1, K1, E_a, F_a_cause, F_a_stackTrace, F_a_suppressedExceptions, F_a_detailMessage, F_a_error, F_a_id, F_a_hasId⟩) (by decide) (by decide) (fun fs hr => X1.returnOut hx Bd.returns (hb hby ds0_8) hr)
  obtain ⟨s2, o2, st2, r2⟩ := G
  exact ⟨s2, o2, castTop (efs0 m a er ms) st2, r2⟩
theorem df1_0 : decode prog_3_method_3_code 0 = .ok (.aload_n 0, 1) := by decide +kernel
theorem df1_1 : decode prog_3_method_3_code 1 = .ok (.aload 5, 2) := by decide +kernel
theorem df1_3 : decode prog_3_method_3_code 3 = .ok (.ldc 7, 2) := by decide +kernel
theorem df1_5 : decode prog_3_method_3_code 5 = .ok (.invokestatic 9, 3) := by decide +kernel
theorem df1_8 : decode prog_3_method_3_code 8 = .ok (.checkcast 15, 3) := by decide +kernel
theorem df1_11 : decode prog_3_method_3_code 11 = .ok (.aconst_null, 1) := by decide +kernel
theorem df1_12 : decode prog_3_method_3_code 12 = .ok (.iconst 0, 1) := by decide +kernel
theorem df1_13 : decode prog_3_method_3_code 13 = .ok (.iconst 0, 1) := by decide +kernel
theorem df1_14 : decode prog_3_method_3_code 14 = .ok (.invokespecial 17, 3) := by decide +kernel
theorem df1_17 : decode prog_3_method_3_code 17 = .ok (.aload_n 0, 1) := by decide +kernel
theorem df1_18 : decode prog_3_method_3_code 18 = .ok (.aload_n 1, 1) := by decide +kernel
theorem df1_19 : decode prog_3_method_3_code 19 = .ok (.ldc 22, 2) := by decide +kernel
theorem df1_21 : decode prog_3_method_3_code 21 = .ok (.invokestatic 9, 3) := by decide +kernel
theorem df1_24 : decode prog_3_method_3_code 24 = .ok (.checkcast 24, 3) := by decide +kernel
theorem df1_27 : decode prog_3_method_3_code 27 = .ok (.putfield 26, 3) := by decide +kernel
theorem df1_30 : decode prog_3_method_3_code 30 = .ok (.aload_n 0, 1) := by decide +kernel
theorem df1_31 : decode prog_3_method_3_code 31 = .ok (.lload_n 2, 1) := by decide +kernel
theorem df1_32 : decode prog_3_method_3_code 32 = .ok (.putfield 29, 3) := by decide +kernel
theorem df1_35 : decode prog_3_method_3_code 35 = .ok (.aload_n 0, 1) := by decide +kernel
theorem df1_36 : decode prog_3_method_3_code 36 = .ok (.iload 4, 2) := by decide +kernel
theorem df1_38 : decode prog_3_method_3_code 38 = .ok (.putfield 33, 3) := by decide +kernel
theorem df1_41 : decode prog_3_method_3_code 41 = .ok (.return_, 1) := by decide +kernel
theorem pdf1_0 : parseMethodDescriptor "(Ljava/lang/Object;Ljava/lang/String;)Ljava/lang/Object;" = some ⟨[(.object "java/lang/Object"), (.object "java/lang/String")], some (.object "java/lang/Object")⟩ := by decide +kernel
theorem pdf1_1 : parseMethodDescriptor "(Ljava/lang/String;Ljava/lang/Throwable;ZZ)V" = some ⟨[(.object "java/lang/String"), (.object "java/lang/Throwable"), .boolean, .boolean], none⟩ := by decide +kernel
theorem pnf1 : plainName "com/example/duplexwire/duplexwire/protocol/FrameException" = true := by first | (simp [plainName, overriddenIn]; done) | decide +kernel
theorem eff1 (m : MethodId) (x0 : Addr) (x1 : Addr) (x2 : Int64) (x3 : Int32) (x4 : Addr) : entryFrame m #[(.ref x0), (.ref x1), (.long x2), (.int x3), (.ref x4)] 6 = mkF m 0 #[.val (.ref x0), .val (.ref x1), .val (.long x2), .second, .val (.int x3), .val (.ref x4)] [] := by first | (simp [entryFrame, mkF, argsToLocals, Value.category, maxLocals]; done) | rfl
def Qf1 (Z : State) (a : Addr) (er : Addr) (idv : Int64) (ms : Addr) (vu : Value) (vl : Value) (h0 : Heap) (n0 : Nat) (v : Option Value) (h : Heap) (L : List Loc) : Prop := v = none ∧ Fr n0 L ∧ Keep h0 h [a] ∧ Exa Z h a "com/example/duplexwire/duplexwire/protocol/FrameException" ∧ Fld Z h a "java/lang/Throwable" "cause" "Ljava/lang/Throwable;" .null ∧ Fld Z h a "java/lang/Throwable" "stackTrace" "[Ljava/lang/StackTraceElement;" .null ∧ Fld Z h a "java/lang/Throwable" "suppressedExceptions" "Ljava/util/List;" .null ∧ Fld Z h a "java/lang/Throwable" "detailMessage" "Ljava/lang/String;" (.ref ms) ∧ Fld Z h a "com/example/duplexwire/duplexwire/protocol/FrameException" "error" "Lcom/example/duplexwire/duplexwire/protocol/ErrorCode;" (.ref er) ∧ Fld Z h a "com/example/duplexwire/duplexwire/protocol/FrameException" "id" "J" (.long idv) ∧ Fld Z h a "com/example/duplexwire/duplexwire/protocol/FrameException" "hasId" "Z" (.int (1 : Int32))
set_option maxRecDepth 65536 in
set_option maxHeartbeats 40000000 in
theorem rmf1 (l : Launch) (Z : State) (a0 : Array Value) (hw : ∀ d ∈ tables_1, d.before a0 Z = true) (ws : List Jvm.Cond) (a : Addr) (er : Addr) (idv : Int64) (ms : Addr) (vu : Value) (vl : Value) (h0 : Heap) (n0 : Nat) (O0 : Old Z n0 h0) (E_a : Exa Z h0 a "com/example/duplexwire/duplexwire/protocol/FrameException") (F_a_cause : Fld Z h0 a "java/lang/Throwable" "cause" "Ljava/lang/Throwable;" .null) (F_a_stackTrace : Fld Z h0 a "java/lang/Throwable" "stackTrace" "[Ljava/lang/StackTraceElement;" .null) (F_a_suppressedExceptions : Fld Z h0 a "java/lang/Throwable" "suppressedExceptions" "Ljava/util/List;" .null) (F_a_detailMessage : Fld Z h0 a "java/lang/Throwable" "detailMessage" "Ljava/lang/String;" .null) (F_a_error : Fld Z h0 a "com/example/duplexwire/duplexwire/protocol/FrameException" "error" "Lcom/example/duplexwire/duplexwire/protocol/ErrorCode;" .null) (F_a_id : Fld Z h0 a "com/example/duplexwire/duplexwire/protocol/FrameException" "id" "J" (.long (0 : Int64))) (F_a_hasId : Fld Z h0 a "com/example/duplexwire/duplexwire/protocol/FrameException" "hasId" "Z" (.int (0 : Int32))) (ga : n0 ≤ a) (EE : Exa Z h0 er "com/example/duplexwire/duplexwire/protocol/ErrorCode") (EM : Exa Z h0 ms "java/lang/String") (nae : a ≠ er) (nam : a ≠ ms) (SU : Sta Z Z.heap "java/lang/Throwable" "UNASSIGNED_STACK" "[Ljava/lang/StackTraceElement;" vu) (ru : vu.isRef = true) (SS : Sta Z Z.heap "java/lang/Throwable" "SUPPRESSED_SENTINEL" "Ljava/util/List;" vl) (rl : vl.isRef = true) :
    MetFree l (⟨"com/example/duplexwire/duplexwire/protocol/FrameException", "<init>", "(Lcom/example/duplexwire/duplexwire/protocol/ErrorCode;JZLjava/lang/String;)V"⟩ : MethodName) (head1 (Jvm.Cond.code (⟨"com/example/duplexwire/duplexwire/protocol/FrameException", "<init>", "(Lcom/example/duplexwire/duplexwire/protocol/ErrorCode;JZLjava/lang/String;)V"⟩ : MethodName) prog_3_method_3_code 6 none :: ws) ({ frames := 3, cells := 4, slots := 56, locals := 44 } : Room)) (fun A_ U_ => A_ = #[(.ref a), (.ref er), (.long idv), (.int (1 : Int32)), (.ref ms)] ∧ Z.Warmed39 U_.vm ∧ U_.heap = h0) (fun _ _ _ _ _ => True) (fun _ U o U' => ∃ v L, o = .returned v ∧ Qf1 Z a er idv ms vu vl h0 n0 v U'.heap L ∧ ReturnedEndW U o U' L ({ frames := 3, cells := 4, slots := 56, locals := 44 } : Room).cells ({ frames := 3, cells := 4, slots := 56, locals := 44 } : Room).slots) := by
  refine MetFree.of_bodySF (plainFor_of_name pnf1) hisR ?_
  intro p e s m args below meth cd s₁ Bd hml0 hP hK
  obtain ⟨rfl, hZ, hh⟩ := hP
  have hS0 : s.Since s.vm h0.size := State.WarmedH.since (State.WarmedH.refl s) _
  have hk0 : h0.size ≤ h0.size := Nat.le_refl _
  have hx := Bd.exec
  have hby := Bd.bytes
  have hlk : meth.locks = false := BodyLoose.notSynchronized Bd
  have hml : cd.maxLocals = 6 := hml0
  have hown : s.vm.findClass "com/example/duplexwire/duplexwire/protocol/FrameException" = some m.cls := findClass_of_methodNamed Bd.named
  have hnm := (name_of_methodNamed Bd.named Bd.method).1
  have X0 : Stand p l e ({ frames := 3, cells := 4, slots := 56, locals := 44 } : Room) s m #[(.ref a), (.ref er), (.long idv), (.int (1 : Int32)), (.ref ms)] below meth cd s₁ [] 0 0 := Stand.of_body Bd
  have e0 : s₁.heap = h0 := by rw [← hh, Bd.state]; rfl
  have N0 := Fr.nil n0
  have K0 : Keep h0 h0 [a] := Keep.refl _ _
  have wS : ∀ a ∈ Bundle.stringAtoms, a.before a0 Z = true := fun d hd => hw d ((by decide +kernel : ∀ d ∈ Bundle.stringAtoms, d ∈ tables_1) d hd)
  have G : GoW p e below s 4 56 (Qf1 Z a er idv ms vu vl h0 n0) (s₁.setTop (mkF m 0 #[.val (.ref a), .val (.ref er), .val (.long idv), .second, .val (.int (1 : Int32)), .val (.ref ms)] [])) := by
    show GoW p e below s _ _ _ (s₁.setTop (mkF m 0 #[.val (.ref a), .val (.ref er), .val (.long idv), .second, .val (.int (1 : Int32)), .val (.ref ms)] []))
    refine GoW.st (fun _ kq_ => XS.aloadN X0.here hx rfl (hb hby df1_0) rfl rfl kq_) ?_
    show GoW p e below s _ _ _ (s₁.setTop (mkF m 1 #[.val (.ref a), .val (.ref er), .val (.long idv), .second, .val (.int (1 : Int32)), .val (.ref ms)] [(.ref a)]))
    refine GoW.st (fun _ kq_ => XS.aload X0.here hx rfl (hb hby df1_1) rfl rfl kq_) ?_
    show GoW p e below s _ _ _ (s₁.setTop (mkF m 3 #[.val (.ref a), .val (.ref er), .val (.long idv), .second, .val (.int (1 : Int32)), .val (.ref ms)] [(.ref ms), (.ref a)]))
    obtain ⟨u1, T1, h1, kk1, X1, e1, E1, hS1, hk1, hZ1, hown1, st1⟩ := ldcS (vm0 := s.vm) X0 hx hZ hown (own_w hw 47 rfl) wS e0 hS0 hk0 (g := (mkF m 3 #[.val (.ref a), .val (.ref er), .val (.long idv), .second, .val (.int (1 : Int32)), .val (.ref ms)] [(.ref ms), (.ref a)])) rfl (hb hby df1_3) (n := 28) (by decide) (by decide) (by decide) (by decide)
    have E_a := E_a.ext E1
    have F_a_cause := F_a_cause.ext E1
    have F_a_stackTrace := F_a_stackTrace.ext E1
    have F_a_suppressedExceptions := F_a_suppressedExceptions.ext E1
    have F_a_detailMessage := F_a_detailMessage.ext E1
    have F_a_error := F_a_error.ext E1
    have F_a_id := F_a_id.ext E1
    have F_a_hasId := F_a_hasId.ext E1
    have EE := EE.ext E1
    have EM := EM.ext E1
    have O1 := O0.ext E1
    have K1 := K0.ext E1
    refine GoW.st st1 ?_
    show GoW p e below s _ _ _ (T1.setTop (mkF m 5 #[.val (.ref a), .val (.ref er), .val (.long idv), .second, .val (.int (1 : Int32)), .val (.ref ms)] [(.ref u1), (.ref ms), (.ref a)]))
    obtain ⟨_, _, ⟨T2, L2, k2, n2⟩, -, X2, ⟨Lc2, hQ2, l2, y2, z2⟩, st2⟩ := Jvm.LawKit.callS X1 hx (y := (⟨"java/util/Objects", "requireNonNull", "(Ljava/lang/Object;Ljava/lang/String;)Ljava/lang/Object;"⟩ : MethodName)) hown1 (mvT hZ1 (own_w hw 50 rfl)) (mvT hZ1 (own_w hw 51 rfl)) (mvT hZ1 (own_w hw 52 rfl)) (mvT hZ1 (own_w hw 53 rfl)) (by decide) (backOf (W := 1) (rmr l Z a0 hw [] ms u1 h1 n0 O1 ) hZ1 (own_w hw 53 rfl) (own_w hw 52 rfl) (by decide) (by decide)) (g := (mkF m 5 #[.val (.ref a), .val (.ref er), .val (.long idv), .second, .val (.int (1 : Int32)), .val (.ref ms)] [(.ref u1), (.ref ms), (.ref a)])) rfl (by rw [hml]; rfl) (argsL := [(.ref ms), (.ref u1)]) (rest := [(.ref a)]) (lenOf pdf1_0 rfl) rfl (by show 2 * 0 + _ ≤ _; exact Nat.le_of_eq rfl) (hb hby df1_5) (fun _ _ => ⟨rfl, e1, (by decide : 2 + 0 ≤ _), (by decide : 32 + 0 ≤ _)⟩)
    dsimp only [Pt.U, Pt.locs, Pt.cells, Pt.slots] at X2 l2 y2 z2 st2 hQ2
    subst y2 z2
    obtain ⟨rfl, Nc2, e2⟩ := hQ2
    have N2 : Fr n0 L2 := by rw [l2]; exact Fr.app N0 Nc2
    refine GoW.st st2 ?_
    show GoW p e below s _ _ _ (T2.setTop (mkF m 8 #[.val (.ref a), .val (.ref er), .val (.long idv), .second, .val (.int (1 : Int32)), .val (.ref ms)] [(.ref ms), (.ref a)]))
    obtain ⟨T3, X3, e3, st3⟩ := castY X2 hx hZ1 hown1 (own_w hw 54 rfl) e2 (Ins.self EM) (g := (mkF m 8 #[.val (.ref a), .val (.ref er), .val (.long idv), .second, .val (.int (1 : Int32)), .val (.ref ms)] [(.ref ms), (.ref a)])) rfl rfl (hb hby df1_8)
    refine GoW.st st3 ?_
    show GoW p e below s _ _ _ (T3.setTop (mkF m 11 #[.val (.ref a), .val (.ref er), .val (.long idv), .second, .val (.int (1 : Int32)), .val (.ref ms)] [(.ref ms), (.ref a)]))
    refine GoW.st (fun _ kq_ => XS.aconstNull X3.here hx rfl (hb hby df1_11) kq_) ?_
    show GoW p e below s _ _ _ (T3.setTop (mkF m 12 #[.val (.ref a), .val (.ref er), .val (.long idv), .second, .val (.int (1 : Int32)), .val (.ref ms)] [.null, (.ref ms), (.ref a)]))
    refine GoW.st (fun _ kq_ => XS.iconst X3.here hx rfl (hb hby df1_12) kq_) ?_
    show GoW p e below s _ _ _ (T3.setTop (mkF m 13 #[.val (.ref a), .val (.ref er), .val (.long idv), .second, .val (.int (1 : Int32)), .val (.ref ms)] [(.int (0 : Int32)), .null, (.ref ms), (.ref a)]))
    refine GoW.st (fun _ kq_ => XS.iconst X3.here hx rfl (hb hby df1_13) kq_) ?_
    show GoW p e below s _ _ _ (T3.setTop (mkF m 14 #[.val (.ref a), .val (.ref er), .val (.long idv), .second, .val (.int (1 : Int32)), .val (.ref ms)] [(.int (0 : Int32)), (.int (0 : Int32)), .null, (.ref ms), (.ref a)]))
    obtain ⟨_, _, ⟨T4, L4, k4, n4⟩, -, X4, ⟨Lc4, hQ4, l4, y4, z4⟩, st4⟩ := X3.specialBack hx (y := (⟨"java/lang/Exception", "<init>", "(Ljava/lang/String;Ljava/lang/Throwable;ZZ)V"⟩ : MethodName)) rfl hown1 (mvT hZ1 (own_w hw 55 rfl)) (mvT hZ1 (own_w hw 56 rfl)) (mvT hZ1 (own_w hw 59 rfl)) (by decide) (backOf (W := 0) (rme l Z a0 hw [] a ms vu vl h1 n0 O1 E_a F_a_cause F_a_stackTrace F_a_suppressedExceptions F_a_detailMessage F_a_error F_a_id F_a_hasId ga SU ru SS rl) hZ1 (own_w hw 59 rfl) (own_w hw 58 rfl) (by decide) (by decide)) (g := (mkF m 14 #[.val (.ref a), .val (.ref er), .val (.long idv), .second, .val (.int (1 : Int32)), .val (.ref ms)] [(.int (0 : Int32)), (.int (0 : Int32)), .null, (.ref ms), (.ref a)])) rfl (by rw [hml]; rfl) (Steps.refl _) (a := a) (argsL := [(.ref ms), .null, (.int (0 : Int32)), (.int (0 : Int32))]) (rest := []) (lenOf pdf1_1 rfl) rfl (by show 2 * 0 + _ ≤ _; exact Nat.le_of_eq rfl) (hb hby df1_14) (fun _ _ => ⟨rfl, e3, (by decide : 2 + 0 ≤ _), (by decide : 32 + 0 ≤ _)⟩)
    dsimp only [Pt.U, Pt.locs, Pt.cells, Pt.slots] at X4 l4 y4 z4 st4 hQ4
    subst y4 z4
    obtain ⟨rfl, Nc4, Kc4, NE_a, NF_a_cause, NF_a_stackTrace, NF_a_suppressedExceptions, NF_a_detailMessage, NF_a_error, NF_a_id, NF_a_hasId⟩ := hQ4
    have N4 : Fr n0 L4 := by rw [l4]; exact Fr.app N2 Nc4
    have EE := EE.keep Kc4
    have EM := EM.keep Kc4
    have hk4 := Nat.le_trans hk1 Kc4.1
    have O4 := O1.keep Kc4 (allS ga all0)
    have K4 := K1.trans Kc4 (allS (Or.inl (List.mem_of_getElem? (i := 0) rfl)) all0)
    have E_a := NE_a
    have F_a_cause := NF_a_cause
    have F_a_stackTrace := NF_a_stackTrace
    have F_a_suppressedExceptions := NF_a_suppressedExceptions
    have F_a_detailMessage := NF_a_detailMessage
    have F_a_error := NF_a_error
    have F_a_id := NF_a_id
    have F_a_hasId := NF_a_hasId
    refine GoW.tr st4 ?_
    show GoW p e below s _ _ _ (T4.setTop (mkF m 17 #[.val (.ref a), .val (.ref er), .val (.long idv), .second, .val (.int (1 : Int32)), .val (.ref ms)] []))
    refine GoW.st (fun _ kq_ => XS.aloadN X4.here hx rfl (hb hby df1_17) rfl rfl kq_) ?_
    show GoW p e below s _ _ _ (T4.setTop (mkF m 18 #[.val (.ref a), .val (.ref er), .val (.long idv), .second, .val (.int (1 : Int32)), .val (.ref ms)] [(.ref a)]))
    refine GoW.st (fun _ kq_ => XS.aloadN X4.here hx rfl (hb hby df1_18) rfl rfl kq_) ?_
    show GoW p e below s _ _ _ (T4.setTop (mkF m 19 #[.val (.ref a), .val (.ref er), .val (.long idv), .second, .val (.int (1 : Int32)), .val (.ref ms)] [(.ref er), (.ref a)]))
    obtain ⟨u5, T5, h5, kk5, X5, e5, E5, hS5, hk5, hZ5, hown5, st5⟩ := ldcS (vm0 := T1.vm) X4 hx hZ1 hown1 (own_w hw 77 rfl) wS rfl hS1 hk4 (g := (mkF m 19 #[.val (.ref a), .val (.ref er), .val (.long idv), .second, .val (.int (1 : Int32)), .val (.ref ms)] [(.ref er), (.ref a)])) rfl (hb hby df1_19) (n := 20) (by decide) (by decide) (by decide) (by decide)
    have EE := EE.ext E5
    have EM := EM.ext E5
    have E_a := E_a.ext E5
    have F_a_cause := F_a_cause.ext E5
    have F_a_stackTrace := F_a_stackTrace.ext E5
    have F_a_suppressedExceptions := F_a_suppressedExceptions.ext E5
    have F_a_detailMessage := F_a_detailMessage.ext E5
    have F_a_error := F_a_error.ext E5
    have F_a_id := F_a_id.ext E5
    have F_a_hasId := F_a_hasId.ext E5
    have O5 := O4.ext E5
    have K5 := K4.ext E5
    refine GoW.st st5 ?_
    show GoW p e below s _ _ _ (T5.setTop (mkF m 21 #[.val (.ref a), .val (.ref er), .val (.long idv), .second, .val (.int (1 : Int32)), .val (.ref ms)] [(.ref u5), (.ref er), (.ref a)]))
    obtain ⟨_, _, ⟨T6, L6, k6, n6⟩, -, X6, ⟨Lc6, hQ6, l6, y6, z6⟩, st6⟩ := Jvm.LawKit.callS X5 hx (y := (⟨"java/util/Objects", "requireNonNull", "(Ljava/lang/Object;Ljava/lang/String;)Ljava/lang/Object;"⟩ : MethodName)) hown5 (mvT hZ5 (own_w hw 50 rfl)) (mvT hZ5 (own_w hw 51 rfl)) (mvT hZ5 (own_w hw 52 rfl)) (mvT hZ5 (own_w hw 53 rfl)) (by decide) (backOf (W := 1) (rmr l Z a0 hw [] er u5 h5 n0 O5 ) hZ5 (own_w hw 53 rfl) (own_w hw 52 rfl) (by decide) (by decide)) (g := (mkF m 21 #[.val (.ref a), .val (.ref er), .val (.long idv), .second, .val (.int (1 : Int32)), .val (.ref ms)] [(.ref u5), (.ref er), (.ref a)])) rfl (by rw [hml]; rfl) (argsL := [(.ref er), (.ref u5)]) (rest := [(.ref a)]) (lenOf pdf1_0 rfl) rfl (by show 2 * 0 + _ ≤ _; exact Nat.le_of_eq rfl) (hb hby df1_21) (fun _ _ => ⟨rfl, e5, (by decide : 4 + 0 ≤ _), (by decide : 56 + 0 ≤ _)⟩)
    dsimp only [Pt.U, Pt.locs, Pt.cells, Pt.slots] at X6 l6 y6 z6 st6 hQ6
    subst y6 z6
    obtain ⟨rfl, Nc6, e6⟩ := hQ6
    have N6 : Fr n0 L6 := by rw [l6]; exact Fr.app N4 Nc6
    refine GoW.st st6 ?_
    show GoW p e below s _ _ _ (T6.setTop (mkF m 24 #[.val (.ref a), .val (.ref er), .val (.long idv), .second, .val (.int (1 : Int32)), .val (.ref ms)] [(.ref er), (.ref a)]))
    obtain ⟨T7, X7, e7, st7⟩ := castY X6 hx hZ5 hown5 (own_w hw 78 rfl) e6 (Ins.self EE) (g := (mkF m 24 #[.val (.ref a), .val (.ref er), .val (.long idv), .second, .val (.int (1 : Int32)), .val (.ref ms)] [(.ref er), (.ref a)])) rfl rfl (hb hby df1_24)
    refine GoW.st st7 ?_
    show GoW p e below s _ _ _ (T7.setTop (mkF m 27 #[.val (.ref a), .val (.ref er), .val (.long idv), .second, .val (.int (1 : Int32)), .val (.ref ms)] [(.ref er), (.ref a)]))
    obtain ⟨T8, h8, X8, e8, W8, st8⟩ := putF X7 hx hZ5 hown5 (host := "") (Or.inl (own_w hw 80 rfl)) Via.refl e7 F_a_error E_a (Or.inr ⟨(own_w hw 81 rfl), rfl, hnm⟩) (own_w hw 39 rfl) (ty := (.object "com/example/duplexwire/duplexwire/protocol/ErrorCode")) (by decide) rfl rfl (g := (mkF m 27 #[.val (.ref a), .val (.ref er), .val (.long idv), .second, .val (.int (1 : Int32)), .val (.ref ms)] [(.ref er), (.ref a)])) rfl rfl (hb hby df1_27)
    obtain ⟨lc8, X8, N8⟩ := own_gen X8 (Fr.snoc X8 N6 ga)
    have O8 := O5.wr W8 ga
    have K8 := K5.wr W8 (Or.inl (List.mem_of_getElem? (i := 0) rfl))
    have EE := EE.wr W8
    have EM := EM.wr W8
    have E_a := E_a.wr W8
    have F_a_cause := F_a_cause.other W8 (Or.inr (slot_ne (Or.inl (own_w hw 68 rfl)) (Or.inr (own_w hw 81 rfl)) (by decide) (by decide : parseFieldDescriptor "Ljava/lang/Throwable;" = some (.object "java/lang/Throwable")) (by decide : parseFieldDescriptor "Lcom/example/duplexwire/duplexwire/protocol/ErrorCode;" = some (.object "com/example/duplexwire/duplexwire/protocol/ErrorCode"))))
    have F_a_stackTrace := F_a_stackTrace.other W8 (Or.inr (slot_ne (Or.inl (own_w hw 71 rfl)) (Or.inr (own_w hw 81 rfl)) (by decide) (by decide : parseFieldDescriptor "[Ljava/lang/StackTraceElement;" = some (.array (.object "java/lang/StackTraceElement"))) (by decide : parseFieldDescriptor "Lcom/example/duplexwire/duplexwire/protocol/ErrorCode;" = some (.object "com/example/duplexwire/duplexwire/protocol/ErrorCode"))))
    have F_a_suppressedExceptions := F_a_suppressedExceptions.other W8 (Or.inr (slot_ne (Or.inl (own_w hw 74 rfl)) (Or.inr (own_w hw 81 rfl)) (by decide) (by decide : parseFieldDescriptor "Ljava/util/List;" = some (.object "java/util/List")) (by decide : parseFieldDescriptor "Lcom/example/duplexwire/duplexwire/protocol/ErrorCode;" = some (.object "com/example/duplexwire/duplexwire/protocol/ErrorCode"))))
    have F_a_detailMessage := F_a_detailMessage.other W8 (Or.inr (slot_ne (Or.inl (own_w hw 76 rfl)) (Or.inr (own_w hw 81 rfl)) (by decide) (by decide : parseFieldDescriptor "Ljava/lang/String;" = some (.object "java/lang/String")) (by decide : parseFieldDescriptor "Lcom/example/duplexwire/duplexwire/protocol/ErrorCode;" = some (.object "com/example/duplexwire/duplexwire/protocol/ErrorCode"))))
    have F_a_id := F_a_id.other W8 (Or.inr (slot_ne (Or.inr (own_w hw 83 rfl)) (Or.inr (own_w hw 81 rfl)) (by decide) (by decide : parseFieldDescriptor "J" = some .long) (by decide : parseFieldDescriptor "Lcom/example/duplexwire/duplexwire/protocol/ErrorCode;" = some (.object "com/example/duplexwire/duplexwire/protocol/ErrorCode"))))
    have F_a_hasId := F_a_hasId.other W8 (Or.inr (slot_ne (Or.inr (own_w hw 85 rfl)) (Or.inr (own_w hw 81 rfl)) (by decide) (by decide : parseFieldDescriptor "Z" = some .boolean) (by decide : parseFieldDescriptor "Lcom/example/duplexwire/duplexwire/protocol/ErrorCode;" = some (.object "com/example/duplexwire/duplexwire/protocol/ErrorCode"))))
    have hk8 := Nat.le_trans hk5 (Nat.le_of_eq W8.size.symm)
    have F_a_error := F_a_error.same W8
    refine GoW.st st8 ?_
    show GoW p e below s _ _ _ (T8.setTop (mkF m 30 #[.val (.ref a), .val (.ref er), .val (.long idv), .second, .val (.int (1 : Int32)), .val (.ref ms)] []))
    refine GoW.st (fun _ kq_ => XS.aloadN X8.here hx rfl (hb hby df1_30) rfl rfl kq_) ?_
    show GoW p e below s _ _ _ (T8.setTop (mkF m 31 #[.val (.ref a), .val (.ref er), .val (.long idv), .second, .val (.int (1 : Int32)), .val (.ref ms)] [(.ref a)]))
    refine GoW.st (fun _ kq_ => XT.lloadN X8.here hx rfl (hb hby df1_31) rfl kq_) ?_
    show GoW p e below s _ _ _ (T8.setTop (mkF m 32 #[.val (.ref a), .val (.ref er), .val (.long idv), .second, .val (.int (1 : Int32)), .val (.ref ms)] [(.long idv), (.ref a)]))
    obtain ⟨T9, h9, X9, e9, W9, st9⟩ := putF X8 hx hZ5 hown5 (host := "") (Or.inl (own_w hw 82 rfl)) Via.refl e8 F_a_id E_a (Or.inr ⟨(own_w hw 83 rfl), rfl, hnm⟩) (own_w hw 39 rfl) (ty := .long) (by decide) rfl rfl (g := (mkF m 32 #[.val (.ref a), .val (.ref er), .val (.long idv), .second, .val (.int (1 : Int32)), .val (.ref ms)] [(.long idv), (.ref a)])) rfl rfl (hb hby df1_32)
    obtain ⟨lc9, X9, N9⟩ := own_gen X9 (Fr.snoc X9 N8 ga)
    have O9 := O8.wr W9 ga
    have K9 := K8.wr W9 (Or.inl (List.mem_of_getElem? (i := 0) rfl))
    have EE := EE.wr W9
    have EM := EM.wr W9
    have E_a := E_a.wr W9
    have F_a_cause := F_a_cause.other W9 (Or.inr (slot_ne (Or.inl (own_w hw 68 rfl)) (Or.inr (own_w hw 83 rfl)) (by decide) (by decide : parseFieldDescriptor "Ljava/lang/Throwable;" = some (.object "java/lang/Throwable")) (by decide : parseFieldDescriptor "J" = some .long)))
    have F_a_stackTrace := F_a_stackTrace.other W9 (Or.inr (slot_ne (Or.inl (own_w hw 71 rfl)) (Or.inr (own_w hw 83 rfl)) (by decide) (by decide : parseFieldDescriptor "[Ljava/lang/StackTraceElement;" = some (.array (.object "java/lang/StackTraceElement"))) (by decide : parseFieldDescriptor "J" = some .long)))
    have F_a_suppressedExceptions := F_a_suppressedExceptions.other W9 (Or.inr (slot_ne (Or.inl (own_w hw 74 rfl)) (Or.inr (own_w hw 83 rfl)) (by decide) (by decide : parseFieldDescriptor "Ljava/util/List;" = some (.object "java/util/List")) (by decide : parseFieldDescriptor "J" = some .long)))
    have F_a_detailMessage := F_a_detailMessage.other W9 (Or.inr (slot_ne (Or.inl (own_w hw 76 rfl)) (Or.inr (own_w hw 83 rfl)) (by decide) (by decide : parseFieldDescriptor "Ljava/lang/String;" = some (.object "java/lang/String")) (by decide : parseFieldDescriptor "J" = some .long)))
    have F_a_error := F_a_error.other W9 (Or.inr (slot_ne (Or.inr (own_w hw 81 rfl)) (Or.inr (own_w hw 83 rfl)) (by decide) (by decide : parseFieldDescriptor "Lcom/example/duplexwire/duplexwire/protocol/ErrorCode;" = some (.object "com/example/duplexwire/duplexwire/protocol/ErrorCode")) (by decide : parseFieldDescriptor "J" = some .long)))
    have F_a_hasId := F_a_hasId.other W9 (Or.inr (slot_ne (Or.inr (own_w hw 85 rfl)) (Or.inr (own_w hw 83 rfl)) (by decide) (by decide : parseFieldDescriptor "Z" = some .boolean) (by decide : parseFieldDescriptor "J" = some .long)))
    have hk9 := Nat.le_trans hk8 (Nat.le_of_eq W9.size.symm)
    have F_a_id := F_a_id.same W9
    refine GoW.st st9 ?_
    show GoW p e below s _ _ _ (T9.setTop (mkF m 35 #[.val (.ref a), .val (.ref er), .val (.long idv), .second, .val (.int (1 : Int32)), .val (.ref ms)] []))
    refine GoW.st (fun _ kq_ => XS.aloadN X9.here hx rfl (hb hby df1_35) rfl rfl kq_) ?_
    show GoW p e below s _ _ _ (T9.setTop (mkF m 36 #[.val (.ref a), .val (.ref er), .val (.long idv), .second, .val (.int (1 : Int32)), .val (.ref ms)] [(.ref a)]))
    refine GoW.st (fun _ kq_ => XS.iload X9.here hx rfl (hb hby df1_36) rfl kq_) ?_
    show GoW p e below s _ _ _ (T9.setTop (mkF m 38 #[.val (.ref a), .val (.ref er), .val (.long idv), .second, .val (.int (1 : Int32)), .val (.ref ms)] [(.int (1 : Int32)), (.ref a)]))
    obtain ⟨T10, h10, X10, e10, W10, st10⟩ := putF X9 hx hZ5 hown5 (host := "") (Or.inl (own_w hw 84 rfl)) Via.refl e9 F_a_hasId E_a (Or.inr ⟨(own_w hw 85 rfl), rfl, hnm⟩) (own_w hw 39 rfl) (ty := .boolean) (by decide) rfl rfl (g := (mkF m 38 #[.val (.ref a), .val (.ref er), .val (.long idv), .second, .val (.int (1 : Int32)), .val (.ref ms)] [(.int (1 : Int32)), (.ref a)])) rfl rfl (hb hby df1_38)
    obtain ⟨lc10, X10, N10⟩ := own_gen X10 (Fr.snoc X10 N9 ga)
    have O10 := O9.wr W10 ga
    have K10 := K9.wr W10 (Or.inl (List.mem_of_getElem? (i := 0) rfl))
    have EE := EE.wr W10
    have EM := EM.wr W10
    have E_a := E_a.wr W10
    have F_a_cause := F_a_cause.other W10 (Or.inr (slot_ne (Or.inl (own_w hw 68 rfl)) (Or.inr (own_w hw 85 rfl)) (by decide) (by decide : parseFieldDescriptor "Ljava/lang/Throwable;" = some (.object "java/lang/Throwable")) (by decide : parseFieldDescriptor "Z" = some .boolean)))
    have F_a_stackTrace := F_a_stackTrace.other W10 (Or.inr (slot_ne (Or.inl (own_w hw 71 rfl)) (Or.inr (own_w hw 85 rfl)) (by decide) (by decide : parseFieldDescriptor "[Ljava/lang/StackTraceElement;" = some (.array (.object "java/lang/StackTraceElement"))) (by decide : parseFieldDescriptor "Z" = some .boolean)))
    have F_a_suppressedExceptions := F_a_suppressedExceptions.other W10 (Or.inr (slot_ne (Or.inl (own_w hw 74 rfl)) (Or.inr (own_w hw 85 rfl)) (by decide) (by decide : parseFieldDescriptor "Ljava/util/List;" = some (.object "java/util/List")) (by decide : parseFieldDescriptor "Z" = some .boolean)))
    have F_a_detailMessage := F_a_detailMessage.other W10 (Or.inr (slot_ne (Or.inl (own_w hw 76 rfl)) (Or.inr (own_w hw 85 rfl)) (by decide) (by decide : parseFieldDescriptor "Ljava/lang/String;" = some (.object "java/lang/String")) (by decide : parseFieldDescriptor "Z" = some .boolean)))
    have F_a_error := F_a_error.other W10 (Or.inr (slot_ne (Or.inr (own_w hw 81 rfl)) (Or.inr (own_w hw 85 rfl)) (by decide) (by decide : parseFieldDescriptor "Lcom/example/duplexwire/duplexwire/protocol/ErrorCode;" = some (.object "com/example/duplexwire/duplexwire/protocol/ErrorCode")) (by decide : parseFieldDescriptor "Z" = some .boolean)))
    have F_a_id := F_a_id.other W10 (Or.inr (slot_ne (Or.inr (own_w hw 83 rfl)) (Or.inr (own_w hw 85 rfl)) (by decide) (by decide : parseFieldDescriptor "J" = some .long) (by decide : parseFieldDescriptor "Z" = some .boolean)))
    have hk10 := Nat.le_trans hk9 (Nat.le_of_eq W10.size.symm)
    have F_a_hasId := F_a_hasId.same W10
    refine GoW.st st10 ?_
    show GoW p e below s _ _ _ (T10.setTop (mkF m 41 #[.val (.ref a), .val (.ref er), .val (.long idv), .second, .val (.int (1 : Int32)), .val (.ref ms)] []))
    exact GoW.ret (vm1 := T5.vm) X10 hlk hS5 (by rw [e10]; exact hk10) (none) (fun _ => rfl) (by rw [e10]; exact ⟨rfl, N10, K10, E_a, F_a_cause, F_a_stackTrace, F_a_suppressedExceptions, F_a_detailMessage, F_a_error, F_a_id, F_a_hasId⟩) (by decide) (by decide) (fun fs hr => X10.returnOut hx Bd.returns (hb hby df1_41) hr)
  obtain ⟨s2, o2, st2, r2⟩ := G
  exact ⟨s2, o2, castTop (eff1 m a er idv (1 : Int32) ms) st2, r2⟩
theorem ds1_0 : decode prog_3_method_2_code 0 = .ok (.aload_n 0, 1) := by decide +kernel
theorem ds1_1 : decode prog_3_method_2_code 1 = .ok (.aload_n 1, 1) := by decide +kernel
theorem ds1_2 : decode prog_3_method_2_code 2 = .ok (.lload_n 2, 1) := by decide +kernel
theorem ds1_3 : decode prog_3_method_2_code 3 = .ok (.iconst 1, 1) := by decide +kernel
theorem ds1_4 : decode prog_3_method_2_code 4 = .ok (.aload 4, 2) := by decide +kernel
theorem ds1_6 : decode prog_3_method_2_code 6 = .ok (.invokespecial 1, 3) := by decide +kernel
theorem ds1_9 : decode prog_3_method_2_code 9 = .ok (.return_, 1) := by decide +kernel
theorem pds1_0 : parseMethodDescriptor "(Lcom/example/duplexwire/duplexwire/protocol/ErrorCode;JZLjava/lang/String;)V" = some ⟨[(.object "com/example/duplexwire/duplexwire/protocol/ErrorCode"), .long, .boolean, (.object "java/lang/String")], none⟩ := by decide +kernel
theorem pns1 : plainName "com/example/duplexwire/duplexwire/protocol/FrameException" = true := by first | (simp [plainName, overriddenIn]; done) | decide +kernel
theorem efs1 (m : MethodId) (x0 : Addr) (x1 : Addr) (x2 : Int64) (x3 : Addr) : entryFrame m #[(.ref x0), (.ref x1), (.long x2), (.ref x3)] 5 = mkF m 0 #[.val (.ref x0), .val (.ref x1), .val (.long x2), .second, .val (.ref x3)] [] := by first | (simp [entryFrame, mkF, argsToLocals, Value.category, maxLocals]; done) | rfl
def Qs1 (Z : State) (a : Addr) (er : Addr) (idv : Int64) (ms : Addr) (vu : Value) (vl : Value) (h0 : Heap) (n0 : Nat) (v : Option Value) (h : Heap) (L : List Loc) : Prop := v = none ∧ Fr n0 L ∧ Keep h0 h [a] ∧ Exa Z h a "com/example/duplexwire/duplexwire/protocol/FrameException" ∧ Fld Z h a "java/lang/Throwable" "cause" "Ljava/lang/Throwable;" .null ∧ Fld Z h a "java/lang/Throwable" "stackTrace" "[Ljava/lang/StackTraceElement;" .null ∧ Fld Z h a "java/lang/Throwable" "suppressedExceptions" "Ljava/util/List;" .null ∧ Fld Z h a "java/lang/Throwable" "detailMessage" "Ljava/lang/String;" (.ref ms) ∧ Fld Z h a "com/example/duplexwire/duplexwire/protocol/FrameException" "error" "Lcom/example/duplexwire/duplexwire/protocol/ErrorCode;" (.ref er) ∧ Fld Z h a "com/example/duplexwire/duplexwire/protocol/FrameException" "id" "J" (.long idv) ∧ Fld Z h a "com/example/duplexwire/duplexwire/protocol/FrameException" "hasId" "Z" (.int (1 : Int32))
set_option maxRecDepth 65536 in
set_option maxHeartbeats 40000000 in
theorem rms1 (l : Launch) (Z : State) (a0 : Array Value) (hw : ∀ d ∈ tables_1, d.before a0 Z = true) (ws : List Jvm.Cond) (a : Addr) (er : Addr) (idv : Int64) (ms : Addr) (vu : Value) (vl : Value) (h0 : Heap) (n0 : Nat) (O0 : Old Z n0 h0) (E_a : Exa Z h0 a "com/example/duplexwire/duplexwire/protocol/FrameException") (F_a_cause : Fld Z h0 a "java/lang/Throwable" "cause" "Ljava/lang/Throwable;" .null) (F_a_stackTrace : Fld Z h0 a "java/lang/Throwable" "stackTrace" "[Ljava/lang/StackTraceElement;" .null) (F_a_suppressedExceptions : Fld Z h0 a "java/lang/Throwable" "suppressedExceptions" "Ljava/util/List;" .null) (F_a_detailMessage : Fld Z h0 a "java/lang/Throwable" "detailMessage" "Ljava/lang/String;" .null) (F_a_error : Fld Z h0 a "com/example/duplexwire/duplexwire/protocol/FrameException" "error" "Lcom/example/duplexwire/duplexwire/protocol/ErrorCode;" .null) (F_a_id : Fld Z h0 a "com/example/duplexwire/duplexwire/protocol/FrameException" "id" "J" (.long (0 : Int64))) (F_a_hasId : Fld Z h0 a "com/example/duplexwire/duplexwire/protocol/FrameException" "hasId" "Z" (.int (0 : Int32))) (ga : n0 ≤ a) (EE : Exa Z h0 er "com/example/duplexwire/duplexwire/protocol/ErrorCode") (EM : Exa Z h0 ms "java/lang/String") (nae : a ≠ er) (nam : a ≠ ms) (SU : Sta Z Z.heap "java/lang/Throwable" "UNASSIGNED_STACK" "[Ljava/lang/StackTraceElement;" vu) (ru : vu.isRef = true) (SS : Sta Z Z.heap "java/lang/Throwable" "SUPPRESSED_SENTINEL" "Ljava/util/List;" vl) (rl : vl.isRef = true) :
    MetFree l (⟨"com/example/duplexwire/duplexwire/protocol/FrameException", "<init>", "(Lcom/example/duplexwire/duplexwire/protocol/ErrorCode;JLjava/lang/String;)V"⟩ : MethodName) (head1 (Jvm.Cond.code (⟨"com/example/duplexwire/duplexwire/protocol/FrameException", "<init>", "(Lcom/example/duplexwire/duplexwire/protocol/ErrorCode;JLjava/lang/String;)V"⟩ : MethodName) prog_3_method_2_code 5 none :: ws) ({ frames := 4, cells := 4, slots := 56, locals := 61 } : Room)) (fun A_ U_ => A_ = #[(.ref a), (.ref er), (.long idv), (.ref ms)] ∧ Z.Warmed39 U_.vm ∧ U_.heap = h0) (fun _ _ _ _ _ => True) (fun _ U o U' => ∃ v L, o = .returned v ∧ Qs1 Z a er idv ms vu vl h0 n0 v U'.heap L ∧ ReturnedEndW U o U' L ({ frames := 4, cells := 4, slots := 56, locals := 61 } : Room).cells ({ frames := 4, cells := 4, slots := 56, locals := 61 } : Room).slots) := by
  refine MetFree.of_bodySF (plainFor_of_name pns1) hisR ?_
  intro p e s m args below meth cd s₁ Bd hml0 hP hK
  obtain ⟨rfl, hZ, hh⟩ := hP
  have hS0 : s.Since s.vm h0.size := State.WarmedH.since (State.WarmedH.refl s) _
  have hk0 : h0.size ≤ h0.size := Nat.le_refl _
  have hx := Bd.exec
  have hby := Bd.bytes
  have hlk : meth.locks = false := BodyLoose.notSynchronized Bd
  have hml : cd.maxLocals = 5 := hml0
  have hown : s.vm.findClass "com/example/duplexwire/duplexwire/protocol/FrameException" = some m.cls := findClass_of_methodNamed Bd.named
  have hnm := (name_of_methodNamed Bd.named Bd.method).1
  have X0 : Stand p l e ({ frames := 4, cells := 4, slots := 56, locals := 61 } : Room) s m #[(.ref a), (.ref er), (.long idv), (.ref ms)] below meth cd s₁ [] 0 0 := Stand.of_body Bd
  have e0 : s₁.heap = h0 := by rw [← hh, Bd.state]; rfl
  have N0 := Fr.nil n0
  have K0 : Keep h0 h0 [a] := Keep.refl _ _
  have G : GoW p e below s 4 56 (Qs1 Z a er idv ms vu vl h0 n0) (s₁.setTop (mkF m 0 #[.val (.ref a), .val (.ref er), .val (.long idv), .second, .val (.ref ms)] [])) := by
    show GoW p e below s _ _ _ (s₁.setTop (mkF m 0 #[.val (.ref a), .val (.ref er), .val (.long idv), .second, .val (.ref ms)] []))
    refine GoW.st (fun _ kq_ => XS.aloadN X0.here hx rfl (hb hby ds1_0) rfl rfl kq_) ?_
    show GoW p e below s _ _ _ (s₁.setTop (mkF m 1 #[.val (.ref a), .val (.ref er), .val (.long idv), .second, .val (.ref ms)] [(.ref a)]))
    refine GoW.st (fun _ kq_ => XS.aloadN X0.here hx rfl (hb hby ds1_1) rfl rfl kq_) ?_
    show GoW p e below s _ _ _ (s₁.setTop (mkF m 2 #[.val (.ref a), .val (.ref er), .val (.long idv), .second, .val (.ref ms)] [(.ref er), (.ref a)]))
    refine GoW.st (fun _ kq_ => XT.lloadN X0.here hx rfl (hb hby ds1_2) rfl kq_) ?_
    show GoW p e below s _ _ _ (s₁.setTop (mkF m 3 #[.val (.ref a), .val (.ref er), .val (.long idv), .second, .val (.ref ms)] [(.long idv), (.ref er), (.ref a)]))
    refine GoW.st (fun _ kq_ => XS.iconst X0.here hx rfl (hb hby ds1_3) kq_) ?_
    show GoW p e below s _ _ _ (s₁.setTop (mkF m 4 #[.val (.ref a), .val (.ref er), .val (.long idv), .second, .val (.ref ms)] [(.int (1 : Int32)), (.long idv), (.ref er), (.ref a)]))
    refine GoW.st (fun _ kq_ => XS.aload X0.here hx rfl (hb hby ds1_4) rfl rfl kq_) ?_
    show GoW p e below s _ _ _ (s₁.setTop (mkF m 6 #[.val (.ref a), .val (.ref er), .val (.long idv), .second, .val (.ref ms)] [(.ref ms), (.int (1 : Int32)), (.long idv), (.ref er), (.ref a)]))
    obtain ⟨_, _, ⟨T1, L1, k1, n1⟩, -, X1, hSn1, gr1, ⟨Lc1, hQ1, l1, y1, z1⟩, st1⟩ := X0.specialBackS hx (y := (⟨"com/example/duplexwire/duplexwire/protocol/FrameException", "<init>", "(Lcom/example/duplexwire/duplexwire/protocol/ErrorCode;JZLjava/lang/String;)V"⟩ : MethodName)) rfl hown (mvT hZ (own_w hw 44 rfl)) (mvT hZ (own_w hw 45 rfl)) (mvT hZ (own_w hw 46 rfl)) (by decide) (backOfS (W := 0) (rmf1 l Z a0 hw [] a er idv ms vu vl h0 n0 O0 E_a F_a_cause F_a_stackTrace F_a_suppressedExceptions F_a_detailMessage F_a_error F_a_id F_a_hasId ga EE EM nae nam SU ru SS rl) hZ (own_w hw 46 rfl) (own_w hw 40 rfl) (by decide) (by decide)) (g := (mkF m 6 #[.val (.ref a), .val (.ref er), .val (.long idv), .second, .val (.ref ms)] [(.ref ms), (.int (1 : Int32)), (.long idv), (.ref er), (.ref a)])) rfl (by rw [hml]; rfl) (Steps.refl _) (a := a) (argsL := [(.ref er), (.long idv), (.int (1 : Int32)), (.ref ms)]) (rest := []) (lenOf pds1_0 rfl) rfl (by show 2 * 0 + _ ≤ _; exact Nat.le_of_eq rfl) (hb hby ds1_6) (fun _ _ => ⟨rfl, e0, (by decide : 0 + 4 ≤ _), (by decide : 0 + 56 ≤ _)⟩)
    dsimp only [Pt.U, Pt.locs, Pt.cells, Pt.slots] at X1 l1 y1 z1 st1 hQ1
    subst y1 z1
    dsimp only [Pt.U, Pt.locs, Pt.cells, Pt.slots] at hSn1 gr1
    obtain ⟨X1, hS1, hZ1, hown1⟩ := rebS (vm0 := s.vm) hS0 (by rw [e0]; exact hk0) X1 hSn1 gr1 hZ hown
    have hk1 : T1.heap.size ≤ T1.heap.size := Nat.le_refl _
    obtain ⟨rfl, Nc1, Kc1, NE_a, NF_a_cause, NF_a_stackTrace, NF_a_suppressedExceptions, NF_a_detailMessage, NF_a_error, NF_a_id, NF_a_hasId⟩ := hQ1
    have N1 : Fr n0 L1 := by rw [l1]; exact Fr.app N0 Nc1
    have EE := EE.keep Kc1
    have EM := EM.keep Kc1
    have O1 := O0.keep Kc1 (allS ga all0)
    have K1 := K0.trans Kc1 (allS (Or.inl (List.mem_of_getElem? (i := 0) rfl)) all0)
    have E_a := NE_a
    have F_a_cause := NF_a_cause
    have F_a_stackTrace := NF_a_stackTrace
    have F_a_suppressedExceptions := NF_a_suppressedExceptions
    have F_a_detailMessage := NF_a_detailMessage
    have F_a_error := NF_a_error
    have F_a_id := NF_a_id
    have F_a_hasId := NF_a_hasId
    refine GoW.tr st1 ?_
    show GoW p e below s _ _ _ (T1.setTop (mkF m 9 #[.val (.ref a), .val (.ref er), .val (.long idv), .second, .val (.ref ms)] []))
    exact GoW.ret (vm1 := T1.vm) X1 hlk hS1 (by exact hk1) (none) (fun _ => rfl) (by exact ⟨rfl, N1, K1, E_a, F_a_cause, F_a_stackTrace, F_a_suppressedExceptions, F_a_detailMessage, F_a_error, F_a_id, F_a_hasId⟩) (by decide) (by decide) (fun fs hr => X1.returnOut hx Bd.returns (hb hby ds1_9) hr)
  obtain ⟨s2, o2, st2, r2⟩ := G
  exact ⟨s2, o2, castTop (efs1 m a er idv ms) st2, r2⟩
theorem doi_0 : decode jdk_2650_method_3_code 0 = .ok (.aload_n 0, 1) := by decide +kernel
theorem doi_1 : decode jdk_2650_method_3_code 1 = .ok (.invokespecial 1, 3) := by decide +kernel
theorem doi_4 : decode jdk_2650_method_3_code 4 = .ok (.aload_n 0, 1) := by decide +kernel
theorem doi_5 : decode jdk_2650_method_3_code 5 = .ok (.iconst 1, 1) := by decide +kernel
theorem doi_6 : decode jdk_2650_method_3_code 6 = .ok (.putfield 7, 3) := by decide +kernel
theorem doi_9 : decode jdk_2650_method_3_code 9 = .ok (.aload_n 0, 1) := by decide +kernel
theorem doi_10 : decode jdk_2650_method_3_code 10 = .ok (.lload_n 1, 1) := by decide +kernel
theorem doi_11 : decode jdk_2650_method_3_code 11 = .ok (.putfield 13, 3) := by decide +kernel
theorem doi_14 : decode jdk_2650_method_3_code 14 = .ok (.return_, 1) := by decide +kernel
theorem pnoi : plainName "java/util/OptionalLong" = true := by first | (simp [plainName, overriddenIn]; done) | decide +kernel
theorem efoi (m : MethodId) (x0 : Addr) (x1 : Int64) : entryFrame m #[(.ref x0), (.long x1)] 3 = mkF m 0 #[.val (.ref x0), .val (.long x1), .second] [] := by first | (simp [entryFrame, mkF, argsToLocals, Value.category, maxLocals]; done) | rfl
def Qoi (Z : State) (a : Addr) (x : Int64) (h0 : Heap) (n0 : Nat) (v : Option Value) (h : Heap) (L : List Loc) : Prop := v = none ∧ Fr n0 L ∧ Keep h0 h [a] ∧ Exa Z h a "java/util/OptionalLong" ∧ Fld Z h a "java/util/OptionalLong" "isPresent" "Z" (.int (1 : Int32)) ∧ Fld Z h a "java/util/OptionalLong" "value" "J" (.long x)
set_option maxRecDepth 65536 in
set_option maxHeartbeats 40000000 in
theorem rmoi (l : Launch) (Z : State) (a0 : Array Value) (hw : ∀ d ∈ tables_1, d.before a0 Z = true) (ws : List Jvm.Cond) (a : Addr) (x : Int64) (h0 : Heap) (n0 : Nat) (O0 : Old Z n0 h0) (E_a : Exa Z h0 a "java/util/OptionalLong") (F_a_isPresent : Fld Z h0 a "java/util/OptionalLong" "isPresent" "Z" (.int (0 : Int32))) (F_a_value : Fld Z h0 a "java/util/OptionalLong" "value" "J" (.long (0 : Int64))) (ga : n0 ≤ a) :
    MetFree l (⟨"java/util/OptionalLong", "<init>", "(J)V"⟩ : MethodName) (head1 (Jvm.Cond.code (⟨"java/util/OptionalLong", "<init>", "(J)V"⟩ : MethodName) jdk_2650_method_3_code 3 none :: ws) ({ frames := 1, cells := 0, slots := 0, locals := 12 } : Room)) (fun A_ U_ => A_ = #[(.ref a), (.long x)] ∧ Z.Warmed39 U_.vm ∧ U_.heap = h0) (fun _ _ _ _ _ => True) (fun _ U o U' => ∃ v L, o = .returned v ∧ Qoi Z a x h0 n0 v U'.heap L ∧ FrameEnd U o U' L ({ frames := 1, cells := 0, slots := 0, locals := 12 } : Room).cells ({ frames := 1, cells := 0, slots := 0, locals := 12 } : Room).slots) := by
  refine MetFree.of_bodySF (plainFor_of_name pnoi) hisR ?_
  intro p e s m args below meth cd s₁ Bd hml0 hP hK
  obtain ⟨rfl, hZ, hh⟩ := hP
  have hx := Bd.exec
  have hby := Bd.bytes
  have hlk : meth.locks = false := BodyLoose.notSynchronized Bd
  have hml : cd.maxLocals = 3 := hml0
  have hown : s.vm.findClass "java/util/OptionalLong" = some m.cls := findClass_of_methodNamed Bd.named
  have hnm := (name_of_methodNamed Bd.named Bd.method).1
  have X0 : Stand p l e ({ frames := 1, cells := 0, slots := 0, locals := 12 } : Room) s m #[(.ref a), (.long x)] below meth cd s₁ [] 0 0 := Stand.of_body Bd
  have e0 : s₁.heap = h0 := by rw [← hh, Bd.state]; rfl
  have N0 := Fr.nil n0
  have K0 : Keep h0 h0 [a] := Keep.refl _ _
  have G : Go p e below s 0 0 (Qoi Z a x h0 n0) (s₁.setTop (mkF m 0 #[.val (.ref a), .val (.long x), .second] [])) := by
    show Go p e below s _ _ _ (s₁.setTop (mkF m 0 #[.val (.ref a), .val (.long x), .second] []))
    refine Go.st (fun _ kq_ => XS.aloadN X0.here hx rfl (hb hby doi_0) rfl rfl kq_) ?_
    show Go p e below s _ _ _ (s₁.setTop (mkF m 1 #[.val (.ref a), .val (.long x), .second] [(.ref a)]))
    obtain ⟨T1, X1, e1, st1⟩ := initO X0 hx hZ hown (own_w hw 117 rfl) (own_w hw 20 rfl) (own_w hw 21 rfl) e0 (g := (mkF m 1 #[.val (.ref a), .val (.long x), .second] [(.ref a)])) rfl (by rw [hml]; rfl) rfl (hb hby doi_1) (by decide) (W := 0) (by show 2 * 0 + _ ≤ _; exact Nat.le_of_eq rfl) (by decide)
    refine Go.st st1 ?_
    show Go p e below s _ _ _ (T1.setTop (mkF m 4 #[.val (.ref a), .val (.long x), .second] []))
    refine Go.st (fun _ kq_ => XS.aloadN X1.here hx rfl (hb hby doi_4) rfl rfl kq_) ?_
    show Go p e below s _ _ _ (T1.setTop (mkF m 5 #[.val (.ref a), .val (.long x), .second] [(.ref a)]))
    refine Go.st (fun _ kq_ => XS.iconst X1.here hx rfl (hb hby doi_5) kq_) ?_
    show Go p e below s _ _ _ (T1.setTop (mkF m 6 #[.val (.ref a), .val (.long x), .second] [(.int (1 : Int32)), (.ref a)]))
    obtain ⟨T2, h2, X2, e2, W2, st2⟩ := putF X1 hx hZ hown (host := "") (Or.inl (own_w hw 101 rfl)) Via.refl e1 F_a_isPresent E_a (Or.inr ⟨(own_w hw 102 rfl), rfl, hnm⟩) (own_w hw 112 rfl) (ty := .boolean) (by decide) rfl rfl (g := (mkF m 6 #[.val (.ref a), .val (.long x), .second] [(.int (1 : Int32)), (.ref a)])) rfl rfl (hb hby doi_6)
    obtain ⟨lc2, X2, N2⟩ := own_gen X2 (Fr.snoc X2 N0 ga)
    have O2 := O0.wr W2 ga
    have K2 := K0.wr W2 (Or.inl (List.mem_of_getElem? (i := 0) rfl))
    have E_a := E_a.wr W2
    have F_a_value := F_a_value.other W2 (Or.inr (slot_ne (Or.inr (own_w hw 119 rfl)) (Or.inr (own_w hw 102 rfl)) (by decide) (by decide : parseFieldDescriptor "J" = some .long) (by decide : parseFieldDescriptor "Z" = some .boolean)))
    have F_a_isPresent := F_a_isPresent.same W2
    refine Go.st st2 ?_
    show Go p e below s _ _ _ (T2.setTop (mkF m 9 #[.val (.ref a), .val (.long x), .second] []))
    refine Go.st (fun _ kq_ => XS.aloadN X2.here hx rfl (hb hby doi_9) rfl rfl kq_) ?_
    show Go p e below s _ _ _ (T2.setTop (mkF m 10 #[.val (.ref a), .val (.long x), .second] [(.ref a)]))
    refine Go.st (fun _ kq_ => XT.lloadN X2.here hx rfl (hb hby doi_10) rfl kq_) ?_
    show Go p e below s _ _ _ (T2.setTop (mkF m 11 #[.val (.ref a), .val (.long x), .second] [(.long x), (.ref a)]))
    obtain ⟨T3, h3, X3, e3, W3, st3⟩ := putF X2 hx hZ hown (host := "") (Or.inl (own_w hw 118 rfl)) Via.refl e2 F_a_value E_a (Or.inr ⟨(own_w hw 119 rfl), rfl, hnm⟩) (own_w hw 112 rfl) (ty := .long) (by decide) rfl rfl (g := (mkF m 11 #[.val (.ref a), .val (.long x), .second] [(.long x), (.ref a)])) rfl rfl (hb hby doi_11)
    obtain ⟨lc3, X3, N3⟩ := own_gen X3 (Fr.snoc X3 N2 ga)
    have O3 := O2.wr W3 ga
    have K3 := K2.wr W3 (Or.inl (List.mem_of_getElem? (i := 0) rfl))
    have E_a := E_a.wr W3
    have F_a_isPresent := F_a_isPresent.other W3 (Or.inr (slot_ne (Or.inr (own_w hw 102 rfl)) (Or.inr (own_w hw 119 rfl)) (by decide) (by decide : parseFieldDescriptor "Z" = some .boolean) (by decide : parseFieldDescriptor "J" = some .long)))
    have F_a_value := F_a_value.same W3
    refine Go.st st3 ?_
    show Go p e below s _ _ _ (T3.setTop (mkF m 14 #[.val (.ref a), .val (.long x), .second] []))
    exact Go.ret X3 hlk (none) (fun _ => rfl) (by rw [e3]; exact ⟨rfl, N3, K3, E_a, F_a_isPresent, F_a_value⟩) (by decide) (by decide) (fun fs hr => X3.returnOut hx Bd.returns (hb hby doi_14) hr)
  obtain ⟨s2, o2, st2, r2⟩ := G
  exact ⟨s2, o2, castTop (efoi m a x) st2, r2⟩
theorem dof_0 : decode jdk_2650_method_4_code 0 = .ok (.new 8, 3) := by decide +kernel
theorem dof_3 : decode jdk_2650_method_4_code 3 = .ok (.dup, 1) := by decide +kernel
theorem dof_4 : decode jdk_2650_method_4_code 4 = .ok (.lload_n 0, 1) := by decide +kernel
theorem dof_5 : decode jdk_2650_method_4_code 5 = .ok (.invokespecial 21, 3) := by decide +kernel
theorem dof_8 : decode jdk_2650_method_4_code 8 = .ok (.areturn, 1) := by decide +kernel
theorem pdof_0 : parseMethodDescriptor "(J)V" = some ⟨[.long], none⟩ := by decide +kernel
theorem pnof : plainName "java/util/OptionalLong" = true := by first | (simp [plainName, overriddenIn]; done) | decide +kernel
theorem efof (m : MethodId) (x0 : Int64) : entryFrame m #[(.long x0)] 2 = mkF m 0 #[.val (.long x0), .second] [] := by first | (simp [entryFrame, mkF, argsToLocals, Value.category, maxLocals]; done) | rfl
def Qof (Z : State) (x : Int64) (h0 : Heap) (n0 : Nat) (v : Option Value) (h : Heap) (L : List Loc) : Prop := ∃ r : Addr, v = some (.ref r) ∧ Fr n0 L ∧ Keep h0 h [] ∧ n0 ≤ r ∧ h0.size ≤ r ∧ Exa Z h r "java/util/OptionalLong" ∧ Fld Z h r "java/util/OptionalLong" "isPresent" "Z" (.int (1 : Int32)) ∧ Fld Z h r "java/util/OptionalLong" "value" "J" (.long x)
set_option maxRecDepth 65536 in
set_option maxHeartbeats 40000000 in
theorem rmof (l : Launch) (Z : State) (a0 : Array Value) (hw : ∀ d ∈ tables_1, d.before a0 Z = true) (ws : List Jvm.Cond) (x : Int64) (h0 : Heap) (n0 : Nat) (O0 : Old Z n0 h0)  :
    MetFree l (⟨"java/util/OptionalLong", "of", "(J)Ljava/util/OptionalLong;"⟩ : MethodName) (head1 (Jvm.Cond.code (⟨"java/util/OptionalLong", "of", "(J)Ljava/util/OptionalLong;"⟩ : MethodName) jdk_2650_method_4_code 2 (some (.object "java/util/OptionalLong")) :: ws) ({ frames := 2, cells := 1, slots := 2, locals := 27 } : Room)) (fun A_ U_ => A_ = #[(.long x)] ∧ Z.Warmed39 U_.vm ∧ U_.heap = h0) (fun _ _ _ _ _ => True) (fun _ U o U' => ∃ v L, o = .returned v ∧ Qof Z x h0 n0 v U'.heap L ∧ FrameEnd U o U' L ({ frames := 2, cells := 1, slots := 2, locals := 27 } : Room).cells ({ frames := 2, cells := 1, slots := 2, locals := 27 } : Room).slots) := by
  refine MetFree.of_bodySF (plainFor_of_name pnof) hisR ?_
  intro p e s m args below meth cd s₁ Bd hml0 hP hK
  obtain ⟨rfl, hZ, hh⟩ := hP
  have hx := Bd.exec
  have hby := Bd.bytes
  have hlk : meth.locks = false := BodyLoose.notSynchronized Bd
  have hml : cd.maxLocals = 2 := hml0
  have hown : s.vm.findClass "java/util/OptionalLong" = some m.cls := findClass_of_methodNamed Bd.named
  have hnm := (name_of_methodNamed Bd.named Bd.method).1
  have X0 : Stand p l e ({ frames := 2, cells := 1, slots := 2, locals := 27 } : Room) s m #[(.long x)] below meth cd s₁ [] 0 0 := Stand.of_body Bd
  have e0 : s₁.heap = h0 := by rw [← hh, Bd.state]; rfl
  have N0 := Fr.nil n0
  have K0 : Keep h0 h0 [] := Keep.refl _ _
  have G : Go p e below s 1 2 (Qof Z x h0 n0) (s₁.setTop (mkF m 0 #[.val (.long x), .second] [])) := by
    show Go p e below s _ _ _ (s₁.setTop (mkF m 0 #[.val (.long x), .second] []))
    obtain ⟨T1, h1, X1, e1, E1, A1, D1, -, st1⟩ := newO X0 hx hZ hown (own_w hw 111 rfl) (own_w hw 112 rfl) (own_w hw 93 rfl) e0 (g := (mkF m 0 #[.val (.long x), .second] [])) rfl (hb hby dof_0) (by decide) (by decide)
    obtain ⟨a1, g1⟩ : ∃ z, z = h0.size := ⟨_, rfl⟩
    rw [← g1] at A1 D1 st1
    have g_a1 : n0 ≤ a1 := Nat.le_trans (own_old O0) (Nat.le_of_eq g1.symm)
    have sz_a1 : h0.size ≤ a1 := Nat.le_trans K0.1 (Nat.le_of_eq g1.symm)
    have O1 := O0.ext E1
    have K1 := K0.ext E1
    have E_a1 : Exa Z h1 a1 "java/util/OptionalLong" := A1
    have F_a1_isPresent : Fld Z h1 a1 "java/util/OptionalLong" "isPresent" "Z" (.int (0 : Int32)) := D1 (Or.inr (own_w hw 102 rfl)) (ty := .boolean) (by decide)
    have F_a1_value : Fld Z h1 a1 "java/util/OptionalLong" "value" "J" (.long (0 : Int64)) := D1 (Or.inr (own_w hw 119 rfl)) (ty := .long) (by decide)
    refine Go.st st1 ?_
    show Go p e below s _ _ _ (T1.setTop (mkF m 3 #[.val (.long x), .second] [(.ref a1)]))
    refine Go.st (fun _ kq_ => XS.dup X1.here hx rfl (hb hby dof_3) rfl rfl kq_) ?_
    show Go p e below s _ _ _ (T1.setTop (mkF m 4 #[.val (.long x), .second] [(.ref a1), (.ref a1)]))
    refine Go.st (fun _ kq_ => XT.lloadN X1.here hx rfl (hb hby dof_4) rfl kq_) ?_
    show Go p e below s _ _ _ (T1.setTop (mkF m 5 #[.val (.long x), .second] [(.long x), (.ref a1), (.ref a1)]))
    obtain ⟨_, _, ⟨T2, L2, k2, n2⟩, -, X2, ⟨Lc2, hQ2, l2, y2, z2⟩, st2⟩ := X1.specialBack hx (y := (⟨"java/util/OptionalLong", "<init>", "(J)V"⟩ : MethodName)) rfl hown (mvT hZ (own_w hw 113 rfl)) (mvT hZ (own_w hw 114 rfl)) (mvT hZ (own_w hw 116 rfl)) (by decide) (backOf (W := 1) (rmoi l Z a0 hw [] a1 x h1 n0 O1 E_a1 F_a1_isPresent F_a1_value g_a1) hZ (own_w hw 116 rfl) (own_w hw 93 rfl) (by decide) (by decide)) (g := (mkF m 5 #[.val (.long x), .second] [(.long x), (.ref a1), (.ref a1)])) rfl (by rw [hml]; rfl) (Steps.refl _) (a := a1) (argsL := [(.long x)]) (rest := [(.ref a1)]) (lenOf pdof_0 rfl) rfl (by show 2 * 0 + _ ≤ _; exact Nat.le_of_eq rfl) (hb hby dof_5) (fun _ _ => ⟨rfl, e1, (by decide : 1 + 0 ≤ _), (by decide : 2 + 0 ≤ _)⟩)
    dsimp only [Pt.U, Pt.locs, Pt.cells, Pt.slots] at X2 l2 y2 z2 st2 hQ2
    subst y2 z2
    obtain ⟨rfl, Nc2, Kc2, NE_a1, NF_a1_isPresent, NF_a1_value⟩ := hQ2
    have N2 : Fr n0 L2 := by rw [l2]; exact Fr.app N0 Nc2
    have O2 := O1.keep Kc2 (allS g_a1 all0)
    have K2 := K1.trans Kc2 (allS (Or.inr sz_a1) all0)
    have E_a1 := NE_a1
    have F_a1_isPresent := NF_a1_isPresent
    have F_a1_value := NF_a1_value
    refine Go.tr st2 ?_
    show Go p e below s _ _ _ (T2.setTop (mkF m 8 #[.val (.long x), .second] [(.ref a1)]))
    exact Go.ret X2 hlk (some (.ref a1)) (fun h => by rw [Bd.returns] at h; cases h) (by exact ⟨a1, rfl, N2, K2, g_a1, sz_a1, E_a1, F_a1_isPresent, F_a1_value⟩) (by decide) (by decide) (fun fs hr => retOut X2 hx Bd.returns rfl (Or.inr (Or.inr (Or.inr (Or.inr ⟨rfl, rfl, rfl⟩)))) (hb hby dof_8) hr)
  obtain ⟨s2, o2, st2, r2⟩ := G
  exact ⟨s2, o2, castTop (efof m x) st2, r2⟩
theorem doe_0 : decode jdk_2650_method_2_code 0 = .ok (.getstatic 17, 3) := by decide +kernel
theorem doe_3 : decode jdk_2650_method_2_code 3 = .ok (.areturn, 1) := by decide +kernel
theorem pnoe : plainName "java/util/OptionalLong" = true := by first | (simp [plainName, overriddenIn]; done) | decide +kernel
theorem efoe (m : MethodId)  : entryFrame m #[] 0 = mkF m 0 #[] [] := by first | (simp [entryFrame, mkF, argsToLocals, Value.category, maxLocals]; done) | rfl
def Qoe (Z : State) (oe : Addr) (h0 : Heap) (n0 : Nat) (v : Option Value) (h : Heap) (L : List Loc) : Prop := v = some (.ref oe) ∧ Fr n0 L ∧ h = h0
set_option maxRecDepth 65536 in
set_option maxHeartbeats 40000000 in
theorem rmoe (l : Launch) (Z : State) (a0 : Array Value) (hw : ∀ d ∈ tables_1, d.before a0 Z = true) (ws : List Jvm.Cond) (oe : Addr) (h0 : Heap) (n0 : Nat) (O0 : Old Z n0 h0) (SE : Sta Z Z.heap "java/util/OptionalLong" "EMPTY" "Ljava/util/OptionalLong;" (.ref oe)) :
    MetFree l (⟨"java/util/OptionalLong", "empty", "()Ljava/util/OptionalLong;"⟩ : MethodName) (head1 (Jvm.Cond.code (⟨"java/util/OptionalLong", "empty", "()Ljava/util/OptionalLong;"⟩ : MethodName) jdk_2650_method_2_code 0 (some (.object "java/util/OptionalLong")) :: ws) ({ frames := 0, cells := 0, slots := 0, locals := 0 } : Room)) (fun A_ U_ => A_ = #[] ∧ Z.Warmed39 U_.vm ∧ U_.heap = h0) (fun _ _ _ _ _ => True) (fun _ U o U' => ∃ v L, o = .returned v ∧ Qoe Z oe h0 n0 v U'.heap L ∧ FrameEnd U o U' L ({ frames := 0, cells := 0, slots := 0, locals := 0 } : Room).cells ({ frames := 0, cells := 0, slots := 0, locals := 0 } : Room).slots) := by
  refine MetFree.of_bodySF (plainFor_of_name pnoe) hisR ?_
  intro p e s m args below meth cd s₁ Bd hml0 hP hK
  obtain ⟨rfl, hZ, hh⟩ := hP
  have hx := Bd.exec
  have hby := Bd.bytes
  have hlk : meth.locks = false := BodyLoose.notSynchronized Bd
  have hml : cd.maxLocals = 0 := hml0
  have hown : s.vm.findClass "java/util/OptionalLong" = some m.cls := findClass_of_methodNamed Bd.named
  have hnm := (name_of_methodNamed Bd.named Bd.method).1
  have X0 : Stand p l e ({ frames := 0, cells := 0, slots := 0, locals := 0 } : Room) s m #[] below meth cd s₁ [] 0 0 := Stand.of_body Bd
  have e0 : s₁.heap = h0 := by rw [← hh, Bd.state]; rfl
  have N0 := Fr.nil n0
  have G : Go p e below s 0 0 (Qoe Z oe h0 n0) (s₁.setTop (mkF m 0 #[] [])) := by
    show Go p e below s _ _ _ (s₁.setTop (mkF m 0 #[] []))
    obtain ⟨T1, X1, e1, st1⟩ := getS X0 hx hZ hown (host := "") (own_w hw 95 rfl) Via.refl e0 (SE.ext O0.2) (g := (mkF m 0 #[] [])) rfl (hb hby doe_0)
    refine Go.st st1 ?_
    show Go p e below s _ _ _ (T1.setTop (mkF m 3 #[] [(.ref oe)]))
    exact Go.ret X1 hlk (some (.ref oe)) (fun h => by rw [Bd.returns] at h; cases h) (by rw [e1]; exact ⟨rfl, N0, rfl⟩) (by decide) (by decide) (fun fs hr => retOut X1 hx Bd.returns rfl (Or.inr (Or.inr (Or.inr (Or.inr ⟨rfl, rfl, rfl⟩)))) (hb hby doe_3) hr)
  obtain ⟨s2, o2, st2, r2⟩ := G
  exact ⟨s2, o2, castTop (efoe m ) st2, r2⟩
theorem di1_0 : decode prog_3_method_6_code 0 = .ok (.aload_n 0, 1) := by decide +kernel
theorem di1_1 : decode prog_3_method_6_code 1 = .ok (.getfield 33, 3) := by decide +kernel
theorem di1_4 : decode prog_3_method_6_code 4 = .ok (.ifCond .eq 13, 3) := by decide +kernel
theorem di1_7 : decode prog_3_method_6_code 7 = .ok (.aload_n 0, 1) := by decide +kernel
theorem di1_8 : decode prog_3_method_6_code 8 = .ok (.getfield 29, 3) := by decide +kernel
theorem di1_11 : decode prog_3_method_6_code 11 = .ok (.invokestatic 52, 3) := by decide +kernel
theorem di1_14 : decode prog_3_method_6_code 14 = .ok (.goto 6, 3) := by decide +kernel
theorem di1_20 : decode prog_3_method_6_code 20 = .ok (.areturn, 1) := by decide +kernel
theorem pdi1_0 : parseMethodDescriptor "(J)Ljava/util/OptionalLong;" = some ⟨[.long], some (.object "java/util/OptionalLong")⟩ := by decide +kernel
theorem pni1 : plainName "com/example/duplexwire/duplexwire/protocol/FrameException" = true := by first | (simp [plainName, overriddenIn]; done) | decide +kernel
theorem efi1 (m : MethodId) (x0 : Addr) : entryFrame m #[(.ref x0)] 1 = mkF m 0 #[.val (.ref x0)] [] := by first | (simp [entryFrame, mkF, argsToLocals, Value.category, maxLocals]; done) | rfl
def Qi1 (Z : State) (a : Addr) (x : Int64) (h0 : Heap) (n0 : Nat) (v : Option Value) (h : Heap) (L : List Loc) : Prop := ∃ r : Addr, v = some (.ref r) ∧ Fr n0 L ∧ Keep h0 h [] ∧ n0 ≤ r ∧ h0.size ≤ r ∧ Exa Z h r "java/util/OptionalLong" ∧ Fld Z h r "java/util/OptionalLong" "isPresent" "Z" (.int (1 : Int32)) ∧ Fld Z h r "java/util/OptionalLong" "value" "J" (.long x)
set_option maxRecDepth 65536 in
set_option maxHeartbeats 40000000 in
theorem rmi1 (l : Launch) (Z : State) (a0 : Array Value) (hw : ∀ d ∈ tables_1, d.before a0 Z = true) (ws : List Jvm.Cond) (a : Addr) (x : Int64) (h0 : Heap) (n0 : Nat) (O0 : Old Z n0 h0) (F_a_hasId : Fld Z h0 a "com/example/duplexwire/duplexwire/protocol/FrameException" "hasId" "Z" (.int (1 : Int32))) (F_a_id : Fld Z h0 a "com/example/duplexwire/duplexwire/protocol/FrameException" "id" "J" (.long x)) :
    MetFree l (⟨"com/example/duplexwire/duplexwire/protocol/FrameException", "id", "()Ljava/util/OptionalLong;"⟩ : MethodName) (head1 (Jvm.Cond.code (⟨"com/example/duplexwire/duplexwire/protocol/FrameException", "id", "()Ljava/util/OptionalLong;"⟩ : MethodName) prog_3_method_6_code 1 (some (.object "java/util/OptionalLong")) :: ws) ({ frames := 3, cells := 1, slots := 2, locals := 40 } : Room)) (fun A_ U_ => A_ = #[(.ref a)] ∧ Z.Warmed39 U_.vm ∧ U_.heap = h0) (fun _ _ _ _ _ => True) (fun _ U o U' => ∃ v L, o = .returned v ∧ Qi1 Z a x h0 n0 v U'.heap L ∧ FrameEnd U o U' L ({ frames := 3, cells := 1, slots := 2, locals := 40 } : Room).cells ({ frames := 3, cells := 1, slots := 2, locals := 40 } : Room).slots) := by
  refine MetFree.of_bodySF (plainFor_of_name pni1) hisR ?_
  intro p e s m args below meth cd s₁ Bd hml0 hP hK
  obtain ⟨rfl, hZ, hh⟩ := hP
  have hx := Bd.exec
  have hby := Bd.bytes
  have hlk : meth.locks = false := BodyLoose.notSynchronized Bd
  have hml : cd.maxLocals = 1 := hml0
  have hown : s.vm.findClass "com/example/duplexwire/duplexwire/protocol/FrameException" = some m.cls := findClass_of_methodNamed Bd.named
  have hnm := (name_of_methodNamed Bd.named Bd.method).1
  have X0 : Stand p l e ({ frames := 3, cells := 1, slots := 2, locals := 40 } : Room) s m #[(.ref a)] below meth cd s₁ [] 0 0 := Stand.of_body Bd
  have e0 : s₁.heap = h0 := by rw [← hh, Bd.state]; rfl
  have N0 := Fr.nil n0
  have K0 : Keep h0 h0 [] := Keep.refl _ _
  have G : Go p e below s 1 2 (Qi1 Z a x h0 n0) (s₁.setTop (mkF m 0 #[.val (.ref a)] [])) := by
    show Go p e below s _ _ _ (s₁.setTop (mkF m 0 #[.val (.ref a)] []))
    refine Go.st (fun _ kq_ => XS.aloadN X0.here hx rfl (hb hby di1_0) rfl rfl kq_) ?_
    show Go p e below s _ _ _ (s₁.setTop (mkF m 1 #[.val (.ref a)] [(.ref a)]))
    obtain ⟨T1, X1, e1, st1⟩ := getF X0 hx hZ hown (host := "") (Or.inl (own_w hw 84 rfl)) Via.refl e0 F_a_hasId (g := (mkF m 1 #[.val (.ref a)] [(.ref a)])) rfl rfl (hb hby di1_1)
    refine Go.st st1 ?_
    show Go p e below s _ _ _ (T1.setTop (mkF m 4 #[.val (.ref a)] [(.int (1 : Int32))]))
    refine Go.st (fun _ kq_ => XS.ifNo X1.here hx rfl (hb hby di1_4) rfl (by decide) kq_) ?_
    show Go p e below s _ _ _ (T1.setTop (mkF m 7 #[.val (.ref a)] []))
    refine Go.st (fun _ kq_ => XS.aloadN X1.here hx rfl (hb hby di1_7) rfl rfl kq_) ?_
    show Go p e below s _ _ _ (T1.setTop (mkF m 8 #[.val (.ref a)] [(.ref a)]))
    obtain ⟨T2, X2, e2, st2⟩ := getF X1 hx hZ hown (host := "") (Or.inl (own_w hw 82 rfl)) Via.refl e1 F_a_id (g := (mkF m 8 #[.val (.ref a)] [(.ref a)])) rfl rfl (hb hby di1_8)
    refine Go.st st2 ?_
    show Go p e below s _ _ _ (T2.setTop (mkF m 11 #[.val (.ref a)] [(.long x)]))
    obtain ⟨_, _, ⟨T3, L3, k3, n3⟩, -, X3, ⟨Lc3, hQ3, l3, y3, z3⟩, st3⟩ := Jvm.LawKit.callS X2 hx (y := (⟨"java/util/OptionalLong", "of", "(J)Ljava/util/OptionalLong;"⟩ : MethodName)) hown (mvT hZ (own_w hw 108 rfl)) (mvT hZ (own_w hw 109 rfl)) (mvT hZ (own_w hw 93 rfl)) (mvT hZ (own_w hw 110 rfl)) (by decide) (backOf (W := 0) (rmof l Z a0 hw [] x h0 n0 O0 ) hZ (own_w hw 110 rfl) (own_w hw 93 rfl) (by decide) (by decide)) (g := (mkF m 11 #[.val (.ref a)] [(.long x)])) rfl (by rw [hml]; rfl) (argsL := [(.long x)]) (rest := []) (lenOf pdi1_0 rfl) rfl (by show 2 * 0 + _ ≤ _; exact Nat.le_of_eq rfl) (hb hby di1_11) (fun _ _ => ⟨rfl, e2, (by decide : 0 + 1 ≤ _), (by decide : 0 + 2 ≤ _)⟩)
    dsimp only [Pt.U, Pt.locs, Pt.cells, Pt.slots] at X3 l3 y3 z3 st3 hQ3
    subst y3 z3
    obtain ⟨r3, rfl, Nc3, Kc3, gr3, szr3, NE_r3, NF_r3_isPresent, NF_r3_value⟩ := hQ3
    have N3 : Fr n0 L3 := by rw [l3]; exact Fr.app N0 Nc3
    have g_r3 : n0 ≤ r3 := gr3
    have sz_r3 : h0.size ≤ r3 := Nat.le_trans K0.1 szr3
    have ne_a_r3 : a ≠ r3 := Nat.ne_of_lt (Nat.lt_of_lt_of_le F_a_hasId.lt szr3)
    have F_a_hasId := F_a_hasId.keep Kc3 nin0
    have F_a_id := F_a_id.keep Kc3 nin0
    have O3 := O0.keep Kc3 all0
    have K3 := K0.trans Kc3 all0
    have E_r3 := NE_r3
    have F_r3_isPresent := NF_r3_isPresent
    have F_r3_value := NF_r3_value
    refine Go.st st3 ?_
    show Go p e below s _ _ _ (T3.setTop (mkF m 14 #[.val (.ref a)] [(.ref r3)]))
    refine Go.st (fun _ kq_ => XS.goto X3.here hx rfl (pc0 := 14) (pc' := 20) rfl (hb hby di1_14) (by decide) (by decide) kq_) ?_
    show Go p e below s _ _ _ (T3.setTop (mkF m 20 #[.val (.ref a)] [(.ref r3)]))
    exact Go.ret X3 hlk (some (.ref r3)) (fun h => by rw [Bd.returns] at h; cases h) (by exact ⟨r3, rfl, N3, K3, g_r3, sz_r3, E_r3, F_r3_isPresent, F_r3_value⟩) (by decide) (by decide) (fun fs hr => retOut X3 hx Bd.returns rfl (Or.inr (Or.inr (Or.inr (Or.inr ⟨rfl, rfl, rfl⟩)))) (hb hby di1_20) hr)
  obtain ⟨s2, o2, st2, r2⟩ := G
  exact ⟨s2, o2, castTop (efi1 m a) st2, r2⟩
theorem di0_0 : decode prog_3_method_6_code 0 = .ok (.aload_n 0, 1) := by decide +kernel
theorem di0_1 : decode prog_3_method_6_code 1 = .ok (.getfield 33, 3) := by decide +kernel
theorem di0_4 : decode prog_3_method_6_code 4 = .ok (.ifCond .eq 13, 3) := by decide +kernel
theorem di0_17 : decode prog_3_method_6_code 17 = .ok (.invokestatic 58, 3) := by decide +kernel
theorem di0_20 : decode prog_3_method_6_code 20 = .ok (.areturn, 1) := by decide +kernel
theorem pdi0_0 : parseMethodDescriptor "()Ljava/util/OptionalLong;" = some ⟨[], some (.object "java/util/OptionalLong")⟩ := by decide +kernel
theorem pni0 : plainName "com/example/duplexwire/duplexwire/protocol/FrameException" = true := by first | (simp [plainName, overriddenIn]; done) | decide +kernel
theorem efi0 (m : MethodId) (x0 : Addr) : entryFrame m #[(.ref x0)] 1 = mkF m 0 #[.val (.ref x0)] [] := by first | (simp [entryFrame, mkF, argsToLocals, Value.category, maxLocals]; done) | rfl
def Qi0 (Z : State) (a : Addr) (oe : Addr) (h0 : Heap) (n0 : Nat) (v : Option Value) (h : Heap) (L : List Loc) : Prop := v = some (.ref oe) ∧ Fr n0 L ∧ h = h0
set_option maxRecDepth 65536 in
set_option maxHeartbeats 40000000 in
theorem rmi0 (l : Launch) (Z : State) (a0 : Array Value) (hw : ∀ d ∈ tables_1, d.before a0 Z = true) (ws : List Jvm.Cond) (a : Addr) (oe : Addr) (h0 : Heap) (n0 : Nat) (O0 : Old Z n0 h0) (F_a_hasId : Fld Z h0 a "com/example/duplexwire/duplexwire/protocol/FrameException" "hasId" "Z" (.int (0 : Int32))) (SE : Sta Z Z.heap "java/util/OptionalLong" "EMPTY" "Ljava/util/OptionalLong;" (.ref oe)) :
    MetFree l (⟨"com/example/duplexwire/duplexwire/protocol/FrameException", "id", "()Ljava/util/OptionalLong;"⟩ : MethodName) (head1 (Jvm.Cond.code (⟨"com/example/duplexwire/duplexwire/protocol/FrameException", "id", "()Ljava/util/OptionalLong;"⟩ : MethodName) prog_3_method_6_code 1 (some (.object "java/util/OptionalLong")) :: ws) ({ frames := 1, cells := 0, slots := 0, locals := 11 } : Room)) (fun A_ U_ => A_ = #[(.ref a)] ∧ Z.Warmed39 U_.vm ∧ U_.heap = h0) (fun _ _ _ _ _ => True) (fun _ U o U' => ∃ v L, o = .returned v ∧ Qi0 Z a oe h0 n0 v U'.heap L ∧ FrameEnd U o U' L ({ frames := 1, cells := 0, slots := 0, locals := 11 } : Room).cells ({ frames := 1, cells := 0, slots := 0, locals := 11 } : Room).slots) := by
  refine MetFree.of_bodySF (plainFor_of_name pni0) hisR ?_
  intro p e s m args below meth cd s₁ Bd hml0 hP hK
  obtain ⟨rfl, hZ, hh⟩ := hP
  have hx := Bd.exec
  have hby := Bd.bytes
  have hlk : meth.locks = false := BodyLoose.notSynchronized Bd
  have hml : cd.maxLocals = 1 := hml0
  have hown : s.vm.findClass "com/example/duplexwire/duplexwire/protocol/FrameException" = some m.cls := findClass_of_methodNamed Bd.named
  have hnm := (name_of_methodNamed Bd.named Bd.method).1
  have X0 : Stand p l e ({ frames := 1, cells := 0, slots := 0, locals := 11 } : Room) s m #[(.ref a)] below meth cd s₁ [] 0 0 := Stand.of_body Bd
  have e0 : s₁.heap = h0 := by rw [← hh, Bd.state]; rfl
  have N0 := Fr.nil n0
  have G : Go p e below s 0 0 (Qi0 Z a oe h0 n0) (s₁.setTop (mkF m 0 #[.val (.ref a)] [])) := by
    show Go p e below s _ _ _ (s₁.setTop (mkF m 0 #[.val (.ref a)] []))
    refine Go.st (fun _ kq_ => XS.aloadN X0.here hx rfl (hb hby di0_0) rfl rfl kq_) ?_
    show Go p e below s _ _ _ (s₁.setTop (mkF m 1 #[.val (.ref a)] [(.ref a)]))
    obtain ⟨T1, X1, e1, st1⟩ := getF X0 hx hZ hown (host := "") (Or.inl (own_w hw 84 rfl)) Via.refl e0 F_a_hasId (g := (mkF m 1 #[.val (.ref a)] [(.ref a)])) rfl rfl (hb hby di0_1)
    refine Go.st st1 ?_
    show Go p e below s _ _ _ (T1.setTop (mkF m 4 #[.val (.ref a)] [(.int (0 : Int32))]))
    refine Go.st (fun _ kq_ => XS.ifYes X1.here hx rfl (pc0 := 4) (pc' := 17) rfl (hb hby di0_4) rfl (by decide) (by decide) (by decide) kq_) ?_
    show Go p e below s _ _ _ (T1.setTop (mkF m 17 #[.val (.ref a)] []))
    obtain ⟨_, _, ⟨T2, L2, k2, n2⟩, -, X2, ⟨Lc2, hQ2, l2, y2, z2⟩, st2⟩ := Jvm.LawKit.callS X1 hx (y := (⟨"java/util/OptionalLong", "empty", "()Ljava/util/OptionalLong;"⟩ : MethodName)) hown (mvT hZ (own_w hw 91 rfl)) (mvT hZ (own_w hw 92 rfl)) (mvT hZ (own_w hw 93 rfl)) (mvT hZ (own_w hw 94 rfl)) (by decide) (backOf (W := 0) (rmoe l Z a0 hw [] oe h0 n0 O0 SE) hZ (own_w hw 94 rfl) (own_w hw 93 rfl) (by decide) (by decide)) (g := (mkF m 17 #[.val (.ref a)] [])) rfl (by rw [hml]; rfl) (argsL := []) (rest := []) (lenOf pdi0_0 rfl) rfl (by show 2 * 0 + _ ≤ _; exact Nat.le_of_eq rfl) (hb hby di0_17) (fun _ _ => ⟨rfl, e1, (by decide : 0 + 0 ≤ _), (by decide : 0 + 0 ≤ _)⟩)
    dsimp only [Pt.U, Pt.locs, Pt.cells, Pt.slots] at X2 l2 y2 z2 st2 hQ2
    subst y2 z2
    obtain ⟨rfl, Nc2, e2⟩ := hQ2
    have N2 : Fr n0 L2 := by rw [l2]; exact Fr.app N0 Nc2
    refine Go.st st2 ?_
    show Go p e below s _ _ _ (T2.setTop (mkF m 20 #[.val (.ref a)] [(.ref oe)]))
    exact Go.ret X2 hlk (some (.ref oe)) (fun h => by rw [Bd.returns] at h; cases h) (by rw [e2]; exact ⟨rfl, N2, rfl⟩) (by decide) (by decide) (fun fs hr => retOut X2 hx Bd.returns rfl (Or.inr (Or.inr (Or.inr (Or.inr ⟨rfl, rfl, rfl⟩)))) (hb hby di0_20) hr)
  obtain ⟨s2, o2, st2, r2⟩ := G
  exact ⟨s2, o2, castTop (efi0 m a) st2, r2⟩
theorem dip_0 : decode jdk_2650_method_6_code 0 = .ok (.aload_n 0, 1) := by decide +kernel
theorem dip_1 : decode jdk_2650_method_6_code 1 = .ok (.getfield 7, 3) := by decide +kernel
theorem dip_4 : decode jdk_2650_method_6_code 4 = .ok (.ireturn, 1) := by decide +kernel
theorem pnip : plainName "java/util/OptionalLong" = true := by first | (simp [plainName, overriddenIn]; done) | decide +kernel
theorem efip (m : MethodId) (x0 : Addr) : entryFrame m #[(.ref x0)] 1 = mkF m 0 #[.val (.ref x0)] [] := by first | (simp [entryFrame, mkF, argsToLocals, Value.category, maxLocals]; done) | rfl
def Qip (Z : State) (a : Addr) (b : Int32) (h0 : Heap) (n0 : Nat) (v : Option Value) (h : Heap) (L : List Loc) : Prop := v = some (.int b) ∧ Fr n0 L ∧ h = h0
set_option maxRecDepth 65536 in
set_option maxHeartbeats 40000000 in
theorem rmip (l : Launch) (Z : State) (a0 : Array Value) (hw : ∀ d ∈ tables_1, d.before a0 Z = true) (ws : List Jvm.Cond) (a : Addr) (b : Int32) (h0 : Heap) (n0 : Nat) (O0 : Old Z n0 h0) (F : Fld Z h0 a "java/util/OptionalLong" "isPresent" "Z" (.int b)) (hb1 : nar .boolean b = b) :
    MetFree l (⟨"java/util/OptionalLong", "isPresent", "()Z"⟩ : MethodName) (head1 (Jvm.Cond.code (⟨"java/util/OptionalLong", "isPresent", "()Z"⟩ : MethodName) jdk_2650_method_6_code 1 (some .boolean) :: ws) ({ frames := 0, cells := 0, slots := 0, locals := 0 } : Room)) (fun A_ U_ => A_ = #[(.ref a)] ∧ Z.Warmed39 U_.vm ∧ U_.heap = h0) (fun _ _ _ _ _ => True) (fun _ U o U' => ∃ v L, o = .returned v ∧ Qip Z a b h0 n0 v U'.heap L ∧ FrameEnd U o U' L ({ frames := 0, cells := 0, slots := 0, locals := 0 } : Room).cells ({ frames := 0, cells := 0, slots := 0, locals := 0 } : Room).slots) := by
  refine MetFree.of_bodySF (plainFor_of_name pnip) hisR ?_
  intro p e s m args below meth cd s₁ Bd hml0 hP hK
  obtain ⟨rfl, hZ, hh⟩ := hP
  have hx := Bd.exec
  have hby := Bd.bytes
  have hlk : meth.locks = false := BodyLoose.notSynchronized Bd
  have hml : cd.maxLocals = 1 := hml0
  have hown : s.vm.findClass "java/util/OptionalLong" = some m.cls := findClass_of_methodNamed Bd.named
  have hnm := (name_of_methodNamed Bd.named Bd.method).1
  have X0 : Stand p l e ({ frames := 0, cells := 0, slots := 0, locals := 0 } : Room) s m #[(.ref a)] below meth cd s₁ [] 0 0 := Stand.of_body Bd
  have e0 : s₁.heap = h0 := by rw [← hh, Bd.state]; rfl
  have N0 := Fr.nil n0
  have G : Go p e below s 0 0 (Qip Z a b h0 n0) (s₁.setTop (mkF m 0 #[.val (.ref a)] [])) := by
    show Go p e below s _ _ _ (s₁.setTop (mkF m 0 #[.val (.ref a)] []))
    refine Go.st (fun _ kq_ => XS.aloadN X0.here hx rfl (hb hby dip_0) rfl rfl kq_) ?_
    show Go p e below s _ _ _ (s₁.setTop (mkF m 1 #[.val (.ref a)] [(.ref a)]))
    obtain ⟨T1, X1, e1, st1⟩ := getF X0 hx hZ hown (host := "") (Or.inl (own_w hw 101 rfl)) Via.refl e0 F (g := (mkF m 1 #[.val (.ref a)] [(.ref a)])) rfl rfl (hb hby dip_1)
    refine Go.st st1 ?_
    show Go p e below s _ _ _ (T1.setTop (mkF m 4 #[.val (.ref a)] [(.int b)]))
    exact Go.ret X1 hlk (some (.int (nar .boolean b))) (fun h => by rw [Bd.returns] at h; cases h) (by rw [e1]; exact ⟨by rw [hb1], N0, rfl⟩) (by decide) (by decide) (fun fs hr => retN X1 hx (t := .boolean) Bd.returns (by simp) (hb hby dip_4) hr)
  obtain ⟨s2, o2, st2, r2⟩ := G
  exact ⟨s2, o2, castTop (efip m a) st2, r2⟩
theorem dgl_0 : decode jdk_2650_method_5_code 0 = .ok (.aload_n 0, 1) := by decide +kernel
theorem dgl_1 : decode jdk_2650_method_5_code 1 = .ok (.getfield 7, 3) := by decide +kernel
theorem dgl_4 : decode jdk_2650_method_5_code 4 = .ok (.ifCond .ne 13, 3) := by decide +kernel
theorem dgl_17 : decode jdk_2650_method_5_code 17 = .ok (.aload_n 0, 1) := by decide +kernel
theorem dgl_18 : decode jdk_2650_method_5_code 18 = .ok (.getfield 13, 3) := by decide +kernel
theorem dgl_21 : decode jdk_2650_method_5_code 21 = .ok (.lreturn, 1) := by decide +kernel
theorem pngl : plainName "java/util/OptionalLong" = true := by first | (simp [plainName, overriddenIn]; done) | decide +kernel
theorem efgl (m : MethodId) (x0 : Addr) : entryFrame m #[(.ref x0)] 1 = mkF m 0 #[.val (.ref x0)] [] := by first | (simp [entryFrame, mkF, argsToLocals, Value.category, maxLocals]; done) | rfl
def Qgl (Z : State) (a : Addr) (x : Int64) (h0 : Heap) (n0 : Nat) (v : Option Value) (h : Heap) (L : List Loc) : Prop := v = some (.long x) ∧ Fr n0 L ∧ h = h0
set_option maxRecDepth 65536 in
set_option maxHeartbeats 40000000 in
theorem rmgl (l : Launch) (Z : State) (a0 : Array Value) (hw : ∀ d ∈ tables_1, d.before a0 Z = true) (ws : List Jvm.Cond) (a : Addr) (x : Int64) (h0 : Heap) (n0 : Nat) (O0 : Old Z n0 h0) (F_a_isPresent : Fld Z h0 a "java/util/OptionalLong" "isPresent" "Z" (.int (1 : Int32))) (F_a_value : Fld Z h0 a "java/util/OptionalLong" "value" "J" (.long x)) :
    MetFree l (⟨"java/util/OptionalLong", "getAsLong", "()J"⟩ : MethodName) (head1 (Jvm.Cond.code (⟨"java/util/OptionalLong", "getAsLong", "()J"⟩ : MethodName) jdk_2650_method_5_code 1 (some .long) :: ws) ({ frames := 0, cells := 0, slots := 0, locals := 0 } : Room)) (fun A_ U_ => A_ = #[(.ref a)] ∧ Z.Warmed39 U_.vm ∧ U_.heap = h0) (fun _ _ _ _ _ => True) (fun _ U o U' => ∃ v L, o = .returned v ∧ Qgl Z a x h0 n0 v U'.heap L ∧ FrameEnd U o U' L ({ frames := 0, cells := 0, slots := 0, locals := 0 } : Room).cells ({ frames := 0, cells := 0, slots := 0, locals := 0 } : Room).slots) := by
  refine MetFree.of_bodySF (plainFor_of_name pngl) hisR ?_
  intro p e s m args below meth cd s₁ Bd hml0 hP hK
  obtain ⟨rfl, hZ, hh⟩ := hP
  have hx := Bd.exec
  have hby := Bd.bytes
  have hlk : meth.locks = false := BodyLoose.notSynchronized Bd
  have hml : cd.maxLocals = 1 := hml0
  have hown : s.vm.findClass "java/util/OptionalLong" = some m.cls := findClass_of_methodNamed Bd.named
  have hnm := (name_of_methodNamed Bd.named Bd.method).1
  have X0 : Stand p l e ({ frames := 0, cells := 0, slots := 0, locals := 0 } : Room) s m #[(.ref a)] below meth cd s₁ [] 0 0 := Stand.of_body Bd
  have e0 : s₁.heap = h0 := by rw [← hh, Bd.state]; rfl
  have N0 := Fr.nil n0
  have G : Go p e below s 0 0 (Qgl Z a x h0 n0) (s₁.setTop (mkF m 0 #[.val (.ref a)] [])) := by
    show Go p e below s _ _ _ (s₁.setTop (mkF m 0 #[.val (.ref a)] []))
    refine Go.st (fun _ kq_ => XS.aloadN X0.here hx rfl (hb hby dgl_0) rfl rfl kq_) ?_
    show Go p e below s _ _ _ (s₁.setTop (mkF m 1 #[.val (.ref a)] [(.ref a)]))
    obtain ⟨T1, X1, e1, st1⟩ := getF X0 hx hZ hown (host := "") (Or.inl (own_w hw 101 rfl)) Via.refl e0 F_a_isPresent (g := (mkF m 1 #[.val (.ref a)] [(.ref a)])) rfl rfl (hb hby dgl_1)
    refine Go.st st1 ?_
    show Go p e below s _ _ _ (T1.setTop (mkF m 4 #[.val (.ref a)] [(.int (1 : Int32))]))
    refine Go.st (fun _ kq_ => XS.ifYes X1.here hx rfl (pc0 := 4) (pc' := 17) rfl (hb hby dgl_4) rfl (by decide) (by decide) (by decide) kq_) ?_
    show Go p e below s _ _ _ (T1.setTop (mkF m 17 #[.val (.ref a)] []))
    refine Go.st (fun _ kq_ => XS.aloadN X1.here hx rfl (hb hby dgl_17) rfl rfl kq_) ?_
    show Go p e below s _ _ _ (T1.setTop (mkF m 18 #[.val (.ref a)] [(.ref a)]))
    obtain ⟨T2, X2, e2, st2⟩ := getF X1 hx hZ hown (host := "") (Or.inl (own_w hw 118 rfl)) Via.refl e1 F_a_value (g := (mkF m 18 #[.val (.ref a)] [(.ref a)])) rfl rfl (hb hby dgl_18)
    refine Go.st st2 ?_
    show Go p e below s _ _ _ (T2.setTop (mkF m 21 #[.val (.ref a)] [(.long x)]))
    exact Go.ret X2 hlk (some (.long x)) (fun h => by rw [Bd.returns] at h; cases h) (by rw [e2]; exact ⟨rfl, N0, rfl⟩) (by decide) (by decide) (fun fs hr => retOut X2 hx Bd.returns rfl (Or.inr (Or.inl ⟨rfl, rfl, _, rfl⟩)) (hb hby dgl_21) hr)
  obtain ⟨s2, o2, st2, r2⟩ := G
  exact ⟨s2, o2, castTop (efgl m a) st2, r2⟩
theorem own_ch (x : Int32) : ¬ nar .char ((x &&& 255).toUInt32.toUInt16.toUInt32.toInt32) < 0 ∧ ¬ (255 : Int32) < nar .char ((x &&& 255).toUInt32.toUInt16.toUInt32.toInt32) := by
  have h0 : nar .char ((x &&& 255).toUInt32.toUInt16.toUInt32.toInt32) = (x &&& 255).toUInt32.toUInt16.toUInt32.toInt32 := Value.int.inj (XT.narrow_c _)
  rw [h0]
  have h1 := c_i2c (x &&& 255)
  have h2 := c_mask x 255 8 (by decide) (by decide)
  simp only [own_lt, Int32.reduceToInt]
  omega
theorem pd0_0 : parseMethodDescriptor "(I)Lcom/example/duplexwire/duplexwire/protocol/ErrorCode;" = some ⟨[.int], some (.object "com/example/duplexwire/duplexwire/protocol/ErrorCode")⟩ := by decide +kernel
theorem pd0_1 : parseMethodDescriptor "([C)V" = some ⟨[(.array .char)], none⟩ := by decide +kernel
theorem pd0_2 : parseMethodDescriptor "(Lcom/example/duplexwire/duplexwire/protocol/ErrorCode;Ljava/lang/String;)V" = some ⟨[(.object "com/example/duplexwire/duplexwire/protocol/ErrorCode"), (.object "java/lang/String")], none⟩ := by decide +kernel
theorem pd0_3 : parseMethodDescriptor "()Ljava/util/OptionalLong;" = some ⟨[], some (.object "java/util/OptionalLong")⟩ := by decide +kernel
theorem pd0_4 : parseMethodDescriptor "()Z" = some ⟨[], some .boolean⟩ := by decide +kernel
theorem pd0_5 : parseMethodDescriptor "(Lcom/example/duplexwire/duplexwire/protocol/ErrorCode;JLjava/lang/String;)V" = some ⟨[(.object "com/example/duplexwire/duplexwire/protocol/ErrorCode"), .long, (.object "java/lang/String")], none⟩ := by decide +kernel
theorem pd0_6 : parseMethodDescriptor "()J" = some ⟨[], some .long⟩ := by decide +kernel
theorem pn0 : plainName "com/example/duplexwire/duplexwire/protocol/FrameExceptionIdPinLaw" = true := by first | (simp [plainName, overriddenIn]; done) | decide +kernel
theorem ef0 (m : MethodId) (x0 : Int64) (x1 : Int32) (x2 : Int32) (x3 : Int32) (x4 : Int32) : entryFrame m #[(.long x0), (.int x1), (.int x2), (.int x3), (.int x4)] maxLocals = mkF m 0 #[.val (.long x0), .second, .val (.int x1), .val (.int x2), .val (.int x3), .val (.int x4), .unset, .unset, .unset, .unset, .unset, .unset] [] := by first | (simp [entryFrame, mkF, argsToLocals, Value.category, maxLocals]; done) | rfl
def Q0 (Z : State) (p0 : Int64) (p1 : Int32) (p2 : Int32) (p3 : Int32) (p4 : Int32) (c : Nat → Addr) (zc : Int32) (vu : Value) (vl : Value) (oe : Addr) (h0 : Heap) (n0 : Nat) (v : Option Value) (h : Heap) (L : List Loc) : Prop := v = some (.int 1) ∧ Fr n0 L
set_option maxRecDepth 65536 in
set_option maxHeartbeats 40000000 in
theorem rm0 (l : Launch) (Z : State) (a0 : Array Value) (hw : ∀ d ∈ tables_1, d.before a0 Z = true) (ws : List Jvm.Cond) (p0 : Int64) (p1 : Int32) (p2 : Int32) (p3 : Int32) (p4 : Int32) (c : Nat → Addr) (zc : Int32) (vu : Value) (vl : Value) (oe : Addr) (h0 : Heap) (n0 : Nat) (O0 : Old Z n0 h0) (hz0 : Z.heap = h0) (HS : OwnSt Z c) (SC : Sta Z Z.heap "java/lang/String" "COMPACT_STRINGS" "Z" (.int zc)) (hcs : ¬ zc = 0) (SU : Sta Z Z.heap "java/lang/Throwable" "UNASSIGNED_STACK" "[Ljava/lang/StackTraceElement;" vu) (ru : vu.isRef = true) (SS : Sta Z Z.heap "java/lang/Throwable" "SUPPRESSED_SENTINEL" "Ljava/util/List;" vl) (rl : vl.isRef = true) (SE : Sta Z Z.heap "java/util/OptionalLong" "EMPTY" "Ljava/util/OptionalLong;" (.ref oe)) (EO : Exa Z Z.heap oe "java/util/OptionalLong") (FO : Fld Z Z.heap oe "java/util/OptionalLong" "isPresent" "Z" (.int (0 : Int32))) :
    MetFree l x (head1 (Jvm.Cond.code x code maxLocals ret :: ws) room_1) (fun A_ U_ => A_ = #[(.long p0), (.int p1), (.int p2), (.int p3), (.int p4)] ∧ U_ = Z) (fun _ _ _ _ _ => True) (fun _ U o U' => ∃ v L, o = .returned v ∧ Q0 Z p0 p1 p2 p3 p4 c zc vu vl oe h0 n0 v U'.heap L ∧ ReturnedEndW U o U' L room_1.cells room_1.slots) := by
  refine MetFree.of_bodySF (plainFor_of_name pn0) hisR ?_
  intro p e s m args below meth cd s₁ Bd hml0 hP hK
  obtain ⟨rfl, hU⟩ := hP
  have hZ : Z.Warmed39 s.vm := by rw [hU]; exact State.Warmed39.refl Z
  have hh : s.heap = h0 := by rw [hU]; exact hz0
  have I0 : IB Z s.vm [] := by rw [hU]; exact IB.start
  have hkp : ∀ (b : Addr) (cl : Cell), Z.heap[b]? = some cl → s.heap[b]? = some cl := by rw [hU]; exact fun _ _ q => q
  have hs0 : s.heap.size = n0 := by rw [hU]; exact O0.1
  have hS0 : s.Since s.vm h0.size := State.WarmedH.since (State.WarmedH.refl s) _
  have hk0 : h0.size ≤ h0.size := Nat.le_refl _
  have hx := Bd.exec
  have hby := Bd.bytes
  have hlk : meth.locks = false := BodyLoose.notSynchronized Bd
  have hml : cd.maxLocals = 12 := hml0
  have hown : s.vm.findClass "com/example/duplexwire/duplexwire/protocol/FrameExceptionIdPinLaw" = some m.cls := findClass_of_methodNamed Bd.named
  have hnm := (name_of_methodNamed Bd.named Bd.method).1
  have X0 : Stand p l e room_1 s m #[(.long p0), (.int p1), (.int p2), (.int p3), (.int p4)] below meth cd s₁ [] 0 0 := Stand.of_body Bd
  have e0 : s₁.heap = h0 := by rw [← hh, Bd.state]; rfl
  have N0 := Fr.nil n0
  have hws : ∀ d ∈ StrChars.Road.words, d.before a0 Z = true := fun d hd => hw d ((by decide +kernel : ∀ d ∈ StrChars.Road.words, d ∈ tables_1) d hd)
  have G : GoW p e below s room_1.cells room_1.slots (Q0 Z p0 p1 p2 p3 p4 c zc vu vl oe h0 n0) (s₁.setTop (mkF m 0 #[.val (.long p0), .second, .val (.int p1), .val (.int p2), .val (.int p3), .val (.int p4), .unset, .unset, .unset, .unset, .unset, .unset] [])) := by
    show GoW p e below s _ _ _ (s₁.setTop (mkF m 0 #[.val (.long p0), .second, .val (.int p1), .val (.int p2), .val (.int p3), .val (.int p4), .unset, .unset, .unset, .unset, .unset, .unset] []))
    refine GoW.st (fun _ kq_ => XS.iloadN X0.here hx rfl (hb hby at_0) rfl kq_) ?_
    show GoW p e below s _ _ _ (s₁.setTop (mkF m 1 #[.val (.long p0), .second, .val (.int p1), .val (.int p2), .val (.int p3), .val (.int p4), .unset, .unset, .unset, .unset, .unset, .unset] [(.int p2)]))
    obtain ⟨_, _, ⟨T1, L1, k1, n1⟩, -, X1, ⟨Lc1, hQ1, l1, y1, z1⟩, st1⟩ := Jvm.LawKit.callS X0 hx (y := (⟨"com/example/duplexwire/duplexwire/protocol/FrameExceptionIdPinLaw", "code", "(I)Lcom/example/duplexwire/duplexwire/protocol/ErrorCode;"⟩ : MethodName)) hown (mvT hZ (own_w hw 0 rfl)) (mvT hZ (own_w hw 1 rfl)) (mvT hZ (own_w hw 2 rfl)) (mvT hZ (own_w hw 3 rfl)) (by decide) (backOf (W := 0) (rmc l Z a0 hw [] p2 c h0 n0 O0 HS) hZ (own_w hw 3 rfl) (own_w hw 2 rfl) (by decide) (by decide)) (g := (mkF m 1 #[.val (.long p0), .second, .val (.int p1), .val (.int p2), .val (.int p3), .val (.int p4), .unset, .unset, .unset, .unset, .unset, .unset] [(.int p2)])) rfl (by rw [hml]; rfl) (argsL := [(.int p2)]) (rest := []) (lenOf pd0_0 rfl) rfl (by show 2 * 0 + _ ≤ _; exact Nat.le_of_eq rfl) (hb hby at_1) (fun _ _ => ⟨rfl, e0, (by decide : 0 + 0 ≤ _), (by decide : 0 + 0 ≤ _)⟩)
    dsimp only [Pt.U, Pt.locs, Pt.cells, Pt.slots] at X1 l1 y1 z1 st1 hQ1
    subst y1 z1
    obtain ⟨er, rfl, EE, Nc1, e1⟩ := hQ1
    have N1 : Fr n0 L1 := by rw [l1]; exact Fr.app N0 Nc1
    refine GoW.st st1 ?_
    show GoW p e below s _ _ _ (T1.setTop (mkF m 4 #[.val (.long p0), .second, .val (.int p1), .val (.int p2), .val (.int p3), .val (.int p4), .unset, .unset, .unset, .unset, .unset, .unset] [(.ref er)]))
    refine GoW.st (fun _ kq_ => XS.astore X1.here hx rfl (hb hby at_4) rfl rfl (l' := #[.val (.long p0), .second, .val (.int p1), .val (.int p2), .val (.int p3), .val (.int p4), .val (.ref er), .unset, .unset, .unset, .unset, .unset]) rfl kq_) ?_
    show GoW p e below s _ _ _ (T1.setTop (mkF m 6 #[.val (.long p0), .second, .val (.int p1), .val (.int p2), .val (.int p3), .val (.int p4), .val (.ref er), .unset, .unset, .unset, .unset, .unset] []))
    refine GoW.st (fun _ kq_ => XS.iconst X1.here hx rfl (hb hby at_6) kq_) ?_
    show GoW p e below s _ _ _ (T1.setTop (mkF m 7 #[.val (.long p0), .second, .val (.int p1), .val (.int p2), .val (.int p3), .val (.int p4), .val (.ref er), .unset, .unset, .unset, .unset, .unset] [(.int (2 : Int32))]))
    obtain ⟨T2, h2, k2, X2, e2, E2, A2, st2⟩ := newP X1 hx hZ (own_w hw 8 rfl) e1 (g := (mkF m 7 #[.val (.long p0), .second, .val (.int p1), .val (.int p2), .val (.int p3), .val (.int p4), .val (.ref er), .unset, .unset, .unset, .unset, .unset] [(.int (2 : Int32))])) rfl (hb hby at_7) rfl (by decide) (cap := 2) (by decide) (by decide) (by decide) (by decide)
    obtain ⟨b2, g2⟩ : ∃ z, z = h0.size := ⟨_, rfl⟩
    rw [← g2] at A2 st2
    have g_b2 : n0 ≤ b2 := Nat.le_trans (own_old O0) (Nat.le_of_eq g2.symm)
    have hk2 := Nat.le_trans hk0 E2.1
    have O2 := O0.ext E2
    have V_b2 : Arv Z h2 b2 k2 .char (2 : Int32) [(.int (0 : Int32)), (.int (0 : Int32))] (.int (0 : Int32)) := (Arv.new A2 (by decide)).pad (pad_rep [] (.int (0 : Int32)) 2)
    refine GoW.st st2 ?_
    show GoW p e below s _ _ _ (T2.setTop (mkF m 9 #[.val (.long p0), .second, .val (.int p1), .val (.int p2), .val (.int p3), .val (.int p4), .val (.ref er), .unset, .unset, .unset, .unset, .unset] [(.ref b2)]))
    refine GoW.st (fun _ kq_ => XS.astore X2.here hx rfl (hb hby at_9) rfl rfl (l' := #[.val (.long p0), .second, .val (.int p1), .val (.int p2), .val (.int p3), .val (.int p4), .val (.ref er), .val (.ref b2), .unset, .unset, .unset, .unset]) rfl kq_) ?_
    show GoW p e below s _ _ _ (T2.setTop (mkF m 11 #[.val (.long p0), .second, .val (.int p1), .val (.int p2), .val (.int p3), .val (.int p4), .val (.ref er), .val (.ref b2), .unset, .unset, .unset, .unset] []))
    refine GoW.st (fun _ kq_ => XS.aload X2.here hx rfl (hb hby at_11) rfl rfl kq_) ?_
    show GoW p e below s _ _ _ (T2.setTop (mkF m 13 #[.val (.long p0), .second, .val (.int p1), .val (.int p2), .val (.int p3), .val (.int p4), .val (.ref er), .val (.ref b2), .unset, .unset, .unset, .unset] [(.ref b2)]))
    refine GoW.st (fun _ kq_ => XS.iconst X2.here hx rfl (hb hby at_13) kq_) ?_
    show GoW p e below s _ _ _ (T2.setTop (mkF m 14 #[.val (.long p0), .second, .val (.int p1), .val (.int p2), .val (.int p3), .val (.int p4), .val (.ref er), .val (.ref b2), .unset, .unset, .unset, .unset] [(.int (0 : Int32)), (.ref b2)]))
    refine GoW.st (fun _ kq_ => XS.iload X2.here hx rfl (hb hby at_14) rfl kq_) ?_
    show GoW p e below s _ _ _ (T2.setTop (mkF m 16 #[.val (.long p0), .second, .val (.int p1), .val (.int p2), .val (.int p3), .val (.int p4), .val (.ref er), .val (.ref b2), .unset, .unset, .unset, .unset] [(.int p3), (.int (0 : Int32)), (.ref b2)]))
    refine GoW.st (fun _ kq_ => XS.sipush X2.here hx rfl (hb hby at_16) kq_) ?_
    show GoW p e below s _ _ _ (T2.setTop (mkF m 19 #[.val (.long p0), .second, .val (.int p1), .val (.int p2), .val (.int p3), .val (.int p4), .val (.ref er), .val (.ref b2), .unset, .unset, .unset, .unset] [(.int (255 : Int32)), (.int p3), (.int (0 : Int32)), (.ref b2)]))
    refine GoW.st (fun _ kq_ => XS.iand X2.here hx rfl (hb hby at_19) rfl kq_) ?_
    show GoW p e below s _ _ _ (T2.setTop (mkF m 20 #[.val (.long p0), .second, .val (.int p1), .val (.int p2), .val (.int p3), .val (.int p4), .val (.ref er), .val (.ref b2), .unset, .unset, .unset, .unset] [(.int (p3 &&& (255 : Int32))), (.int (0 : Int32)), (.ref b2)]))
    refine GoW.st (fun _ kq_ => XT.i2c X2.here hx rfl (hb hby at_20) rfl kq_) ?_
    show GoW p e below s _ _ _ (T2.setTop (mkF m 21 #[.val (.long p0), .second, .val (.int p1), .val (.int p2), .val (.int p3), .val (.int p4), .val (.ref er), .val (.ref b2), .unset, .unset, .unset, .unset] [(.int ((p3 &&& (255 : Int32)).toUInt32.toUInt16.toUInt32.toInt32)), (.int (0 : Int32)), (.ref b2)]))
    obtain ⟨T3, h3, X3, e3, W3, V3, st3⟩ := own_stC X2 hx hZ e2 V_b2 (j := (0 : Int32)) (by decide) (by decide) 0 rfl (Nat.le_of_ble_eq_true rfl) (g := (mkF m 21 #[.val (.long p0), .second, .val (.int p1), .val (.int p2), .val (.int p3), .val (.int p4), .val (.ref er), .val (.ref b2), .unset, .unset, .unset, .unset] [(.int ((p3 &&& (255 : Int32)).toUInt32.toUInt16.toUInt32.toInt32)), (.int (0 : Int32)), (.ref b2)])) rfl rfl (hb hby at_21)
    obtain ⟨lc3, X3, N3⟩ := own_gen X3 (Fr.snoc X3 N1 g_b2)
    have O3 := O2.wr W3 g_b2
    have hk3 := Nat.le_trans hk2 (Nat.le_of_eq W3.size.symm)
    have V_b2 : Arv Z h3 b2 k2 .char (2 : Int32) [(.int (nar .char ((p3 &&& (255 : Int32)).toUInt32.toUInt16.toUInt32.toInt32))), (.int (0 : Int32))] (.int (0 : Int32)) := V3
    refine GoW.st st3 ?_
    show GoW p e below s _ _ _ (T3.setTop (mkF m 22 #[.val (.long p0), .second, .val (.int p1), .val (.int p2), .val (.int p3), .val (.int p4), .val (.ref er), .val (.ref b2), .unset, .unset, .unset, .unset] []))
    refine GoW.st (fun _ kq_ => XS.aload X3.here hx rfl (hb hby at_22) rfl rfl kq_) ?_
    show GoW p e below s _ _ _ (T3.setTop (mkF m 24 #[.val (.long p0), .second, .val (.int p1), .val (.int p2), .val (.int p3), .val (.int p4), .val (.ref er), .val (.ref b2), .unset, .unset, .unset, .unset] [(.ref b2)]))
    refine GoW.st (fun _ kq_ => XS.iconst X3.here hx rfl (hb hby at_24) kq_) ?_
    show GoW p e below s _ _ _ (T3.setTop (mkF m 25 #[.val (.long p0), .second, .val (.int p1), .val (.int p2), .val (.int p3), .val (.int p4), .val (.ref er), .val (.ref b2), .unset, .unset, .unset, .unset] [(.int (1 : Int32)), (.ref b2)]))
    refine GoW.st (fun _ kq_ => XS.iload X3.here hx rfl (hb hby at_25) rfl kq_) ?_
    show GoW p e below s _ _ _ (T3.setTop (mkF m 27 #[.val (.long p0), .second, .val (.int p1), .val (.int p2), .val (.int p3), .val (.int p4), .val (.ref er), .val (.ref b2), .unset, .unset, .unset, .unset] [(.int p4), (.int (1 : Int32)), (.ref b2)]))
    refine GoW.st (fun _ kq_ => XS.sipush X3.here hx rfl (hb hby at_27) kq_) ?_
    show GoW p e below s _ _ _ (T3.setTop (mkF m 30 #[.val (.long p0), .second, .val (.int p1), .val (.int p2), .val (.int p3), .val (.int p4), .val (.ref er), .val (.ref b2), .unset, .unset, .unset, .unset] [(.int (255 : Int32)), (.int p4), (.int (1 : Int32)), (.ref b2)]))
    refine GoW.st (fun _ kq_ => XS.iand X3.here hx rfl (hb hby at_30) rfl kq_) ?_
    show GoW p e below s _ _ _ (T3.setTop (mkF m 31 #[.val (.long p0), .second, .val (.int p1), .val (.int p2), .val (.int p3), .val (.int p4), .val (.ref er), .val (.ref b2), .unset, .unset, .unset, .unset] [(.int (p4 &&& (255 : Int32))), (.int (1 : Int32)), (.ref b2)]))
    refine GoW.st (fun _ kq_ => XT.i2c X3.here hx rfl (hb hby at_31) rfl kq_) ?_
    show GoW p e below s _ _ _ (T3.setTop (mkF m 32 #[.val (.long p0), .second, .val (.int p1), .val (.int p2), .val (.int p3), .val (.int p4), .val (.ref er), .val (.ref b2), .unset, .unset, .unset, .unset] [(.int ((p4 &&& (255 : Int32)).toUInt32.toUInt16.toUInt32.toInt32)), (.int (1 : Int32)), (.ref b2)]))
    obtain ⟨T4, h4, X4, e4, W4, V4, st4⟩ := own_stC X3 hx hZ e3 V_b2 (j := (1 : Int32)) (by decide) (by decide) 1 rfl (Nat.le_of_ble_eq_true rfl) (g := (mkF m 32 #[.val (.long p0), .second, .val (.int p1), .val (.int p2), .val (.int p3), .val (.int p4), .val (.ref er), .val (.ref b2), .unset, .unset, .unset, .unset] [(.int ((p4 &&& (255 : Int32)).toUInt32.toUInt16.toUInt32.toInt32)), (.int (1 : Int32)), (.ref b2)])) rfl rfl (hb hby at_32)
    obtain ⟨lc4, X4, N4⟩ := own_gen X4 (Fr.snoc X4 N3 g_b2)
    have O4 := O3.wr W4 g_b2
    have hk4 := Nat.le_trans hk3 (Nat.le_of_eq W4.size.symm)
    have V_b2 : Arv Z h4 b2 k2 .char (2 : Int32) [(.int (nar .char ((p3 &&& (255 : Int32)).toUInt32.toUInt16.toUInt32.toInt32))), (.int (nar .char ((p4 &&& (255 : Int32)).toUInt32.toUInt16.toUInt32.toInt32)))] (.int (0 : Int32)) := V4
    refine GoW.st st4 ?_
    show GoW p e below s _ _ _ (T4.setTop (mkF m 33 #[.val (.long p0), .second, .val (.int p1), .val (.int p2), .val (.int p3), .val (.int p4), .val (.ref er), .val (.ref b2), .unset, .unset, .unset, .unset] []))
    obtain ⟨T5, h5, X5, e5, E5, A5, D5, -, st5⟩ := newO X4 hx hZ hown (own_w hw 9 rfl) (own_w hw 10 rfl) (own_w hw 11 rfl) e4 (g := (mkF m 33 #[.val (.long p0), .second, .val (.int p1), .val (.int p2), .val (.int p3), .val (.int p4), .val (.ref er), .val (.ref b2), .unset, .unset, .unset, .unset] [])) rfl (hb hby at_33) (by decide) (by decide)
    obtain ⟨a5, g5⟩ : ∃ z, z = h4.size := ⟨_, rfl⟩
    rw [← g5] at A5 D5 st5
    have g_a5 : n0 ≤ a5 := Nat.le_trans (own_old O4) (Nat.le_of_eq g5.symm)
    have ne_b2_a5 : b2 ≠ a5 := by rw [g5]; exact Nat.ne_of_lt V_b2.lt
    have V_b2 := V_b2.ext E5
    have hk5 := Nat.le_trans hk4 E5.1
    have O5 := O4.ext E5
    have E_a5 : Exa Z h5 a5 "java/lang/String" := A5
    have F_a5_coder : Fld Z h5 a5 "java/lang/String" "coder" "B" (.int (0 : Int32)) := D5 (Or.inr (own_w hw 35 rfl)) (ty := .byte) (by decide)
    have F_a5_value : Fld Z h5 a5 "java/lang/String" "value" "[B" .null := D5 (Or.inr (own_w hw 37 rfl)) (ty := (.array .byte)) (by decide)
    refine GoW.st st5 ?_
    show GoW p e below s _ _ _ (T5.setTop (mkF m 36 #[.val (.long p0), .second, .val (.int p1), .val (.int p2), .val (.int p3), .val (.int p4), .val (.ref er), .val (.ref b2), .unset, .unset, .unset, .unset] [(.ref a5)]))
    refine GoW.st (fun _ kq_ => XS.dup X5.here hx rfl (hb hby at_36) rfl rfl kq_) ?_
    show GoW p e below s _ _ _ (T5.setTop (mkF m 37 #[.val (.long p0), .second, .val (.int p1), .val (.int p2), .val (.int p3), .val (.int p4), .val (.ref er), .val (.ref b2), .unset, .unset, .unset, .unset] [(.ref a5), (.ref a5)]))
    refine GoW.st (fun _ kq_ => XS.aload X5.here hx rfl (hb hby at_37) rfl rfl kq_) ?_
    show GoW p e below s _ _ _ (T5.setTop (mkF m 39 #[.val (.long p0), .second, .val (.int p1), .val (.int p2), .val (.int p3), .val (.int p4), .val (.ref er), .val (.ref b2), .unset, .unset, .unset, .unset] [(.ref b2), (.ref a5), (.ref a5)]))
    have hp : ∀ z ∈ ([(nar .char ((p3 &&& (255 : Int32)).toUInt32.toUInt16.toUInt32.toInt32)), (nar .char ((p4 &&& (255 : Int32)).toUInt32.toUInt16.toUInt32.toInt32))] : List Int32), ¬ z < 0 ∧ ¬ (255 : Int32) < z := by
      intro z hz
      simp only [List.mem_cons, List.not_mem_nil, or_false] at hz
      rcases hz with rfl | rfl <;> exact own_ch _
    obtain ⟨_, _, ⟨T6, L6, k6, n6⟩, -, X6, ⟨Lc6, hQ6, l6, y6, z6⟩, st6⟩ := X5.specialBack hx (y := (⟨"java/lang/String", "<init>", "([C)V"⟩ : MethodName)) rfl hown (mvT hZ (own_w hw 12 rfl)) (mvT hZ (own_w hw 13 rfl)) (mvT hZ (own_w hw 14 rfl)) (by decide) (StrChars.Road.backV (W := 1) hZ hws (kI := 4) (own_w hw 10 rfl) (cs := ([(nar .char ((p3 &&& (255 : Int32)).toUInt32.toUInt16.toUInt32.toInt32)), (nar .char ((p4 &&& (255 : Int32)).toUInt32.toUInt16.toUInt32.toInt32))] : List Int32)) (bs := ([(nar .char ((p3 &&& (255 : Int32)).toUInt32.toUInt16.toUInt32.toInt32)), (nar .char ((p4 &&& (255 : Int32)).toUInt32.toUInt16.toUInt32.toInt32))] : List Int32).map (fun c => c.toInt8.toInt32)) (n := 2) g_a5 (own_old O5) E_a5 F_a5_value F_a5_coder V_b2 (SC.ext O5.2) hcs rfl rfl (by decide) (by decide) hp rfl (by decide) (by decide)) (g := (mkF m 39 #[.val (.long p0), .second, .val (.int p1), .val (.int p2), .val (.int p3), .val (.int p4), .val (.ref er), .val (.ref b2), .unset, .unset, .unset, .unset] [(.ref b2), (.ref a5), (.ref a5)])) rfl (by rw [hml]; rfl) (Steps.refl _) (a := a5) (argsL := [(.ref b2)]) (rest := [(.ref a5)]) (lenOf pd0_1 rfl) rfl (by show 2 * 0 + _ ≤ _; exact Nat.le_of_eq rfl) (hb hby at_39) (fun _ _ => ⟨rfl, e5, (by decide : 2 + 1 ≤ _), (by decide : 6 + 2 ≤ _)⟩)
    dsimp only [Pt.U, Pt.locs, Pt.cells, Pt.slots] at X6 l6 y6 z6 st6 hQ6
    subst y6 z6
    obtain ⟨rfl, Nc6, Kc6, NE, NC, t6, kt6, gt6, szt6, -, NV, NB⟩ := hQ6
    have N6 : Fr n0 L6 := by rw [l6]; exact Fr.app N4 Nc6
    have V_b2 := V_b2.keep Kc6 (ninS ne_b2_a5 nin0)
    have hk6 := Nat.le_trans hk5 Kc6.1
    have O6 := O5.keep Kc6 (allS g_a5 all0)
    have E_a5 := NE
    refine GoW.tr st6 ?_
    show GoW p e below s _ _ _ (T6.setTop (mkF m 42 #[.val (.long p0), .second, .val (.int p1), .val (.int p2), .val (.int p3), .val (.int p4), .val (.ref er), .val (.ref b2), .unset, .unset, .unset, .unset] [(.ref a5)]))
    refine GoW.st (fun _ kq_ => XS.astore X6.here hx rfl (hb hby at_42) rfl rfl (l' := #[.val (.long p0), .second, .val (.int p1), .val (.int p2), .val (.int p3), .val (.int p4), .val (.ref er), .val (.ref b2), .val (.ref a5), .unset, .unset, .unset]) rfl kq_) ?_
    show GoW p e below s _ _ _ (T6.setTop (mkF m 44 #[.val (.long p0), .second, .val (.int p1), .val (.int p2), .val (.int p3), .val (.int p4), .val (.ref er), .val (.ref b2), .val (.ref a5), .unset, .unset, .unset] []))
    refine GoW.st (fun _ kq_ => XS.iloadN X6.here hx rfl (hb hby at_44) rfl kq_) ?_
    show GoW p e below s _ _ _ (T6.setTop (mkF m 45 #[.val (.long p0), .second, .val (.int p1), .val (.int p2), .val (.int p3), .val (.int p4), .val (.ref er), .val (.ref b2), .val (.ref a5), .unset, .unset, .unset] [(.int p1)]))
    refine GoW.st (fun _ kq_ => XS.iconst X6.here hx rfl (hb hby at_45) kq_) ?_
    show GoW p e below s _ _ _ (T6.setTop (mkF m 46 #[.val (.long p0), .second, .val (.int p1), .val (.int p2), .val (.int p3), .val (.int p4), .val (.ref er), .val (.ref b2), .val (.ref a5), .unset, .unset, .unset] [(.int (1 : Int32)), (.int p1)]))
    refine GoW.st (fun _ kq_ => XS.iand X6.here hx rfl (hb hby at_46) rfl kq_) ?_
    show GoW p e below s _ _ _ (T6.setTop (mkF m 47 #[.val (.long p0), .second, .val (.int p1), .val (.int p2), .val (.int p3), .val (.int p4), .val (.ref er), .val (.ref b2), .val (.ref a5), .unset, .unset, .unset] [(.int (p1 &&& (1 : Int32)))]))
    by_cases c47_7 : (p1 &&& (1 : Int32)) = (0 : Int32)
    · refine GoW.st (fun _ kq_ => XS.ifYes X6.here hx rfl (pc0 := 47) (pc' := 54) rfl (hb hby at_47) rfl (XT.i0_eq_t c47_7) (by decide) (by decide) kq_) ?_
      show GoW p e below s _ _ _ (T6.setTop (mkF m 54 #[.val (.long p0), .second, .val (.int p1), .val (.int p2), .val (.int p3), .val (.int p4), .val (.ref er), .val (.ref b2), .val (.ref a5), .unset, .unset, .unset] []))
      refine GoW.st (fun _ kq_ => XS.iconst X6.here hx rfl (hb hby at_54) kq_) ?_
      show GoW p e below s _ _ _ (T6.setTop (mkF m 55 #[.val (.long p0), .second, .val (.int p1), .val (.int p2), .val (.int p3), .val (.int p4), .val (.ref er), .val (.ref b2), .val (.ref a5), .unset, .unset, .unset] [(.int (0 : Int32))]))
      refine GoW.st (fun _ kq_ => XS.istore X6.here hx rfl (hb hby at_55) rfl (l' := #[.val (.long p0), .second, .val (.int p1), .val (.int p2), .val (.int p3), .val (.int p4), .val (.ref er), .val (.ref b2), .val (.ref a5), .val (.int (0 : Int32)), .unset, .unset]) rfl kq_) ?_
      show GoW p e below s _ _ _ (T6.setTop (mkF m 57 #[.val (.long p0), .second, .val (.int p1), .val (.int p2), .val (.int p3), .val (.int p4), .val (.ref er), .val (.ref b2), .val (.ref a5), .val (.int (0 : Int32)), .unset, .unset] []))
      refine GoW.st (fun _ kq_ => XS.iload X6.here hx rfl (hb hby at_57) rfl kq_) ?_
      show GoW p e below s _ _ _ (T6.setTop (mkF m 59 #[.val (.long p0), .second, .val (.int p1), .val (.int p2), .val (.int p3), .val (.int p4), .val (.ref er), .val (.ref b2), .val (.ref a5), .val (.int (0 : Int32)), .unset, .unset] [(.int (0 : Int32))]))
      refine GoW.st (fun _ kq_ => XS.ifYes X6.here hx rfl (pc0 := 59) (pc' := 77) rfl (hb hby at_59) rfl (by decide) (by decide) (by decide) kq_) ?_
      show GoW p e below s _ _ _ (T6.setTop (mkF m 77 #[.val (.long p0), .second, .val (.int p1), .val (.int p2), .val (.int p3), .val (.int p4), .val (.ref er), .val (.ref b2), .val (.ref a5), .val (.int (0 : Int32)), .unset, .unset] []))
      obtain ⟨T8, h8, X8, e8, E8, A8, D8, -, st8⟩ := newO X6 hx hZ hown (own_w hw 38 rfl) (own_w hw 39 rfl) (own_w hw 40 rfl) rfl (g := (mkF m 77 #[.val (.long p0), .second, .val (.int p1), .val (.int p2), .val (.int p3), .val (.int p4), .val (.ref er), .val (.ref b2), .val (.ref a5), .val (.int (0 : Int32)), .unset, .unset] [])) rfl (hb hby at_77) (by decide) (by decide)
      obtain ⟨a8, g8⟩ : ∃ z, z = T6.heap.size := ⟨_, rfl⟩
      rw [← g8] at A8 D8 st8
      have g_a8 : n0 ≤ a8 := Nat.le_trans (own_old O6) (Nat.le_of_eq g8.symm)
      have ne_b2_a8 : b2 ≠ a8 := by rw [g8]; exact Nat.ne_of_lt V_b2.lt
      have ne_a5_a8 : a5 ≠ a8 := by rw [g8]; exact Nat.ne_of_lt E_a5.lt
      have V_b2 := V_b2.ext E8
      have E_a5 := E_a5.ext E8
      have hk8 := Nat.le_trans hk6 E8.1
      have O8 := O6.ext E8
      have E_a8 : Exa Z h8 a8 "com/example/duplexwire/duplexwire/protocol/FrameException" := A8
      have F_a8_cause : Fld Z h8 a8 "java/lang/Throwable" "cause" "Ljava/lang/Throwable;" .null := D8 (Or.inl (own_w hw 68 rfl)) (ty := (.object "java/lang/Throwable")) (by decide)
      have F_a8_stackTrace : Fld Z h8 a8 "java/lang/Throwable" "stackTrace" "[Ljava/lang/StackTraceElement;" .null := D8 (Or.inl (own_w hw 71 rfl)) (ty := (.array (.object "java/lang/StackTraceElement"))) (by decide)
      have F_a8_suppressedExceptions : Fld Z h8 a8 "java/lang/Throwable" "suppressedExceptions" "Ljava/util/List;" .null := D8 (Or.inl (own_w hw 74 rfl)) (ty := (.object "java/util/List")) (by decide)
      have F_a8_detailMessage : Fld Z h8 a8 "java/lang/Throwable" "detailMessage" "Ljava/lang/String;" .null := D8 (Or.inl (own_w hw 76 rfl)) (ty := (.object "java/lang/String")) (by decide)
      have F_a8_error : Fld Z h8 a8 "com/example/duplexwire/duplexwire/protocol/FrameException" "error" "Lcom/example/duplexwire/duplexwire/protocol/ErrorCode;" .null := D8 (Or.inr (own_w hw 81 rfl)) (ty := (.object "com/example/duplexwire/duplexwire/protocol/ErrorCode")) (by decide)
      have F_a8_id : Fld Z h8 a8 "com/example/duplexwire/duplexwire/protocol/FrameException" "id" "J" (.long (0 : Int64)) := D8 (Or.inr (own_w hw 83 rfl)) (ty := .long) (by decide)
      have F_a8_hasId : Fld Z h8 a8 "com/example/duplexwire/duplexwire/protocol/FrameException" "hasId" "Z" (.int (0 : Int32)) := D8 (Or.inr (own_w hw 85 rfl)) (ty := .boolean) (by decide)
      refine GoW.st st8 ?_
      show GoW p e below s _ _ _ (T8.setTop (mkF m 80 #[.val (.long p0), .second, .val (.int p1), .val (.int p2), .val (.int p3), .val (.int p4), .val (.ref er), .val (.ref b2), .val (.ref a5), .val (.int (0 : Int32)), .unset, .unset] [(.ref a8)]))
      refine GoW.st (fun _ kq_ => XS.dup X8.here hx rfl (hb hby at_80) rfl rfl kq_) ?_
      show GoW p e below s _ _ _ (T8.setTop (mkF m 81 #[.val (.long p0), .second, .val (.int p1), .val (.int p2), .val (.int p3), .val (.int p4), .val (.ref er), .val (.ref b2), .val (.ref a5), .val (.int (0 : Int32)), .unset, .unset] [(.ref a8), (.ref a8)]))
      refine GoW.st (fun _ kq_ => XS.aload X8.here hx rfl (hb hby at_81) rfl rfl kq_) ?_
      show GoW p e below s _ _ _ (T8.setTop (mkF m 83 #[.val (.long p0), .second, .val (.int p1), .val (.int p2), .val (.int p3), .val (.int p4), .val (.ref er), .val (.ref b2), .val (.ref a5), .val (.int (0 : Int32)), .unset, .unset] [(.ref er), (.ref a8), (.ref a8)]))
      refine GoW.st (fun _ kq_ => XS.aload X8.here hx rfl (hb hby at_83) rfl rfl kq_) ?_
      show GoW p e below s _ _ _ (T8.setTop (mkF m 85 #[.val (.long p0), .second, .val (.int p1), .val (.int p2), .val (.int p3), .val (.int p4), .val (.ref er), .val (.ref b2), .val (.ref a5), .val (.int (0 : Int32)), .unset, .unset] [(.ref a5), (.ref er), (.ref a8), (.ref a8)]))
      obtain ⟨_, _, ⟨T9, L9, k9, n9⟩, -, X9, hSn9, gr9, ⟨Lc9, hQ9, l9, y9, z9⟩, st9⟩ := X8.specialBackS hx (y := (⟨"com/example/duplexwire/duplexwire/protocol/FrameException", "<init>", "(Lcom/example/duplexwire/duplexwire/protocol/ErrorCode;Ljava/lang/String;)V"⟩ : MethodName)) rfl hown (mvT hZ (own_w hw 41 rfl)) (mvT hZ (own_w hw 42 rfl)) (mvT hZ (own_w hw 43 rfl)) (by decide) (backOfS (W := 1) (rms0 l Z a0 hw [] a8 er a5 vu vl h8 n0 O8 E_a8 F_a8_cause F_a8_stackTrace F_a8_suppressedExceptions F_a8_detailMessage F_a8_error F_a8_id F_a8_hasId g_a8 (EE.ext O8.2) E_a5 (Ne.symm (Old.ne O8 EE.lt g_a8)) (Ne.symm ne_a5_a8) SU ru SS rl) hZ (own_w hw 43 rfl) (own_w hw 40 rfl) (by decide) (by decide)) (g := (mkF m 85 #[.val (.long p0), .second, .val (.int p1), .val (.int p2), .val (.int p3), .val (.int p4), .val (.ref er), .val (.ref b2), .val (.ref a5), .val (.int (0 : Int32)), .unset, .unset] [(.ref a5), (.ref er), (.ref a8), (.ref a8)])) rfl (by rw [hml]; rfl) (Steps.refl _) (a := a8) (argsL := [(.ref er), (.ref a5)]) (rest := [(.ref a8)]) (lenOf pd0_2 rfl) rfl (by show 2 * 0 + _ ≤ _; exact Nat.le_of_eq rfl) (hb hby at_85) (fun _ _ => ⟨rfl, e8, (by decide : 4 + 4 ≤ _), (by decide : 17 + 56 ≤ _)⟩)
      dsimp only [Pt.U, Pt.locs, Pt.cells, Pt.slots] at X9 l9 y9 z9 st9 hQ9
      subst y9 z9
      dsimp only [Pt.U, Pt.locs, Pt.cells, Pt.slots] at hSn9 gr9
      obtain ⟨X9, hS9, hZ9, hown9⟩ := rebS (vm0 := s.vm) hS0 (by rw [e8]; exact hk8) X9 hSn9 gr9 hZ hown
      have hk9 : T9.heap.size ≤ T9.heap.size := Nat.le_refl _
      obtain ⟨rfl, Nc9, Kc9, NE_a8, NF_a8_cause, NF_a8_stackTrace, NF_a8_suppressedExceptions, NF_a8_detailMessage, NF_a8_error, NF_a8_id, NF_a8_hasId⟩ := hQ9
      have N9 : Fr n0 L9 := by rw [l9]; exact Fr.app N6 Nc9
      have V_b2 := V_b2.keep Kc9 (ninS ne_b2_a8 nin0)
      have E_a5 := E_a5.keep Kc9
      have O9 := O8.keep Kc9 (allS g_a8 all0)
      have E_a8 := NE_a8
      have F_a8_cause := NF_a8_cause
      have F_a8_stackTrace := NF_a8_stackTrace
      have F_a8_suppressedExceptions := NF_a8_suppressedExceptions
      have F_a8_detailMessage := NF_a8_detailMessage
      have F_a8_error := NF_a8_error
      have F_a8_id := NF_a8_id
      have F_a8_hasId := NF_a8_hasId
      refine GoW.tr st9 ?_
      show GoW p e below s _ _ _ (T9.setTop (mkF m 88 #[.val (.long p0), .second, .val (.int p1), .val (.int p2), .val (.int p3), .val (.int p4), .val (.ref er), .val (.ref b2), .val (.ref a5), .val (.int (0 : Int32)), .unset, .unset] [(.ref a8)]))
      refine GoW.st (fun _ kq_ => XS.astore X9.here hx rfl (hb hby at_88) rfl rfl (l' := #[.val (.long p0), .second, .val (.int p1), .val (.int p2), .val (.int p3), .val (.int p4), .val (.ref er), .val (.ref b2), .val (.ref a5), .val (.int (0 : Int32)), .val (.ref a8), .unset]) rfl kq_) ?_
      show GoW p e below s _ _ _ (T9.setTop (mkF m 90 #[.val (.long p0), .second, .val (.int p1), .val (.int p2), .val (.int p3), .val (.int p4), .val (.ref er), .val (.ref b2), .val (.ref a5), .val (.int (0 : Int32)), .val (.ref a8), .unset] []))
      refine GoW.st (fun _ kq_ => XS.aload X9.here hx rfl (hb hby at_90) rfl rfl kq_) ?_
      show GoW p e below s _ _ _ (T9.setTop (mkF m 92 #[.val (.long p0), .second, .val (.int p1), .val (.int p2), .val (.int p3), .val (.int p4), .val (.ref er), .val (.ref b2), .val (.ref a5), .val (.int (0 : Int32)), .val (.ref a8), .unset] [(.ref a8)]))
      obtain ⟨cq10, kq10, qa10, qb10, qc10⟩ := isOf hZ9 rfl E_a8
      obtain ⟨_, _, ⟨T10, L10, k10, n10⟩, -, X10, ⟨Lc10, hQ10, l10, y10, z10⟩, st10⟩ := X9.virtualBack hx (y := (⟨"com/example/duplexwire/duplexwire/protocol/FrameException", "id", "()Ljava/util/OptionalLong;"⟩ : MethodName)) (z := (⟨"com/example/duplexwire/duplexwire/protocol/FrameException", "id", "()Ljava/util/OptionalLong;"⟩ : MethodName)) hown9 (mvT hZ9 (own_w hw 86 rfl)) (mvT hZ9 (own_w hw 87 rfl)) (notFace_of_selects (args := #[]) (mvT hZ9 (own_w hw 89 rfl))) (mvT hZ9 (own_w hw 89 rfl)) (mvT hZ9 (own_w hw 88 rfl)) (by decide) (backOf (W := 0) (rmi0 l Z a0 hw [] a8 oe T9.heap n0 O9 F_a8_hasId SE) hZ9 (own_w hw 90 rfl) (own_w hw 40 rfl) (by decide) (by decide)) qa10 qc10 (g := (mkF m 92 #[.val (.long p0), .second, .val (.int p1), .val (.int p2), .val (.int p3), .val (.int p4), .val (.ref er), .val (.ref b2), .val (.ref a5), .val (.int (0 : Int32)), .val (.ref a8), .unset] [(.ref a8)])) rfl (by rw [hml]; rfl) (Steps.refl _) (argsL := []) (rest := []) (lenOf pd0_3 rfl) rfl (by show 2 * 0 + _ ≤ _; exact Nat.le_of_eq rfl) (hb hby at_92) (fun _ _ => ⟨rfl, rfl, (by decide : 8 + 0 ≤ _), (by decide : 73 + 0 ≤ _)⟩)
      dsimp only [Pt.U, Pt.locs, Pt.cells, Pt.slots] at X10 l10 y10 z10 st10 hQ10
      subst y10 z10
      obtain ⟨rfl, Nc10, e10⟩ := hQ10
      have N10 : Fr n0 L10 := by rw [l10]; exact Fr.app N9 Nc10
      refine GoW.tr st10 ?_
      show GoW p e below s _ _ _ (T10.setTop (mkF m 95 #[.val (.long p0), .second, .val (.int p1), .val (.int p2), .val (.int p3), .val (.int p4), .val (.ref er), .val (.ref b2), .val (.ref a5), .val (.int (0 : Int32)), .val (.ref a8), .unset] [(.ref oe)]))
      refine GoW.st (fun _ kq_ => XS.astore X10.here hx rfl (hb hby at_95) rfl rfl (l' := #[.val (.long p0), .second, .val (.int p1), .val (.int p2), .val (.int p3), .val (.int p4), .val (.ref er), .val (.ref b2), .val (.ref a5), .val (.int (0 : Int32)), .val (.ref a8), .val (.ref oe)]) rfl kq_) ?_
      show GoW p e below s _ _ _ (T10.setTop (mkF m 97 #[.val (.long p0), .second, .val (.int p1), .val (.int p2), .val (.int p3), .val (.int p4), .val (.ref er), .val (.ref b2), .val (.ref a5), .val (.int (0 : Int32)), .val (.ref a8), .val (.ref oe)] []))
      refine GoW.st (fun _ kq_ => XS.iload X10.here hx rfl (hb hby at_97) rfl kq_) ?_
      show GoW p e below s _ _ _ (T10.setTop (mkF m 99 #[.val (.long p0), .second, .val (.int p1), .val (.int p2), .val (.int p3), .val (.int p4), .val (.ref er), .val (.ref b2), .val (.ref a5), .val (.int (0 : Int32)), .val (.ref a8), .val (.ref oe)] [(.int (0 : Int32))]))
      refine GoW.st (fun _ kq_ => XS.ifYes X10.here hx rfl (pc0 := 99) (pc' := 126) rfl (hb hby at_99) rfl (by decide) (by decide) (by decide) kq_) ?_
      show GoW p e below s _ _ _ (T10.setTop (mkF m 126 #[.val (.long p0), .second, .val (.int p1), .val (.int p2), .val (.int p3), .val (.int p4), .val (.ref er), .val (.ref b2), .val (.ref a5), .val (.int (0 : Int32)), .val (.ref a8), .val (.ref oe)] []))
      refine GoW.st (fun _ kq_ => XS.aload X10.here hx rfl (hb hby at_126) rfl rfl kq_) ?_
      show GoW p e below s _ _ _ (T10.setTop (mkF m 128 #[.val (.long p0), .second, .val (.int p1), .val (.int p2), .val (.int p3), .val (.int p4), .val (.ref er), .val (.ref b2), .val (.ref a5), .val (.int (0 : Int32)), .val (.ref a8), .val (.ref oe)] [(.ref oe)]))
      obtain ⟨cq11, kq11, qa11, qb11, qc11⟩ := isOf hZ9 e10 (EO.ext O9.2)
      obtain ⟨_, _, ⟨T11, L11, k11, n11⟩, -, X11, ⟨Lc11, hQ11, l11, y11, z11⟩, st11⟩ := X10.virtualBack hx (y := (⟨"java/util/OptionalLong", "isPresent", "()Z"⟩ : MethodName)) (z := (⟨"java/util/OptionalLong", "isPresent", "()Z"⟩ : MethodName)) hown9 (mvT hZ9 (own_w hw 96 rfl)) (mvT hZ9 (own_w hw 97 rfl)) (notFace_of_selects (args := #[]) (mvT hZ9 (own_w hw 99 rfl))) (mvT hZ9 (own_w hw 99 rfl)) (mvT hZ9 (own_w hw 98 rfl)) (by decide) (backOf (W := 0) (rmip l Z a0 hw [] oe (0 : Int32) T9.heap n0 O9 (FO.ext O9.2) rfl) hZ9 (own_w hw 100 rfl) (own_w hw 93 rfl) (by decide) (by decide)) qa11 qc11 (g := (mkF m 128 #[.val (.long p0), .second, .val (.int p1), .val (.int p2), .val (.int p3), .val (.int p4), .val (.ref er), .val (.ref b2), .val (.ref a5), .val (.int (0 : Int32)), .val (.ref a8), .val (.ref oe)] [(.ref oe)])) rfl (by rw [hml]; rfl) (Steps.refl _) (argsL := []) (rest := []) (lenOf pd0_4 rfl) rfl (by show 2 * 0 + _ ≤ _; exact Nat.le_of_eq rfl) (hb hby at_128) (fun _ _ => ⟨rfl, e10, (by decide : 8 + 0 ≤ _), (by decide : 73 + 0 ≤ _)⟩)
      dsimp only [Pt.U, Pt.locs, Pt.cells, Pt.slots] at X11 l11 y11 z11 st11 hQ11
      subst y11 z11
      obtain ⟨rfl, Nc11, e11⟩ := hQ11
      have N11 : Fr n0 L11 := by rw [l11]; exact Fr.app N10 Nc11
      refine GoW.tr st11 ?_
      show GoW p e below s _ _ _ (T11.setTop (mkF m 131 #[.val (.long p0), .second, .val (.int p1), .val (.int p2), .val (.int p3), .val (.int p4), .val (.ref er), .val (.ref b2), .val (.ref a5), .val (.int (0 : Int32)), .val (.ref a8), .val (.ref oe)] [(.int (0 : Int32))]))
      refine GoW.st (fun _ kq_ => XS.ifNo X11.here hx rfl (hb hby at_131) rfl (by decide) kq_) ?_
      show GoW p e below s _ _ _ (T11.setTop (mkF m 134 #[.val (.long p0), .second, .val (.int p1), .val (.int p2), .val (.int p3), .val (.int p4), .val (.ref er), .val (.ref b2), .val (.ref a5), .val (.int (0 : Int32)), .val (.ref a8), .val (.ref oe)] []))
      refine GoW.st (fun _ kq_ => XS.iconst X11.here hx rfl (hb hby at_134) kq_) ?_
      show GoW p e below s _ _ _ (T11.setTop (mkF m 135 #[.val (.long p0), .second, .val (.int p1), .val (.int p2), .val (.int p3), .val (.int p4), .val (.ref er), .val (.ref b2), .val (.ref a5), .val (.int (0 : Int32)), .val (.ref a8), .val (.ref oe)] [(.int (1 : Int32))]))
      refine GoW.st (fun _ kq_ => XS.goto X11.here hx rfl (pc0 := 135) (pc' := 139) rfl (hb hby at_135) (by decide) (by decide) kq_) ?_
      show GoW p e below s _ _ _ (T11.setTop (mkF m 139 #[.val (.long p0), .second, .val (.int p1), .val (.int p2), .val (.int p3), .val (.int p4), .val (.ref er), .val (.ref b2), .val (.ref a5), .val (.int (0 : Int32)), .val (.ref a8), .val (.ref oe)] [(.int (1 : Int32))]))
      exact GoW.ret (vm1 := T9.vm) X11 hlk hS9 (by rw [e11]; exact hk9) (some (.int (nar .boolean (1 : Int32)))) (fun h => by rw [Bd.returns] at h; cases h) (by rw [e11]; exact ⟨rfl, N11⟩) (by decide) (by decide) (fun fs hr => retN X11 hx (t := .boolean) Bd.returns (by simp) (hb hby at_139) hr)
    · refine GoW.st (fun _ kq_ => XS.ifNo X6.here hx rfl (hb hby at_47) rfl (XT.i0_eq_f c47_7) kq_) ?_
      show GoW p e below s _ _ _ (T6.setTop (mkF m 50 #[.val (.long p0), .second, .val (.int p1), .val (.int p2), .val (.int p3), .val (.int p4), .val (.ref er), .val (.ref b2), .val (.ref a5), .unset, .unset, .unset] []))
      refine GoW.st (fun _ kq_ => XS.iconst X6.here hx rfl (hb hby at_50) kq_) ?_
      show GoW p e below s _ _ _ (T6.setTop (mkF m 51 #[.val (.long p0), .second, .val (.int p1), .val (.int p2), .val (.int p3), .val (.int p4), .val (.ref er), .val (.ref b2), .val (.ref a5), .unset, .unset, .unset] [(.int (1 : Int32))]))
      refine GoW.st (fun _ kq_ => XS.goto X6.here hx rfl (pc0 := 51) (pc' := 55) rfl (hb hby at_51) (by decide) (by decide) kq_) ?_
      show GoW p e below s _ _ _ (T6.setTop (mkF m 55 #[.val (.long p0), .second, .val (.int p1), .val (.int p2), .val (.int p3), .val (.int p4), .val (.ref er), .val (.ref b2), .val (.ref a5), .unset, .unset, .unset] [(.int (1 : Int32))]))
      refine GoW.st (fun _ kq_ => XS.istore X6.here hx rfl (hb hby at_55) rfl (l' := #[.val (.long p0), .second, .val (.int p1), .val (.int p2), .val (.int p3), .val (.int p4), .val (.ref er), .val (.ref b2), .val (.ref a5), .val (.int (1 : Int32)), .unset, .unset]) rfl kq_) ?_
      show GoW p e below s _ _ _ (T6.setTop (mkF m 57 #[.val (.long p0), .second, .val (.int p1), .val (.int p2), .val (.int p3), .val (.int p4), .val (.ref er), .val (.ref b2), .val (.ref a5), .val (.int (1 : Int32)), .unset, .unset] []))
      refine GoW.st (fun _ kq_ => XS.iload X6.here hx rfl (hb hby at_57) rfl kq_) ?_
      show GoW p e below s _ _ _ (T6.setTop (mkF m 59 #[.val (.long p0), .second, .val (.int p1), .val (.int p2), .val (.int p3), .val (.int p4), .val (.ref er), .val (.ref b2), .val (.ref a5), .val (.int (1 : Int32)), .unset, .unset] [(.int (1 : Int32))]))
      refine GoW.st (fun _ kq_ => XS.ifNo X6.here hx rfl (hb hby at_59) rfl (by decide) kq_) ?_
      show GoW p e below s _ _ _ (T6.setTop (mkF m 62 #[.val (.long p0), .second, .val (.int p1), .val (.int p2), .val (.int p3), .val (.int p4), .val (.ref er), .val (.ref b2), .val (.ref a5), .val (.int (1 : Int32)), .unset, .unset] []))
      obtain ⟨T12, h12, X12, e12, E12, A12, D12, -, st12⟩ := newO X6 hx hZ hown (own_w hw 38 rfl) (own_w hw 39 rfl) (own_w hw 40 rfl) rfl (g := (mkF m 62 #[.val (.long p0), .second, .val (.int p1), .val (.int p2), .val (.int p3), .val (.int p4), .val (.ref er), .val (.ref b2), .val (.ref a5), .val (.int (1 : Int32)), .unset, .unset] [])) rfl (hb hby at_62) (by decide) (by decide)
      obtain ⟨a12, g12⟩ : ∃ z, z = T6.heap.size := ⟨_, rfl⟩
      rw [← g12] at A12 D12 st12
      have g_a12 : n0 ≤ a12 := Nat.le_trans (own_old O6) (Nat.le_of_eq g12.symm)
      have ne_b2_a12 : b2 ≠ a12 := by rw [g12]; exact Nat.ne_of_lt V_b2.lt
      have ne_a5_a12 : a5 ≠ a12 := by rw [g12]; exact Nat.ne_of_lt E_a5.lt
      have V_b2 := V_b2.ext E12
      have E_a5 := E_a5.ext E12
      have hk12 := Nat.le_trans hk6 E12.1
      have O12 := O6.ext E12
      have E_a12 : Exa Z h12 a12 "com/example/duplexwire/duplexwire/protocol/FrameException" := A12
      have F_a12_cause : Fld Z h12 a12 "java/lang/Throwable" "cause" "Ljava/lang/Throwable;" .null := D12 (Or.inl (own_w hw 68 rfl)) (ty := (.object "java/lang/Throwable")) (by decide)
      have F_a12_stackTrace : Fld Z h12 a12 "java/lang/Throwable" "stackTrace" "[Ljava/lang/StackTraceElement;" .null := D12 (Or.inl (own_w hw 71 rfl)) (ty := (.array (.object "java/lang/StackTraceElement"))) (by decide)
      have F_a12_suppressedExceptions : Fld Z h12 a12 "java/lang/Throwable" "suppressedExceptions" "Ljava/util/List;" .null := D12 (Or.inl (own_w hw 74 rfl)) (ty := (.object "java/util/List")) (by decide)
      have F_a12_detailMessage : Fld Z h12 a12 "java/lang/Throwable" "detailMessage" "Ljava/lang/String;" .null := D12 (Or.inl (own_w hw 76 rfl)) (ty := (.object "java/lang/String")) (by decide)
      have F_a12_error : Fld Z h12 a12 "com/example/duplexwire/duplexwire/protocol/FrameException" "error" "Lcom/example/duplexwire/duplexwire/protocol/ErrorCode;" .null := D12 (Or.inr (own_w hw 81 rfl)) (ty := (.object "com/example/duplexwire/duplexwire/protocol/ErrorCode")) (by decide)
      have F_a12_id : Fld Z h12 a12 "com/example/duplexwire/duplexwire/protocol/FrameException" "id" "J" (.long (0 : Int64)) := D12 (Or.inr (own_w hw 83 rfl)) (ty := .long) (by decide)
      have F_a12_hasId : Fld Z h12 a12 "com/example/duplexwire/duplexwire/protocol/FrameException" "hasId" "Z" (.int (0 : Int32)) := D12 (Or.inr (own_w hw 85 rfl)) (ty := .boolean) (by decide)
      refine GoW.st st12 ?_
      show GoW p e below s _ _ _ (T12.setTop (mkF m 65 #[.val (.long p0), .second, .val (.int p1), .val (.int p2), .val (.int p3), .val (.int p4), .val (.ref er), .val (.ref b2), .val (.ref a5), .val (.int (1 : Int32)), .unset, .unset] [(.ref a12)]))
      refine GoW.st (fun _ kq_ => XS.dup X12.here hx rfl (hb hby at_65) rfl rfl kq_) ?_
      show GoW p e below s _ _ _ (T12.setTop (mkF m 66 #[.val (.long p0), .second, .val (.int p1), .val (.int p2), .val (.int p3), .val (.int p4), .val (.ref er), .val (.ref b2), .val (.ref a5), .val (.int (1 : Int32)), .unset, .unset] [(.ref a12), (.ref a12)]))
      refine GoW.st (fun _ kq_ => XS.aload X12.here hx rfl (hb hby at_66) rfl rfl kq_) ?_
      show GoW p e below s _ _ _ (T12.setTop (mkF m 68 #[.val (.long p0), .second, .val (.int p1), .val (.int p2), .val (.int p3), .val (.int p4), .val (.ref er), .val (.ref b2), .val (.ref a5), .val (.int (1 : Int32)), .unset, .unset] [(.ref er), (.ref a12), (.ref a12)]))
      refine GoW.st (fun _ kq_ => XT.lloadN X12.here hx rfl (hb hby at_68) rfl kq_) ?_
      show GoW p e below s _ _ _ (T12.setTop (mkF m 69 #[.val (.long p0), .second, .val (.int p1), .val (.int p2), .val (.int p3), .val (.int p4), .val (.ref er), .val (.ref b2), .val (.ref a5), .val (.int (1 : Int32)), .unset, .unset] [(.long p0), (.ref er), (.ref a12), (.ref a12)]))
      refine GoW.st (fun _ kq_ => XS.aload X12.here hx rfl (hb hby at_69) rfl rfl kq_) ?_
      show GoW p e below s _ _ _ (T12.setTop (mkF m 71 #[.val (.long p0), .second, .val (.int p1), .val (.int p2), .val (.int p3), .val (.int p4), .val (.ref er), .val (.ref b2), .val (.ref a5), .val (.int (1 : Int32)), .unset, .unset] [(.ref a5), (.long p0), (.ref er), (.ref a12), (.ref a12)]))
      obtain ⟨_, _, ⟨T13, L13, k13, n13⟩, -, X13, hSn13, gr13, ⟨Lc13, hQ13, l13, y13, z13⟩, st13⟩ := X12.specialBackS hx (y := (⟨"com/example/duplexwire/duplexwire/protocol/FrameException", "<init>", "(Lcom/example/duplexwire/duplexwire/protocol/ErrorCode;JLjava/lang/String;)V"⟩ : MethodName)) rfl hown (mvT hZ (own_w hw 105 rfl)) (mvT hZ (own_w hw 106 rfl)) (mvT hZ (own_w hw 107 rfl)) (by decide) (backOfS (W := 1) (rms1 l Z a0 hw [] a12 er p0 a5 vu vl h12 n0 O12 E_a12 F_a12_cause F_a12_stackTrace F_a12_suppressedExceptions F_a12_detailMessage F_a12_error F_a12_id F_a12_hasId g_a12 (EE.ext O12.2) E_a5 (Ne.symm (Old.ne O12 EE.lt g_a12)) (Ne.symm ne_a5_a12) SU ru SS rl) hZ (own_w hw 107 rfl) (own_w hw 40 rfl) (by decide) (by decide)) (g := (mkF m 71 #[.val (.long p0), .second, .val (.int p1), .val (.int p2), .val (.int p3), .val (.int p4), .val (.ref er), .val (.ref b2), .val (.ref a5), .val (.int (1 : Int32)), .unset, .unset] [(.ref a5), (.long p0), (.ref er), (.ref a12), (.ref a12)])) rfl (by rw [hml]; rfl) (Steps.refl _) (a := a12) (argsL := [(.ref er), (.long p0), (.ref a5)]) (rest := [(.ref a12)]) (lenOf pd0_5 rfl) rfl (by show 2 * 0 + _ ≤ _; exact Nat.le_of_eq rfl) (hb hby at_71) (fun _ _ => ⟨rfl, e12, (by decide : 4 + 4 ≤ _), (by decide : 17 + 56 ≤ _)⟩)
      dsimp only [Pt.U, Pt.locs, Pt.cells, Pt.slots] at X13 l13 y13 z13 st13 hQ13
      subst y13 z13
      dsimp only [Pt.U, Pt.locs, Pt.cells, Pt.slots] at hSn13 gr13
      obtain ⟨X13, hS13, hZ13, hown13⟩ := rebS (vm0 := s.vm) hS0 (by rw [e12]; exact hk12) X13 hSn13 gr13 hZ hown
      have hk13 : T13.heap.size ≤ T13.heap.size := Nat.le_refl _
      obtain ⟨rfl, Nc13, Kc13, NE_a12, NF_a12_cause, NF_a12_stackTrace, NF_a12_suppressedExceptions, NF_a12_detailMessage, NF_a12_error, NF_a12_id, NF_a12_hasId⟩ := hQ13
      have N13 : Fr n0 L13 := by rw [l13]; exact Fr.app N6 Nc13
      have V_b2 := V_b2.keep Kc13 (ninS ne_b2_a12 nin0)
      have E_a5 := E_a5.keep Kc13
      have O13 := O12.keep Kc13 (allS g_a12 all0)
      have E_a12 := NE_a12
      have F_a12_cause := NF_a12_cause
      have F_a12_stackTrace := NF_a12_stackTrace
      have F_a12_suppressedExceptions := NF_a12_suppressedExceptions
      have F_a12_detailMessage := NF_a12_detailMessage
      have F_a12_error := NF_a12_error
      have F_a12_id := NF_a12_id
      have F_a12_hasId := NF_a12_hasId
      refine GoW.tr st13 ?_
      show GoW p e below s _ _ _ (T13.setTop (mkF m 74 #[.val (.long p0), .second, .val (.int p1), .val (.int p2), .val (.int p3), .val (.int p4), .val (.ref er), .val (.ref b2), .val (.ref a5), .val (.int (1 : Int32)), .unset, .unset] [(.ref a12)]))
      refine GoW.st (fun _ kq_ => XS.goto X13.here hx rfl (pc0 := 74) (pc' := 88) rfl (hb hby at_74) (by decide) (by decide) kq_) ?_
      show GoW p e below s _ _ _ (T13.setTop (mkF m 88 #[.val (.long p0), .second, .val (.int p1), .val (.int p2), .val (.int p3), .val (.int p4), .val (.ref er), .val (.ref b2), .val (.ref a5), .val (.int (1 : Int32)), .unset, .unset] [(.ref a12)]))
      refine GoW.st (fun _ kq_ => XS.astore X13.here hx rfl (hb hby at_88) rfl rfl (l' := #[.val (.long p0), .second, .val (.int p1), .val (.int p2), .val (.int p3), .val (.int p4), .val (.ref er), .val (.ref b2), .val (.ref a5), .val (.int (1 : Int32)), .val (.ref a12), .unset]) rfl kq_) ?_
      show GoW p e below s _ _ _ (T13.setTop (mkF m 90 #[.val (.long p0), .second, .val (.int p1), .val (.int p2), .val (.int p3), .val (.int p4), .val (.ref er), .val (.ref b2), .val (.ref a5), .val (.int (1 : Int32)), .val (.ref a12), .unset] []))
      refine GoW.st (fun _ kq_ => XS.aload X13.here hx rfl (hb hby at_90) rfl rfl kq_) ?_
      show GoW p e below s _ _ _ (T13.setTop (mkF m 92 #[.val (.long p0), .second, .val (.int p1), .val (.int p2), .val (.int p3), .val (.int p4), .val (.ref er), .val (.ref b2), .val (.ref a5), .val (.int (1 : Int32)), .val (.ref a12), .unset] [(.ref a12)]))
      obtain ⟨cq14, kq14, qa14, qb14, qc14⟩ := isOf hZ13 rfl E_a12
      obtain ⟨_, _, ⟨T14, L14, k14, n14⟩, -, X14, ⟨Lc14, hQ14, l14, y14, z14⟩, st14⟩ := X13.virtualBack hx (y := (⟨"com/example/duplexwire/duplexwire/protocol/FrameException", "id", "()Ljava/util/OptionalLong;"⟩ : MethodName)) (z := (⟨"com/example/duplexwire/duplexwire/protocol/FrameException", "id", "()Ljava/util/OptionalLong;"⟩ : MethodName)) hown13 (mvT hZ13 (own_w hw 86 rfl)) (mvT hZ13 (own_w hw 87 rfl)) (notFace_of_selects (args := #[]) (mvT hZ13 (own_w hw 89 rfl))) (mvT hZ13 (own_w hw 89 rfl)) (mvT hZ13 (own_w hw 88 rfl)) (by decide) (backOf (W := 0) (rmi1 l Z a0 hw [] a12 p0 T13.heap n0 O13 F_a12_hasId F_a12_id) hZ13 (own_w hw 90 rfl) (own_w hw 40 rfl) (by decide) (by decide)) qa14 qc14 (g := (mkF m 92 #[.val (.long p0), .second, .val (.int p1), .val (.int p2), .val (.int p3), .val (.int p4), .val (.ref er), .val (.ref b2), .val (.ref a5), .val (.int (1 : Int32)), .val (.ref a12), .unset] [(.ref a12)])) rfl (by rw [hml]; rfl) (Steps.refl _) (argsL := []) (rest := []) (lenOf pd0_3 rfl) rfl (by show 2 * 0 + _ ≤ _; exact Nat.le_of_eq rfl) (hb hby at_92) (fun _ _ => ⟨rfl, rfl, (by decide : 8 + 1 ≤ _), (by decide : 73 + 2 ≤ _)⟩)
      dsimp only [Pt.U, Pt.locs, Pt.cells, Pt.slots] at X14 l14 y14 z14 st14 hQ14
      subst y14 z14
      obtain ⟨r14, rfl, Nc14, Kc14, gr14, szr14, NE_r14, NF_r14_isPresent, NF_r14_value⟩ := hQ14
      have N14 : Fr n0 L14 := by rw [l14]; exact Fr.app N13 Nc14
      have g_r14 : n0 ≤ r14 := gr14
      have ne_b2_r14 : b2 ≠ r14 := Nat.ne_of_lt (Nat.lt_of_lt_of_le V_b2.lt szr14)
      have ne_a5_r14 : a5 ≠ r14 := Nat.ne_of_lt (Nat.lt_of_lt_of_le E_a5.lt szr14)
      have ne_a12_r14 : a12 ≠ r14 := Nat.ne_of_lt (Nat.lt_of_lt_of_le E_a12.lt szr14)
      have V_b2 := V_b2.keep Kc14 nin0
      have E_a5 := E_a5.keep Kc14
      have E_a12 := E_a12.keep Kc14
      have F_a12_cause := F_a12_cause.keep Kc14 nin0
      have F_a12_stackTrace := F_a12_stackTrace.keep Kc14 nin0
      have F_a12_suppressedExceptions := F_a12_suppressedExceptions.keep Kc14 nin0
      have F_a12_detailMessage := F_a12_detailMessage.keep Kc14 nin0
      have F_a12_error := F_a12_error.keep Kc14 nin0
      have F_a12_id := F_a12_id.keep Kc14 nin0
      have F_a12_hasId := F_a12_hasId.keep Kc14 nin0
      have hk14 := Nat.le_trans hk13 Kc14.1
      have O14 := O13.keep Kc14 all0
      have E_r14 := NE_r14
      have F_r14_isPresent := NF_r14_isPresent
      have F_r14_value := NF_r14_value
      refine GoW.tr st14 ?_
      show GoW p e below s _ _ _ (T14.setTop (mkF m 95 #[.val (.long p0), .second, .val (.int p1), .val (.int p2), .val (.int p3), .val (.int p4), .val (.ref er), .val (.ref b2), .val (.ref a5), .val (.int (1 : Int32)), .val (.ref a12), .unset] [(.ref r14)]))
      refine GoW.st (fun _ kq_ => XS.astore X14.here hx rfl (hb hby at_95) rfl rfl (l' := #[.val (.long p0), .second, .val (.int p1), .val (.int p2), .val (.int p3), .val (.int p4), .val (.ref er), .val (.ref b2), .val (.ref a5), .val (.int (1 : Int32)), .val (.ref a12), .val (.ref r14)]) rfl kq_) ?_
      show GoW p e below s _ _ _ (T14.setTop (mkF m 97 #[.val (.long p0), .second, .val (.int p1), .val (.int p2), .val (.int p3), .val (.int p4), .val (.ref er), .val (.ref b2), .val (.ref a5), .val (.int (1 : Int32)), .val (.ref a12), .val (.ref r14)] []))
      refine GoW.st (fun _ kq_ => XS.iload X14.here hx rfl (hb hby at_97) rfl kq_) ?_
      show GoW p e below s _ _ _ (T14.setTop (mkF m 99 #[.val (.long p0), .second, .val (.int p1), .val (.int p2), .val (.int p3), .val (.int p4), .val (.ref er), .val (.ref b2), .val (.ref a5), .val (.int (1 : Int32)), .val (.ref a12), .val (.ref r14)] [(.int (1 : Int32))]))
      refine GoW.st (fun _ kq_ => XS.ifNo X14.here hx rfl (hb hby at_99) rfl (by decide) kq_) ?_
      show GoW p e below s _ _ _ (T14.setTop (mkF m 102 #[.val (.long p0), .second, .val (.int p1), .val (.int p2), .val (.int p3), .val (.int p4), .val (.ref er), .val (.ref b2), .val (.ref a5), .val (.int (1 : Int32)), .val (.ref a12), .val (.ref r14)] []))
      refine GoW.st (fun _ kq_ => XS.aload X14.here hx rfl (hb hby at_102) rfl rfl kq_) ?_
      show GoW p e below s _ _ _ (T14.setTop (mkF m 104 #[.val (.long p0), .second, .val (.int p1), .val (.int p2), .val (.int p3), .val (.int p4), .val (.ref er), .val (.ref b2), .val (.ref a5), .val (.int (1 : Int32)), .val (.ref a12), .val (.ref r14)] [(.ref r14)]))
      obtain ⟨cq15, kq15, qa15, qb15, qc15⟩ := isOf hZ13 rfl E_r14
      obtain ⟨_, _, ⟨T15, L15, k15, n15⟩, -, X15, ⟨Lc15, hQ15, l15, y15, z15⟩, st15⟩ := X14.virtualBack hx (y := (⟨"java/util/OptionalLong", "isPresent", "()Z"⟩ : MethodName)) (z := (⟨"java/util/OptionalLong", "isPresent", "()Z"⟩ : MethodName)) hown13 (mvT hZ13 (own_w hw 96 rfl)) (mvT hZ13 (own_w hw 97 rfl)) (notFace_of_selects (args := #[]) (mvT hZ13 (own_w hw 99 rfl))) (mvT hZ13 (own_w hw 99 rfl)) (mvT hZ13 (own_w hw 98 rfl)) (by decide) (backOf (W := 0) (rmip l Z a0 hw [] r14 (1 : Int32) T14.heap n0 O14 F_r14_isPresent rfl) hZ13 (own_w hw 100 rfl) (own_w hw 93 rfl) (by decide) (by decide)) qa15 qc15 (g := (mkF m 104 #[.val (.long p0), .second, .val (.int p1), .val (.int p2), .val (.int p3), .val (.int p4), .val (.ref er), .val (.ref b2), .val (.ref a5), .val (.int (1 : Int32)), .val (.ref a12), .val (.ref r14)] [(.ref r14)])) rfl (by rw [hml]; rfl) (Steps.refl _) (argsL := []) (rest := []) (lenOf pd0_4 rfl) rfl (by show 2 * 0 + _ ≤ _; exact Nat.le_of_eq rfl) (hb hby at_104) (fun _ _ => ⟨rfl, rfl, (by decide : 9 + 0 ≤ _), (by decide : 75 + 0 ≤ _)⟩)
      dsimp only [Pt.U, Pt.locs, Pt.cells, Pt.slots] at X15 l15 y15 z15 st15 hQ15
      subst y15 z15
      obtain ⟨rfl, Nc15, e15⟩ := hQ15
      have N15 : Fr n0 L15 := by rw [l15]; exact Fr.app N14 Nc15
      refine GoW.tr st15 ?_
      show GoW p e below s _ _ _ (T15.setTop (mkF m 107 #[.val (.long p0), .second, .val (.int p1), .val (.int p2), .val (.int p3), .val (.int p4), .val (.ref er), .val (.ref b2), .val (.ref a5), .val (.int (1 : Int32)), .val (.ref a12), .val (.ref r14)] [(.int (1 : Int32))]))
      refine GoW.st (fun _ kq_ => XS.ifNo X15.here hx rfl (hb hby at_107) rfl (by decide) kq_) ?_
      show GoW p e below s _ _ _ (T15.setTop (mkF m 110 #[.val (.long p0), .second, .val (.int p1), .val (.int p2), .val (.int p3), .val (.int p4), .val (.ref er), .val (.ref b2), .val (.ref a5), .val (.int (1 : Int32)), .val (.ref a12), .val (.ref r14)] []))
      refine GoW.st (fun _ kq_ => XS.aload X15.here hx rfl (hb hby at_110) rfl rfl kq_) ?_
      show GoW p e below s _ _ _ (T15.setTop (mkF m 112 #[.val (.long p0), .second, .val (.int p1), .val (.int p2), .val (.int p3), .val (.int p4), .val (.ref er), .val (.ref b2), .val (.ref a5), .val (.int (1 : Int32)), .val (.ref a12), .val (.ref r14)] [(.ref r14)]))
      obtain ⟨cq16, kq16, qa16, qb16, qc16⟩ := isOf hZ13 e15 E_r14
      obtain ⟨_, _, ⟨T16, L16, k16, n16⟩, -, X16, ⟨Lc16, hQ16, l16, y16, z16⟩, st16⟩ := X15.virtualBack hx (y := (⟨"java/util/OptionalLong", "getAsLong", "()J"⟩ : MethodName)) (z := (⟨"java/util/OptionalLong", "getAsLong", "()J"⟩ : MethodName)) hown13 (mvT hZ13 (own_w hw 120 rfl)) (mvT hZ13 (own_w hw 121 rfl)) (notFace_of_selects (args := #[]) (mvT hZ13 (own_w hw 123 rfl))) (mvT hZ13 (own_w hw 123 rfl)) (mvT hZ13 (own_w hw 122 rfl)) (by decide) (backOf (W := 0) (rmgl l Z a0 hw [] r14 p0 T14.heap n0 O14 F_r14_isPresent F_r14_value) hZ13 (own_w hw 124 rfl) (own_w hw 93 rfl) (by decide) (by decide)) qa16 qc16 (g := (mkF m 112 #[.val (.long p0), .second, .val (.int p1), .val (.int p2), .val (.int p3), .val (.int p4), .val (.ref er), .val (.ref b2), .val (.ref a5), .val (.int (1 : Int32)), .val (.ref a12), .val (.ref r14)] [(.ref r14)])) rfl (by rw [hml]; rfl) (Steps.refl _) (argsL := []) (rest := []) (lenOf pd0_6 rfl) rfl (by show 2 * 0 + _ ≤ _; exact Nat.le_of_eq rfl) (hb hby at_112) (fun _ _ => ⟨rfl, e15, (by decide : 9 + 0 ≤ _), (by decide : 75 + 0 ≤ _)⟩)
      dsimp only [Pt.U, Pt.locs, Pt.cells, Pt.slots] at X16 l16 y16 z16 st16 hQ16
      subst y16 z16
      obtain ⟨rfl, Nc16, e16⟩ := hQ16
      have N16 : Fr n0 L16 := by rw [l16]; exact Fr.app N15 Nc16
      refine GoW.tr st16 ?_
      show GoW p e below s _ _ _ (T16.setTop (mkF m 115 #[.val (.long p0), .second, .val (.int p1), .val (.int p2), .val (.int p3), .val (.int p4), .val (.ref er), .val (.ref b2), .val (.ref a5), .val (.int (1 : Int32)), .val (.ref a12), .val (.ref r14)] [(.long p0)]))
      refine GoW.st (fun _ kq_ => XT.lloadN X16.here hx rfl (hb hby at_115) rfl kq_) ?_
      show GoW p e below s _ _ _ (T16.setTop (mkF m 116 #[.val (.long p0), .second, .val (.int p1), .val (.int p2), .val (.int p3), .val (.int p4), .val (.ref er), .val (.ref b2), .val (.ref a5), .val (.int (1 : Int32)), .val (.ref a12), .val (.ref r14)] [(.long p0), (.long p0)]))
      refine GoW.st (fun _ kq_ => XT.lcmp X16.here hx rfl (hb hby at_116) rfl kq_) ?_
      show GoW p e below s _ _ _ (T16.setTop (mkF m 117 #[.val (.long p0), .second, .val (.int p1), .val (.int p2), .val (.int p3), .val (.int p4), .val (.ref er), .val (.ref b2), .val (.ref a5), .val (.int (1 : Int32)), .val (.ref a12), .val (.ref r14)] [(.int (XT.cmpL p0 p0))]))
      refine GoW.st (fun _ kq_ => XS.ifNo X16.here hx rfl (hb hby at_117) rfl (XT.ll_ne_f rfl) kq_) ?_
      show GoW p e below s _ _ _ (T16.setTop (mkF m 120 #[.val (.long p0), .second, .val (.int p1), .val (.int p2), .val (.int p3), .val (.int p4), .val (.ref er), .val (.ref b2), .val (.ref a5), .val (.int (1 : Int32)), .val (.ref a12), .val (.ref r14)] []))
      refine GoW.st (fun _ kq_ => XS.iconst X16.here hx rfl (hb hby at_120) kq_) ?_
      show GoW p e below s _ _ _ (T16.setTop (mkF m 121 #[.val (.long p0), .second, .val (.int p1), .val (.int p2), .val (.int p3), .val (.int p4), .val (.ref er), .val (.ref b2), .val (.ref a5), .val (.int (1 : Int32)), .val (.ref a12), .val (.ref r14)] [(.int (1 : Int32))]))
      refine GoW.st (fun _ kq_ => XS.goto X16.here hx rfl (pc0 := 121) (pc' := 125) rfl (hb hby at_121) (by decide) (by decide) kq_) ?_
      show GoW p e below s _ _ _ (T16.setTop (mkF m 125 #[.val (.long p0), .second, .val (.int p1), .val (.int p2), .val (.int p3), .val (.int p4), .val (.ref er), .val (.ref b2), .val (.ref a5), .val (.int (1 : Int32)), .val (.ref a12), .val (.ref r14)] [(.int (1 : Int32))]))
      exact GoW.ret (vm1 := T13.vm) X16 hlk hS13 (by rw [e16]; exact hk14) (some (.int (nar .boolean (1 : Int32)))) (fun h => by rw [Bd.returns] at h; cases h) (by rw [e16]; exact ⟨rfl, N16⟩) (by decide) (by decide) (fun fs hr => retN X16 hx (t := .boolean) Bd.returns (by simp) (hb hby at_125) hr)
  obtain ⟨s2, o2, st2, r2⟩ := G
  exact ⟨s2, o2, castTop (ef0 m p0 p1 p2 p3 p4) st2, r2⟩
set_option maxRecDepth 65536 in
set_option maxHeartbeats 40000000 in
theorem comes_1 {Post : Tables → Env → Array Value → State → Outcome → State → Prop} (hpost : ∀ tb e args s v u, (limb_1_1.after args s (.returned v) u = true ∧ limb_1_2.after args s (.returned v) u = true ∧ True) → ReturnedEndW s (.returned v) u (Jvm.fieldLocs frame_1_writes args s ++ Jvm.arrayLocs frame_1_arrays args s ++ Jvm.staticLocs frame_1_statics s) 24 2176 → Post tb e args s (.returned v) u) :
    ArmFor flags0 classFile x code maxLocals ret World_1 tables_1 room_1 Calls_1 rest_1 Pre_1 Post := by
  intro l hfl _ _ p e ha hc hk s m args below hf hA hF happ hP
  obtain ⟨hcalls, hrest, hpre⟩ := hP
  obtain ⟨-, -, -, hnamed, -, -, -, hat⟩ := (Spec.applies_iff hf).mp happ
  obtain ⟨hg, hn⟩ := and_e (Cond.before_iff.mp (show (Jvm.Cond.and given_1 narrow_1).before args s = true from hpre))
  obtain ⟨h1, r1⟩ := and_e hg
  obtain ⟨a0, r2⟩ := and_e r1
  obtain ⟨a1, r3⟩ := and_e r2
  obtain ⟨a2, r4⟩ := and_e r3
  obtain ⟨a3, r5⟩ := and_e r4
  obtain ⟨w0, w1, w2, w3, w4, rfl⟩ : ∃ w0 w1 w2 w3 w4 : Value, args = #[w0, w1, w2, w3, w4] := by
    have hs : args.size = 5 := by simpa [Cond.value, given_1] using h1
    obtain ⟨L⟩ := args
    match L, hs with
    | [w0, w1, w2, w3, w4], _ => exact ⟨w0, w1, w2, w3, w4, rfl⟩
  have hw := fun d (hd : d ∈ tables_1) => atoms_spec (ws := Jvm.Cond.code x code maxLocals ret :: tables_1) hat d (List.mem_cons_of_mem _ hd)
  obtain ⟨hsets, hown0⟩ := atoms_of _ (rest_1_c_eq ▸ (show rest_1_c.before _ s = true from hrest))
  have hfit : Fit s := fun {y c} hc i hi => by
    obtain ⟨ha, rfl⟩ := Array.getElem?_eq_some_iff.mp hc
    have q := List.all_eq_true.mp ((Array.all_eq_true_iff_forall_mem.mp hF) _ (Array.getElem_mem ha)) i (List.mem_range.mpr hi)
    simpa [Array.getElem?_eq_getElem hi] using q
  obtain ⟨i0, ei0⟩ := isL_v a0
  obtain rfl : w0 = (.long i0) := Option.some.inj ei0
  obtain ⟨i1, ei1⟩ := is_v a1
  obtain rfl : w1 = (.int i1) := Option.some.inj ei1
  obtain ⟨i2, ei2⟩ := is_v a2
  obtain rfl : w2 = (.int i2) := Option.some.inj ei2
  obtain ⟨i3, ei3⟩ := is_v a3
  obtain rfl : w3 = (.int i3) := Option.some.inj ei3
  obtain ⟨i4, ei4⟩ := is_v r5
  obtain rfl : w4 = (.int i4) := Option.some.inj ei4
  obtain ⟨q0, hn0⟩ := and_e hn
  obtain ⟨q1, hn1⟩ := and_e hn0
  obtain ⟨q2, hn2⟩ := and_e hn1
  obtain ⟨q3, hn3⟩ := and_e hn2
  obtain ⟨q4, hn4⟩ := and_e hn3
  obtain ⟨q5, hn5⟩ := and_e hn4
  obtain ⟨q6, hn6⟩ := and_e hn5
  obtain ⟨q7, hn7⟩ := and_e hn6
  obtain ⟨q8, hn8⟩ := and_e hn7
  obtain ⟨q9, hn9⟩ := and_e hn8
  obtain ⟨q10, hn10⟩ := and_e hn9
  have q11 := hn10
  obtain ⟨a_FIRST_FRAME_NOT_CONNECT, v_FIRST_FRAME_NOT_CONNECT⟩ := exa_v q0
  have S_FIRST_FRAME_NOT_CONNECT : Sta s s.heap "com/example/duplexwire/duplexwire/protocol/ErrorCode" "FIRST_FRAME_NOT_CONNECT" "Lcom/example/duplexwire/duplexwire/protocol/ErrorCode;" (.ref a_FIRST_FRAME_NOT_CONNECT) := Sta.start v_FIRST_FRAME_NOT_CONNECT (Or.inr ⟨own_w hw 6 rfl, own_w hw 7 rfl⟩)
  have E_FIRST_FRAME_NOT_CONNECT : Exa s s.heap a_FIRST_FRAME_NOT_CONNECT "com/example/duplexwire/duplexwire/protocol/ErrorCode" := Exa.start v_FIRST_FRAME_NOT_CONNECT q0
  obtain ⟨a_FRAME_TOO_BIG, v_FRAME_TOO_BIG⟩ := exa_v q1
  have S_FRAME_TOO_BIG : Sta s s.heap "com/example/duplexwire/duplexwire/protocol/ErrorCode" "FRAME_TOO_BIG" "Lcom/example/duplexwire/duplexwire/protocol/ErrorCode;" (.ref a_FRAME_TOO_BIG) := Sta.start v_FRAME_TOO_BIG (Or.inr ⟨own_w hw 6 rfl, own_w hw 104 rfl⟩)
  have E_FRAME_TOO_BIG : Exa s s.heap a_FRAME_TOO_BIG "com/example/duplexwire/duplexwire/protocol/ErrorCode" := Exa.start v_FRAME_TOO_BIG q1
  obtain ⟨a_SLOW_CONSUMER, v_SLOW_CONSUMER⟩ := exa_v q2
  have S_SLOW_CONSUMER : Sta s s.heap "com/example/duplexwire/duplexwire/protocol/ErrorCode" "SLOW_CONSUMER" "Lcom/example/duplexwire/duplexwire/protocol/ErrorCode;" (.ref a_SLOW_CONSUMER) := Sta.start v_SLOW_CONSUMER (Or.inr ⟨own_w hw 6 rfl, own_w hw 126 rfl⟩)
  have E_SLOW_CONSUMER : Exa s s.heap a_SLOW_CONSUMER "com/example/duplexwire/duplexwire/protocol/ErrorCode" := Exa.start v_SLOW_CONSUMER q2
  obtain ⟨a_INTERNAL_ERROR, v_INTERNAL_ERROR⟩ := exa_v q3
  have S_INTERNAL_ERROR : Sta s s.heap "com/example/duplexwire/duplexwire/protocol/ErrorCode" "INTERNAL_ERROR" "Lcom/example/duplexwire/duplexwire/protocol/ErrorCode;" (.ref a_INTERNAL_ERROR) := Sta.start v_INTERNAL_ERROR (Or.inr ⟨own_w hw 6 rfl, own_w hw 128 rfl⟩)
  have E_INTERNAL_ERROR : Exa s s.heap a_INTERNAL_ERROR "com/example/duplexwire/duplexwire/protocol/ErrorCode" := Exa.start v_INTERNAL_ERROR q3
  obtain ⟨a_CLIENT_NAME_IN_USE, v_CLIENT_NAME_IN_USE⟩ := exa_v q4
  have S_CLIENT_NAME_IN_USE : Sta s s.heap "com/example/duplexwire/duplexwire/protocol/ErrorCode" "CLIENT_NAME_IN_USE" "Lcom/example/duplexwire/duplexwire/protocol/ErrorCode;" (.ref a_CLIENT_NAME_IN_USE) := Sta.start v_CLIENT_NAME_IN_USE (Or.inr ⟨own_w hw 6 rfl, own_w hw 130 rfl⟩)
  have E_CLIENT_NAME_IN_USE : Exa s s.heap a_CLIENT_NAME_IN_USE "com/example/duplexwire/duplexwire/protocol/ErrorCode" := Exa.start v_CLIENT_NAME_IN_USE q4
  obtain ⟨a_CREDENTIALS_REFUSED, v_CREDENTIALS_REFUSED⟩ := exa_v q5
  have S_CREDENTIALS_REFUSED : Sta s s.heap "com/example/duplexwire/duplexwire/protocol/ErrorCode" "CREDENTIALS_REFUSED" "Lcom/example/duplexwire/duplexwire/protocol/ErrorCode;" (.ref a_CREDENTIALS_REFUSED) := Sta.start v_CREDENTIALS_REFUSED (Or.inr ⟨own_w hw 6 rfl, own_w hw 132 rfl⟩)
  have E_CREDENTIALS_REFUSED : Exa s s.heap a_CREDENTIALS_REFUSED "com/example/duplexwire/duplexwire/protocol/ErrorCode" := Exa.start v_CREDENTIALS_REFUSED q5
  obtain ⟨a_UNSUPPORTED_VERSION, v_UNSUPPORTED_VERSION⟩ := exa_v q6
  have S_UNSUPPORTED_VERSION : Sta s s.heap "com/example/duplexwire/duplexwire/protocol/ErrorCode" "UNSUPPORTED_VERSION" "Lcom/example/duplexwire/duplexwire/protocol/ErrorCode;" (.ref a_UNSUPPORTED_VERSION) := Sta.start v_UNSUPPORTED_VERSION (Or.inr ⟨own_w hw 6 rfl, own_w hw 134 rfl⟩)
  have E_UNSUPPORTED_VERSION : Exa s s.heap a_UNSUPPORTED_VERSION "com/example/duplexwire/duplexwire/protocol/ErrorCode" := Exa.start v_UNSUPPORTED_VERSION q6
  obtain ⟨a_EVENT_NOT_STORED, v_EVENT_NOT_STORED⟩ := exa_v q7
  have S_EVENT_NOT_STORED : Sta s s.heap "com/example/duplexwire/duplexwire/protocol/ErrorCode" "EVENT_NOT_STORED" "Lcom/example/duplexwire/duplexwire/protocol/ErrorCode;" (.ref a_EVENT_NOT_STORED) := Sta.start v_EVENT_NOT_STORED (Or.inr ⟨own_w hw 6 rfl, own_w hw 136 rfl⟩)
  have E_EVENT_NOT_STORED : Exa s s.heap a_EVENT_NOT_STORED "com/example/duplexwire/duplexwire/protocol/ErrorCode" := Exa.start v_EVENT_NOT_STORED q7
  obtain ⟨a_INVALID_FRAME, v_INVALID_FRAME⟩ := exa_v q8
  have S_INVALID_FRAME : Sta s s.heap "com/example/duplexwire/duplexwire/protocol/ErrorCode" "INVALID_FRAME" "Lcom/example/duplexwire/duplexwire/protocol/ErrorCode;" (.ref a_INVALID_FRAME) := Sta.start v_INVALID_FRAME (Or.inr ⟨own_w hw 6 rfl, own_w hw 138 rfl⟩)
  have E_INVALID_FRAME : Exa s s.heap a_INVALID_FRAME "com/example/duplexwire/duplexwire/protocol/ErrorCode" := Exa.start v_INVALID_FRAME q8
  obtain ⟨a_UNKNOWN_OP, v_UNKNOWN_OP⟩ := exa_v q9
  have S_UNKNOWN_OP : Sta s s.heap "com/example/duplexwire/duplexwire/protocol/ErrorCode" "UNKNOWN_OP" "Lcom/example/duplexwire/duplexwire/protocol/ErrorCode;" (.ref a_UNKNOWN_OP) := Sta.start v_UNKNOWN_OP (Or.inr ⟨own_w hw 6 rfl, own_w hw 140 rfl⟩)
  have E_UNKNOWN_OP : Exa s s.heap a_UNKNOWN_OP "com/example/duplexwire/duplexwire/protocol/ErrorCode" := Exa.start v_UNKNOWN_OP q9
  obtain ⟨a_UNKNOWN_SUBSCRIPTION, v_UNKNOWN_SUBSCRIPTION⟩ := exa_v q10
  have S_UNKNOWN_SUBSCRIPTION : Sta s s.heap "com/example/duplexwire/duplexwire/protocol/ErrorCode" "UNKNOWN_SUBSCRIPTION" "Lcom/example/duplexwire/duplexwire/protocol/ErrorCode;" (.ref a_UNKNOWN_SUBSCRIPTION) := Sta.start v_UNKNOWN_SUBSCRIPTION (Or.inr ⟨own_w hw 6 rfl, own_w hw 142 rfl⟩)
  have E_UNKNOWN_SUBSCRIPTION : Exa s s.heap a_UNKNOWN_SUBSCRIPTION "com/example/duplexwire/duplexwire/protocol/ErrorCode" := Exa.start v_UNKNOWN_SUBSCRIPTION q10
  obtain ⟨a_INVALID_TOPIC, v_INVALID_TOPIC⟩ := exa_v q11
  have S_INVALID_TOPIC : Sta s s.heap "com/example/duplexwire/duplexwire/protocol/ErrorCode" "INVALID_TOPIC" "Lcom/example/duplexwire/duplexwire/protocol/ErrorCode;" (.ref a_INVALID_TOPIC) := Sta.start v_INVALID_TOPIC (Or.inr ⟨own_w hw 6 rfl, own_w hw 144 rfl⟩)
  have E_INVALID_TOPIC : Exa s s.heap a_INVALID_TOPIC "com/example/duplexwire/duplexwire/protocol/ErrorCode" := Exa.start v_INVALID_TOPIC q11
  let c : Nat → Addr := fun i => if i = 0 then a_UNSUPPORTED_VERSION else if i = 1 then a_FIRST_FRAME_NOT_CONNECT else if i = 2 then a_CREDENTIALS_REFUSED else if i = 3 then a_CLIENT_NAME_IN_USE else if i = 4 then a_INVALID_FRAME else if i = 5 then a_UNKNOWN_OP else if i = 6 then a_INVALID_TOPIC else if i = 7 then a_FRAME_TOO_BIG else if i = 8 then a_SLOW_CONSUMER else if i = 9 then a_UNKNOWN_SUBSCRIPTION else if i = 10 then a_EVENT_NOT_STORED else a_INTERNAL_ERROR
  have HS : OwnSt s c := ⟨⟨S_UNSUPPORTED_VERSION, E_UNSUPPORTED_VERSION⟩, ⟨S_FIRST_FRAME_NOT_CONNECT, E_FIRST_FRAME_NOT_CONNECT⟩, ⟨S_CREDENTIALS_REFUSED, E_CREDENTIALS_REFUSED⟩, ⟨S_CLIENT_NAME_IN_USE, E_CLIENT_NAME_IN_USE⟩, ⟨S_INVALID_FRAME, E_INVALID_FRAME⟩, ⟨S_UNKNOWN_OP, E_UNKNOWN_OP⟩, ⟨S_INVALID_TOPIC, E_INVALID_TOPIC⟩, ⟨S_FRAME_TOO_BIG, E_FRAME_TOO_BIG⟩, ⟨S_SLOW_CONSUMER, E_SLOW_CONSUMER⟩, ⟨S_UNKNOWN_SUBSCRIPTION, E_UNKNOWN_SUBSCRIPTION⟩, ⟨S_EVENT_NOT_STORED, E_EVENT_NOT_STORED⟩, ⟨S_INTERNAL_ERROR, E_INTERNAL_ERROR⟩⟩
  have n5 := not_v (Cond.before_iff.mp (hsets _ (List.mem_of_getElem? (i := 2) rfl)))
  obtain ⟨zc, e10⟩ := is_v (Cond.before_iff.mp (hsets _ (List.mem_of_getElem? (i := 1) rfl)))
  have SC : Sta s s.heap "java/lang/String" "COMPACT_STRINGS" "Z" (.int zc) := Sta.start e10 (Or.inl (hsets _ (List.mem_of_getElem? (i := 0) rfl)))
  have hcs : ¬ (zc = (0 : Int32)) := gotF (Cond.eq_ints e10 (Term.int_eval (0))) n5
  obtain ⟨vu, e11, ru⟩ := isR_v (Cond.before_iff.mp (hsets _ (List.mem_of_getElem? (i := 16) rfl)))
  have SU : Sta s s.heap "java/lang/Throwable" "UNASSIGNED_STACK" "[Ljava/lang/StackTraceElement;" vu := Sta.start e11 (Or.inl (hsets _ (List.mem_of_getElem? (i := 15) rfl)))
  obtain ⟨vl, e12, rl⟩ := isR_v (Cond.before_iff.mp (hsets _ (List.mem_of_getElem? (i := 21) rfl)))
  have SS : Sta s s.heap "java/lang/Throwable" "SUPPRESSED_SENTINEL" "Ljava/util/List;" vl := Sta.start e12 (Or.inl (hsets _ (List.mem_of_getElem? (i := 20) rfl)))
  have q31 := Cond.before_iff.mp (hsets _ (List.mem_of_getElem? (i := 31) rfl))
  obtain ⟨oe, e13⟩ := exa_v q31
  have SE : Sta s s.heap "java/util/OptionalLong" "EMPTY" "Ljava/util/OptionalLong;" (.ref oe) := Sta.start e13 (Or.inl (hsets _ (List.mem_of_getElem? (i := 30) rfl)))
  have EO : Exa s s.heap oe "java/util/OptionalLong" := Exa.start e13 q31
  have FO : Fld s s.heap oe "java/util/OptionalLong" "isPresent" "Z" (.int 0) := own_fld e13 (Cond.before_iff.mp (hsets _ (List.mem_of_getElem? (i := 32) rfl)))
  obtain ⟨n, o, h1, h2, h3, _, L, rfl, ⟨rfl, N⟩, hq⟩ := rm0 l s _ hw tables_1 i0 i1 i2 i3 i4 c zc vu vl oe s.heap s.heap.size (Old.start s) rfl HS SC hcs SU ru SS rl SE EO FO p e ha hc hk s m _ below hf ((Spec.applies_iff_loose hf).mp happ).1 ⟨rfl, rfl⟩ trivial
  refine ⟨n, _, h1, h2, h3, hpost _ _ _ _ _ _ ⟨Cond.after_iff.mpr rfl, Cond.after_iff.mpr (eq_i res_at (Term.int_eval (1)) rfl), trivial⟩ ⟨hq.1, hq.2.1, hq.2.2.1, (hq.2.2.2.sift fun y hy => Or.inr (N y hy)).mono (by decide) (by decide)⟩⟩
theorem main_1_1 : Claimed_1_1 := comes_1 fun _ _ _ _ _ _ h hF => ⟨h.1, hF⟩
theorem main_1_2 : Claimed_1_2 := comes_1 fun _ _ _ _ _ _ h hF => ⟨h.2.1, hF⟩
end Jvm.Pilot.@@N@@
namespace Jvm.Pilot.@@N@@
open Jvm Jvm.ClassFile Sem Op Lib Jvm.Free Jvm.Stand Jvm.Pilot.@@N@@.Jvm.D
/-! MADE BY PROGRAM (witnessworld.py) out of the Statement's table words and the real class files: 38 classes; the members and pool entries that the words name. The judged class is class 1, her method 2. -/
namespace start1
open Jvm.ClassFile
def u (s : String) : CpInfo := .utf8 (stringToUtf16 s)
/-- a pool by its gaps: so many unusable entries, then the entry; so many at the end -/
def gap : Nat → List CpInfo → List CpInfo
  | 0, r => r
  | n + 1, r => .unusable :: gap n r
def poolList (es : List (Nat × CpInfo)) (last : Nat) : List CpInfo := es.foldr (fun e r => gap e.1 (e.2 :: r)) (gap last [])
def pool (es : List (Nat × CpInfo)) (last : Nat) : Array CpInfo := ⟨poolList es last⟩
def fileOf (pool : Array CpInfo) (this : Nat) (attrs : Array Attribute := #[]) (ms : Array MethodInfo := #[]) (fl : Nat := 33) (sup : Nat := 0) (ifs : Array Nat := #[]) (fds : Array FieldInfo := #[]) : ClassFile where
  minorVersion := 0
  majorVersion := 65
  constantPool := pool
  accessFlags := fl
  thisClass := this
  superClass := sup
  interfaces := ifs
  fields := fds
  methods := ms
  attributes := attrs
def plain (name : String) (sup : Option ClassId) : Class where
  name := name
  kind := .ordinary
  loader := none
  accessFlags := 33
  super := sup
  interfaces := #[]
  cf := none
  fields := #[]
  methods := #[]
  instanceTypes := #[]
  staticTypes := #[]
  resolved := #[]
  callSites := []
  init := .initialized
  statics := none
  mirror := none

def pool0 : Array CpInfo := pool [(5, u "<init>"), (0, u "()V"), (1, .class_ 10), (1, u "java/lang/Object")] 113

def k0c0 : Code := { maxStack := 0, maxLocals := 1, code := object_method_1_code, exceptionTable := #[], attributes := #[] }
def k0m0 : Method := { name := "<init>", desc := "()V", sig := { parameters := [], returnType := none }, accessFlags := 1, code := some k0c0 }
/-- java/lang/Object -/
def k0 : Class := { plain "java/lang/Object" none with
  accessFlags := 33
  interfaces := #[]
  cf := some (fileOf pool0 8 #[] #[{ accessFlags := 1, nameIndex := 5, descriptorIndex := 6, attributes := #[] }] 33 0 #[] #[])
  fields := #[]
  methods := #[k0m0]
  instanceTypes := #[]
  staticTypes := #[]
  resolved := Array.replicate 124 none
  statics := none }

def pool1 : Array CpInfo := pool [(2, .class_ 4), (1, u "java/lang/Object"), (0, u "<init>"), (0, u "()V"), (0, .integer 2147483647), (0, .fieldref 9 10), (0, .class_ 11), (0, .nameAndType 12 13), (0, u "com/example/duplexwire/duplexwire/protocol/ErrorCode"), (0, u "UNSUPPORTED_VERSION"), (0, u "Lcom/example/duplexwire/duplexwire/protocol/ErrorCode;"), (0, .fieldref 9 15), (0, .nameAndType 16 13), (0, u "FIRST_FRAME_NOT_CONNECT"), (0, .fieldref 9 18), (0, .nameAndType 19 13), (0, u "CREDENTIALS_REFUSED"), (0, .fieldref 9 21), (0, .nameAndType 22 13), (0, u "CLIENT_NAME_IN_USE"), (0, .fieldref 9 24), (0, .nameAndType 25 13), (0, u "INVALID_FRAME"), (0, .fieldref 9 27), (0, .nameAndType 28 13), (0, u "UNKNOWN_OP"), (0, .fieldref 9 30), (0, .nameAndType 31 13), (0, u "INVALID_TOPIC"), (0, .fieldref 9 33), (0, .nameAndType 34 13), (0, u "FRAME_TOO_BIG"), (0, .fieldref 9 36), (0, .nameAndType 37 13), (0, u "SLOW_CONSUMER"), (0, .fieldref 9 39), (0, .nameAndType 40 13), (0, u "UNKNOWN_SUBSCRIPTION"), (0, .fieldref 9 42), (0, .nameAndType 43 13), (0, u "EVENT_NOT_STORED"), (0, .fieldref 9 45), (0, .nameAndType 46 13), (0, u "INTERNAL_ERROR"), (0, .methodref 48 49), (0, .class_ 50), (0, .nameAndType 51 52), (0, u "com/example/duplexwire/duplexwire/protocol/FrameExceptionIdPinLaw"), (0, u "code"), (0, u "(I)Lcom/example/duplexwire/duplexwire/protocol/ErrorCode;"), (0, .class_ 54), (0, u "java/lang/String"), (0, .methodref 53 56), (0, .nameAndType 5 57), (0, u "([C)V"), (0, .class_ 59), (0, u "com/example/duplexwire/duplexwire/protocol/FrameException"), (0, .methodref 58 61), (0, .nameAndType 5 62), (0, u "(Lcom/example/duplexwire/duplexwire/protocol/ErrorCode;JLjava/lang/String;)V"), (0, .methodref 58 64), (0, .nameAndType 5 65), (0, u "(Lcom/example/duplexwire/duplexwire/protocol/ErrorCode;Ljava/lang/String;)V"), (0, .methodref 58 67), (0, .nameAndType 68 69), (0, u "id"), (0, u "()Ljava/util/OptionalLong;"), (0, .methodref 71 72), (0, .class_ 73), (0, .nameAndType 74 75), (0, u "java/util/OptionalLong"), (0, u "isPresent"), (0, u "()Z"), (0, .methodref 71 77), (0, .nameAndType 78 79), (0, u "getAsLong"), (0, u "()J"), (3, u "law"), (0, u "(JIIII)Z")] 4

def k1m0 : Method := { name := "<init>", desc := "()V", sig := { parameters := [], returnType := none }, accessFlags := 2, code := none }
def k1c1 : Code := { maxStack := 2, maxLocals := 2, code := method_2_code, exceptionTable := #[], attributes := #[] }
def k1m1 : Method := { name := "code", desc := "(I)Lcom/example/duplexwire/duplexwire/protocol/ErrorCode;", sig := { parameters := [.int], returnType := some (.object "com/example/duplexwire/duplexwire/protocol/ErrorCode") }, accessFlags := 10, code := some k1c1 }
def k1c2 : Code := { maxStack := 6, maxLocals := 12, code := code, exceptionTable := #[], attributes := #[] }
def k1m2 : Method := { name := "law", desc := "(JIIII)Z", sig := { parameters := [.long, .int, .int, .int, .int], returnType := some .boolean }, accessFlags := 9, code := some k1c2 }
/-- com/example/duplexwire/duplexwire/protocol/FrameExceptionIdPinLaw -/
def k1 : Class := { plain "com/example/duplexwire/duplexwire/protocol/FrameExceptionIdPinLaw" (some 0) with
  accessFlags := 49
  interfaces := #[]
  cf := some (fileOf pool1 48 #[] #[{ accessFlags := 2, nameIndex := 5, descriptorIndex := 6, attributes := #[] }, { accessFlags := 10, nameIndex := 51, descriptorIndex := 52, attributes := #[] }, { accessFlags := 9, nameIndex := 83, descriptorIndex := 84, attributes := #[] }] 49 2 #[] #[])
  fields := #[]
  methods := #[k1m0, k1m1, k1m2]
  instanceTypes := #[]
  staticTypes := #[]
  resolved := Array.replicate 89 none
  statics := none }

def pool2 : Array CpInfo := pool [(1, .class_ 2), (0, u "java/lang/constant/Constable"), (0, .class_ 4), (0, u "java/lang/Object")] 6

/-- java/lang/constant/Constable -/
def k2 : Class := { plain "java/lang/constant/Constable" (some 0) with
  accessFlags := 1537
  interfaces := #[]
  cf := some (fileOf pool2 1 #[] #[] 1537 3 #[] #[])
  fields := #[]
  methods := #[]
  instanceTypes := #[]
  staticTypes := #[]
  resolved := Array.replicate 11 none
  statics := none }

def pool3 : Array CpInfo := pool [(1, .class_ 2), (0, u "java/lang/Comparable"), (0, .class_ 4), (0, u "java/lang/Object")] 7

/-- java/lang/Comparable -/
def k3 : Class := { plain "java/lang/Comparable" (some 0) with
  accessFlags := 1537
  interfaces := #[]
  cf := some (fileOf pool3 1 #[] #[] 1537 3 #[] #[])
  fields := #[]
  methods := #[]
  instanceTypes := #[]
  staticTypes := #[]
  resolved := Array.replicate 12 none
  statics := none }

def pool4 : Array CpInfo := pool [(1, .class_ 2), (0, u "java/io/Serializable"), (0, .class_ 4), (0, u "java/lang/Object")] 2

/-- java/io/Serializable -/
def k4 : Class := { plain "java/io/Serializable" (some 0) with
  accessFlags := 1537
  interfaces := #[]
  cf := some (fileOf pool4 1 #[] #[] 1537 3 #[] #[])
  fields := #[]
  methods := #[]
  instanceTypes := #[]
  staticTypes := #[]
  resolved := Array.replicate 7 none
  statics := none }

def pool5 : Array CpInfo := pool [(2, .class_ 4), (1, u "java/lang/Enum"), (0, u "name"), (0, u "Ljava/lang/String;"), (2, u "ordinal"), (0, u "I"), (1, .class_ 14), (1, u "java/lang/Object"), (4, u "hash"), (86, .class_ 108), (1, u "java/lang/Enum$EnumDesc"), (2, .class_ 112), (0, u "java/lang/constant/Constable"), (0, .class_ 114), (0, u "java/lang/Comparable"), (0, .class_ 116), (0, u "java/io/Serializable")] 87

/-- java/lang/Enum -/
def k5 : Class := { plain "java/lang/Enum" (some 0) with
  accessFlags := 1057
  interfaces := #[2, 3, 4]
  cf := some (fileOf pool5 2 #[.nestMembers #[106]] #[] 1057 12 #[111, 113, 115] #[{ accessFlags := 18, nameIndex := 5, descriptorIndex := 6, attributes := #[] }, { accessFlags := 18, nameIndex := 9, descriptorIndex := 10, attributes := #[] }, { accessFlags := 2, nameIndex := 19, descriptorIndex := 10, attributes := #[] }])
  fields := #[{ name := "name", type := (.object "java/lang/String"), accessFlags := 18, slot := 0, constantValue := 0 }, { name := "ordinal", type := .int, accessFlags := 18, slot := 1, constantValue := 0 }, { name := "hash", type := .int, accessFlags := 2, slot := 2, constantValue := 0 }]
  methods := #[]
  instanceTypes := #[(.object "java/lang/String"), .int, .int]
  staticTypes := #[]
  resolved := Array.replicate 204 none
  statics := none }

def pool6 : Array CpInfo := pool [(1, .class_ 2), (0, u "com/example/duplexwire/duplexwire/protocol/ErrorCode"), (2, u "UNSUPPORTED_VERSION"), (0, u "Lcom/example/duplexwire/duplexwire/protocol/ErrorCode;"), (2, u "FIRST_FRAME_NOT_CONNECT"), (2, u "CREDENTIALS_REFUSED"), (2, u "CLIENT_NAME_IN_USE"), (2, u "INVALID_FRAME"), (2, u "UNKNOWN_OP"), (2, u "INVALID_TOPIC"), (2, u "FRAME_TOO_BIG"), (2, u "SLOW_CONSUMER"), (2, u "UNKNOWN_SUBSCRIPTION"), (2, u "EVENT_NOT_STORED"), (2, u "INTERNAL_ERROR"), (2, u "$VALUES"), (0, u "[Lcom/example/duplexwire/duplexwire/protocol/ErrorCode;"), (6, .class_ 52), (1, u "java/lang/Enum"), (8, u "code"), (0, u "I"), (2, u "description"), (0, u "Ljava/lang/String;"), (2, u "closesConnection"), (0, u "Z"), (2, u "ALL")] 74

/-- com/example/duplexwire/duplexwire/protocol/ErrorCode -/
def k6 : Class := { plain "com/example/duplexwire/duplexwire/protocol/ErrorCode" (some 5) with
  accessFlags := 16433
  interfaces := #[]
  cf := some (fileOf pool6 1 #[] #[] 16433 50 #[] #[{ accessFlags := 16409, nameIndex := 5, descriptorIndex := 6, attributes := #[] }, { accessFlags := 16409, nameIndex := 9, descriptorIndex := 6, attributes := #[] }, { accessFlags := 16409, nameIndex := 12, descriptorIndex := 6, attributes := #[] }, { accessFlags := 16409, nameIndex := 15, descriptorIndex := 6, attributes := #[] }, { accessFlags := 16409, nameIndex := 18, descriptorIndex := 6, attributes := #[] }, { accessFlags := 16409, nameIndex := 21, descriptorIndex := 6, attributes := #[] }, { accessFlags := 16409, nameIndex := 24, descriptorIndex := 6, attributes := #[] }, { accessFlags := 16409, nameIndex := 27, descriptorIndex := 6, attributes := #[] }, { accessFlags := 16409, nameIndex := 30, descriptorIndex := 6, attributes := #[] }, { accessFlags := 16409, nameIndex := 33, descriptorIndex := 6, attributes := #[] }, { accessFlags := 16409, nameIndex := 36, descriptorIndex := 6, attributes := #[] }, { accessFlags := 16409, nameIndex := 39, descriptorIndex := 6, attributes := #[] }, { accessFlags := 26, nameIndex := 73, descriptorIndex := 43, attributes := #[] }, { accessFlags := 18, nameIndex := 61, descriptorIndex := 62, attributes := #[] }, { accessFlags := 18, nameIndex := 65, descriptorIndex := 66, attributes := #[] }, { accessFlags := 18, nameIndex := 69, descriptorIndex := 70, attributes := #[] }, { accessFlags := 4122, nameIndex := 42, descriptorIndex := 43, attributes := #[] }])
  fields := #[{ name := "UNSUPPORTED_VERSION", type := (.object "com/example/duplexwire/duplexwire/protocol/ErrorCode"), accessFlags := 16409, slot := 0, constantValue := 0 }, { name := "FIRST_FRAME_NOT_CONNECT", type := (.object "com/example/duplexwire/duplexwire/protocol/ErrorCode"), accessFlags := 16409, slot := 1, constantValue := 0 }, { name := "CREDENTIALS_REFUSED", type := (.object "com/example/duplexwire/duplexwire/protocol/ErrorCode"), accessFlags := 16409, slot := 2, constantValue := 0 }, { name := "CLIENT_NAME_IN_USE", type := (.object "com/example/duplexwire/duplexwire/protocol/ErrorCode"), accessFlags := 16409, slot := 3, constantValue := 0 }, { name := "INVALID_FRAME", type := (.object "com/example/duplexwire/duplexwire/protocol/ErrorCode"), accessFlags := 16409, slot := 4, constantValue := 0 }, { name := "UNKNOWN_OP", type := (.object "com/example/duplexwire/duplexwire/protocol/ErrorCode"), accessFlags := 16409, slot := 5, constantValue := 0 }, { name := "INVALID_TOPIC", type := (.object "com/example/duplexwire/duplexwire/protocol/ErrorCode"), accessFlags := 16409, slot := 6, constantValue := 0 }, { name := "FRAME_TOO_BIG", type := (.object "com/example/duplexwire/duplexwire/protocol/ErrorCode"), accessFlags := 16409, slot := 7, constantValue := 0 }, { name := "SLOW_CONSUMER", type := (.object "com/example/duplexwire/duplexwire/protocol/ErrorCode"), accessFlags := 16409, slot := 8, constantValue := 0 }, { name := "UNKNOWN_SUBSCRIPTION", type := (.object "com/example/duplexwire/duplexwire/protocol/ErrorCode"), accessFlags := 16409, slot := 9, constantValue := 0 }, { name := "EVENT_NOT_STORED", type := (.object "com/example/duplexwire/duplexwire/protocol/ErrorCode"), accessFlags := 16409, slot := 10, constantValue := 0 }, { name := "INTERNAL_ERROR", type := (.object "com/example/duplexwire/duplexwire/protocol/ErrorCode"), accessFlags := 16409, slot := 11, constantValue := 0 }, { name := "ALL", type := (.array (.object "com/example/duplexwire/duplexwire/protocol/ErrorCode")), accessFlags := 26, slot := 12, constantValue := 0 }, { name := "code", type := .int, accessFlags := 18, slot := 3, constantValue := 0 }, { name := "description", type := (.object "java/lang/String"), accessFlags := 18, slot := 4, constantValue := 0 }, { name := "closesConnection", type := .boolean, accessFlags := 18, slot := 5, constantValue := 0 }, { name := "$VALUES", type := (.array (.object "com/example/duplexwire/duplexwire/protocol/ErrorCode")), accessFlags := 4122, slot := 13, constantValue := 0 }]
  methods := #[]
  instanceTypes := #[(.object "java/lang/String"), .int, .int, .int, (.object "java/lang/String"), .boolean]
  staticTypes := #[(.object "com/example/duplexwire/duplexwire/protocol/ErrorCode"), (.object "com/example/duplexwire/duplexwire/protocol/ErrorCode"), (.object "com/example/duplexwire/duplexwire/protocol/ErrorCode"), (.object "com/example/duplexwire/duplexwire/protocol/ErrorCode"), (.object "com/example/duplexwire/duplexwire/protocol/ErrorCode"), (.object "com/example/duplexwire/duplexwire/protocol/ErrorCode"), (.object "com/example/duplexwire/duplexwire/protocol/ErrorCode"), (.object "com/example/duplexwire/duplexwire/protocol/ErrorCode"), (.object "com/example/duplexwire/duplexwire/protocol/ErrorCode"), (.object "com/example/duplexwire/duplexwire/protocol/ErrorCode"), (.object "com/example/duplexwire/duplexwire/protocol/ErrorCode"), (.object "com/example/duplexwire/duplexwire/protocol/ErrorCode"), (.array (.object "com/example/duplexwire/duplexwire/protocol/ErrorCode")), (.array (.object "com/example/duplexwire/duplexwire/protocol/ErrorCode"))]
  resolved := Array.replicate 148 none
  statics := some 0 }

def pool7 : Array CpInfo := pool [(2, .class_ 4), (1, u "java/lang/CharSequence"), (42, .class_ 48), (0, u "java/lang/CharSequence$1CodePointIterator"), (10, .class_ 60), (0, u "java/lang/CharSequence$1CharIterator"), (5, .class_ 67), (0, u "java/lang/Object")] 63

/-- java/lang/CharSequence -/
def k7 : Class := { plain "java/lang/CharSequence" (some 0) with
  accessFlags := 1537
  interfaces := #[]
  cf := some (fileOf pool7 2 #[.nestMembers #[47, 59]] #[] 1537 66 #[] #[])
  fields := #[]
  methods := #[]
  instanceTypes := #[]
  staticTypes := #[]
  resolved := Array.replicate 131 none
  statics := none }

def pool8 : Array CpInfo := pool [(1, .class_ 2), (0, u "java/lang/constant/ConstantDesc"), (0, .class_ 4), (0, u "java/lang/Object")] 32

/-- java/lang/constant/ConstantDesc -/
def k8 : Class := { plain "java/lang/constant/ConstantDesc" (some 0) with
  accessFlags := 1537
  interfaces := #[]
  cf := some (fileOf pool8 1 #[] #[] 1537 3 #[] #[])
  fields := #[]
  methods := #[]
  instanceTypes := #[]
  staticTypes := #[]
  resolved := Array.replicate 37 none
  statics := none }

def pool9 : Array CpInfo := pool [(1, .methodref 2 3), (0, .class_ 4), (0, .nameAndType 5 6), (0, u "java/lang/Object"), (0, u "<init>"), (0, u "()V"), (2, .fieldref 10 11), (0, .class_ 12), (0, .nameAndType 13 14), (0, u "java/lang/String"), (0, u "value"), (0, u "[B"), (0, .fieldref 10 16), (0, .nameAndType 17 18), (0, u "coder"), (0, u "B"), (2, u "hash"), (0, u "I"), (2, u "hashIsZero"), (0, u "Z"), (0, .methodref 10 28), (0, .nameAndType 5 29), (0, u "([CIILjava/lang/Void;)V"), (8, .fieldref 10 39), (0, .nameAndType 40 26), (0, u "COMPACT_STRINGS"), (1, .class_ 44), (1, u "java/lang/StringUTF16"), (0, u "compress"), (1, .methodref 42 48), (0, .nameAndType 49 50), (0, u "coderFromArrayLen"), (0, u "([BI)B"), (126, .methodref 42 178), (0, .nameAndType 45 179), (0, u "([CII)[B"), (395, .class_ 576), (0, u "java/lang/CharSequence"), (22, u "CASE_INSENSITIVE_ORDER"), (0, u "Ljava/util/Comparator;"), (409, u "([C)V"), (90, u "serialPersistentFields"), (0, u "[Ljava/io/ObjectStreamField;"), (0, .class_ 1104), (0, u "java/lang/String$CaseInsensitiveComparator"), (1, .class_ 1107), (0, u "java/io/Serializable"), (0, .class_ 1109), (0, u "java/lang/Comparable"), (0, .class_ 1111), (0, u "java/lang/constant/Constable"), (0, .class_ 1113), (0, u "java/lang/constant/ConstantDesc"), (2, u "serialVersionUID"), (0, u "J"), (3, u "REPL"), (0, u "C"), (2, u "LATIN1"), (1, u "UTF16")] 323

def k9m0 : Method := { name := "<init>", desc := "()V", sig := { parameters := [], returnType := none }, accessFlags := 1, code := none }
def k9c1 : Code := { maxStack := 5, maxLocals := 2, code := jdk_42_method_3_code, exceptionTable := #[], attributes := #[] }
def k9m1 : Method := { name := "<init>", desc := "([C)V", sig := { parameters := [(.array .char)], returnType := none }, accessFlags := 1, code := some k9c1 }
def k9c2 : Code := { maxStack := 4, maxLocals := 6, code := jdk_42_method_149_code, exceptionTable := #[], attributes := #[] }
def k9m2 : Method := { name := "<init>", desc := "([CIILjava/lang/Void;)V", sig := { parameters := [(.array .char), .int, .int, (.object "java/lang/Void")], returnType := none }, accessFlags := 2, code := some k9c2 }
/-- java/lang/String -/
def k9 : Class := { plain "java/lang/String" (some 0) with
  accessFlags := 49
  interfaces := #[4, 3, 7, 2, 8]
  cf := some (fileOf pool9 10 #[.nestMembers #[1103]] #[{ accessFlags := 1, nameIndex := 5, descriptorIndex := 6, attributes := #[] }, { accessFlags := 1, nameIndex := 5, descriptorIndex := 1010, attributes := #[] }, { accessFlags := 2, nameIndex := 5, descriptorIndex := 29, attributes := #[] }] 49 2 #[1106, 1108, 575, 1110, 1112] #[{ accessFlags := 18, nameIndex := 13, descriptorIndex := 14, attributes := #[] }, { accessFlags := 18, nameIndex := 17, descriptorIndex := 18, attributes := #[] }, { accessFlags := 2, nameIndex := 21, descriptorIndex := 22, attributes := #[] }, { accessFlags := 2, nameIndex := 25, descriptorIndex := 26, attributes := #[] }, { accessFlags := 26, nameIndex := 1116, descriptorIndex := 1117, attributes := #[] }, { accessFlags := 24, nameIndex := 40, descriptorIndex := 26, attributes := #[] }, { accessFlags := 26, nameIndex := 1101, descriptorIndex := 1102, attributes := #[] }, { accessFlags := 26, nameIndex := 1121, descriptorIndex := 1122, attributes := #[] }, { accessFlags := 25, nameIndex := 599, descriptorIndex := 600, attributes := #[] }, { accessFlags := 24, nameIndex := 1125, descriptorIndex := 18, attributes := #[] }, { accessFlags := 24, nameIndex := 1127, descriptorIndex := 18, attributes := #[] }])
  fields := #[{ name := "value", type := (.array .byte), accessFlags := 18, slot := 0, constantValue := 0 }, { name := "coder", type := .byte, accessFlags := 18, slot := 1, constantValue := 0 }, { name := "hash", type := .int, accessFlags := 2, slot := 2, constantValue := 0 }, { name := "hashIsZero", type := .boolean, accessFlags := 2, slot := 3, constantValue := 0 }, { name := "serialVersionUID", type := .long, accessFlags := 26, slot := 0, constantValue := 0 }, { name := "COMPACT_STRINGS", type := .boolean, accessFlags := 24, slot := 1, constantValue := 0 }, { name := "serialPersistentFields", type := (.array (.object "java/io/ObjectStreamField")), accessFlags := 26, slot := 2, constantValue := 0 }, { name := "REPL", type := .char, accessFlags := 26, slot := 3, constantValue := 0 }, { name := "CASE_INSENSITIVE_ORDER", type := (.object "java/util/Comparator"), accessFlags := 25, slot := 4, constantValue := 0 }, { name := "LATIN1", type := .byte, accessFlags := 24, slot := 5, constantValue := 0 }, { name := "UTF16", type := .byte, accessFlags := 24, slot := 6, constantValue := 0 }]
  methods := #[k9m0, k9m1, k9m2]
  instanceTypes := #[(.array .byte), .byte, .int, .boolean]
  staticTypes := #[.long, .boolean, (.array (.object "java/io/ObjectStreamField")), .char, (.object "java/util/Comparator"), .byte, .byte]
  resolved := Array.replicate 1451 none
  statics := some 1 }

def pool10 : Array CpInfo := pool [(6, .class_ 8), (1, u "java/lang/Object"), (0, u "<init>"), (0, u "()V"), (1, .class_ 14), (1, u "java/lang/StringUTF16"), (31, u "$assertionsDisabled"), (0, u "Z"), (13, u "HI_BYTE_SHIFT"), (0, u "I"), (2, u "LO_BYTE_SHIFT"), (49, .methodref 12 116), (0, .nameAndType 117 118), (0, u "compress"), (0, u "([CI[BII)I"), (3, u "([CII)[B"), (138, u "coderFromArrayLen"), (0, u "([BI)B"), (106, .class_ 371), (1, u "java/lang/StringUTF16$LinesSpliterator"), (58, u "MAX_LENGTH"), (196, .class_ 628), (0, u "java/lang/StringUTF16$CodePointsSpliterator"), (0, .class_ 630), (0, u "java/lang/StringUTF16$CharsSpliterator")] 4

def k10m0 : Method := { name := "<init>", desc := "()V", sig := { parameters := [], returnType := none }, accessFlags := 0, code := none }
def k10c1 : Code := { maxStack := 2, maxLocals := 2, code := jdk_52_method_15_code, exceptionTable := #[], attributes := #[] }
def k10m1 : Method := { name := "coderFromArrayLen", desc := "([BI)B", sig := { parameters := [(.array .byte), .int], returnType := some .byte }, accessFlags := 8, code := some k10c1 }
def k10c2 : Code := { maxStack := 5, maxLocals := 6, code := jdk_52_method_16_code, exceptionTable := #[], attributes := #[] }
def k10m2 : Method := { name := "compress", desc := "([CII)[B", sig := { parameters := [(.array .char), .int, .int], returnType := some (.array .byte) }, accessFlags := 9, code := some k10c2 }
def k10c3 : Code := { maxStack := 3, maxLocals := 7, code := jdk_52_method_21_code, exceptionTable := #[], attributes := #[] }
def k10m3 : Method := { name := "compress", desc := "([CI[BII)I", sig := { parameters := [(.array .char), .int, (.array .byte), .int, .int], returnType := some .int }, accessFlags := 9, code := some k10c3 }
/-- java/lang/StringUTF16 -/
def k10 : Class := { plain "java/lang/StringUTF16" (some 0) with
  accessFlags := 48
  interfaces := #[]
  cf := some (fileOf pool10 12 #[.nestMembers #[627, 629, 369]] #[{ accessFlags := 0, nameIndex := 9, descriptorIndex := 10, attributes := #[] }, { accessFlags := 8, nameIndex := 261, descriptorIndex := 262, attributes := #[] }, { accessFlags := 9, nameIndex := 117, descriptorIndex := 122, attributes := #[] }, { accessFlags := 9, nameIndex := 117, descriptorIndex := 118, attributes := #[] }] 48 6 #[] #[{ accessFlags := 26, nameIndex := 61, descriptorIndex := 62, attributes := #[] }, { accessFlags := 26, nameIndex := 65, descriptorIndex := 62, attributes := #[] }, { accessFlags := 24, nameIndex := 430, descriptorIndex := 62, attributes := #[] }, { accessFlags := 4120, nameIndex := 46, descriptorIndex := 47, attributes := #[] }])
  fields := #[{ name := "HI_BYTE_SHIFT", type := .int, accessFlags := 26, slot := 0, constantValue := 0 }, { name := "LO_BYTE_SHIFT", type := .int, accessFlags := 26, slot := 1, constantValue := 0 }, { name := "MAX_LENGTH", type := .int, accessFlags := 24, slot := 2, constantValue := 0 }, { name := "$assertionsDisabled", type := .boolean, accessFlags := 4120, slot := 3, constantValue := 0 }]
  methods := #[k10m0, k10m1, k10m2, k10m3]
  instanceTypes := #[]
  staticTypes := #[.int, .int, .int, .boolean]
  resolved := Array.replicate 635 none
  statics := none }

def pool11 : Array CpInfo := pool [(1, .methodref 2 3), (0, .class_ 4), (0, .nameAndType 5 6), (0, u "java/lang/Object"), (0, u "<init>"), (0, u "()V"), (0, .fieldref 8 9), (0, .class_ 10), (0, .nameAndType 11 12), (0, u "java/lang/Throwable"), (0, u "cause"), (0, u "Ljava/lang/Throwable;"), (0, .fieldref 8 14), (0, .nameAndType 15 16), (0, u "UNASSIGNED_STACK"), (0, u "[Ljava/lang/StackTraceElement;"), (0, .fieldref 8 18), (0, .nameAndType 19 16), (0, u "stackTrace"), (0, .fieldref 8 21), (0, .nameAndType 22 23), (0, u "SUPPRESSED_SENTINEL"), (0, u "Ljava/util/List;"), (0, .fieldref 8 25), (0, .nameAndType 26 23), (0, u "suppressedExceptions"), (4, .fieldref 8 32), (0, .nameAndType 33 34), (0, u "detailMessage"), (0, u "Ljava/lang/String;"), (58, .class_ 94), (0, u "java/lang/Throwable$WrappedPrintStream"), (6, .class_ 103), (1, u "java/lang/Throwable$PrintStreamOrWriter"), (61, u "$assertionsDisabled"), (0, u "Z"), (26, .class_ 194), (0, u "java/lang/Throwable$WrappedPrintWriter"), (5, u "backtrace"), (0, u "Ljava/lang/Object;"), (9, u "depth"), (0, u "I"), (56, .class_ 271), (1, u "java/lang/Throwable$SentinelHolder"), (32, u "EMPTY_THROWABLE_ARRAY"), (0, u "[Ljava/lang/Throwable;"), (12, .class_ 319), (0, u "java/io/Serializable"), (0, u "serialVersionUID"), (0, u "J"), (5, u "NULL_CAUSE_MESSAGE"), (0, u "SELF_SUPPRESSION_MESSAGE"), (0, u "CAUSE_CAPTION"), (0, u "SUPPRESSED_CAPTION"), (9, u "(Ljava/lang/String;Ljava/lang/Throwable;ZZ)V")] 63

def k11m0 : Method := { name := "<init>", desc := "()V", sig := { parameters := [], returnType := none }, accessFlags := 1, code := none }
def k11c1 : Code := { maxStack := 2, maxLocals := 5, code := jdk_78_method_5_code, exceptionTable := #[], attributes := #[] }
def k11m1 : Method := { name := "<init>", desc := "(Ljava/lang/String;Ljava/lang/Throwable;ZZ)V", sig := { parameters := [(.object "java/lang/String"), (.object "java/lang/Throwable"), .boolean, .boolean], returnType := none }, accessFlags := 4, code := some k11c1 }
/-- java/lang/Throwable -/
def k11 : Class := { plain "java/lang/Throwable" (some 0) with
  accessFlags := 33
  interfaces := #[4]
  cf := some (fileOf pool11 8 #[.nestMembers #[193, 93, 101, 269]] #[{ accessFlags := 1, nameIndex := 5, descriptorIndex := 6, attributes := #[] }, { accessFlags := 4, nameIndex := 5, descriptorIndex := 340, attributes := #[] }] 33 2 #[318] #[{ accessFlags := 26, nameIndex := 320, descriptorIndex := 321, attributes := #[] }, { accessFlags := 130, nameIndex := 200, descriptorIndex := 201, attributes := #[] }, { accessFlags := 2, nameIndex := 33, descriptorIndex := 34, attributes := #[] }, { accessFlags := 26, nameIndex := 15, descriptorIndex := 16, attributes := #[] }, { accessFlags := 2, nameIndex := 11, descriptorIndex := 12, attributes := #[] }, { accessFlags := 2, nameIndex := 19, descriptorIndex := 16, attributes := #[] }, { accessFlags := 130, nameIndex := 211, descriptorIndex := 212, attributes := #[] }, { accessFlags := 26, nameIndex := 22, descriptorIndex := 23, attributes := #[] }, { accessFlags := 2, nameIndex := 26, descriptorIndex := 23, attributes := #[] }, { accessFlags := 26, nameIndex := 327, descriptorIndex := 34, attributes := #[] }, { accessFlags := 26, nameIndex := 328, descriptorIndex := 34, attributes := #[] }, { accessFlags := 26, nameIndex := 329, descriptorIndex := 34, attributes := #[] }, { accessFlags := 26, nameIndex := 330, descriptorIndex := 34, attributes := #[] }, { accessFlags := 26, nameIndex := 304, descriptorIndex := 305, attributes := #[] }, { accessFlags := 4120, nameIndex := 165, descriptorIndex := 166, attributes := #[] }])
  fields := #[{ name := "serialVersionUID", type := .long, accessFlags := 26, slot := 0, constantValue := 0 }, { name := "backtrace", type := (.object "java/lang/Object"), accessFlags := 130, slot := 0, constantValue := 0 }, { name := "detailMessage", type := (.object "java/lang/String"), accessFlags := 2, slot := 1, constantValue := 0 }, { name := "UNASSIGNED_STACK", type := (.array (.object "java/lang/StackTraceElement")), accessFlags := 26, slot := 1, constantValue := 0 }, { name := "cause", type := (.object "java/lang/Throwable"), accessFlags := 2, slot := 2, constantValue := 0 }, { name := "stackTrace", type := (.array (.object "java/lang/StackTraceElement")), accessFlags := 2, slot := 3, constantValue := 0 }, { name := "depth", type := .int, accessFlags := 130, slot := 4, constantValue := 0 }, { name := "SUPPRESSED_SENTINEL", type := (.object "java/util/List"), accessFlags := 26, slot := 2, constantValue := 0 }, { name := "suppressedExceptions", type := (.object "java/util/List"), accessFlags := 2, slot := 5, constantValue := 0 }, { name := "NULL_CAUSE_MESSAGE", type := (.object "java/lang/String"), accessFlags := 26, slot := 3, constantValue := 0 }, { name := "SELF_SUPPRESSION_MESSAGE", type := (.object "java/lang/String"), accessFlags := 26, slot := 4, constantValue := 0 }, { name := "CAUSE_CAPTION", type := (.object "java/lang/String"), accessFlags := 26, slot := 5, constantValue := 0 }, { name := "SUPPRESSED_CAPTION", type := (.object "java/lang/String"), accessFlags := 26, slot := 6, constantValue := 0 }, { name := "EMPTY_THROWABLE_ARRAY", type := (.array (.object "java/lang/Throwable")), accessFlags := 26, slot := 7, constantValue := 0 }, { name := "$assertionsDisabled", type := .boolean, accessFlags := 4120, slot := 8, constantValue := 0 }]
  methods := #[k11m0, k11m1]
  instanceTypes := #[(.object "java/lang/Object"), (.object "java/lang/String"), (.object "java/lang/Throwable"), (.array (.object "java/lang/StackTraceElement")), .int, (.object "java/util/List")]
  staticTypes := #[.long, (.array (.object "java/lang/StackTraceElement")), (.object "java/util/List"), (.object "java/lang/String"), (.object "java/lang/String"), (.object "java/lang/String"), (.object "java/lang/String"), (.array (.object "java/lang/Throwable")), .boolean]
  resolved := Array.replicate 404 none
  statics := some 2 }

def pool12 : Array CpInfo := pool [(2, .class_ 4), (1, u "java/lang/Throwable"), (0, u "<init>"), (0, u "()V"), (9, .methodref 2 17), (0, .nameAndType 5 18), (0, u "(Ljava/lang/String;Ljava/lang/Throwable;ZZ)V"), (0, .class_ 20), (0, u "java/lang/Exception"), (0, u "serialVersionUID"), (0, u "J")] 17

def k12m0 : Method := { name := "<init>", desc := "()V", sig := { parameters := [], returnType := none }, accessFlags := 1, code := none }
def k12c1 : Code := { maxStack := 5, maxLocals := 5, code := jdk_59_method_5_code, exceptionTable := #[], attributes := #[] }
def k12m1 : Method := { name := "<init>", desc := "(Ljava/lang/String;Ljava/lang/Throwable;ZZ)V", sig := { parameters := [(.object "java/lang/String"), (.object "java/lang/Throwable"), .boolean, .boolean], returnType := none }, accessFlags := 4, code := some k12c1 }
/-- java/lang/Exception -/
def k12 : Class := { plain "java/lang/Exception" (some 11) with
  accessFlags := 33
  interfaces := #[]
  cf := some (fileOf pool12 19 #[] #[{ accessFlags := 1, nameIndex := 5, descriptorIndex := 6, attributes := #[] }, { accessFlags := 4, nameIndex := 5, descriptorIndex := 18, attributes := #[] }] 33 2 #[] #[{ accessFlags := 24, nameIndex := 21, descriptorIndex := 22, attributes := #[] }])
  fields := #[{ name := "serialVersionUID", type := .long, accessFlags := 24, slot := 0, constantValue := 0 }]
  methods := #[k12m0, k12m1]
  instanceTypes := #[(.object "java/lang/Object"), (.object "java/lang/String"), (.object "java/lang/Throwable"), (.array (.object "java/lang/StackTraceElement")), .int, (.object "java/util/List")]
  staticTypes := #[.long]
  resolved := Array.replicate 40 none
  statics := none }

def pool13 : Array CpInfo := pool [(1, .methodref 2 3), (0, .class_ 4), (0, .nameAndType 5 6), (0, u "com/example/duplexwire/duplexwire/protocol/FrameException"), (0, u "<init>"), (0, u "(Lcom/example/duplexwire/duplexwire/protocol/ErrorCode;JZLjava/lang/String;)V"), (0, .string 8), (0, u "message"), (0, .methodref 10 11), (0, .class_ 12), (0, .nameAndType 13 14), (0, u "java/util/Objects"), (0, u "requireNonNull"), (0, u "(Ljava/lang/Object;Ljava/lang/String;)Ljava/lang/Object;"), (0, .class_ 16), (0, u "java/lang/String"), (0, .methodref 18 19), (0, .class_ 20), (0, .nameAndType 5 21), (0, u "java/lang/Exception"), (0, u "(Ljava/lang/String;Ljava/lang/Throwable;ZZ)V"), (0, .string 23), (0, u "error"), (0, .class_ 25), (0, u "com/example/duplexwire/duplexwire/protocol/ErrorCode"), (0, .fieldref 2 27), (0, .nameAndType 23 28), (0, u "Lcom/example/duplexwire/duplexwire/protocol/ErrorCode;"), (0, .fieldref 2 30), (0, .nameAndType 31 32), (0, u "id"), (0, u "J"), (0, .fieldref 2 34), (0, .nameAndType 35 36), (0, u "hasId"), (0, u "Z"), (15, .methodref 53 54), (0, .class_ 55), (0, .nameAndType 56 57), (0, u "java/util/OptionalLong"), (0, u "of"), (0, u "(J)Ljava/util/OptionalLong;"), (0, .methodref 53 59), (0, .nameAndType 60 61), (0, u "empty"), (0, u "()Ljava/util/OptionalLong;"), (0, u "serialVersionUID"), (3, u "(Lcom/example/duplexwire/duplexwire/protocol/ErrorCode;Ljava/lang/String;)V"), (2, u "(Lcom/example/duplexwire/duplexwire/protocol/ErrorCode;JLjava/lang/String;)V")] 20

def k13c0 : Code := { maxStack := 6, maxLocals := 3, code := prog_3_method_1_code, exceptionTable := #[], attributes := #[] }
def k13m0 : Method := { name := "<init>", desc := "(Lcom/example/duplexwire/duplexwire/protocol/ErrorCode;Ljava/lang/String;)V", sig := { parameters := [(.object "com/example/duplexwire/duplexwire/protocol/ErrorCode"), (.object "java/lang/String")], returnType := none }, accessFlags := 1, code := some k13c0 }
def k13c1 : Code := { maxStack := 6, maxLocals := 5, code := prog_3_method_2_code, exceptionTable := #[], attributes := #[] }
def k13m1 : Method := { name := "<init>", desc := "(Lcom/example/duplexwire/duplexwire/protocol/ErrorCode;JLjava/lang/String;)V", sig := { parameters := [(.object "com/example/duplexwire/duplexwire/protocol/ErrorCode"), .long, (.object "java/lang/String")], returnType := none }, accessFlags := 1, code := some k13c1 }
def k13c2 : Code := { maxStack := 5, maxLocals := 6, code := prog_3_method_3_code, exceptionTable := #[], attributes := #[] }
def k13m2 : Method := { name := "<init>", desc := "(Lcom/example/duplexwire/duplexwire/protocol/ErrorCode;JZLjava/lang/String;)V", sig := { parameters := [(.object "com/example/duplexwire/duplexwire/protocol/ErrorCode"), .long, .boolean, (.object "java/lang/String")], returnType := none }, accessFlags := 2, code := some k13c2 }
def k13c3 : Code := { maxStack := 2, maxLocals := 1, code := prog_3_method_6_code, exceptionTable := #[], attributes := #[] }
def k13m3 : Method := { name := "id", desc := "()Ljava/util/OptionalLong;", sig := { parameters := [], returnType := some (.object "java/util/OptionalLong") }, accessFlags := 1, code := some k13c3 }
/-- com/example/duplexwire/duplexwire/protocol/FrameException -/
def k13 : Class := { plain "com/example/duplexwire/duplexwire/protocol/FrameException" (some 12) with
  accessFlags := 49
  interfaces := #[]
  cf := some (fileOf pool13 2 #[] #[{ accessFlags := 1, nameIndex := 5, descriptorIndex := 66, attributes := #[] }, { accessFlags := 1, nameIndex := 5, descriptorIndex := 69, attributes := #[] }, { accessFlags := 2, nameIndex := 5, descriptorIndex := 6, attributes := #[] }, { accessFlags := 1, nameIndex := 31, descriptorIndex := 61, attributes := #[] }] 49 18 #[] #[{ accessFlags := 26, nameIndex := 62, descriptorIndex := 32, attributes := #[] }, { accessFlags := 18, nameIndex := 23, descriptorIndex := 28, attributes := #[] }, { accessFlags := 18, nameIndex := 31, descriptorIndex := 32, attributes := #[] }, { accessFlags := 18, nameIndex := 35, descriptorIndex := 36, attributes := #[] }])
  fields := #[{ name := "serialVersionUID", type := .long, accessFlags := 26, slot := 0, constantValue := 0 }, { name := "error", type := (.object "com/example/duplexwire/duplexwire/protocol/ErrorCode"), accessFlags := 18, slot := 6, constantValue := 0 }, { name := "id", type := .long, accessFlags := 18, slot := 7, constantValue := 0 }, { name := "hasId", type := .boolean, accessFlags := 18, slot := 8, constantValue := 0 }]
  methods := #[k13m0, k13m1, k13m2, k13m3]
  instanceTypes := #[(.object "java/lang/Object"), (.object "java/lang/String"), (.object "java/lang/Throwable"), (.array (.object "java/lang/StackTraceElement")), .int, (.object "java/util/List"), (.object "com/example/duplexwire/duplexwire/protocol/ErrorCode"), .long, .boolean]
  staticTypes := #[.long]
  resolved := Array.replicate 90 none
  statics := none }

def pool14 : Array CpInfo := pool [(2, .class_ 4), (1, u "java/lang/Object"), (0, u "<init>"), (0, u "()V"), (35, .class_ 44), (1, u "java/util/Objects"), (0, u "requireNonNull"), (48, u "(Ljava/lang/Object;Ljava/lang/String;)Ljava/lang/Object;")] 89

def k14m0 : Method := { name := "<init>", desc := "()V", sig := { parameters := [], returnType := none }, accessFlags := 2, code := none }
def k14c1 : Code := { maxStack := 3, maxLocals := 2, code := jdk_31_method_11_code, exceptionTable := #[], attributes := #[] }
def k14m1 : Method := { name := "requireNonNull", desc := "(Ljava/lang/Object;Ljava/lang/String;)Ljava/lang/Object;", sig := { parameters := [(.object "java/lang/Object"), (.object "java/lang/String")], returnType := some (.object "java/lang/Object") }, accessFlags := 9, code := some k14c1 }
/-- java/util/Objects -/
def k14 : Class := { plain "java/util/Objects" (some 0) with
  accessFlags := 49
  interfaces := #[]
  cf := some (fileOf pool14 42 #[] #[{ accessFlags := 2, nameIndex := 5, descriptorIndex := 6, attributes := #[] }, { accessFlags := 9, nameIndex := 45, descriptorIndex := 94, attributes := #[] }] 49 2 #[] #[])
  fields := #[]
  methods := #[k14m0, k14m1]
  instanceTypes := #[]
  staticTypes := #[]
  resolved := Array.replicate 184 none
  statics := none }

def pool15 : Array CpInfo := pool [(1, .methodref 2 3), (0, .class_ 4), (0, .nameAndType 5 6), (0, u "java/lang/Object"), (0, u "<init>"), (0, u "()V"), (0, .fieldref 8 9), (0, .class_ 10), (0, .nameAndType 11 12), (0, u "java/util/OptionalLong"), (0, u "isPresent"), (0, u "Z"), (0, .fieldref 8 14), (0, .nameAndType 15 16), (0, u "value"), (0, u "J"), (0, .fieldref 8 18), (0, .nameAndType 19 20), (0, u "EMPTY"), (0, u "Ljava/util/OptionalLong;"), (0, .methodref 8 22), (0, .nameAndType 5 23), (0, u "(J)V"), (21, u "of"), (3, u "empty"), (5, u "getAsLong"), (0, u "()J"), (39, u "()Ljava/util/OptionalLong;"), (0, u "(J)Ljava/util/OptionalLong;"), (1, u "()Z")] 38

def k15m0 : Method := { name := "<init>", desc := "()V", sig := { parameters := [], returnType := none }, accessFlags := 2, code := none }
def k15c1 : Code := { maxStack := 1, maxLocals := 0, code := jdk_2650_method_2_code, exceptionTable := #[], attributes := #[] }
def k15m1 : Method := { name := "empty", desc := "()Ljava/util/OptionalLong;", sig := { parameters := [], returnType := some (.object "java/util/OptionalLong") }, accessFlags := 9, code := some k15c1 }
def k15c2 : Code := { maxStack := 3, maxLocals := 3, code := jdk_2650_method_3_code, exceptionTable := #[], attributes := #[] }
def k15m2 : Method := { name := "<init>", desc := "(J)V", sig := { parameters := [.long], returnType := none }, accessFlags := 2, code := some k15c2 }
def k15c3 : Code := { maxStack := 4, maxLocals := 2, code := jdk_2650_method_4_code, exceptionTable := #[], attributes := #[] }
def k15m3 : Method := { name := "of", desc := "(J)Ljava/util/OptionalLong;", sig := { parameters := [.long], returnType := some (.object "java/util/OptionalLong") }, accessFlags := 9, code := some k15c3 }
def k15c4 : Code := { maxStack := 3, maxLocals := 1, code := jdk_2650_method_5_code, exceptionTable := #[], attributes := #[] }
def k15m4 : Method := { name := "getAsLong", desc := "()J", sig := { parameters := [], returnType := some .long }, accessFlags := 1, code := some k15c4 }
def k15c5 : Code := { maxStack := 1, maxLocals := 1, code := jdk_2650_method_6_code, exceptionTable := #[], attributes := #[] }
def k15m5 : Method := { name := "isPresent", desc := "()Z", sig := { parameters := [], returnType := some .boolean }, accessFlags := 1, code := some k15c5 }
/-- java/util/OptionalLong -/
def k15 : Class := { plain "java/util/OptionalLong" (some 0) with
  accessFlags := 49
  interfaces := #[]
  cf := some (fileOf pool15 8 #[] #[{ accessFlags := 2, nameIndex := 5, descriptorIndex := 6, attributes := #[] }, { accessFlags := 9, nameIndex := 49, descriptorIndex := 96, attributes := #[] }, { accessFlags := 2, nameIndex := 5, descriptorIndex := 23, attributes := #[] }, { accessFlags := 9, nameIndex := 45, descriptorIndex := 97, attributes := #[] }, { accessFlags := 1, nameIndex := 55, descriptorIndex := 56, attributes := #[] }, { accessFlags := 1, nameIndex := 11, descriptorIndex := 99, attributes := #[] }] 49 2 #[] #[{ accessFlags := 26, nameIndex := 19, descriptorIndex := 20, attributes := #[] }, { accessFlags := 18, nameIndex := 11, descriptorIndex := 12, attributes := #[] }, { accessFlags := 18, nameIndex := 15, descriptorIndex := 16, attributes := #[] }])
  fields := #[{ name := "EMPTY", type := (.object "java/util/OptionalLong"), accessFlags := 26, slot := 0, constantValue := 0 }, { name := "isPresent", type := .boolean, accessFlags := 18, slot := 0, constantValue := 0 }, { name := "value", type := .long, accessFlags := 18, slot := 1, constantValue := 0 }]
  methods := #[k15m0, k15m1, k15m2, k15m3, k15m4, k15m5]
  instanceTypes := #[.boolean, .long]
  staticTypes := #[(.object "java/util/OptionalLong")]
  resolved := Array.replicate 138 none
  statics := some 3 }

def pool16 : Array CpInfo := pool [(4, .class_ 6), (1, u "java/lang/Object"), (0, u "<init>"), (0, u "()V"), (5, .class_ 16), (1, u "java/lang/StringLatin1"), (104, u "$assertionsDisabled"), (0, u "Z"), (98, .class_ 223), (1, u "java/lang/StringLatin1$LinesSpliterator"), (166, .class_ 391), (0, u "java/lang/StringLatin1$CharsSpliterator")] 3

def k16m0 : Method := { name := "<init>", desc := "()V", sig := { parameters := [], returnType := none }, accessFlags := 0, code := none }
/-- java/lang/StringLatin1 -/
def k16 : Class := { plain "java/lang/StringLatin1" (some 0) with
  accessFlags := 48
  interfaces := #[]
  cf := some (fileOf pool16 14 #[.nestMembers #[390, 221]] #[{ accessFlags := 0, nameIndex := 7, descriptorIndex := 8, attributes := #[] }] 48 4 #[] #[{ accessFlags := 4120, nameIndex := 121, descriptorIndex := 122, attributes := #[] }])
  fields := #[{ name := "$assertionsDisabled", type := .boolean, accessFlags := 4120, slot := 0, constantValue := 0 }]
  methods := #[k16m0]
  instanceTypes := #[]
  staticTypes := #[.boolean]
  resolved := Array.replicate 395 none
  statics := none }

def pool17 : Array CpInfo := pool [(2, .class_ 4), (1, u "java/lang/Object"), (0, u "<init>"), (0, u "()V"), (17, .class_ 26), (1, u "jdk/internal/util/Preconditions"), (28, .class_ 56), (0, u "jdk/internal/util/Preconditions$4"), (57, .class_ 115), (0, u "jdk/internal/util/Preconditions$1"), (7, u "SIOOBE_FORMATTER"), (0, u "Ljava/util/function/BiFunction;"), (0, .class_ 126), (0, u "jdk/internal/util/Preconditions$2"), (3, u "AIOOBE_FORMATTER"), (0, .class_ 132), (0, u "jdk/internal/util/Preconditions$3"), (3, u "IOOBE_FORMATTER")] 57

def k17m0 : Method := { name := "<init>", desc := "()V", sig := { parameters := [], returnType := none }, accessFlags := 1, code := none }
/-- jdk/internal/util/Preconditions -/
def k17 : Class := { plain "jdk/internal/util/Preconditions" (some 0) with
  accessFlags := 33
  interfaces := #[]
  cf := some (fileOf pool17 24 #[.nestMembers #[55, 131, 125, 114]] #[{ accessFlags := 1, nameIndex := 5, descriptorIndex := 6, attributes := #[] }] 33 2 #[] #[{ accessFlags := 25, nameIndex := 123, descriptorIndex := 124, attributes := #[] }, { accessFlags := 25, nameIndex := 130, descriptorIndex := 124, attributes := #[] }, { accessFlags := 25, nameIndex := 136, descriptorIndex := 124, attributes := #[] }])
  fields := #[{ name := "SIOOBE_FORMATTER", type := (.object "java/util/function/BiFunction"), accessFlags := 25, slot := 0, constantValue := 0 }, { name := "AIOOBE_FORMATTER", type := (.object "java/util/function/BiFunction"), accessFlags := 25, slot := 1, constantValue := 0 }, { name := "IOOBE_FORMATTER", type := (.object "java/util/function/BiFunction"), accessFlags := 25, slot := 2, constantValue := 0 }]
  methods := #[k17m0]
  instanceTypes := #[]
  staticTypes := #[(.object "java/util/function/BiFunction"), (.object "java/util/function/BiFunction"), (.object "java/util/function/BiFunction")]
  resolved := Array.replicate 194 none
  statics := some 4 }

def pool18 : Array CpInfo := pool [(9, u "<init>"), (6, .class_ 18), (1, u "java/lang/Object"), (0, u "()V"), (1, .class_ 23), (1, u "jdk/internal/util/ArraysSupport"), (0, u "LOG2_ARRAY_LONG_INDEX_SCALE"), (0, u "I"), (2, u "U"), (0, u "Ljdk/internal/misc/Unsafe;"), (8, u "BIG_ENDIAN"), (0, u "Z"), (8, u "LOG2_BYTE_BIT_SIZE"), (4, u "LOG2_ARRAY_INT_INDEX_SCALE"), (54, u "JLA"), (0, u "Ljdk/internal/access/JavaLangAccess;"), (11, u "LOG2_ARRAY_BOOLEAN_INDEX_SCALE"), (9, u "LOG2_ARRAY_BYTE_INDEX_SCALE"), (5, u "LOG2_ARRAY_CHAR_INDEX_SCALE"), (5, u "LOG2_ARRAY_SHORT_INDEX_SCALE"), (18, u "LOG2_ARRAY_FLOAT_INDEX_SCALE"), (24, u "LOG2_ARRAY_DOUBLE_INDEX_SCALE"), (89, u "T_BOOLEAN"), (2, u "T_CHAR"), (1, u "T_FLOAT"), (1, u "T_DOUBLE"), (1, u "T_BYTE"), (1, u "T_SHORT"), (1, u "T_INT"), (1, u "T_LONG"), (1, u "SOFT_MAX_ARRAY_LENGTH")] 83

def k18m0 : Method := { name := "<init>", desc := "()V", sig := { parameters := [], returnType := none }, accessFlags := 2, code := none }
/-- jdk/internal/util/ArraysSupport -/
def k18 : Class := { plain "jdk/internal/util/ArraysSupport" (some 0) with
  accessFlags := 33
  interfaces := #[]
  cf := some (fileOf pool18 21 #[] #[{ accessFlags := 2, nameIndex := 9, descriptorIndex := 19, attributes := #[] }] 33 16 #[] #[{ accessFlags := 24, nameIndex := 28, descriptorIndex := 29, attributes := #[] }, { accessFlags := 26, nameIndex := 38, descriptorIndex := 39, attributes := #[] }, { accessFlags := 25, nameIndex := 121, descriptorIndex := 25, attributes := #[] }, { accessFlags := 25, nameIndex := 131, descriptorIndex := 25, attributes := #[] }, { accessFlags := 25, nameIndex := 137, descriptorIndex := 25, attributes := #[] }, { accessFlags := 25, nameIndex := 143, descriptorIndex := 25, attributes := #[] }, { accessFlags := 25, nameIndex := 53, descriptorIndex := 25, attributes := #[] }, { accessFlags := 25, nameIndex := 24, descriptorIndex := 25, attributes := #[] }, { accessFlags := 25, nameIndex := 162, descriptorIndex := 25, attributes := #[] }, { accessFlags := 25, nameIndex := 187, descriptorIndex := 25, attributes := #[] }, { accessFlags := 26, nameIndex := 48, descriptorIndex := 25, attributes := #[] }, { accessFlags := 25, nameIndex := 277, descriptorIndex := 25, attributes := #[] }, { accessFlags := 25, nameIndex := 280, descriptorIndex := 25, attributes := #[] }, { accessFlags := 25, nameIndex := 282, descriptorIndex := 25, attributes := #[] }, { accessFlags := 25, nameIndex := 284, descriptorIndex := 25, attributes := #[] }, { accessFlags := 25, nameIndex := 286, descriptorIndex := 25, attributes := #[] }, { accessFlags := 25, nameIndex := 288, descriptorIndex := 25, attributes := #[] }, { accessFlags := 25, nameIndex := 290, descriptorIndex := 25, attributes := #[] }, { accessFlags := 25, nameIndex := 292, descriptorIndex := 25, attributes := #[] }, { accessFlags := 26, nameIndex := 108, descriptorIndex := 109, attributes := #[] }, { accessFlags := 25, nameIndex := 294, descriptorIndex := 25, attributes := #[] }])
  fields := #[{ name := "U", type := (.object "jdk/internal/misc/Unsafe"), accessFlags := 24, slot := 0, constantValue := 0 }, { name := "BIG_ENDIAN", type := .boolean, accessFlags := 26, slot := 1, constantValue := 0 }, { name := "LOG2_ARRAY_BOOLEAN_INDEX_SCALE", type := .int, accessFlags := 25, slot := 2, constantValue := 0 }, { name := "LOG2_ARRAY_BYTE_INDEX_SCALE", type := .int, accessFlags := 25, slot := 3, constantValue := 0 }, { name := "LOG2_ARRAY_CHAR_INDEX_SCALE", type := .int, accessFlags := 25, slot := 4, constantValue := 0 }, { name := "LOG2_ARRAY_SHORT_INDEX_SCALE", type := .int, accessFlags := 25, slot := 5, constantValue := 0 }, { name := "LOG2_ARRAY_INT_INDEX_SCALE", type := .int, accessFlags := 25, slot := 6, constantValue := 0 }, { name := "LOG2_ARRAY_LONG_INDEX_SCALE", type := .int, accessFlags := 25, slot := 7, constantValue := 0 }, { name := "LOG2_ARRAY_FLOAT_INDEX_SCALE", type := .int, accessFlags := 25, slot := 8, constantValue := 0 }, { name := "LOG2_ARRAY_DOUBLE_INDEX_SCALE", type := .int, accessFlags := 25, slot := 9, constantValue := 0 }, { name := "LOG2_BYTE_BIT_SIZE", type := .int, accessFlags := 26, slot := 10, constantValue := 0 }, { name := "T_BOOLEAN", type := .int, accessFlags := 25, slot := 11, constantValue := 0 }, { name := "T_CHAR", type := .int, accessFlags := 25, slot := 12, constantValue := 0 }, { name := "T_FLOAT", type := .int, accessFlags := 25, slot := 13, constantValue := 0 }, { name := "T_DOUBLE", type := .int, accessFlags := 25, slot := 14, constantValue := 0 }, { name := "T_BYTE", type := .int, accessFlags := 25, slot := 15, constantValue := 0 }, { name := "T_SHORT", type := .int, accessFlags := 25, slot := 16, constantValue := 0 }, { name := "T_INT", type := .int, accessFlags := 25, slot := 17, constantValue := 0 }, { name := "T_LONG", type := .int, accessFlags := 25, slot := 18, constantValue := 0 }, { name := "JLA", type := (.object "jdk/internal/access/JavaLangAccess"), accessFlags := 26, slot := 19, constantValue := 0 }, { name := "SOFT_MAX_ARRAY_LENGTH", type := .int, accessFlags := 25, slot := 20, constantValue := 0 }]
  methods := #[k18m0]
  instanceTypes := #[]
  staticTypes := #[(.object "jdk/internal/misc/Unsafe"), .boolean, .int, .int, .int, .int, .int, .int, .int, .int, .int, .int, .int, .int, .int, .int, .int, .int, .int, (.object "jdk/internal/access/JavaLangAccess"), .int]
  resolved := Array.replicate 378 none
  statics := none }

def pool19 : Array CpInfo := pool [(2, .class_ 4), (1, u "java/lang/Object"), (0, u "<init>"), (0, u "()V"), (12, .class_ 20), (0, u "java/util/Collections"), (63, u "r"), (0, u "Ljava/util/Random;"), (80, .class_ 167), (0, u "java/util/Collections$UnmodifiableCollection"), (6, .class_ 175), (0, u "java/util/Collections$UnmodifiableSequencedCollection"), (6, .class_ 183), (0, u "java/util/Collections$UnmodifiableSet"), (6, .class_ 191), (0, u "java/util/Collections$UnmodifiableSequencedSet"), (6, .class_ 199), (0, u "java/util/Collections$UnmodifiableSortedSet"), (6, .class_ 207), (0, u "java/util/Collections$UnmodifiableNavigableSet"), (4, .class_ 213), (0, u "java/util/Collections$UnmodifiableList"), (1, .class_ 216), (0, u "java/util/Collections$UnmodifiableRandomAccessList"), (6, .class_ 224), (0, u "java/util/Collections$UnmodifiableMap"), (6, .class_ 232), (0, u "java/util/Collections$UnmodifiableSequencedMap"), (4, .class_ 238), (0, u "java/util/Collections$UnmodifiableSortedMap"), (6, .class_ 246), (0, u "java/util/Collections$UnmodifiableNavigableMap"), (3, .class_ 251), (0, u "java/util/Collections$SynchronizedCollection"), (4, .class_ 257), (0, u "java/util/Collections$SynchronizedSet"), (4, .class_ 263), (0, u "java/util/Collections$SynchronizedSortedSet"), (1, .class_ 266), (0, u "java/util/Collections$SynchronizedNavigableSet"), (1, .class_ 269), (0, u "java/util/Collections$SynchronizedRandomAccessList"), (1, .class_ 272), (0, u "java/util/Collections$SynchronizedList"), (5, .class_ 279), (0, u "java/util/Collections$SynchronizedMap"), (1, .class_ 282), (0, u "java/util/Collections$SynchronizedSortedMap"), (1, .class_ 285), (0, u "java/util/Collections$SynchronizedNavigableMap"), (1, .class_ 288), (0, u "java/util/Collections$CheckedCollection"), (11, .class_ 301), (0, u "java/util/Collections$CheckedQueue"), (3, .class_ 306), (0, u "java/util/Collections$CheckedSet"), (3, .class_ 311), (0, u "java/util/Collections$CheckedSortedSet"), (3, .class_ 316), (0, u "java/util/Collections$CheckedNavigableSet"), (3, .class_ 321), (0, u "java/util/Collections$CheckedRandomAccessList"), (3, .class_ 326), (0, u "java/util/Collections$CheckedList"), (1, .class_ 329), (0, u "java/util/Collections$CheckedMap"), (3, .class_ 334), (0, u "java/util/Collections$CheckedSortedMap"), (3, .class_ 339), (0, u "java/util/Collections$CheckedNavigableMap"), (4, .class_ 346), (1, u "java/util/Collections$EmptyIterator"), (3, .class_ 352), (1, u "java/util/Collections$EmptyListIterator"), (2, .class_ 357), (1, u "java/util/Collections$EmptyEnumeration"), (4, u "EMPTY_SET"), (0, u "Ljava/util/Set;"), (6, u "EMPTY_LIST"), (0, u "Ljava/util/List;"), (2, u "EMPTY_MAP"), (0, u "Ljava/util/Map;"), (4, .class_ 381), (0, u "java/util/Collections$SingletonSet"), (2, .class_ 385), (0, u "java/util/Collections$1"), (1, .class_ 388), (0, u "java/util/Collections$2"), (1, .class_ 391), (0, u "java/util/Collections$SingletonList"), (1, .class_ 394), (0, u "java/util/Collections$SingletonMap"), (22, .class_ 418), (0, u "java/util/Collections$CopiesList"), (4, .class_ 425), (1, u "java/util/Collections$ReverseComparator"), (8, .class_ 435), (0, u "java/util/Collections$ReverseComparator2"), (6, .class_ 443), (0, u "java/util/Collections$3"), (25, .class_ 470), (0, u "java/util/Collections$SetFromMap"), (2, .class_ 474), (0, u "java/util/Collections$SequencedSetFromMap"), (3, .class_ 479), (0, u "java/util/Collections$AsLIFOQueue"), (11, .class_ 492), (0, u "java/util/Collections$EmptySet"), (1, .class_ 495), (0, u "java/util/Collections$EmptyList"), (1, .class_ 498), (0, u "java/util/Collections$EmptyMap"), (1, u "BINARYSEARCH_THRESHOLD"), (0, u "I"), (2, u "REVERSE_THRESHOLD"), (1, u "SHUFFLE_THRESHOLD"), (1, u "FILL_THRESHOLD"), (1, u "ROTATE_THRESHOLD"), (1, u "COPY_THRESHOLD"), (1, u "REPLACEALL_THRESHOLD"), (1, u "INDEXOFSUBLIST_THRESHOLD"), (333, .class_ 851), (0, u "java/util/Collections$CheckedMap$CheckedEntrySet"), (0, .class_ 853), (0, u "java/util/Collections$CheckedMap$CheckedEntrySet$CheckedEntry"), (0, .class_ 855), (0, u "java/util/Collections$CheckedMap$CheckedEntrySet$1"), (0, .class_ 857), (0, u "java/util/Collections$CheckedList$1"), (0, .class_ 859), (0, u "java/util/Collections$CheckedCollection$1"), (0, .class_ 861), (0, u "java/util/Collections$UnmodifiableNavigableMap$EmptyNavigableMap"), (0, .class_ 863), (0, u "java/util/Collections$UnmodifiableMap$UnmodifiableEntrySet"), (0, .class_ 865), (0, u "java/util/Collections$UnmodifiableMap$UnmodifiableEntrySet$UnmodifiableEntry"), (0, .class_ 867), (0, u "java/util/Collections$UnmodifiableMap$UnmodifiableEntrySet$UnmodifiableEntrySetSpliterator"), (0, .class_ 869), (0, u "java/util/Collections$UnmodifiableMap$UnmodifiableEntrySet$1"), (0, .class_ 871), (0, u "java/util/Collections$UnmodifiableList$1"), (0, .class_ 873), (0, u "java/util/Collections$UnmodifiableNavigableSet$EmptyNavigableSet"), (0, .class_ 875), (0, u "java/util/Collections$UnmodifiableCollection$1")] 57

def k19m0 : Method := { name := "<init>", desc := "()V", sig := { parameters := [], returnType := none }, accessFlags := 2, code := none }
/-- java/util/Collections -/
def k19 : Class := { plain "java/util/Collections" (some 0) with
  accessFlags := 33
  interfaces := #[]
  cf := some (fileOf pool19 19 #[.nestMembers #[478, 473, 469, 434, 423, 417, 393, 390, 380, 497, 494, 491, 355, 350, 344, 338, 333, 328, 850, 852, 854, 320, 325, 856, 315, 310, 305, 300, 287, 858, 284, 281, 278, 268, 271, 265, 262, 256, 250, 245, 860, 237, 231, 223, 862, 864, 866, 868, 215, 212, 870, 206, 872, 198, 190, 182, 174, 166, 874, 442, 387, 384]] #[{ accessFlags := 2, nameIndex := 5, descriptorIndex := 6, attributes := #[] }] 33 2 #[] #[{ accessFlags := 26, nameIndex := 500, descriptorIndex := 501, attributes := #[] }, { accessFlags := 26, nameIndex := 504, descriptorIndex := 501, attributes := #[] }, { accessFlags := 26, nameIndex := 506, descriptorIndex := 501, attributes := #[] }, { accessFlags := 26, nameIndex := 508, descriptorIndex := 501, attributes := #[] }, { accessFlags := 26, nameIndex := 510, descriptorIndex := 501, attributes := #[] }, { accessFlags := 26, nameIndex := 512, descriptorIndex := 501, attributes := #[] }, { accessFlags := 26, nameIndex := 514, descriptorIndex := 501, attributes := #[] }, { accessFlags := 26, nameIndex := 516, descriptorIndex := 501, attributes := #[] }, { accessFlags := 10, nameIndex := 84, descriptorIndex := 85, attributes := #[] }, { accessFlags := 25, nameIndex := 362, descriptorIndex := 363, attributes := #[] }, { accessFlags := 25, nameIndex := 370, descriptorIndex := 371, attributes := #[] }, { accessFlags := 25, nameIndex := 374, descriptorIndex := 375, attributes := #[] }])
  fields := #[{ name := "BINARYSEARCH_THRESHOLD", type := .int, accessFlags := 26, slot := 0, constantValue := 0 }, { name := "REVERSE_THRESHOLD", type := .int, accessFlags := 26, slot := 1, constantValue := 0 }, { name := "SHUFFLE_THRESHOLD", type := .int, accessFlags := 26, slot := 2, constantValue := 0 }, { name := "FILL_THRESHOLD", type := .int, accessFlags := 26, slot := 3, constantValue := 0 }, { name := "ROTATE_THRESHOLD", type := .int, accessFlags := 26, slot := 4, constantValue := 0 }, { name := "COPY_THRESHOLD", type := .int, accessFlags := 26, slot := 5, constantValue := 0 }, { name := "REPLACEALL_THRESHOLD", type := .int, accessFlags := 26, slot := 6, constantValue := 0 }, { name := "INDEXOFSUBLIST_THRESHOLD", type := .int, accessFlags := 26, slot := 7, constantValue := 0 }, { name := "r", type := (.object "java/util/Random"), accessFlags := 10, slot := 8, constantValue := 0 }, { name := "EMPTY_SET", type := (.object "java/util/Set"), accessFlags := 25, slot := 9, constantValue := 0 }, { name := "EMPTY_LIST", type := (.object "java/util/List"), accessFlags := 25, slot := 10, constantValue := 0 }, { name := "EMPTY_MAP", type := (.object "java/util/Map"), accessFlags := 25, slot := 11, constantValue := 0 }]
  methods := #[k19m0]
  instanceTypes := #[]
  staticTypes := #[.int, .int, .int, .int, .int, .int, .int, .int, (.object "java/util/Random"), (.object "java/util/Set"), (.object "java/util/List"), (.object "java/util/Map")]
  resolved := Array.replicate 933 none
  statics := some 5 }

def pool20 : Array CpInfo := pool [(8, .class_ 10), (1, u "java/lang/Iterable"), (24, .class_ 36), (0, u "java/lang/Object")] 25

/-- java/lang/Iterable -/
def k20 : Class := { plain "java/lang/Iterable" (some 0) with
  accessFlags := 1537
  interfaces := #[]
  cf := some (fileOf pool20 8 #[] #[] 1537 35 #[] #[])
  fields := #[]
  methods := #[]
  instanceTypes := #[]
  staticTypes := #[]
  resolved := Array.replicate 62 none
  statics := none }

def pool21 : Array CpInfo := pool [(10, .class_ 12), (1, u "java/util/Collection"), (47, .class_ 61), (0, u "java/lang/Object"), (0, .class_ 63), (0, u "java/lang/Iterable")] 51

/-- java/util/Collection -/
def k21 : Class := { plain "java/util/Collection" (some 0) with
  accessFlags := 1537
  interfaces := #[20]
  cf := some (fileOf pool21 10 #[] #[] 1537 60 #[62] #[])
  fields := #[]
  methods := #[]
  instanceTypes := #[]
  staticTypes := #[]
  resolved := Array.replicate 115 none
  statics := none }

def pool22 : Array CpInfo := pool [(2, .class_ 4), (1, u "java/lang/Object"), (0, u "<init>"), (0, u "()V"), (1, .class_ 10), (1, u "java/util/AbstractCollection"), (66, .class_ 78), (0, u "java/util/Collection")] 81

def k22m0 : Method := { name := "<init>", desc := "()V", sig := { parameters := [], returnType := none }, accessFlags := 4, code := none }
/-- java/util/AbstractCollection -/
def k22 : Class := { plain "java/util/AbstractCollection" (some 0) with
  accessFlags := 1057
  interfaces := #[21]
  cf := some (fileOf pool22 8 #[] #[{ accessFlags := 4, nameIndex := 5, descriptorIndex := 6, attributes := #[] }] 1057 2 #[77] #[])
  fields := #[]
  methods := #[k22m0]
  instanceTypes := #[]
  staticTypes := #[]
  resolved := Array.replicate 160 none
  statics := none }

def pool23 : Array CpInfo := pool [(8, .class_ 10), (1, u "java/util/SequencedCollection"), (15, .class_ 27), (0, u "java/lang/Object"), (0, .class_ 29), (0, u "java/util/Collection")] 27

/-- java/util/SequencedCollection -/
def k23 : Class := { plain "java/util/SequencedCollection" (some 0) with
  accessFlags := 1537
  interfaces := #[21]
  cf := some (fileOf pool23 8 #[] #[] 1537 26 #[28] #[])
  fields := #[]
  methods := #[]
  instanceTypes := #[]
  staticTypes := #[]
  resolved := Array.replicate 57 none
  statics := none }

def pool24 : Array CpInfo := pool [(8, .class_ 10), (1, u "java/util/List"), (92, .class_ 104), (0, u "java/lang/Object"), (15, .class_ 121), (0, u "java/util/SequencedCollection")] 129

/-- java/util/List -/
def k24 : Class := { plain "java/util/List" (some 0) with
  accessFlags := 1537
  interfaces := #[23]
  cf := some (fileOf pool24 8 #[] #[] 1537 103 #[120] #[])
  fields := #[]
  methods := #[]
  instanceTypes := #[]
  staticTypes := #[]
  resolved := Array.replicate 251 none
  statics := none }

def pool25 : Array CpInfo := pool [(2, .class_ 4), (1, u "java/util/AbstractCollection"), (0, u "<init>"), (0, u "()V"), (1, .class_ 10), (1, u "java/util/AbstractList"), (0, u "modCount"), (0, u "I"), (64, .class_ 78), (0, u "java/util/AbstractList$Itr"), (3, .class_ 83), (0, u "java/util/AbstractList$ListItr"), (9, .class_ 94), (0, u "java/util/AbstractList$RandomAccessSubList"), (3, .class_ 99), (0, u "java/util/AbstractList$SubList"), (33, .class_ 134), (0, u "java/util/List"), (73, .class_ 209), (0, u "java/util/AbstractList$SubList$1"), (0, .class_ 211), (0, u "java/util/AbstractList$RandomAccessSpliterator")] 6

def k25m0 : Method := { name := "<init>", desc := "()V", sig := { parameters := [], returnType := none }, accessFlags := 4, code := none }
/-- java/util/AbstractList -/
def k25 : Class := { plain "java/util/AbstractList" (some 22) with
  accessFlags := 1057
  interfaces := #[24]
  cf := some (fileOf pool25 8 #[.nestMembers #[93, 98, 208, 210, 82, 77]] #[{ accessFlags := 4, nameIndex := 5, descriptorIndex := 6, attributes := #[] }] 1057 2 #[133] #[{ accessFlags := 132, nameIndex := 11, descriptorIndex := 12, attributes := #[] }])
  fields := #[{ name := "modCount", type := .int, accessFlags := 132, slot := 0, constantValue := 0 }]
  methods := #[k25m0]
  instanceTypes := #[.int]
  staticTypes := #[]
  resolved := Array.replicate 218 none
  statics := none }

def pool26 : Array CpInfo := pool [(1, .class_ 2), (0, u "java/util/RandomAccess"), (0, .class_ 4), (0, u "java/lang/Object")] 2

/-- java/util/RandomAccess -/
def k26 : Class := { plain "java/util/RandomAccess" (some 0) with
  accessFlags := 1537
  interfaces := #[]
  cf := some (fileOf pool26 1 #[] #[] 1537 3 #[] #[])
  fields := #[]
  methods := #[]
  instanceTypes := #[]
  staticTypes := #[]
  resolved := Array.replicate 7 none
  statics := none }

def pool27 : Array CpInfo := pool [(2, .class_ 4), (1, u "java/util/AbstractList"), (0, u "<init>"), (0, u "()V"), (1, .class_ 10), (1, u "java/util/Collections"), (54, .class_ 66), (0, u "java/util/Collections$EmptyList"), (0, .class_ 68), (0, u "java/util/RandomAccess"), (0, .class_ 70), (0, u "java/io/Serializable"), (0, u "serialVersionUID"), (0, u "J")] 77

def k27m0 : Method := { name := "<init>", desc := "()V", sig := { parameters := [], returnType := none }, accessFlags := 2, code := none }
/-- java/util/Collections$EmptyList -/
def k27 : Class := { plain "java/util/Collections$EmptyList" (some 25) with
  accessFlags := 32
  interfaces := #[26, 4]
  cf := some (fileOf pool27 65 #[.nestHost 8] #[{ accessFlags := 2, nameIndex := 5, descriptorIndex := 6, attributes := #[] }] 32 2 #[67, 69] #[{ accessFlags := 26, nameIndex := 71, descriptorIndex := 72, attributes := #[] }])
  fields := #[{ name := "serialVersionUID", type := .long, accessFlags := 26, slot := 0, constantValue := 0 }]
  methods := #[k27m0]
  instanceTypes := #[.int]
  staticTypes := #[.long]
  resolved := Array.replicate 150 none
  statics := none }

def pool28 : Array CpInfo := pool [(2, .class_ 4), (1, u "java/lang/StackTraceElement"), (0, u "<init>"), (2, .class_ 10), (1, u "java/lang/Object"), (0, u "()V"), (2, u "format"), (0, u "B"), (2, u "classLoaderName"), (0, u "Ljava/lang/String;"), (2, u "moduleName"), (2, u "moduleVersion"), (12, u "declaringClass"), (4, u "methodName"), (2, u "fileName"), (2, u "lineNumber"), (0, u "I"), (65, u "declaringClassObject"), (0, u "Ljava/lang/Class;"), (33, .class_ 153), (1, u "java/lang/StackTraceElement$HashedModules"), (17, .class_ 172), (0, u "java/io/Serializable"), (0, u "NATIVE_METHOD"), (1, u "UNKNOWN_SOURCE"), (2, u "BUILTIN_CLASS_LOADER"), (1, u "JDK_NON_UPGRADEABLE_MODULE"), (1, u "serialVersionUID"), (0, u "J")] 51

def k28m0 : Method := { name := "<init>", desc := "()V", sig := { parameters := [], returnType := none }, accessFlags := 2, code := none }
/-- java/lang/StackTraceElement -/
def k28 : Class := { plain "java/lang/StackTraceElement" (some 0) with
  accessFlags := 49
  interfaces := #[4]
  cf := some (fileOf pool28 2 #[.nestMembers #[151]] #[{ accessFlags := 2, nameIndex := 5, descriptorIndex := 11, attributes := #[] }] 49 8 #[171] #[{ accessFlags := 26, nameIndex := 173, descriptorIndex := 19, attributes := #[] }, { accessFlags := 26, nameIndex := 175, descriptorIndex := 19, attributes := #[] }, { accessFlags := 130, nameIndex := 116, descriptorIndex := 117, attributes := #[] }, { accessFlags := 2, nameIndex := 18, descriptorIndex := 19, attributes := #[] }, { accessFlags := 2, nameIndex := 22, descriptorIndex := 19, attributes := #[] }, { accessFlags := 2, nameIndex := 25, descriptorIndex := 19, attributes := #[] }, { accessFlags := 2, nameIndex := 38, descriptorIndex := 19, attributes := #[] }, { accessFlags := 2, nameIndex := 43, descriptorIndex := 19, attributes := #[] }, { accessFlags := 2, nameIndex := 46, descriptorIndex := 19, attributes := #[] }, { accessFlags := 2, nameIndex := 49, descriptorIndex := 50, attributes := #[] }, { accessFlags := 2, nameIndex := 14, descriptorIndex := 15, attributes := #[] }, { accessFlags := 26, nameIndex := 178, descriptorIndex := 15, attributes := #[] }, { accessFlags := 26, nameIndex := 180, descriptorIndex := 15, attributes := #[] }, { accessFlags := 26, nameIndex := 182, descriptorIndex := 183, attributes := #[] }])
  fields := #[{ name := "NATIVE_METHOD", type := (.object "java/lang/String"), accessFlags := 26, slot := 0, constantValue := 0 }, { name := "UNKNOWN_SOURCE", type := (.object "java/lang/String"), accessFlags := 26, slot := 1, constantValue := 0 }, { name := "declaringClassObject", type := (.object "java/lang/Class"), accessFlags := 130, slot := 0, constantValue := 0 }, { name := "classLoaderName", type := (.object "java/lang/String"), accessFlags := 2, slot := 1, constantValue := 0 }, { name := "moduleName", type := (.object "java/lang/String"), accessFlags := 2, slot := 2, constantValue := 0 }, { name := "moduleVersion", type := (.object "java/lang/String"), accessFlags := 2, slot := 3, constantValue := 0 }, { name := "declaringClass", type := (.object "java/lang/String"), accessFlags := 2, slot := 4, constantValue := 0 }, { name := "methodName", type := (.object "java/lang/String"), accessFlags := 2, slot := 5, constantValue := 0 }, { name := "fileName", type := (.object "java/lang/String"), accessFlags := 2, slot := 6, constantValue := 0 }, { name := "lineNumber", type := .int, accessFlags := 2, slot := 7, constantValue := 0 }, { name := "format", type := .byte, accessFlags := 2, slot := 8, constantValue := 0 }, { name := "BUILTIN_CLASS_LOADER", type := .byte, accessFlags := 26, slot := 2, constantValue := 0 }, { name := "JDK_NON_UPGRADEABLE_MODULE", type := .byte, accessFlags := 26, slot := 3, constantValue := 0 }, { name := "serialVersionUID", type := .long, accessFlags := 26, slot := 4, constantValue := 0 }]
  methods := #[k28m0]
  instanceTypes := #[(.object "java/lang/Class"), (.object "java/lang/String"), (.object "java/lang/String"), (.object "java/lang/String"), (.object "java/lang/String"), (.object "java/lang/String"), (.object "java/lang/String"), .int, .byte]
  staticTypes := #[(.object "java/lang/String"), (.object "java/lang/String"), .byte, .byte, .long]
  resolved := Array.replicate 235 none
  statics := none }

def pool29 : Array CpInfo := pool [(1, u "java/lang/Cloneable"), (0, .class_ 1), (0, u "java/lang/Object"), (0, .class_ 3)] 3

/-- java/lang/Cloneable -/
def k29 : Class := { plain "java/lang/Cloneable" (some 0) with
  accessFlags := 1537
  interfaces := #[]
  cf := some (fileOf pool29 2 #[] #[] 1537 4 #[] #[])
  fields := #[]
  methods := #[]
  instanceTypes := #[]
  staticTypes := #[]
  resolved := Array.replicate 8 none
  statics := none }

/-- the primitive byte -/
def k30 : Class := { plain "byte" none with kind := .primitive 'B', accessFlags := 0x411 }
/-- [B -/
def k31 : Class := { plain "[B" (some 0) with kind := .array 30 .byte, interfaces := #[29, 4], accessFlags := 1041 }

/-- the primitive char -/
def k32 : Class := { plain "char" none with kind := .primitive 'C', accessFlags := 0x411 }
/-- [C -/
def k33 : Class := { plain "[C" (some 0) with kind := .array 32 .char, interfaces := #[29, 4], accessFlags := 1041 }

/-- the primitive int -/
def k34 : Class := { plain "int" none with kind := .primitive 'I', accessFlags := 0x411 }
/-- [I -/
def k35 : Class := { plain "[I" (some 0) with kind := .array 34 .int, interfaces := #[29, 4], accessFlags := 1041 }

/-- [Ljava/lang/StackTraceElement; -/
def k36 : Class := { plain "[Ljava/lang/StackTraceElement;" (some 0) with kind := .array 28 (.object "java/lang/StackTraceElement"), interfaces := #[29, 4], accessFlags := 1041 }

/-- [Ljava/lang/Throwable; -/
def k37 : Class := { plain "[Ljava/lang/Throwable;" (some 0) with kind := .array 11 (.object "java/lang/Throwable"), interfaces := #[29, 4], accessFlags := 1041 }

def heap : Heap := #[{ cls := 6, slots := #[.ref 6, .ref 7, .ref 8, .ref 9, .ref 10, .ref 11, .ref 12, .ref 13, .ref 14, .ref 15, .ref 16, .ref 17, .null, .null], vm := .statics 6 },
  { cls := 9, slots := #[.long 0, .int 1, .null, .int 0, .null, .int 0, .int 0], vm := .statics 9 },
  { cls := 11, slots := #[.long 0, .ref 18, .ref 19, .null, .null, .null, .null, .ref 20, .int 1], vm := .statics 11 },
  { cls := 15, slots := #[.ref 21], vm := .statics 15 },
  { cls := 17, slots := #[.null, .null, .null], vm := .statics 17 },
  { cls := 19, slots := #[.int 0, .int 0, .int 0, .int 0, .int 0, .int 0, .int 0, .int 0, .null, .null, .ref 19, .null], vm := .statics 19 },
  { cls := 6, slots := #[.null, .int 0, .int 0, .int 0, .null, .int 0], vm := .none },
  { cls := 6, slots := #[.null, .int 1, .int 0, .int 0, .null, .int 0], vm := .none },
  { cls := 6, slots := #[.null, .int 2, .int 0, .int 0, .null, .int 0], vm := .none },
  { cls := 6, slots := #[.null, .int 3, .int 0, .int 0, .null, .int 0], vm := .none },
  { cls := 6, slots := #[.null, .int 4, .int 0, .int 0, .null, .int 0], vm := .none },
  { cls := 6, slots := #[.null, .int 5, .int 0, .int 0, .null, .int 0], vm := .none },
  { cls := 6, slots := #[.null, .int 6, .int 0, .int 0, .null, .int 0], vm := .none },
  { cls := 6, slots := #[.null, .int 7, .int 0, .int 0, .null, .int 0], vm := .none },
  { cls := 6, slots := #[.null, .int 8, .int 0, .int 0, .null, .int 0], vm := .none },
  { cls := 6, slots := #[.null, .int 9, .int 0, .int 0, .null, .int 0], vm := .none },
  { cls := 6, slots := #[.null, .int 10, .int 0, .int 0, .null, .int 0], vm := .none },
  { cls := 6, slots := #[.null, .int 11, .int 0, .int 0, .null, .int 0], vm := .none },
  { cls := 36, slots := #[], vm := .none },
  { cls := 27, slots := #[.int 0], vm := .none },
  { cls := 37, slots := #[], vm := .none },
  { cls := 15, slots := #[.int 0, .long 0], vm := .none }]
def classes : Array Class := #[k0, k1, k2, k3, k4, k5, k6, k7, k8, k9, k10, k11, k12, k13, k14, k15, k16, k17, k18, k19, k20, k21, k22, k23, k24, k25, k26, k27, k28, k29, k30, k31, k32, k33, k34, k35, k36, k37]
def interned : List (Array UInt16 × Addr) := []
def slotsUsed : Nat := 121
def theMethod : MethodId := ⟨1, 2⟩
def args0 : Array Value := #[.long 5, .int 1, .int 3, .int 65, .int 66]
def aboutOver (below : List Frame) : State where
  vm := { classes := classes, interned := interned.toArray }
  heap := heap
  slotsUsed := slotsUsed
  threads := #[{ frames := .invoking theMethod args0 :: below }]
def below0 : List Frame := [.native { method := ⟨0, 0⟩, args := #[] }]
def about1 : State := aboutOver below0
def p0 : Program := .bare "" "" ""
def e0 : Env := launch0.env 0 0 0
theorem w_frames : about1.frames = Frame.invoking theMethod args0 :: below0 := rfl
set_option maxRecDepth 65536 in
theorem w_args : argsFit about1.vm theMethod args0 = true := by decide +kernel
set_option maxRecDepth 65536 in
theorem w_heap : heapFits about1 = true := by decide +kernel
set_option maxRecDepth 65536 in
theorem w_runnable : about1.curStatus? = some .runnable := by decide +kernel
set_option maxRecDepth 65536 in
theorem w_alone : about1.alone = true := by decide +kernel
set_option maxRecDepth 65536 in
theorem w_named : about1.methodNamed? x = some theMethod := by decide +kernel
set_option maxRecDepth 65536 in
theorem w_hears : about1.hears theMethod below0 = true := by decide +kernel
set_option maxRecDepth 65536 in
theorem w_ripe : about1.ripe theMethod args0 below0 = true := by decide +kernel
theorem w_running : about1.status = .running := rfl
set_option maxRecDepth 65536 in
theorem w_room : about1.hasRoom e0.platform room_1 = true :=
  launch0.hasRoom_least _ room_1 (by decide +kernel) (by decide +kernel) (by decide +kernel) (by decide +kernel) (by decide +kernel) (by decide +kernel)
theorem allAtoms_all (ts : List Jvm.Cond) (a : Array Jvm.Value) (st : Jvm.State) : (allAtoms ts).before a st = ts.all (fun c => c.before a st) := by
  induction ts with
  | nil => rfl
  | cons c t ih =>
    show (Jvm.Cond.and c (allAtoms t)).before a st = _
    rw [Jvm.Cond.before_and, ih, List.all_cons]
def words1 : List Jvm.Cond := Jvm.Cond.code x code maxLocals ret :: tables_1
/-- a 'code' word, met by the world's own term for the bytes: nothing is compared byte by byte -/
theorem code_word {y : MethodName} {bytes : ByteArray} {mx : Nat} {rt : Option FieldType} {a : Array Value} {s : State} {m : MethodId} {meth : Method} {c : Code} (h1 : s.methodNamed? y = some m) (h2 : s.vm.method? m = some meth) (h3 : meth.code = some c) (h4 : c.code = bytes)
    (h5 : (c.maxLocals == mx && c.exceptionTable.isEmpty && decide (c.maxStack ≤ mostOperands) && decide (meth.sig.returnType = rt) && !meth.locks && decide (parseMethodDescriptor y.desc = some meth.sig)) = true) : (Jvm.Cond.code y bytes mx rt).before a s = true := by
  simp only [Bool.and_eq_true, beq_iff_eq, Bool.not_eq_true', decide_eq_true_eq] at h5
  obtain ⟨⟨⟨⟨⟨g1, g2⟩, g3⟩, g4⟩, g5⟩, g6⟩ := h5
  simp [Cond.before, Cond.holds, Cond.value, h1, h2, h3, h4, g1, g2, g3, g4, g5, g6]
def isCode : Jvm.Cond → Bool
  | .code _ _ _ _ => true
  | _ => false
theorem all_split {L : List Jvm.Cond} {P : Jvm.Cond → Bool} (h1 : L.all (fun c => isCode c || P c) = true) (h2 : ∀ c ∈ L.filter isCode, P c = true) : L.all P = true := by
  refine List.all_eq_true.mpr fun c hc => ?_
  have h := List.all_eq_true.mp h1 c hc
  rcases Bool.eq_false_or_eq_true (isCode c) with hi | hi
  · exact h2 c (List.mem_filter.mpr ⟨hc, hi⟩)
  · simpa [hi] using h
set_option maxRecDepth 65536 in
theorem w_c0 : (Jvm.Cond.code x code maxLocals ret).before args0 about1 = true := code_word (m := ⟨1, 2⟩) (meth := k1m2) (c := k1c2) (by decide +kernel) rfl rfl rfl (by decide +kernel)
set_option maxRecDepth 65536 in
theorem w_c1 : (Jvm.Cond.code ({ cls := "com/example/duplexwire/duplexwire/protocol/FrameExceptionIdPinLaw", name := "code", desc := "(I)Lcom/example/duplexwire/duplexwire/protocol/ErrorCode;" } : Jvm.MethodName) method_2_code (2 : Nat) (Option.some (Jvm.ClassFile.FieldType.object "com/example/duplexwire/duplexwire/protocol/ErrorCode"))).before args0 about1 = true := code_word (m := ⟨1, 1⟩) (meth := k1m1) (c := k1c1) (by decide +kernel) rfl rfl rfl (by decide +kernel)
set_option maxRecDepth 65536 in
theorem w_c2 : (Jvm.Cond.code ({ cls := "java/lang/String", name := "<init>", desc := "([C)V" } : Jvm.MethodName) jdk_42_method_3_code (2 : Nat) (Option.none : Option Jvm.ClassFile.FieldType)).before args0 about1 = true := code_word (m := ⟨9, 1⟩) (meth := k9m1) (c := k9c1) (by decide +kernel) rfl rfl rfl (by decide +kernel)
set_option maxRecDepth 65536 in
theorem w_c3 : (Jvm.Cond.code ({ cls := "java/lang/String", name := "<init>", desc := "([CIILjava/lang/Void;)V" } : Jvm.MethodName) jdk_42_method_149_code (6 : Nat) (Option.none : Option Jvm.ClassFile.FieldType)).before args0 about1 = true := code_word (m := ⟨9, 2⟩) (meth := k9m2) (c := k9c2) (by decide +kernel) rfl rfl rfl (by decide +kernel)
set_option maxRecDepth 65536 in
theorem w_c4 : (Jvm.Cond.code ({ cls := "java/lang/Object", name := "<init>", desc := "()V" } : Jvm.MethodName) object_method_1_code (1 : Nat) (Option.none : Option Jvm.ClassFile.FieldType)).before args0 about1 = true := code_word (m := ⟨0, 0⟩) (meth := k0m0) (c := k0c0) (by decide +kernel) rfl rfl rfl (by decide +kernel)
set_option maxRecDepth 65536 in
theorem w_c5 : (Jvm.Cond.code ({ cls := "java/lang/StringUTF16", name := "compress", desc := "([CII)[B" } : Jvm.MethodName) jdk_52_method_16_code (6 : Nat) (Option.some (Jvm.ClassFile.FieldType.array Jvm.ClassFile.FieldType.byte))).before args0 about1 = true := code_word (m := ⟨10, 2⟩) (meth := k10m2) (c := k10c2) (by decide +kernel) rfl rfl rfl (by decide +kernel)
set_option maxRecDepth 65536 in
theorem w_c6 : (Jvm.Cond.code ({ cls := "java/lang/StringUTF16", name := "compress", desc := "([CI[BII)I" } : Jvm.MethodName) jdk_52_method_21_code (7 : Nat) (Option.some Jvm.ClassFile.FieldType.int)).before args0 about1 = true := code_word (m := ⟨10, 3⟩) (meth := k10m3) (c := k10c3) (by decide +kernel) rfl rfl rfl (by decide +kernel)
set_option maxRecDepth 65536 in
theorem w_c7 : (Jvm.Cond.code ({ cls := "java/lang/StringUTF16", name := "coderFromArrayLen", desc := "([BI)B" } : Jvm.MethodName) jdk_52_method_15_code (2 : Nat) (Option.some Jvm.ClassFile.FieldType.byte)).before args0 about1 = true := code_word (m := ⟨10, 1⟩) (meth := k10m1) (c := k10c1) (by decide +kernel) rfl rfl rfl (by decide +kernel)
set_option maxRecDepth 65536 in
theorem w_c8 : (Jvm.Cond.code ({ cls := "com/example/duplexwire/duplexwire/protocol/FrameException", name := "<init>", desc := "(Lcom/example/duplexwire/duplexwire/protocol/ErrorCode;Ljava/lang/String;)V" } : Jvm.MethodName) prog_3_method_1_code (3 : Nat) (Option.none : Option Jvm.ClassFile.FieldType)).before args0 about1 = true := code_word (m := ⟨13, 0⟩) (meth := k13m0) (c := k13c0) (by decide +kernel) rfl rfl rfl (by decide +kernel)
set_option maxRecDepth 65536 in
theorem w_c9 : (Jvm.Cond.code ({ cls := "com/example/duplexwire/duplexwire/protocol/FrameException", name := "<init>", desc := "(Lcom/example/duplexwire/duplexwire/protocol/ErrorCode;JZLjava/lang/String;)V" } : Jvm.MethodName) prog_3_method_3_code (6 : Nat) (Option.none : Option Jvm.ClassFile.FieldType)).before args0 about1 = true := code_word (m := ⟨13, 2⟩) (meth := k13m2) (c := k13c2) (by decide +kernel) rfl rfl rfl (by decide +kernel)
set_option maxRecDepth 65536 in
theorem w_c10 : (Jvm.Cond.code ({ cls := "java/util/Objects", name := "requireNonNull", desc := "(Ljava/lang/Object;Ljava/lang/String;)Ljava/lang/Object;" } : Jvm.MethodName) jdk_31_method_11_code (2 : Nat) (Option.some (Jvm.ClassFile.FieldType.object "java/lang/Object"))).before args0 about1 = true := code_word (m := ⟨14, 1⟩) (meth := k14m1) (c := k14c1) (by decide +kernel) rfl rfl rfl (by decide +kernel)
set_option maxRecDepth 65536 in
theorem w_c11 : (Jvm.Cond.code ({ cls := "java/lang/Exception", name := "<init>", desc := "(Ljava/lang/String;Ljava/lang/Throwable;ZZ)V" } : Jvm.MethodName) jdk_59_method_5_code (5 : Nat) (Option.none : Option Jvm.ClassFile.FieldType)).before args0 about1 = true := code_word (m := ⟨12, 1⟩) (meth := k12m1) (c := k12c1) (by decide +kernel) rfl rfl rfl (by decide +kernel)
set_option maxRecDepth 65536 in
theorem w_c12 : (Jvm.Cond.code ({ cls := "java/lang/Throwable", name := "<init>", desc := "(Ljava/lang/String;Ljava/lang/Throwable;ZZ)V" } : Jvm.MethodName) jdk_78_method_5_code (5 : Nat) (Option.none : Option Jvm.ClassFile.FieldType)).before args0 about1 = true := code_word (m := ⟨11, 1⟩) (meth := k11m1) (c := k11c1) (by decide +kernel) rfl rfl rfl (by decide +kernel)
set_option maxRecDepth 65536 in
theorem w_c13 : (Jvm.Cond.code ({ cls := "com/example/duplexwire/duplexwire/protocol/FrameException", name := "id", desc := "()Ljava/util/OptionalLong;" } : Jvm.MethodName) prog_3_method_6_code (1 : Nat) (Option.some (Jvm.ClassFile.FieldType.object "java/util/OptionalLong"))).before args0 about1 = true := code_word (m := ⟨13, 3⟩) (meth := k13m3) (c := k13c3) (by decide +kernel) rfl rfl rfl (by decide +kernel)
set_option maxRecDepth 65536 in
theorem w_c14 : (Jvm.Cond.code ({ cls := "java/util/OptionalLong", name := "empty", desc := "()Ljava/util/OptionalLong;" } : Jvm.MethodName) jdk_2650_method_2_code (0 : Nat) (Option.some (Jvm.ClassFile.FieldType.object "java/util/OptionalLong"))).before args0 about1 = true := code_word (m := ⟨15, 1⟩) (meth := k15m1) (c := k15c1) (by decide +kernel) rfl rfl rfl (by decide +kernel)
set_option maxRecDepth 65536 in
theorem w_c15 : (Jvm.Cond.code ({ cls := "java/util/OptionalLong", name := "isPresent", desc := "()Z" } : Jvm.MethodName) jdk_2650_method_6_code (1 : Nat) (Option.some Jvm.ClassFile.FieldType.boolean)).before args0 about1 = true := code_word (m := ⟨15, 5⟩) (meth := k15m5) (c := k15c5) (by decide +kernel) rfl rfl rfl (by decide +kernel)
set_option maxRecDepth 65536 in
theorem w_c16 : (Jvm.Cond.code ({ cls := "com/example/duplexwire/duplexwire/protocol/FrameException", name := "<init>", desc := "(Lcom/example/duplexwire/duplexwire/protocol/ErrorCode;JLjava/lang/String;)V" } : Jvm.MethodName) prog_3_method_2_code (5 : Nat) (Option.none : Option Jvm.ClassFile.FieldType)).before args0 about1 = true := code_word (m := ⟨13, 1⟩) (meth := k13m1) (c := k13c1) (by decide +kernel) rfl rfl rfl (by decide +kernel)
set_option maxRecDepth 65536 in
theorem w_c17 : (Jvm.Cond.code ({ cls := "java/util/OptionalLong", name := "of", desc := "(J)Ljava/util/OptionalLong;" } : Jvm.MethodName) jdk_2650_method_4_code (2 : Nat) (Option.some (Jvm.ClassFile.FieldType.object "java/util/OptionalLong"))).before args0 about1 = true := code_word (m := ⟨15, 3⟩) (meth := k15m3) (c := k15c3) (by decide +kernel) rfl rfl rfl (by decide +kernel)
set_option maxRecDepth 65536 in
theorem w_c18 : (Jvm.Cond.code ({ cls := "java/util/OptionalLong", name := "<init>", desc := "(J)V" } : Jvm.MethodName) jdk_2650_method_3_code (3 : Nat) (Option.none : Option Jvm.ClassFile.FieldType)).before args0 about1 = true := code_word (m := ⟨15, 2⟩) (meth := k15m2) (c := k15c2) (by decide +kernel) rfl rfl rfl (by decide +kernel)
set_option maxRecDepth 65536 in
theorem w_c19 : (Jvm.Cond.code ({ cls := "java/util/OptionalLong", name := "getAsLong", desc := "()J" } : Jvm.MethodName) jdk_2650_method_5_code (1 : Nat) (Option.some Jvm.ClassFile.FieldType.long)).before args0 about1 = true := code_word (m := ⟨15, 4⟩) (meth := k15m4) (c := k15c4) (by decide +kernel) rfl rfl rfl (by decide +kernel)
def codes1 : List Jvm.Cond := [Jvm.Cond.code x code maxLocals ret, Jvm.Cond.code ({ cls := "com/example/duplexwire/duplexwire/protocol/FrameExceptionIdPinLaw", name := "code", desc := "(I)Lcom/example/duplexwire/duplexwire/protocol/ErrorCode;" } : Jvm.MethodName) method_2_code (2 : Nat) (Option.some (Jvm.ClassFile.FieldType.object "com/example/duplexwire/duplexwire/protocol/ErrorCode")), Jvm.Cond.code ({ cls := "java/lang/String", name := "<init>", desc := "([C)V" } : Jvm.MethodName) jdk_42_method_3_code (2 : Nat) (Option.none : Option Jvm.ClassFile.FieldType), Jvm.Cond.code ({ cls := "java/lang/String", name := "<init>", desc := "([CIILjava/lang/Void;)V" } : Jvm.MethodName) jdk_42_method_149_code (6 : Nat) (Option.none : Option Jvm.ClassFile.FieldType), Jvm.Cond.code ({ cls := "java/lang/Object", name := "<init>", desc := "()V" } : Jvm.MethodName) object_method_1_code (1 : Nat) (Option.none : Option Jvm.ClassFile.FieldType), Jvm.Cond.code ({ cls := "java/lang/StringUTF16", name := "compress", desc := "([CII)[B" } : Jvm.MethodName) jdk_52_method_16_code (6 : Nat) (Option.some (Jvm.ClassFile.FieldType.array Jvm.ClassFile.FieldType.byte)), Jvm.Cond.code ({ cls := "java/lang/StringUTF16", name := "compress", desc := "([CI[BII)I" } : Jvm.MethodName) jdk_52_method_21_code (7 : Nat) (Option.some Jvm.ClassFile.FieldType.int), Jvm.Cond.code ({ cls := "java/lang/StringUTF16", name := "coderFromArrayLen", desc := "([BI)B" } : Jvm.MethodName) jdk_52_method_15_code (2 : Nat) (Option.some Jvm.ClassFile.FieldType.byte), Jvm.Cond.code ({ cls := "com/example/duplexwire/duplexwire/protocol/FrameException", name := "<init>", desc := "(Lcom/example/duplexwire/duplexwire/protocol/ErrorCode;Ljava/lang/String;)V" } : Jvm.MethodName) prog_3_method_1_code (3 : Nat) (Option.none : Option Jvm.ClassFile.FieldType), Jvm.Cond.code ({ cls := "com/example/duplexwire/duplexwire/protocol/FrameException", name := "<init>", desc := "(Lcom/example/duplexwire/duplexwire/protocol/ErrorCode;JZLjava/lang/String;)V" } : Jvm.MethodName) prog_3_method_3_code (6 : Nat) (Option.none : Option Jvm.ClassFile.FieldType), Jvm.Cond.code ({ cls := "java/util/Objects", name := "requireNonNull", desc := "(Ljava/lang/Object;Ljava/lang/String;)Ljava/lang/Object;" } : Jvm.MethodName) jdk_31_method_11_code (2 : Nat) (Option.some (Jvm.ClassFile.FieldType.object "java/lang/Object")), Jvm.Cond.code ({ cls := "java/lang/Exception", name := "<init>", desc := "(Ljava/lang/String;Ljava/lang/Throwable;ZZ)V" } : Jvm.MethodName) jdk_59_method_5_code (5 : Nat) (Option.none : Option Jvm.ClassFile.FieldType), Jvm.Cond.code ({ cls := "java/lang/Throwable", name := "<init>", desc := "(Ljava/lang/String;Ljava/lang/Throwable;ZZ)V" } : Jvm.MethodName) jdk_78_method_5_code (5 : Nat) (Option.none : Option Jvm.ClassFile.FieldType), Jvm.Cond.code ({ cls := "com/example/duplexwire/duplexwire/protocol/FrameException", name := "id", desc := "()Ljava/util/OptionalLong;" } : Jvm.MethodName) prog_3_method_6_code (1 : Nat) (Option.some (Jvm.ClassFile.FieldType.object "java/util/OptionalLong")), Jvm.Cond.code ({ cls := "java/util/OptionalLong", name := "empty", desc := "()Ljava/util/OptionalLong;" } : Jvm.MethodName) jdk_2650_method_2_code (0 : Nat) (Option.some (Jvm.ClassFile.FieldType.object "java/util/OptionalLong")), Jvm.Cond.code ({ cls := "java/util/OptionalLong", name := "isPresent", desc := "()Z" } : Jvm.MethodName) jdk_2650_method_6_code (1 : Nat) (Option.some Jvm.ClassFile.FieldType.boolean), Jvm.Cond.code ({ cls := "com/example/duplexwire/duplexwire/protocol/FrameException", name := "<init>", desc := "(Lcom/example/duplexwire/duplexwire/protocol/ErrorCode;JLjava/lang/String;)V" } : Jvm.MethodName) prog_3_method_2_code (5 : Nat) (Option.none : Option Jvm.ClassFile.FieldType), Jvm.Cond.code ({ cls := "java/util/OptionalLong", name := "of", desc := "(J)Ljava/util/OptionalLong;" } : Jvm.MethodName) jdk_2650_method_4_code (2 : Nat) (Option.some (Jvm.ClassFile.FieldType.object "java/util/OptionalLong")), Jvm.Cond.code ({ cls := "java/util/OptionalLong", name := "<init>", desc := "(J)V" } : Jvm.MethodName) jdk_2650_method_3_code (3 : Nat) (Option.none : Option Jvm.ClassFile.FieldType), Jvm.Cond.code ({ cls := "java/util/OptionalLong", name := "getAsLong", desc := "()J" } : Jvm.MethodName) jdk_2650_method_5_code (1 : Nat) (Option.some Jvm.ClassFile.FieldType.long)]
set_option maxRecDepth 65536 in
theorem codes_eq : words1.filter isCode = codes1 := rfl
theorem w_codes : ∀ c ∈ words1.filter isCode, c.before args0 about1 = true := by
  rw [codes_eq]
  intro c hc
  simp only [codes1, List.mem_cons, List.not_mem_nil, or_false] at hc
  rcases hc with rfl | rfl | rfl | rfl | rfl | rfl | rfl | rfl | rfl | rfl | rfl | rfl | rfl | rfl | rfl | rfl | rfl | rfl | rfl | rfl
  · exact w_c0
  · exact w_c1
  · exact w_c2
  · exact w_c3
  · exact w_c4
  · exact w_c5
  · exact w_c6
  · exact w_c7
  · exact w_c8
  · exact w_c9
  · exact w_c10
  · exact w_c11
  · exact w_c12
  · exact w_c13
  · exact w_c14
  · exact w_c15
  · exact w_c16
  · exact w_c17
  · exact w_c18
  · exact w_c19
set_option maxRecDepth 65536 in
theorem w_t1 : (words1.take 24).all (fun c => isCode c || c.before args0 about1) = true := by decide +kernel
set_option maxRecDepth 65536 in
theorem w_t2 : ((words1.drop 24).take 24).all (fun c => isCode c || c.before args0 about1) = true := by decide +kernel
set_option maxRecDepth 65536 in
theorem w_t3 : (((words1.drop 24).drop 24).take 24).all (fun c => isCode c || c.before args0 about1) = true := by decide +kernel
set_option maxRecDepth 65536 in
theorem w_t4 : ((((words1.drop 24).drop 24).drop 24).take 24).all (fun c => isCode c || c.before args0 about1) = true := by decide +kernel
set_option maxRecDepth 65536 in
theorem w_t5 : (((((words1.drop 24).drop 24).drop 24).drop 24).take 24).all (fun c => isCode c || c.before args0 about1) = true := by decide +kernel
set_option maxRecDepth 65536 in
theorem w_t6 : ((((((words1.drop 24).drop 24).drop 24).drop 24).drop 24).take 24).all (fun c => isCode c || c.before args0 about1) = true := by decide +kernel
set_option maxRecDepth 65536 in
theorem w_t7 : ((((((words1.drop 24).drop 24).drop 24).drop 24).drop 24).drop 24).all (fun c => isCode c || c.before args0 about1) = true := by decide +kernel
theorem w_tables : (allAtoms (Jvm.Cond.code x code maxLocals ret :: tables_1)).before args0 about1 = true := by
  rw [allAtoms_all]
  show words1.all (fun c => c.before args0 about1) = true
  refine all_split ?_ w_codes
  rw [← List.take_append_drop 24 words1, List.all_append, w_t1, ← List.take_append_drop 24 (words1.drop 24), List.all_append, w_t2, ← List.take_append_drop 24 ((words1.drop 24).drop 24), List.all_append, w_t3, ← List.take_append_drop 24 (((words1.drop 24).drop 24).drop 24), List.all_append, w_t4, ← List.take_append_drop 24 ((((words1.drop 24).drop 24).drop 24).drop 24), List.all_append, w_t5, ← List.take_append_drop 24 (((((words1.drop 24).drop 24).drop 24).drop 24).drop 24), List.all_append, w_t6, w_t7]
  rfl
set_option maxRecDepth 65536 in
theorem w_rest : rest_1_c.before args0 about1 = true := by decide +kernel
set_option maxRecDepth 65536 in
theorem w_case : (Jvm.Cond.and given_1 narrow_1).before args0 about1 = true := by decide +kernel
theorem w_applies : (headSpec (Jvm.Cond.code x code maxLocals ret :: tables_1) room_1).applies x e0.platform about1 = true :=
  (Spec.applies_iff w_frames).mpr ⟨w_running, w_runnable, w_alone, w_named, w_hears, w_ripe, w_room, w_tables⟩
theorem atStart : AtStart classFile x code maxLocals ret World_1 tables_1 room_1 Calls_1 rest_1 Pre_1 launch0 p0 e0 about1 theMethod args0 below0 :=
  ⟨lists_1, trivial, launch0.admits_env _ _ _, launch0.least_env, fairChoices_fair.cas, fairChoices_fair.clock, w_frames, w_args, w_heap, w_applies, trivial, w_rest, w_case⟩
end start1
theorem witness_1 : WitnessClaimed_1 := ⟨start1.p0, start1.e0, start1.about1, start1.theMethod, start1.args0, start1.below0, start1.atStart⟩
end Jvm.Pilot.@@N@@
